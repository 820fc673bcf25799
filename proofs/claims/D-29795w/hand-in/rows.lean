section
-- ===== PART A: goes FIRST, ahead of the names: the tables' words, and 'selects' of the private methods out of them =====
/-- a private method of a class that the tables say can be made, by its rows of tables_1 -/
def lw_okq (q : MethodName × Nat) : Prop := (q.1.cls ≠ "java/lang/invoke/MethodHandle" ∧ q.1.cls ≠ "java/lang/invoke/VarHandle") ∧ Cond.instantiable q.1.cls q.2 ∈ tables_1 ∧ Cond.privateMethod q.1 ∈ tables_1 ∧ Cond.instanceMethod q.1 ∈ tables_1
def lw_privs : List (MethodName × Nat) := []
def lw_tbl : List Cond := k2_sels lw_privs ++ tables_1
theorem lw_privs_ok : ∀ q ∈ lw_privs, lw_okq q := fun _ h => absurd h List.not_mem_nil
-- ===== ONE list of words for every method: the tables' words that hold all through a run =====
def lw_all : List Cond := lw_tbl.filter goodWord
/-- a word of the tables by its place: claim/WORDS.tsv -/
theorem lw_w {w : Cond} (i : Nat) (h : lw_tbl[i]? = some w) (g : goodWord w = true) : w ∈ lw_all := List.mem_filter.mpr ⟨List.mem_of_getElem? h, g⟩
theorem lw_all_tbl {w : Cond} (h : w ∈ lw_all) : w ∈ lw_tbl := (List.mem_filter.mp h).1
theorem lw_self : GoodIn lw_all lw_all := fun w h => ⟨h, good_of_word (List.mem_filter.mp h).2⟩
/-- a class's field words, by their places -/
theorem lw_in (ws : List Cond) (ps : List Nat) (hp : ws = ps.filterMap (fun i => lw_tbl[i]?)) (hg : ws.all goodWord = true) : ∀ w ∈ ws, w ∈ lw_all := by
  intro w h
  have h1 := List.all_eq_true.mp hg w h
  rw [hp] at h
  obtain ⟨i, -, hi⟩ := List.mem_filterMap.mp h
  exact lw_w i hi h1
/-- the words of a contract for the method y with code b, L locals, answer r -/
abbrev ws_ (y : MethodName) (b : ByteArray) (L : Nat) (r : Option FieldType) : List Cond := Cond.code y b L r :: lw_all
theorem lw_meth {y : MethodName} {b : ByteArray} {L : Nat} {r : Option FieldType} (h : Cond.code y b L r ∈ lw_all) : GoodIn lw_all (ws_ y b L r) := by
  intro w hw
  rcases List.mem_cons.mp hw with e | e
  · rw [e]
    exact lw_self _ h
  · exact lw_self _ e
theorem lw_app {a c : List Cond} (ha : ∀ w ∈ a, w ∈ lw_all) (hc : GoodIn lw_all c) : GoodIn lw_all (a ++ c) := by
  intro w hw
  rcases List.mem_append.mp hw with e | e
  · exact lw_self w (ha w e)
  · exact hc w e
/-- what a call through an object asks: cwV n hts (lw_V ..) -/
theorem lw_V {own : String} {idx : Nat} {C : String} {y : MethodName} {b : ByteArray} {L : Nat} {r : Option FieldType} (h1 : Cond.methodLink own idx y ∈ lw_all) (h2 : Cond.instanceMethod y ∈ lw_all) (h3 : Cond.selects C y y ∈ lw_all) (h4 : Cond.initialized C ∈ lw_all) (h5 : Cond.code y b L r ∈ lw_all) : GoodIn lw_all (wsV own idx C y (ws_ y b L r)) := by
  refine lw_app ?_ (lw_meth h5)
  intro w hw
  simp only [List.mem_cons, List.not_mem_nil, or_false] at hw
  rcases hw with e | e | e | e
  · rw [e]; exact h1
  · rw [e]; exact h2
  · rw [e]; exact h3
  · rw [e]; exact h4
/-- what a static call asks: va_cwS n hts (lw_S ..) -/
theorem lw_S {own : String} {idx : Nat} {y : MethodName} {b : ByteArray} {L : Nat} {r : Option FieldType} (h1 : Cond.methodLink own idx y ∈ lw_all) (h2 : Cond.static y ∈ lw_all) (h3 : Cond.initialized y.cls ∈ lw_all) (h4 : Cond.code y b L r ∈ lw_all) : GoodIn lw_all (va_wsS own idx y (ws_ y b L r)) := by
  refine lw_app ?_ (lw_meth h4)
  intro w hw
  simp only [List.mem_cons, List.not_mem_nil, or_false] at hw
  rcases hw with e | e | e
  · rw [e]; exact h1
  · rw [e]; exact h2
  · rw [e]; exact h3
/-- the words of a contract for a method WITH HANDLERS (hh: its table) -/
abbrev wsW_ (y : MethodName) (b : ByteArray) (L : Nat) (r : Option FieldType) (hh : List (Nat × Nat × Nat × Nat)) : List Cond := Cond.codeWith y b L r hh :: lw_all
theorem lw_methW {y : MethodName} {b : ByteArray} {L : Nat} {r : Option FieldType} {hh : List (Nat × Nat × Nat × Nat)} (h : Cond.codeWith y b L r hh ∈ lw_all) : GoodIn lw_all (wsW_ y b L r hh) := by
  intro w hw
  rcases List.mem_cons.mp hw with e | e
  · rw [e]
    exact lw_self _ h
  · exact lw_self _ e
/-- any list of words by their places (lw_in), good -/
theorem lw_good {ws : List Cond} (h : ∀ w ∈ ws, w ∈ lw_all) : GoodIn lw_all ws := fun w hw => lw_self w (h w hw)
/-- what a call of a method with handlers asks: vx_cwVW n hts (lw_VW ..), vx_cwSW n hts (lw_SW ..) -/
theorem lw_VW {own : String} {idx : Nat} {C : String} {y : MethodName} {b : ByteArray} {L : Nat} {r : Option FieldType} {hh : List (Nat × Nat × Nat × Nat)} (h1 : Cond.methodLink own idx y ∈ lw_all) (h2 : Cond.instanceMethod y ∈ lw_all) (h3 : Cond.selects C y y ∈ lw_all) (h4 : Cond.initialized C ∈ lw_all) (h5 : Cond.codeWith y b L r hh ∈ lw_all) : GoodIn lw_all (wsV own idx C y (wsW_ y b L r hh)) := by
  refine lw_app ?_ (lw_methW h5)
  intro w hw
  simp only [List.mem_cons, List.not_mem_nil, or_false] at hw
  rcases hw with e | e | e | e
  · rw [e]; exact h1
  · rw [e]; exact h2
  · rw [e]; exact h3
  · rw [e]; exact h4
theorem lw_SW {own : String} {idx : Nat} {y : MethodName} {b : ByteArray} {L : Nat} {r : Option FieldType} {hh : List (Nat × Nat × Nat × Nat)} (h1 : Cond.methodLink own idx y ∈ lw_all) (h2 : Cond.static y ∈ lw_all) (h3 : Cond.initialized y.cls ∈ lw_all) (h4 : Cond.codeWith y b L r hh ∈ lw_all) : GoodIn lw_all (va_wsS own idx y (wsW_ y b L r hh)) := by
  refine lw_app ?_ (lw_methW h4)
  intro w hw
  simp only [List.mem_cons, List.not_mem_nil, or_false] at hw
  rcases hw with e | e | e
  · rw [e]; exact h1
  · rw [e]; exact h2
  · rw [e]; exact h3
/-- a word by its place in its run of the tables -/
theorem lw_at {r : List Cond} (hr : ∀ w ∈ r, w ∈ lw_tbl) {w : Cond} (i : Nat) (h : r[i]? = some w) : w ∈ lw_tbl := hr w (List.mem_of_getElem? h)
theorem lw_g {w : Cond} (h : w ∈ lw_tbl) (g : goodWord w = true) : w ∈ lw_all := List.mem_filter.mpr ⟨h, g⟩
theorem lw_ms : ∀ w ∈ k2_sels lw_privs, w ∈ lw_tbl := fun w h => show w ∈ k2_sels lw_privs ++ tables_1 from List.mem_append_left _ h
theorem lw_m0 : ∀ w ∈ tables_1, w ∈ lw_tbl := fun w h => show w ∈ k2_sels lw_privs ++ tables_1 from List.mem_append_right (k2_sels lw_privs) h
end
section
/-! DECODE ROWS BY BYTES: one lemma an opcode; a method's code is cut into short pieces once, and a row reads its own piece alone. -/
set_option maxRecDepth 100000
/-- the code has just these bytes from pc on -/
def DkAt (code : ByteArray) (pc : Nat) (bs : List UInt8) : Prop := ∀ (j : Nat) (b : UInt8), bs[j]? = some b → code.data.toList[pc + j]? = some b
/-- the piece W has the bytes bs from its place j on -/
def dkIn (W : List UInt8) (j : Nat) (bs : List UInt8) : Bool := decide ((W.drop j).take bs.length = bs)
theorem dk_seg {l W T : List UInt8} {o o2 : Nat} (h : l.drop o = W ++ T) (n : Nat) (hn : W.length = n) (ho : o + n = o2) : l.drop o2 = T := by
  subst ho
  rw [← List.drop_drop, h, List.drop_left' hn]
theorem dk_at {code : ByteArray} {W T bs : List UInt8} {o pc : Nat} (h : code.data.toList.drop o = W ++ T) (j : Nat) (hp : o + j = pc) (hw : dkIn W j bs = true) : DkAt code pc bs := by
  subst hp
  intro i b e
  have h1 := of_decide_eq_true hw
  have h2 : i < bs.length := (List.getElem?_eq_some_iff.mp e).1
  have h3 : W[j + i]? = some b := by
    rw [← h1, List.getElem?_take, if_pos h2, List.getElem?_drop] at e
    exact e
  have h4 : j + i < W.length := (List.getElem?_eq_some_iff.mp h3).1
  have h5 : (code.data.toList.drop o)[j + i]? = some b := by
    rw [h, List.getElem?_append_left h4]
    exact h3
  rw [List.getElem?_drop, ← Nat.add_assoc] at h5
  exact h5
theorem dk_u1 {A : ByteArray} {p : Nat} {b : UInt8} (h : A.data.toList[p]? = some b) : (Reader.u1 : Reader DecodeError Nat) A p = .ok (b.toNat, p + 1) := by
  obtain ⟨h1, h2⟩ := List.getElem?_eq_some_iff.mp h
  have h3 : p < A.size := by simpa using h1
  have h4 : A[p]'h3 = b := h2
  have e : (Reader.u1 : Reader DecodeError Nat) A p = (if h : p < A.size then .ok (A[p].toNat, p + 1) else .error (HasTruncated.truncated p)) := by
    show (do if h : p < A.size then do set (p + 1); Pure.pure A[p].toNat else MonadExcept.throw (HasTruncated.truncated p) : Reader DecodeError Nat) A p = _
    by_cases hi : p < A.size
    · rw [dif_pos hi, dif_pos hi]; rfl
    · rw [dif_neg hi, dif_neg hi]; rfl
  rw [e, dif_pos h3, h4]
theorem dk_bind {α β : Type} {r : Reader DecodeError α} {f : α → Reader DecodeError β} {A : ByteArray} {p s : Nat} {a : α} (h : r A p = .ok (a, s)) : (r >>= f) A p = f a A s := by
  show (do let (a, s) ← r A p; f a A s : Except DecodeError (β × Nat)) = _
  rw [h]
  rfl
theorem dk_map {α β : Type} {r : Reader DecodeError α} {g : α → β} {A : ByteArray} {p s : Nat} {a : α} (h : r A p = .ok (a, s)) : (g <$> r) A p = .ok (g a, s) := by
  show (do let (a, s) ← r A p; .ok (g a, s) : Except DecodeError (β × Nat)) = _
  rw [h]
  rfl
theorem dk_u2 {A : ByteArray} {p : Nat} {a b : UInt8} (h : A.data.toList[p]? = some a) (h2 : A.data.toList[p + 1]? = some b) : (Reader.u2 : Reader DecodeError Nat) A p = .ok (a.toNat * 256 + b.toNat, p + 2) := by
  show (Reader.u1 >>= fun hi => Reader.u1 >>= fun lo => Pure.pure (hi * 256 + lo) : Reader DecodeError Nat) A p = _
  rw [dk_bind (dk_u1 h), dk_bind (dk_u1 h2)]
  rfl
theorem dk_of {code : ByteArray} {pc n : Nat} {i : Instr} (h : Decoder.instr pc code pc = .ok (i, pc + n)) : decode code pc = .ok (i, n) := by
  have e : decode code pc = (match Decoder.instr pc code pc with | .error x => .error x | .ok (j, s) => .ok (j, s - pc)) := by
    show (do let (j, s) ← Decoder.instr pc code pc; Pure.pure (j, s - pc) : Except DecodeError (Instr × Nat)) = _
    cases Decoder.instr pc code pc <;> rfl
  rw [e, h]
  show Except.ok (i, pc + n - pc) = _
  rw [Nat.add_sub_cancel_left]
theorem dk_2 {code : ByteArray} {pc : Nat} (h : DkAt code pc [2]) : decode code pc = .ok (.iconst (-1), 1) := dk_of ((dk_bind (dk_u1 (h 0 _ rfl))).trans rfl)
theorem dk_3 {code : ByteArray} {pc : Nat} (h : DkAt code pc [3]) : decode code pc = .ok (.iconst 0, 1) := dk_of ((dk_bind (dk_u1 (h 0 _ rfl))).trans rfl)
theorem dk_4 {code : ByteArray} {pc : Nat} (h : DkAt code pc [4]) : decode code pc = .ok (.iconst 1, 1) := dk_of ((dk_bind (dk_u1 (h 0 _ rfl))).trans rfl)
theorem dk_5 {code : ByteArray} {pc : Nat} (h : DkAt code pc [5]) : decode code pc = .ok (.iconst 2, 1) := dk_of ((dk_bind (dk_u1 (h 0 _ rfl))).trans rfl)
theorem dk_6 {code : ByteArray} {pc : Nat} (h : DkAt code pc [6]) : decode code pc = .ok (.iconst 3, 1) := dk_of ((dk_bind (dk_u1 (h 0 _ rfl))).trans rfl)
theorem dk_7 {code : ByteArray} {pc : Nat} (h : DkAt code pc [7]) : decode code pc = .ok (.iconst 4, 1) := dk_of ((dk_bind (dk_u1 (h 0 _ rfl))).trans rfl)
theorem dk_16 {code : ByteArray} {pc : Nat} (a : UInt8) (h : DkAt code pc [16, a]) : decode code pc = .ok (.bipush (Reader.signed 8 a.toNat), 2) := dk_of ((dk_bind (dk_u1 (h 0 _ rfl))).trans ((dk_bind (dk_map (dk_u1 (h 1 _ rfl)))).trans rfl))
theorem dk_17 {code : ByteArray} {pc : Nat} (a b : UInt8) (h : DkAt code pc [17, a, b]) : decode code pc = .ok (.sipush (Reader.signed 16 (a.toNat * 256 + b.toNat)), 3) := dk_of ((dk_bind (dk_u1 (h 0 _ rfl))).trans ((dk_bind (dk_map (dk_u2 (h 1 _ rfl) (h 2 _ rfl)))).trans rfl))
theorem dk_18 {code : ByteArray} {pc : Nat} (a : UInt8) (h : DkAt code pc [18, a]) : decode code pc = .ok (.ldc a.toNat, 2) := dk_of ((dk_bind (dk_u1 (h 0 _ rfl))).trans ((dk_bind (dk_u1 (h 1 _ rfl))).trans rfl))
theorem dk_20 {code : ByteArray} {pc : Nat} (a b : UInt8) (h : DkAt code pc [20, a, b]) : decode code pc = .ok (.ldc2_w (a.toNat * 256 + b.toNat), 3) := dk_of ((dk_bind (dk_u1 (h 0 _ rfl))).trans ((dk_bind (dk_u2 (h 1 _ rfl) (h 2 _ rfl))).trans rfl))
theorem dk_21 {code : ByteArray} {pc : Nat} (a : UInt8) (h : DkAt code pc [21, a]) : decode code pc = .ok (.iload a.toNat, 2) := dk_of ((dk_bind (dk_u1 (h 0 _ rfl))).trans ((dk_bind (dk_u1 (h 1 _ rfl))).trans rfl))
theorem dk_25 {code : ByteArray} {pc : Nat} (a : UInt8) (h : DkAt code pc [25, a]) : decode code pc = .ok (.aload a.toNat, 2) := dk_of ((dk_bind (dk_u1 (h 0 _ rfl))).trans ((dk_bind (dk_u1 (h 1 _ rfl))).trans rfl))
theorem dk_26 {code : ByteArray} {pc : Nat} (h : DkAt code pc [26]) : decode code pc = .ok (.iload_n 0, 1) := dk_of ((dk_bind (dk_u1 (h 0 _ rfl))).trans rfl)
theorem dk_27 {code : ByteArray} {pc : Nat} (h : DkAt code pc [27]) : decode code pc = .ok (.iload_n 1, 1) := dk_of ((dk_bind (dk_u1 (h 0 _ rfl))).trans rfl)
theorem dk_28 {code : ByteArray} {pc : Nat} (h : DkAt code pc [28]) : decode code pc = .ok (.iload_n 2, 1) := dk_of ((dk_bind (dk_u1 (h 0 _ rfl))).trans rfl)
theorem dk_29 {code : ByteArray} {pc : Nat} (h : DkAt code pc [29]) : decode code pc = .ok (.iload_n 3, 1) := dk_of ((dk_bind (dk_u1 (h 0 _ rfl))).trans rfl)
theorem dk_30 {code : ByteArray} {pc : Nat} (h : DkAt code pc [30]) : decode code pc = .ok (.lload_n 0, 1) := dk_of ((dk_bind (dk_u1 (h 0 _ rfl))).trans rfl)
theorem dk_42 {code : ByteArray} {pc : Nat} (h : DkAt code pc [42]) : decode code pc = .ok (.aload_n 0, 1) := dk_of ((dk_bind (dk_u1 (h 0 _ rfl))).trans rfl)
theorem dk_43 {code : ByteArray} {pc : Nat} (h : DkAt code pc [43]) : decode code pc = .ok (.aload_n 1, 1) := dk_of ((dk_bind (dk_u1 (h 0 _ rfl))).trans rfl)
theorem dk_44 {code : ByteArray} {pc : Nat} (h : DkAt code pc [44]) : decode code pc = .ok (.aload_n 2, 1) := dk_of ((dk_bind (dk_u1 (h 0 _ rfl))).trans rfl)
theorem dk_45 {code : ByteArray} {pc : Nat} (h : DkAt code pc [45]) : decode code pc = .ok (.aload_n 3, 1) := dk_of ((dk_bind (dk_u1 (h 0 _ rfl))).trans rfl)
theorem dk_46 {code : ByteArray} {pc : Nat} (h : DkAt code pc [46]) : decode code pc = .ok (.iaload, 1) := dk_of ((dk_bind (dk_u1 (h 0 _ rfl))).trans rfl)
theorem dk_50 {code : ByteArray} {pc : Nat} (h : DkAt code pc [50]) : decode code pc = .ok (.aaload, 1) := dk_of ((dk_bind (dk_u1 (h 0 _ rfl))).trans rfl)
theorem dk_54 {code : ByteArray} {pc : Nat} (a : UInt8) (h : DkAt code pc [54, a]) : decode code pc = .ok (.istore a.toNat, 2) := dk_of ((dk_bind (dk_u1 (h 0 _ rfl))).trans ((dk_bind (dk_u1 (h 1 _ rfl))).trans rfl))
theorem dk_58 {code : ByteArray} {pc : Nat} (a : UInt8) (h : DkAt code pc [58, a]) : decode code pc = .ok (.astore a.toNat, 2) := dk_of ((dk_bind (dk_u1 (h 0 _ rfl))).trans ((dk_bind (dk_u1 (h 1 _ rfl))).trans rfl))
theorem dk_59 {code : ByteArray} {pc : Nat} (h : DkAt code pc [59]) : decode code pc = .ok (.istore_n 0, 1) := dk_of ((dk_bind (dk_u1 (h 0 _ rfl))).trans rfl)
theorem dk_60 {code : ByteArray} {pc : Nat} (h : DkAt code pc [60]) : decode code pc = .ok (.istore_n 1, 1) := dk_of ((dk_bind (dk_u1 (h 0 _ rfl))).trans rfl)
theorem dk_61 {code : ByteArray} {pc : Nat} (h : DkAt code pc [61]) : decode code pc = .ok (.istore_n 2, 1) := dk_of ((dk_bind (dk_u1 (h 0 _ rfl))).trans rfl)
theorem dk_62 {code : ByteArray} {pc : Nat} (h : DkAt code pc [62]) : decode code pc = .ok (.istore_n 3, 1) := dk_of ((dk_bind (dk_u1 (h 0 _ rfl))).trans rfl)
theorem dk_76 {code : ByteArray} {pc : Nat} (h : DkAt code pc [76]) : decode code pc = .ok (.astore_n 1, 1) := dk_of ((dk_bind (dk_u1 (h 0 _ rfl))).trans rfl)
theorem dk_77 {code : ByteArray} {pc : Nat} (h : DkAt code pc [77]) : decode code pc = .ok (.astore_n 2, 1) := dk_of ((dk_bind (dk_u1 (h 0 _ rfl))).trans rfl)
theorem dk_78 {code : ByteArray} {pc : Nat} (h : DkAt code pc [78]) : decode code pc = .ok (.astore_n 3, 1) := dk_of ((dk_bind (dk_u1 (h 0 _ rfl))).trans rfl)
theorem dk_79 {code : ByteArray} {pc : Nat} (h : DkAt code pc [79]) : decode code pc = .ok (.iastore, 1) := dk_of ((dk_bind (dk_u1 (h 0 _ rfl))).trans rfl)
theorem dk_83 {code : ByteArray} {pc : Nat} (h : DkAt code pc [83]) : decode code pc = .ok (.aastore, 1) := dk_of ((dk_bind (dk_u1 (h 0 _ rfl))).trans rfl)
theorem dk_89 {code : ByteArray} {pc : Nat} (h : DkAt code pc [89]) : decode code pc = .ok (.dup, 1) := dk_of ((dk_bind (dk_u1 (h 0 _ rfl))).trans rfl)
theorem dk_96 {code : ByteArray} {pc : Nat} (h : DkAt code pc [96]) : decode code pc = .ok (.iadd, 1) := dk_of ((dk_bind (dk_u1 (h 0 _ rfl))).trans rfl)
theorem dk_100 {code : ByteArray} {pc : Nat} (h : DkAt code pc [100]) : decode code pc = .ok (.isub, 1) := dk_of ((dk_bind (dk_u1 (h 0 _ rfl))).trans rfl)
theorem dk_101 {code : ByteArray} {pc : Nat} (h : DkAt code pc [101]) : decode code pc = .ok (.lsub, 1) := dk_of ((dk_bind (dk_u1 (h 0 _ rfl))).trans rfl)
theorem dk_104 {code : ByteArray} {pc : Nat} (h : DkAt code pc [104]) : decode code pc = .ok (.imul, 1) := dk_of ((dk_bind (dk_u1 (h 0 _ rfl))).trans rfl)
theorem dk_105 {code : ByteArray} {pc : Nat} (h : DkAt code pc [105]) : decode code pc = .ok (.lmul, 1) := dk_of ((dk_bind (dk_u1 (h 0 _ rfl))).trans rfl)
theorem dk_112 {code : ByteArray} {pc : Nat} (h : DkAt code pc [112]) : decode code pc = .ok (.irem, 1) := dk_of ((dk_bind (dk_u1 (h 0 _ rfl))).trans rfl)
theorem dk_120 {code : ByteArray} {pc : Nat} (h : DkAt code pc [120]) : decode code pc = .ok (.ishl, 1) := dk_of ((dk_bind (dk_u1 (h 0 _ rfl))).trans rfl)
theorem dk_122 {code : ByteArray} {pc : Nat} (h : DkAt code pc [122]) : decode code pc = .ok (.ishr, 1) := dk_of ((dk_bind (dk_u1 (h 0 _ rfl))).trans rfl)
theorem dk_124 {code : ByteArray} {pc : Nat} (h : DkAt code pc [124]) : decode code pc = .ok (.iushr, 1) := dk_of ((dk_bind (dk_u1 (h 0 _ rfl))).trans rfl)
theorem dk_125 {code : ByteArray} {pc : Nat} (h : DkAt code pc [125]) : decode code pc = .ok (.lushr, 1) := dk_of ((dk_bind (dk_u1 (h 0 _ rfl))).trans rfl)
theorem dk_126 {code : ByteArray} {pc : Nat} (h : DkAt code pc [126]) : decode code pc = .ok (.iand, 1) := dk_of ((dk_bind (dk_u1 (h 0 _ rfl))).trans rfl)
theorem dk_132 {code : ByteArray} {pc : Nat} (a b : UInt8) (h : DkAt code pc [132, a, b]) : decode code pc = .ok (.iinc a.toNat (Reader.signed 8 b.toNat), 3) := dk_of ((dk_bind (dk_u1 (h 0 _ rfl))).trans ((dk_bind (dk_u1 (h 1 _ rfl))).trans ((dk_bind (dk_map (dk_u1 (h 2 _ rfl)))).trans rfl)))
theorem dk_133 {code : ByteArray} {pc : Nat} (h : DkAt code pc [133]) : decode code pc = .ok (.i2l, 1) := dk_of ((dk_bind (dk_u1 (h 0 _ rfl))).trans rfl)
theorem dk_136 {code : ByteArray} {pc : Nat} (h : DkAt code pc [136]) : decode code pc = .ok (.l2i, 1) := dk_of ((dk_bind (dk_u1 (h 0 _ rfl))).trans rfl)
theorem dk_153 {code : ByteArray} {pc : Nat} (a b : UInt8) (h : DkAt code pc [153, a, b]) : decode code pc = .ok (.ifCond .eq (Reader.signed 16 (a.toNat * 256 + b.toNat)), 3) := dk_of ((dk_bind (dk_u1 (h 0 _ rfl))).trans ((dk_bind (dk_map (dk_u2 (h 1 _ rfl) (h 2 _ rfl)))).trans rfl))
theorem dk_154 {code : ByteArray} {pc : Nat} (a b : UInt8) (h : DkAt code pc [154, a, b]) : decode code pc = .ok (.ifCond .ne (Reader.signed 16 (a.toNat * 256 + b.toNat)), 3) := dk_of ((dk_bind (dk_u1 (h 0 _ rfl))).trans ((dk_bind (dk_map (dk_u2 (h 1 _ rfl) (h 2 _ rfl)))).trans rfl))
theorem dk_158 {code : ByteArray} {pc : Nat} (a b : UInt8) (h : DkAt code pc [158, a, b]) : decode code pc = .ok (.ifCond .le (Reader.signed 16 (a.toNat * 256 + b.toNat)), 3) := dk_of ((dk_bind (dk_u1 (h 0 _ rfl))).trans ((dk_bind (dk_map (dk_u2 (h 1 _ rfl) (h 2 _ rfl)))).trans rfl))
theorem dk_159 {code : ByteArray} {pc : Nat} (a b : UInt8) (h : DkAt code pc [159, a, b]) : decode code pc = .ok (.if_icmp .eq (Reader.signed 16 (a.toNat * 256 + b.toNat)), 3) := dk_of ((dk_bind (dk_u1 (h 0 _ rfl))).trans ((dk_bind (dk_map (dk_u2 (h 1 _ rfl) (h 2 _ rfl)))).trans rfl))
theorem dk_160 {code : ByteArray} {pc : Nat} (a b : UInt8) (h : DkAt code pc [160, a, b]) : decode code pc = .ok (.if_icmp .ne (Reader.signed 16 (a.toNat * 256 + b.toNat)), 3) := dk_of ((dk_bind (dk_u1 (h 0 _ rfl))).trans ((dk_bind (dk_map (dk_u2 (h 1 _ rfl) (h 2 _ rfl)))).trans rfl))
theorem dk_162 {code : ByteArray} {pc : Nat} (a b : UInt8) (h : DkAt code pc [162, a, b]) : decode code pc = .ok (.if_icmp .ge (Reader.signed 16 (a.toNat * 256 + b.toNat)), 3) := dk_of ((dk_bind (dk_u1 (h 0 _ rfl))).trans ((dk_bind (dk_map (dk_u2 (h 1 _ rfl) (h 2 _ rfl)))).trans rfl))
theorem dk_167 {code : ByteArray} {pc : Nat} (a b : UInt8) (h : DkAt code pc [167, a, b]) : decode code pc = .ok (.goto (Reader.signed 16 (a.toNat * 256 + b.toNat)), 3) := dk_of ((dk_bind (dk_u1 (h 0 _ rfl))).trans ((dk_bind (dk_map (dk_u2 (h 1 _ rfl) (h 2 _ rfl)))).trans rfl))
theorem dk_172 {code : ByteArray} {pc : Nat} (h : DkAt code pc [172]) : decode code pc = .ok (.ireturn, 1) := dk_of ((dk_bind (dk_u1 (h 0 _ rfl))).trans rfl)
theorem dk_176 {code : ByteArray} {pc : Nat} (h : DkAt code pc [176]) : decode code pc = .ok (.areturn, 1) := dk_of ((dk_bind (dk_u1 (h 0 _ rfl))).trans rfl)
theorem dk_177 {code : ByteArray} {pc : Nat} (h : DkAt code pc [177]) : decode code pc = .ok (.return_, 1) := dk_of ((dk_bind (dk_u1 (h 0 _ rfl))).trans rfl)
theorem dk_178 {code : ByteArray} {pc : Nat} (a b : UInt8) (h : DkAt code pc [178, a, b]) : decode code pc = .ok (.getstatic (a.toNat * 256 + b.toNat), 3) := dk_of ((dk_bind (dk_u1 (h 0 _ rfl))).trans ((dk_bind (dk_u2 (h 1 _ rfl) (h 2 _ rfl))).trans rfl))
theorem dk_180 {code : ByteArray} {pc : Nat} (a b : UInt8) (h : DkAt code pc [180, a, b]) : decode code pc = .ok (.getfield (a.toNat * 256 + b.toNat), 3) := dk_of ((dk_bind (dk_u1 (h 0 _ rfl))).trans ((dk_bind (dk_u2 (h 1 _ rfl) (h 2 _ rfl))).trans rfl))
theorem dk_181 {code : ByteArray} {pc : Nat} (a b : UInt8) (h : DkAt code pc [181, a, b]) : decode code pc = .ok (.putfield (a.toNat * 256 + b.toNat), 3) := dk_of ((dk_bind (dk_u1 (h 0 _ rfl))).trans ((dk_bind (dk_u2 (h 1 _ rfl) (h 2 _ rfl))).trans rfl))
theorem dk_182 {code : ByteArray} {pc : Nat} (a b : UInt8) (h : DkAt code pc [182, a, b]) : decode code pc = .ok (.invokevirtual (a.toNat * 256 + b.toNat), 3) := dk_of ((dk_bind (dk_u1 (h 0 _ rfl))).trans ((dk_bind (dk_u2 (h 1 _ rfl) (h 2 _ rfl))).trans rfl))
theorem dk_183 {code : ByteArray} {pc : Nat} (a b : UInt8) (h : DkAt code pc [183, a, b]) : decode code pc = .ok (.invokespecial (a.toNat * 256 + b.toNat), 3) := dk_of ((dk_bind (dk_u1 (h 0 _ rfl))).trans ((dk_bind (dk_u2 (h 1 _ rfl) (h 2 _ rfl))).trans rfl))
theorem dk_184 {code : ByteArray} {pc : Nat} (a b : UInt8) (h : DkAt code pc [184, a, b]) : decode code pc = .ok (.invokestatic (a.toNat * 256 + b.toNat), 3) := dk_of ((dk_bind (dk_u1 (h 0 _ rfl))).trans ((dk_bind (dk_u2 (h 1 _ rfl) (h 2 _ rfl))).trans rfl))
theorem dk_187 {code : ByteArray} {pc : Nat} (a b : UInt8) (h : DkAt code pc [187, a, b]) : decode code pc = .ok (.new (a.toNat * 256 + b.toNat), 3) := dk_of ((dk_bind (dk_u1 (h 0 _ rfl))).trans ((dk_bind (dk_u2 (h 1 _ rfl) (h 2 _ rfl))).trans rfl))
theorem dk_188_10 {code : ByteArray} {pc : Nat} (h : DkAt code pc [188, 10]) : decode code pc = .ok (.newarray .int, 2) := dk_of ((dk_bind (dk_u1 (h 0 _ rfl))).trans ((dk_bind (dk_u1 (h 1 _ rfl))).trans rfl))
theorem dk_190 {code : ByteArray} {pc : Nat} (h : DkAt code pc [190]) : decode code pc = .ok (.arraylength, 1) := dk_of ((dk_bind (dk_u1 (h 0 _ rfl))).trans rfl)
theorem q47 : (Jvm.Cond.arrayClass Jvm.ClassFile.FieldType.int) ∈ lw_all := lw_g (lw_at lw_m0 47 rfl) rfl
set_option maxRecDepth 100000
theorem q71 : (Jvm.Cond.arrayOver (Jvm.ClassFile.FieldType.array Jvm.ClassFile.FieldType.int)) ∈ lw_tbl := lw_at lw_m0 71 rfl
/-! java/lang/Object -/
set_option maxRecDepth 100000
def RJ0 : String := "java/lang/Object"
abbrev cJ0_init : ByteArray := object_method_1_code
def yJ0_init : MethodName := ⟨RJ0, "<init>", "()V"⟩
theorem dJ0_init_0 : decode cJ0_init 0 = .ok (.return_, 1) := by decide +kernel
theorem q68 : (Jvm.Cond.instanceMethod ({ cls := "java/lang/Object", name := "<init>", desc := "()V" } : Jvm.MethodName)) ∈ lw_all := lw_g (lw_at lw_m0 68 rfl) rfl
theorem q69 : (Jvm.Cond.code ({ cls := "java/lang/Object", name := "<init>", desc := "()V" } : Jvm.MethodName) object_method_1_code (1 : Nat) (Option.none : Option Jvm.ClassFile.FieldType)) ∈ lw_all := lw_g (lw_at lw_m0 69 rfl) rfl
/-! Reduce -/
set_option maxRecDepth 100000
def RX2 : String := "Reduce"
abbrev cX2_montgomeryReduce : ByteArray := prog_5_method_2_code
def yX2_montgomeryReduce : MethodName := ⟨RX2, "montgomeryReduce", "(J)I"⟩
def dkwX2_montgomeryReduce_0 : List UInt8 := [30, 20, 0, 9, 105, 136, 61, 30, 28, 133, 20, 0, 11, 105, 101, 16, 32, 125, 136, 61, 28, 172]
abbrev dktX2_montgomeryReduce_0 : List UInt8 := dkwX2_montgomeryReduce_0 ++ []
theorem dksX2_montgomeryReduce_0 : cX2_montgomeryReduce.data.toList.drop 0 = dktX2_montgomeryReduce_0 := by decide +kernel
theorem dX2_montgomeryReduce_0 : decode cX2_montgomeryReduce 0 = .ok (.lload_n 0, 1) := dk_30 (dk_at dksX2_montgomeryReduce_0 0 rfl rfl)
theorem dX2_montgomeryReduce_1 : decode cX2_montgomeryReduce 1 = .ok (.ldc2_w 9, 3) := dk_20 0 9 (dk_at dksX2_montgomeryReduce_0 1 rfl rfl)
theorem dX2_montgomeryReduce_4 : decode cX2_montgomeryReduce 4 = .ok (.lmul, 1) := dk_105 (dk_at dksX2_montgomeryReduce_0 4 rfl rfl)
theorem dX2_montgomeryReduce_5 : decode cX2_montgomeryReduce 5 = .ok (.l2i, 1) := dk_136 (dk_at dksX2_montgomeryReduce_0 5 rfl rfl)
theorem dX2_montgomeryReduce_6 : decode cX2_montgomeryReduce 6 = .ok (.istore_n 2, 1) := dk_61 (dk_at dksX2_montgomeryReduce_0 6 rfl rfl)
theorem dX2_montgomeryReduce_7 : decode cX2_montgomeryReduce 7 = .ok (.lload_n 0, 1) := dk_30 (dk_at dksX2_montgomeryReduce_0 7 rfl rfl)
theorem dX2_montgomeryReduce_8 : decode cX2_montgomeryReduce 8 = .ok (.iload_n 2, 1) := dk_28 (dk_at dksX2_montgomeryReduce_0 8 rfl rfl)
theorem dX2_montgomeryReduce_9 : decode cX2_montgomeryReduce 9 = .ok (.i2l, 1) := dk_133 (dk_at dksX2_montgomeryReduce_0 9 rfl rfl)
theorem dX2_montgomeryReduce_10 : decode cX2_montgomeryReduce 10 = .ok (.ldc2_w 11, 3) := dk_20 0 11 (dk_at dksX2_montgomeryReduce_0 10 rfl rfl)
theorem dX2_montgomeryReduce_13 : decode cX2_montgomeryReduce 13 = .ok (.lmul, 1) := dk_105 (dk_at dksX2_montgomeryReduce_0 13 rfl rfl)
theorem dX2_montgomeryReduce_14 : decode cX2_montgomeryReduce 14 = .ok (.lsub, 1) := dk_101 (dk_at dksX2_montgomeryReduce_0 14 rfl rfl)
theorem dX2_montgomeryReduce_15 : decode cX2_montgomeryReduce 15 = .ok (.bipush 32, 2) := dk_16 32 (dk_at dksX2_montgomeryReduce_0 15 rfl rfl)
theorem dX2_montgomeryReduce_17 : decode cX2_montgomeryReduce 17 = .ok (.lushr, 1) := dk_125 (dk_at dksX2_montgomeryReduce_0 17 rfl rfl)
theorem dX2_montgomeryReduce_18 : decode cX2_montgomeryReduce 18 = .ok (.l2i, 1) := dk_136 (dk_at dksX2_montgomeryReduce_0 18 rfl rfl)
theorem dX2_montgomeryReduce_19 : decode cX2_montgomeryReduce 19 = .ok (.istore_n 2, 1) := dk_61 (dk_at dksX2_montgomeryReduce_0 19 rfl rfl)
theorem dX2_montgomeryReduce_20 : decode cX2_montgomeryReduce 20 = .ok (.iload_n 2, 1) := dk_28 (dk_at dksX2_montgomeryReduce_0 20 rfl rfl)
theorem dX2_montgomeryReduce_21 : decode cX2_montgomeryReduce 21 = .ok (.ireturn, 1) := dk_172 (dk_at dksX2_montgomeryReduce_0 21 rfl rfl)
abbrev cX2_reduce32 : ByteArray := prog_5_method_3_code
def yX2_reduce32 : MethodName := ⟨RX2, "reduce32", "(I)I"⟩
def dkwX2_reduce32_0 : List UInt8 := [26, 18, 13, 96, 16, 23, 122, 60, 26, 27, 18, 14, 104, 100, 60, 27, 172]
abbrev dktX2_reduce32_0 : List UInt8 := dkwX2_reduce32_0 ++ []
theorem dksX2_reduce32_0 : cX2_reduce32.data.toList.drop 0 = dktX2_reduce32_0 := by decide +kernel
theorem dX2_reduce32_0 : decode cX2_reduce32 0 = .ok (.iload_n 0, 1) := dk_26 (dk_at dksX2_reduce32_0 0 rfl rfl)
theorem dX2_reduce32_1 : decode cX2_reduce32 1 = .ok (.ldc 13, 2) := dk_18 13 (dk_at dksX2_reduce32_0 1 rfl rfl)
theorem dX2_reduce32_3 : decode cX2_reduce32 3 = .ok (.iadd, 1) := dk_96 (dk_at dksX2_reduce32_0 3 rfl rfl)
theorem dX2_reduce32_4 : decode cX2_reduce32 4 = .ok (.bipush 23, 2) := dk_16 23 (dk_at dksX2_reduce32_0 4 rfl rfl)
theorem dX2_reduce32_6 : decode cX2_reduce32 6 = .ok (.ishr, 1) := dk_122 (dk_at dksX2_reduce32_0 6 rfl rfl)
theorem dX2_reduce32_7 : decode cX2_reduce32 7 = .ok (.istore_n 1, 1) := dk_60 (dk_at dksX2_reduce32_0 7 rfl rfl)
theorem dX2_reduce32_8 : decode cX2_reduce32 8 = .ok (.iload_n 0, 1) := dk_26 (dk_at dksX2_reduce32_0 8 rfl rfl)
theorem dX2_reduce32_9 : decode cX2_reduce32 9 = .ok (.iload_n 1, 1) := dk_27 (dk_at dksX2_reduce32_0 9 rfl rfl)
theorem dX2_reduce32_10 : decode cX2_reduce32 10 = .ok (.ldc 14, 2) := dk_18 14 (dk_at dksX2_reduce32_0 10 rfl rfl)
theorem dX2_reduce32_12 : decode cX2_reduce32 12 = .ok (.imul, 1) := dk_104 (dk_at dksX2_reduce32_0 12 rfl rfl)
theorem dX2_reduce32_13 : decode cX2_reduce32 13 = .ok (.isub, 1) := dk_100 (dk_at dksX2_reduce32_0 13 rfl rfl)
theorem dX2_reduce32_14 : decode cX2_reduce32 14 = .ok (.istore_n 1, 1) := dk_60 (dk_at dksX2_reduce32_0 14 rfl rfl)
theorem dX2_reduce32_15 : decode cX2_reduce32 15 = .ok (.iload_n 1, 1) := dk_27 (dk_at dksX2_reduce32_0 15 rfl rfl)
theorem dX2_reduce32_16 : decode cX2_reduce32 16 = .ok (.ireturn, 1) := dk_172 (dk_at dksX2_reduce32_0 16 rfl rfl)
abbrev cX2_conditionalAddQ : ByteArray := prog_5_method_4_code
def yX2_conditionalAddQ : MethodName := ⟨RX2, "conditionalAddQ", "(I)I"⟩
def dkwX2_conditionalAddQ_0 : List UInt8 := [26, 26, 16, 31, 122, 18, 14, 126, 96, 59, 26, 172]
abbrev dktX2_conditionalAddQ_0 : List UInt8 := dkwX2_conditionalAddQ_0 ++ []
theorem dksX2_conditionalAddQ_0 : cX2_conditionalAddQ.data.toList.drop 0 = dktX2_conditionalAddQ_0 := by decide +kernel
theorem dX2_conditionalAddQ_0 : decode cX2_conditionalAddQ 0 = .ok (.iload_n 0, 1) := dk_26 (dk_at dksX2_conditionalAddQ_0 0 rfl rfl)
theorem dX2_conditionalAddQ_1 : decode cX2_conditionalAddQ 1 = .ok (.iload_n 0, 1) := dk_26 (dk_at dksX2_conditionalAddQ_0 1 rfl rfl)
theorem dX2_conditionalAddQ_2 : decode cX2_conditionalAddQ 2 = .ok (.bipush 31, 2) := dk_16 31 (dk_at dksX2_conditionalAddQ_0 2 rfl rfl)
theorem dX2_conditionalAddQ_4 : decode cX2_conditionalAddQ 4 = .ok (.ishr, 1) := dk_122 (dk_at dksX2_conditionalAddQ_0 4 rfl rfl)
theorem dX2_conditionalAddQ_5 : decode cX2_conditionalAddQ 5 = .ok (.ldc 14, 2) := dk_18 14 (dk_at dksX2_conditionalAddQ_0 5 rfl rfl)
theorem dX2_conditionalAddQ_7 : decode cX2_conditionalAddQ 7 = .ok (.iand, 1) := dk_126 (dk_at dksX2_conditionalAddQ_0 7 rfl rfl)
theorem dX2_conditionalAddQ_8 : decode cX2_conditionalAddQ 8 = .ok (.iadd, 1) := dk_96 (dk_at dksX2_conditionalAddQ_0 8 rfl rfl)
theorem dX2_conditionalAddQ_9 : decode cX2_conditionalAddQ 9 = .ok (.istore_n 0, 1) := dk_59 (dk_at dksX2_conditionalAddQ_0 9 rfl rfl)
theorem dX2_conditionalAddQ_10 : decode cX2_conditionalAddQ 10 = .ok (.iload_n 0, 1) := dk_26 (dk_at dksX2_conditionalAddQ_0 10 rfl rfl)
theorem dX2_conditionalAddQ_11 : decode cX2_conditionalAddQ 11 = .ok (.ireturn, 1) := dk_172 (dk_at dksX2_conditionalAddQ_0 11 rfl rfl)
theorem q2 : (Jvm.Cond.initialized "Reduce") ∈ lw_all := lw_g (lw_at lw_m0 2 rfl) rfl
theorem q27 : (Jvm.Cond.static ({ cls := "Reduce", name := "montgomeryReduce", desc := "(J)I" } : Jvm.MethodName)) ∈ lw_all := lw_g (lw_at lw_m0 27 rfl) rfl
theorem q28 : (Jvm.Cond.code ({ cls := "Reduce", name := "montgomeryReduce", desc := "(J)I" } : Jvm.MethodName) prog_5_method_2_code (3 : Nat) (Option.some Jvm.ClassFile.FieldType.int)) ∈ lw_all := lw_g (lw_at lw_m0 28 rfl) rfl
theorem q29 : (Jvm.Cond.constantLong "Reduce" (9 : Nat) (58728449 : Int64)) ∈ lw_all := lw_g (lw_at lw_m0 29 rfl) rfl
theorem q30 : (Jvm.Cond.constantLong "Reduce" (11 : Nat) (8380417 : Int64)) ∈ lw_all := lw_g (lw_at lw_m0 30 rfl) rfl
theorem q40 : (Jvm.Cond.static ({ cls := "Reduce", name := "reduce32", desc := "(I)I" } : Jvm.MethodName)) ∈ lw_all := lw_g (lw_at lw_m0 40 rfl) rfl
theorem q41 : (Jvm.Cond.code ({ cls := "Reduce", name := "reduce32", desc := "(I)I" } : Jvm.MethodName) prog_5_method_3_code (2 : Nat) (Option.some Jvm.ClassFile.FieldType.int)) ∈ lw_all := lw_g (lw_at lw_m0 41 rfl) rfl
theorem q42 : (Jvm.Cond.constant "Reduce" (13 : Nat) (4194304 : Int32)) ∈ lw_all := lw_g (lw_at lw_m0 42 rfl) rfl
theorem q43 : (Jvm.Cond.constant "Reduce" (14 : Nat) (8380417 : Int32)) ∈ lw_all := lw_g (lw_at lw_m0 43 rfl) rfl
theorem q45 : (Jvm.Cond.static ({ cls := "Reduce", name := "conditionalAddQ", desc := "(I)I" } : Jvm.MethodName)) ∈ lw_all := lw_g (lw_at lw_m0 45 rfl) rfl
theorem q46 : (Jvm.Cond.code ({ cls := "Reduce", name := "conditionalAddQ", desc := "(I)I" } : Jvm.MethodName) prog_5_method_4_code (1 : Nat) (Option.some Jvm.ClassFile.FieldType.int)) ∈ lw_all := lw_g (lw_at lw_m0 46 rfl) rfl
/-! Ntt -/
set_option maxRecDepth 100000
def RX3 : String := "Ntt"
abbrev cX3_ntt : ByteArray := prog_4_method_2_code
def yX3_ntt : MethodName := ⟨RX3, "ntt", "([I)V"⟩
def dkwX3_ntt_4 : List UInt8 := [177]
abbrev dktX3_ntt_4 : List UInt8 := dkwX3_ntt_4 ++ []
def dkwX3_ntt_3 : List UInt8 := [21, 6, 96, 79, 132, 3, 1, 167, 255, 211, 29, 27, 96, 61, 167, 255, 184, 27, 4, 124, 60, 167, 255, 171]
abbrev dktX3_ntt_3 : List UInt8 := dkwX3_ntt_3 ++ dktX3_ntt_4
def dkwX3_ntt_2 : List UInt8 := [46, 133, 105, 184, 0, 15, 54, 6, 42, 29, 27, 96, 42, 29, 46, 21, 6, 100, 79, 42, 29, 42, 29, 46]
abbrev dktX3_ntt_2 : List UInt8 := dkwX3_ntt_2 ++ dktX3_ntt_3
def dkwX3_ntt_1 : List UInt8 := [132, 4, 1, 21, 4, 46, 54, 5, 28, 62, 29, 28, 27, 96, 162, 0, 44, 21, 5, 133, 42, 29, 27, 96]
abbrev dktX3_ntt_1 : List UInt8 := dkwX3_ntt_1 ++ dktX3_ntt_2
def dkwX3_ntt_0 : List UInt8 := [3, 54, 4, 17, 0, 128, 60, 27, 158, 0, 87, 3, 61, 28, 17, 1, 0, 162, 0, 71, 178, 0, 9]
abbrev dktX3_ntt_0 : List UInt8 := dkwX3_ntt_0 ++ dktX3_ntt_1
theorem dksX3_ntt_0 : cX3_ntt.data.toList.drop 0 = dktX3_ntt_0 := by decide +kernel
theorem dksX3_ntt_1 : cX3_ntt.data.toList.drop 23 = dktX3_ntt_1 := dk_seg dksX3_ntt_0 23 rfl rfl
theorem dksX3_ntt_2 : cX3_ntt.data.toList.drop 47 = dktX3_ntt_2 := dk_seg dksX3_ntt_1 24 rfl rfl
theorem dksX3_ntt_3 : cX3_ntt.data.toList.drop 71 = dktX3_ntt_3 := dk_seg dksX3_ntt_2 24 rfl rfl
theorem dksX3_ntt_4 : cX3_ntt.data.toList.drop 95 = dktX3_ntt_4 := dk_seg dksX3_ntt_3 24 rfl rfl
theorem dX3_ntt_0 : decode cX3_ntt 0 = .ok (.iconst 0, 1) := dk_3 (dk_at dksX3_ntt_0 0 rfl rfl)
theorem dX3_ntt_1 : decode cX3_ntt 1 = .ok (.istore 4, 2) := dk_54 4 (dk_at dksX3_ntt_0 1 rfl rfl)
theorem dX3_ntt_3 : decode cX3_ntt 3 = .ok (.sipush 128, 3) := dk_17 0 128 (dk_at dksX3_ntt_0 3 rfl rfl)
theorem dX3_ntt_6 : decode cX3_ntt 6 = .ok (.istore_n 1, 1) := dk_60 (dk_at dksX3_ntt_0 6 rfl rfl)
theorem dX3_ntt_7 : decode cX3_ntt 7 = .ok (.iload_n 1, 1) := dk_27 (dk_at dksX3_ntt_0 7 rfl rfl)
theorem dX3_ntt_8 : decode cX3_ntt 8 = .ok (.ifCond .le 87, 3) := dk_158 0 87 (dk_at dksX3_ntt_0 8 rfl rfl)
theorem dX3_ntt_11 : decode cX3_ntt 11 = .ok (.iconst 0, 1) := dk_3 (dk_at dksX3_ntt_0 11 rfl rfl)
theorem dX3_ntt_12 : decode cX3_ntt 12 = .ok (.istore_n 2, 1) := dk_61 (dk_at dksX3_ntt_0 12 rfl rfl)
theorem dX3_ntt_13 : decode cX3_ntt 13 = .ok (.iload_n 2, 1) := dk_28 (dk_at dksX3_ntt_0 13 rfl rfl)
theorem dX3_ntt_14 : decode cX3_ntt 14 = .ok (.sipush 256, 3) := dk_17 1 0 (dk_at dksX3_ntt_0 14 rfl rfl)
theorem dX3_ntt_17 : decode cX3_ntt 17 = .ok (.if_icmp .ge 71, 3) := dk_162 0 71 (dk_at dksX3_ntt_0 17 rfl rfl)
theorem dX3_ntt_20 : decode cX3_ntt 20 = .ok (.getstatic 9, 3) := dk_178 0 9 (dk_at dksX3_ntt_0 20 rfl rfl)
theorem dX3_ntt_23 : decode cX3_ntt 23 = .ok (.iinc 4 1, 3) := dk_132 4 1 (dk_at dksX3_ntt_1 0 rfl rfl)
theorem dX3_ntt_26 : decode cX3_ntt 26 = .ok (.iload 4, 2) := dk_21 4 (dk_at dksX3_ntt_1 3 rfl rfl)
theorem dX3_ntt_28 : decode cX3_ntt 28 = .ok (.iaload, 1) := dk_46 (dk_at dksX3_ntt_1 5 rfl rfl)
theorem dX3_ntt_29 : decode cX3_ntt 29 = .ok (.istore 5, 2) := dk_54 5 (dk_at dksX3_ntt_1 6 rfl rfl)
theorem dX3_ntt_31 : decode cX3_ntt 31 = .ok (.iload_n 2, 1) := dk_28 (dk_at dksX3_ntt_1 8 rfl rfl)
theorem dX3_ntt_32 : decode cX3_ntt 32 = .ok (.istore_n 3, 1) := dk_62 (dk_at dksX3_ntt_1 9 rfl rfl)
theorem dX3_ntt_33 : decode cX3_ntt 33 = .ok (.iload_n 3, 1) := dk_29 (dk_at dksX3_ntt_1 10 rfl rfl)
theorem dX3_ntt_34 : decode cX3_ntt 34 = .ok (.iload_n 2, 1) := dk_28 (dk_at dksX3_ntt_1 11 rfl rfl)
theorem dX3_ntt_35 : decode cX3_ntt 35 = .ok (.iload_n 1, 1) := dk_27 (dk_at dksX3_ntt_1 12 rfl rfl)
theorem dX3_ntt_36 : decode cX3_ntt 36 = .ok (.iadd, 1) := dk_96 (dk_at dksX3_ntt_1 13 rfl rfl)
theorem dX3_ntt_37 : decode cX3_ntt 37 = .ok (.if_icmp .ge 44, 3) := dk_162 0 44 (dk_at dksX3_ntt_1 14 rfl rfl)
theorem dX3_ntt_40 : decode cX3_ntt 40 = .ok (.iload 5, 2) := dk_21 5 (dk_at dksX3_ntt_1 17 rfl rfl)
theorem dX3_ntt_42 : decode cX3_ntt 42 = .ok (.i2l, 1) := dk_133 (dk_at dksX3_ntt_1 19 rfl rfl)
theorem dX3_ntt_43 : decode cX3_ntt 43 = .ok (.aload_n 0, 1) := dk_42 (dk_at dksX3_ntt_1 20 rfl rfl)
theorem dX3_ntt_44 : decode cX3_ntt 44 = .ok (.iload_n 3, 1) := dk_29 (dk_at dksX3_ntt_1 21 rfl rfl)
theorem dX3_ntt_45 : decode cX3_ntt 45 = .ok (.iload_n 1, 1) := dk_27 (dk_at dksX3_ntt_1 22 rfl rfl)
theorem dX3_ntt_46 : decode cX3_ntt 46 = .ok (.iadd, 1) := dk_96 (dk_at dksX3_ntt_1 23 rfl rfl)
theorem dX3_ntt_47 : decode cX3_ntt 47 = .ok (.iaload, 1) := dk_46 (dk_at dksX3_ntt_2 0 rfl rfl)
theorem dX3_ntt_48 : decode cX3_ntt 48 = .ok (.i2l, 1) := dk_133 (dk_at dksX3_ntt_2 1 rfl rfl)
theorem dX3_ntt_49 : decode cX3_ntt 49 = .ok (.lmul, 1) := dk_105 (dk_at dksX3_ntt_2 2 rfl rfl)
theorem dX3_ntt_50 : decode cX3_ntt 50 = .ok (.invokestatic 15, 3) := dk_184 0 15 (dk_at dksX3_ntt_2 3 rfl rfl)
theorem dX3_ntt_53 : decode cX3_ntt 53 = .ok (.istore 6, 2) := dk_54 6 (dk_at dksX3_ntt_2 6 rfl rfl)
theorem dX3_ntt_55 : decode cX3_ntt 55 = .ok (.aload_n 0, 1) := dk_42 (dk_at dksX3_ntt_2 8 rfl rfl)
theorem dX3_ntt_56 : decode cX3_ntt 56 = .ok (.iload_n 3, 1) := dk_29 (dk_at dksX3_ntt_2 9 rfl rfl)
theorem dX3_ntt_57 : decode cX3_ntt 57 = .ok (.iload_n 1, 1) := dk_27 (dk_at dksX3_ntt_2 10 rfl rfl)
theorem dX3_ntt_58 : decode cX3_ntt 58 = .ok (.iadd, 1) := dk_96 (dk_at dksX3_ntt_2 11 rfl rfl)
theorem dX3_ntt_59 : decode cX3_ntt 59 = .ok (.aload_n 0, 1) := dk_42 (dk_at dksX3_ntt_2 12 rfl rfl)
theorem dX3_ntt_60 : decode cX3_ntt 60 = .ok (.iload_n 3, 1) := dk_29 (dk_at dksX3_ntt_2 13 rfl rfl)
theorem dX3_ntt_61 : decode cX3_ntt 61 = .ok (.iaload, 1) := dk_46 (dk_at dksX3_ntt_2 14 rfl rfl)
theorem dX3_ntt_62 : decode cX3_ntt 62 = .ok (.iload 6, 2) := dk_21 6 (dk_at dksX3_ntt_2 15 rfl rfl)
theorem dX3_ntt_64 : decode cX3_ntt 64 = .ok (.isub, 1) := dk_100 (dk_at dksX3_ntt_2 17 rfl rfl)
theorem dX3_ntt_65 : decode cX3_ntt 65 = .ok (.iastore, 1) := dk_79 (dk_at dksX3_ntt_2 18 rfl rfl)
theorem dX3_ntt_66 : decode cX3_ntt 66 = .ok (.aload_n 0, 1) := dk_42 (dk_at dksX3_ntt_2 19 rfl rfl)
theorem dX3_ntt_67 : decode cX3_ntt 67 = .ok (.iload_n 3, 1) := dk_29 (dk_at dksX3_ntt_2 20 rfl rfl)
theorem dX3_ntt_68 : decode cX3_ntt 68 = .ok (.aload_n 0, 1) := dk_42 (dk_at dksX3_ntt_2 21 rfl rfl)
theorem dX3_ntt_69 : decode cX3_ntt 69 = .ok (.iload_n 3, 1) := dk_29 (dk_at dksX3_ntt_2 22 rfl rfl)
theorem dX3_ntt_70 : decode cX3_ntt 70 = .ok (.iaload, 1) := dk_46 (dk_at dksX3_ntt_2 23 rfl rfl)
theorem dX3_ntt_71 : decode cX3_ntt 71 = .ok (.iload 6, 2) := dk_21 6 (dk_at dksX3_ntt_3 0 rfl rfl)
theorem dX3_ntt_73 : decode cX3_ntt 73 = .ok (.iadd, 1) := dk_96 (dk_at dksX3_ntt_3 2 rfl rfl)
theorem dX3_ntt_74 : decode cX3_ntt 74 = .ok (.iastore, 1) := dk_79 (dk_at dksX3_ntt_3 3 rfl rfl)
theorem dX3_ntt_75 : decode cX3_ntt 75 = .ok (.iinc 3 1, 3) := dk_132 3 1 (dk_at dksX3_ntt_3 4 rfl rfl)
theorem dX3_ntt_78 : decode cX3_ntt 78 = .ok (.goto (-45), 3) := dk_167 255 211 (dk_at dksX3_ntt_3 7 rfl rfl)
theorem dX3_ntt_81 : decode cX3_ntt 81 = .ok (.iload_n 3, 1) := dk_29 (dk_at dksX3_ntt_3 10 rfl rfl)
theorem dX3_ntt_82 : decode cX3_ntt 82 = .ok (.iload_n 1, 1) := dk_27 (dk_at dksX3_ntt_3 11 rfl rfl)
theorem dX3_ntt_83 : decode cX3_ntt 83 = .ok (.iadd, 1) := dk_96 (dk_at dksX3_ntt_3 12 rfl rfl)
theorem dX3_ntt_84 : decode cX3_ntt 84 = .ok (.istore_n 2, 1) := dk_61 (dk_at dksX3_ntt_3 13 rfl rfl)
theorem dX3_ntt_85 : decode cX3_ntt 85 = .ok (.goto (-72), 3) := dk_167 255 184 (dk_at dksX3_ntt_3 14 rfl rfl)
theorem dX3_ntt_88 : decode cX3_ntt 88 = .ok (.iload_n 1, 1) := dk_27 (dk_at dksX3_ntt_3 17 rfl rfl)
theorem dX3_ntt_89 : decode cX3_ntt 89 = .ok (.iconst 1, 1) := dk_4 (dk_at dksX3_ntt_3 18 rfl rfl)
theorem dX3_ntt_90 : decode cX3_ntt 90 = .ok (.iushr, 1) := dk_124 (dk_at dksX3_ntt_3 19 rfl rfl)
theorem dX3_ntt_91 : decode cX3_ntt 91 = .ok (.istore_n 1, 1) := dk_60 (dk_at dksX3_ntt_3 20 rfl rfl)
theorem dX3_ntt_92 : decode cX3_ntt 92 = .ok (.goto (-85), 3) := dk_167 255 171 (dk_at dksX3_ntt_3 21 rfl rfl)
theorem dX3_ntt_95 : decode cX3_ntt 95 = .ok (.return_, 1) := dk_177 (dk_at dksX3_ntt_4 0 rfl rfl)
abbrev cX3_invNttToMont : ByteArray := prog_4_method_3_code
def yX3_invNttToMont : MethodName := ⟨RX3, "invNttToMont", "([I)V"⟩
def dkwX3_invNttToMont_5 : List UInt8 := [162, 0, 23, 42, 29, 20, 0, 21, 42, 29, 46, 133, 105, 184, 0, 15, 79, 132, 3, 1, 167, 255, 232, 177]
abbrev dktX3_invNttToMont_5 : List UInt8 := dkwX3_invNttToMont_5 ++ []
def dkwX3_invNttToMont_4 : List UInt8 := [167, 255, 199, 29, 28, 96, 60, 167, 255, 170, 28, 4, 120, 61, 167, 255, 154, 3, 62, 29, 17, 1, 0]
abbrev dktX3_invNttToMont_4 : List UInt8 := dkwX3_invNttToMont_4 ++ dktX3_invNttToMont_5
def dkwX3_invNttToMont_3 : List UInt8 := [100, 79, 42, 29, 28, 96, 21, 6, 133, 42, 29, 28, 96, 46, 133, 105, 184, 0, 15, 79, 132, 3, 1]
abbrev dktX3_invNttToMont_3 : List UInt8 := dkwX3_invNttToMont_3 ++ dktX3_invNttToMont_4
def dkwX3_invNttToMont_2 : List UInt8 := [54, 5, 42, 29, 21, 5, 42, 29, 28, 96, 46, 96, 79, 42, 29, 28, 96, 21, 5, 42, 29, 28, 96, 46]
abbrev dktX3_invNttToMont_2 : List UInt8 := dkwX3_invNttToMont_2 ++ dktX3_invNttToMont_3
def dkwX3_invNttToMont_1 : List UInt8 := [178, 0, 9, 132, 4, 255, 21, 4, 46, 104, 54, 6, 27, 62, 29, 27, 28, 96, 162, 0, 56, 42, 29, 46]
abbrev dktX3_invNttToMont_1 : List UInt8 := dkwX3_invNttToMont_1 ++ dktX3_invNttToMont_2
def dkwX3_invNttToMont_0 : List UInt8 := [17, 1, 0, 54, 4, 4, 61, 28, 17, 1, 0, 162, 0, 101, 3, 60, 27, 17, 1, 0, 162, 0, 85, 2]
abbrev dktX3_invNttToMont_0 : List UInt8 := dkwX3_invNttToMont_0 ++ dktX3_invNttToMont_1
theorem dksX3_invNttToMont_0 : cX3_invNttToMont.data.toList.drop 0 = dktX3_invNttToMont_0 := by decide +kernel
theorem dksX3_invNttToMont_1 : cX3_invNttToMont.data.toList.drop 24 = dktX3_invNttToMont_1 := dk_seg dksX3_invNttToMont_0 24 rfl rfl
theorem dksX3_invNttToMont_2 : cX3_invNttToMont.data.toList.drop 48 = dktX3_invNttToMont_2 := dk_seg dksX3_invNttToMont_1 24 rfl rfl
theorem dksX3_invNttToMont_3 : cX3_invNttToMont.data.toList.drop 72 = dktX3_invNttToMont_3 := dk_seg dksX3_invNttToMont_2 24 rfl rfl
theorem dksX3_invNttToMont_4 : cX3_invNttToMont.data.toList.drop 95 = dktX3_invNttToMont_4 := dk_seg dksX3_invNttToMont_3 23 rfl rfl
theorem dksX3_invNttToMont_5 : cX3_invNttToMont.data.toList.drop 118 = dktX3_invNttToMont_5 := dk_seg dksX3_invNttToMont_4 23 rfl rfl
theorem dX3_invNttToMont_0 : decode cX3_invNttToMont 0 = .ok (.sipush 256, 3) := dk_17 1 0 (dk_at dksX3_invNttToMont_0 0 rfl rfl)
theorem dX3_invNttToMont_3 : decode cX3_invNttToMont 3 = .ok (.istore 4, 2) := dk_54 4 (dk_at dksX3_invNttToMont_0 3 rfl rfl)
theorem dX3_invNttToMont_5 : decode cX3_invNttToMont 5 = .ok (.iconst 1, 1) := dk_4 (dk_at dksX3_invNttToMont_0 5 rfl rfl)
theorem dX3_invNttToMont_6 : decode cX3_invNttToMont 6 = .ok (.istore_n 2, 1) := dk_61 (dk_at dksX3_invNttToMont_0 6 rfl rfl)
theorem dX3_invNttToMont_7 : decode cX3_invNttToMont 7 = .ok (.iload_n 2, 1) := dk_28 (dk_at dksX3_invNttToMont_0 7 rfl rfl)
theorem dX3_invNttToMont_8 : decode cX3_invNttToMont 8 = .ok (.sipush 256, 3) := dk_17 1 0 (dk_at dksX3_invNttToMont_0 8 rfl rfl)
theorem dX3_invNttToMont_11 : decode cX3_invNttToMont 11 = .ok (.if_icmp .ge 101, 3) := dk_162 0 101 (dk_at dksX3_invNttToMont_0 11 rfl rfl)
theorem dX3_invNttToMont_14 : decode cX3_invNttToMont 14 = .ok (.iconst 0, 1) := dk_3 (dk_at dksX3_invNttToMont_0 14 rfl rfl)
theorem dX3_invNttToMont_15 : decode cX3_invNttToMont 15 = .ok (.istore_n 1, 1) := dk_60 (dk_at dksX3_invNttToMont_0 15 rfl rfl)
theorem dX3_invNttToMont_16 : decode cX3_invNttToMont 16 = .ok (.iload_n 1, 1) := dk_27 (dk_at dksX3_invNttToMont_0 16 rfl rfl)
theorem dX3_invNttToMont_17 : decode cX3_invNttToMont 17 = .ok (.sipush 256, 3) := dk_17 1 0 (dk_at dksX3_invNttToMont_0 17 rfl rfl)
theorem dX3_invNttToMont_20 : decode cX3_invNttToMont 20 = .ok (.if_icmp .ge 85, 3) := dk_162 0 85 (dk_at dksX3_invNttToMont_0 20 rfl rfl)
theorem dX3_invNttToMont_23 : decode cX3_invNttToMont 23 = .ok (.iconst (-1), 1) := dk_2 (dk_at dksX3_invNttToMont_0 23 rfl rfl)
theorem dX3_invNttToMont_24 : decode cX3_invNttToMont 24 = .ok (.getstatic 9, 3) := dk_178 0 9 (dk_at dksX3_invNttToMont_1 0 rfl rfl)
theorem dX3_invNttToMont_27 : decode cX3_invNttToMont 27 = .ok (.iinc 4 (-1), 3) := dk_132 4 255 (dk_at dksX3_invNttToMont_1 3 rfl rfl)
theorem dX3_invNttToMont_30 : decode cX3_invNttToMont 30 = .ok (.iload 4, 2) := dk_21 4 (dk_at dksX3_invNttToMont_1 6 rfl rfl)
theorem dX3_invNttToMont_32 : decode cX3_invNttToMont 32 = .ok (.iaload, 1) := dk_46 (dk_at dksX3_invNttToMont_1 8 rfl rfl)
theorem dX3_invNttToMont_33 : decode cX3_invNttToMont 33 = .ok (.imul, 1) := dk_104 (dk_at dksX3_invNttToMont_1 9 rfl rfl)
theorem dX3_invNttToMont_34 : decode cX3_invNttToMont 34 = .ok (.istore 6, 2) := dk_54 6 (dk_at dksX3_invNttToMont_1 10 rfl rfl)
theorem dX3_invNttToMont_36 : decode cX3_invNttToMont 36 = .ok (.iload_n 1, 1) := dk_27 (dk_at dksX3_invNttToMont_1 12 rfl rfl)
theorem dX3_invNttToMont_37 : decode cX3_invNttToMont 37 = .ok (.istore_n 3, 1) := dk_62 (dk_at dksX3_invNttToMont_1 13 rfl rfl)
theorem dX3_invNttToMont_38 : decode cX3_invNttToMont 38 = .ok (.iload_n 3, 1) := dk_29 (dk_at dksX3_invNttToMont_1 14 rfl rfl)
theorem dX3_invNttToMont_39 : decode cX3_invNttToMont 39 = .ok (.iload_n 1, 1) := dk_27 (dk_at dksX3_invNttToMont_1 15 rfl rfl)
theorem dX3_invNttToMont_40 : decode cX3_invNttToMont 40 = .ok (.iload_n 2, 1) := dk_28 (dk_at dksX3_invNttToMont_1 16 rfl rfl)
theorem dX3_invNttToMont_41 : decode cX3_invNttToMont 41 = .ok (.iadd, 1) := dk_96 (dk_at dksX3_invNttToMont_1 17 rfl rfl)
theorem dX3_invNttToMont_42 : decode cX3_invNttToMont 42 = .ok (.if_icmp .ge 56, 3) := dk_162 0 56 (dk_at dksX3_invNttToMont_1 18 rfl rfl)
theorem dX3_invNttToMont_45 : decode cX3_invNttToMont 45 = .ok (.aload_n 0, 1) := dk_42 (dk_at dksX3_invNttToMont_1 21 rfl rfl)
theorem dX3_invNttToMont_46 : decode cX3_invNttToMont 46 = .ok (.iload_n 3, 1) := dk_29 (dk_at dksX3_invNttToMont_1 22 rfl rfl)
theorem dX3_invNttToMont_47 : decode cX3_invNttToMont 47 = .ok (.iaload, 1) := dk_46 (dk_at dksX3_invNttToMont_1 23 rfl rfl)
theorem dX3_invNttToMont_48 : decode cX3_invNttToMont 48 = .ok (.istore 5, 2) := dk_54 5 (dk_at dksX3_invNttToMont_2 0 rfl rfl)
theorem dX3_invNttToMont_50 : decode cX3_invNttToMont 50 = .ok (.aload_n 0, 1) := dk_42 (dk_at dksX3_invNttToMont_2 2 rfl rfl)
theorem dX3_invNttToMont_51 : decode cX3_invNttToMont 51 = .ok (.iload_n 3, 1) := dk_29 (dk_at dksX3_invNttToMont_2 3 rfl rfl)
theorem dX3_invNttToMont_52 : decode cX3_invNttToMont 52 = .ok (.iload 5, 2) := dk_21 5 (dk_at dksX3_invNttToMont_2 4 rfl rfl)
theorem dX3_invNttToMont_54 : decode cX3_invNttToMont 54 = .ok (.aload_n 0, 1) := dk_42 (dk_at dksX3_invNttToMont_2 6 rfl rfl)
theorem dX3_invNttToMont_55 : decode cX3_invNttToMont 55 = .ok (.iload_n 3, 1) := dk_29 (dk_at dksX3_invNttToMont_2 7 rfl rfl)
theorem dX3_invNttToMont_56 : decode cX3_invNttToMont 56 = .ok (.iload_n 2, 1) := dk_28 (dk_at dksX3_invNttToMont_2 8 rfl rfl)
theorem dX3_invNttToMont_57 : decode cX3_invNttToMont 57 = .ok (.iadd, 1) := dk_96 (dk_at dksX3_invNttToMont_2 9 rfl rfl)
theorem dX3_invNttToMont_58 : decode cX3_invNttToMont 58 = .ok (.iaload, 1) := dk_46 (dk_at dksX3_invNttToMont_2 10 rfl rfl)
theorem dX3_invNttToMont_59 : decode cX3_invNttToMont 59 = .ok (.iadd, 1) := dk_96 (dk_at dksX3_invNttToMont_2 11 rfl rfl)
theorem dX3_invNttToMont_60 : decode cX3_invNttToMont 60 = .ok (.iastore, 1) := dk_79 (dk_at dksX3_invNttToMont_2 12 rfl rfl)
theorem dX3_invNttToMont_61 : decode cX3_invNttToMont 61 = .ok (.aload_n 0, 1) := dk_42 (dk_at dksX3_invNttToMont_2 13 rfl rfl)
theorem dX3_invNttToMont_62 : decode cX3_invNttToMont 62 = .ok (.iload_n 3, 1) := dk_29 (dk_at dksX3_invNttToMont_2 14 rfl rfl)
theorem dX3_invNttToMont_63 : decode cX3_invNttToMont 63 = .ok (.iload_n 2, 1) := dk_28 (dk_at dksX3_invNttToMont_2 15 rfl rfl)
theorem dX3_invNttToMont_64 : decode cX3_invNttToMont 64 = .ok (.iadd, 1) := dk_96 (dk_at dksX3_invNttToMont_2 16 rfl rfl)
theorem dX3_invNttToMont_65 : decode cX3_invNttToMont 65 = .ok (.iload 5, 2) := dk_21 5 (dk_at dksX3_invNttToMont_2 17 rfl rfl)
theorem dX3_invNttToMont_67 : decode cX3_invNttToMont 67 = .ok (.aload_n 0, 1) := dk_42 (dk_at dksX3_invNttToMont_2 19 rfl rfl)
theorem dX3_invNttToMont_68 : decode cX3_invNttToMont 68 = .ok (.iload_n 3, 1) := dk_29 (dk_at dksX3_invNttToMont_2 20 rfl rfl)
theorem dX3_invNttToMont_69 : decode cX3_invNttToMont 69 = .ok (.iload_n 2, 1) := dk_28 (dk_at dksX3_invNttToMont_2 21 rfl rfl)
theorem dX3_invNttToMont_70 : decode cX3_invNttToMont 70 = .ok (.iadd, 1) := dk_96 (dk_at dksX3_invNttToMont_2 22 rfl rfl)
theorem dX3_invNttToMont_71 : decode cX3_invNttToMont 71 = .ok (.iaload, 1) := dk_46 (dk_at dksX3_invNttToMont_2 23 rfl rfl)
theorem dX3_invNttToMont_72 : decode cX3_invNttToMont 72 = .ok (.isub, 1) := dk_100 (dk_at dksX3_invNttToMont_3 0 rfl rfl)
theorem dX3_invNttToMont_73 : decode cX3_invNttToMont 73 = .ok (.iastore, 1) := dk_79 (dk_at dksX3_invNttToMont_3 1 rfl rfl)
theorem dX3_invNttToMont_74 : decode cX3_invNttToMont 74 = .ok (.aload_n 0, 1) := dk_42 (dk_at dksX3_invNttToMont_3 2 rfl rfl)
theorem dX3_invNttToMont_75 : decode cX3_invNttToMont 75 = .ok (.iload_n 3, 1) := dk_29 (dk_at dksX3_invNttToMont_3 3 rfl rfl)
theorem dX3_invNttToMont_76 : decode cX3_invNttToMont 76 = .ok (.iload_n 2, 1) := dk_28 (dk_at dksX3_invNttToMont_3 4 rfl rfl)
theorem dX3_invNttToMont_77 : decode cX3_invNttToMont 77 = .ok (.iadd, 1) := dk_96 (dk_at dksX3_invNttToMont_3 5 rfl rfl)
theorem dX3_invNttToMont_78 : decode cX3_invNttToMont 78 = .ok (.iload 6, 2) := dk_21 6 (dk_at dksX3_invNttToMont_3 6 rfl rfl)
theorem dX3_invNttToMont_80 : decode cX3_invNttToMont 80 = .ok (.i2l, 1) := dk_133 (dk_at dksX3_invNttToMont_3 8 rfl rfl)
theorem dX3_invNttToMont_81 : decode cX3_invNttToMont 81 = .ok (.aload_n 0, 1) := dk_42 (dk_at dksX3_invNttToMont_3 9 rfl rfl)
theorem dX3_invNttToMont_82 : decode cX3_invNttToMont 82 = .ok (.iload_n 3, 1) := dk_29 (dk_at dksX3_invNttToMont_3 10 rfl rfl)
theorem dX3_invNttToMont_83 : decode cX3_invNttToMont 83 = .ok (.iload_n 2, 1) := dk_28 (dk_at dksX3_invNttToMont_3 11 rfl rfl)
theorem dX3_invNttToMont_84 : decode cX3_invNttToMont 84 = .ok (.iadd, 1) := dk_96 (dk_at dksX3_invNttToMont_3 12 rfl rfl)
theorem dX3_invNttToMont_85 : decode cX3_invNttToMont 85 = .ok (.iaload, 1) := dk_46 (dk_at dksX3_invNttToMont_3 13 rfl rfl)
theorem dX3_invNttToMont_86 : decode cX3_invNttToMont 86 = .ok (.i2l, 1) := dk_133 (dk_at dksX3_invNttToMont_3 14 rfl rfl)
theorem dX3_invNttToMont_87 : decode cX3_invNttToMont 87 = .ok (.lmul, 1) := dk_105 (dk_at dksX3_invNttToMont_3 15 rfl rfl)
theorem dX3_invNttToMont_88 : decode cX3_invNttToMont 88 = .ok (.invokestatic 15, 3) := dk_184 0 15 (dk_at dksX3_invNttToMont_3 16 rfl rfl)
theorem dX3_invNttToMont_91 : decode cX3_invNttToMont 91 = .ok (.iastore, 1) := dk_79 (dk_at dksX3_invNttToMont_3 19 rfl rfl)
theorem dX3_invNttToMont_92 : decode cX3_invNttToMont 92 = .ok (.iinc 3 1, 3) := dk_132 3 1 (dk_at dksX3_invNttToMont_3 20 rfl rfl)
theorem dX3_invNttToMont_95 : decode cX3_invNttToMont 95 = .ok (.goto (-57), 3) := dk_167 255 199 (dk_at dksX3_invNttToMont_4 0 rfl rfl)
theorem dX3_invNttToMont_98 : decode cX3_invNttToMont 98 = .ok (.iload_n 3, 1) := dk_29 (dk_at dksX3_invNttToMont_4 3 rfl rfl)
theorem dX3_invNttToMont_99 : decode cX3_invNttToMont 99 = .ok (.iload_n 2, 1) := dk_28 (dk_at dksX3_invNttToMont_4 4 rfl rfl)
theorem dX3_invNttToMont_100 : decode cX3_invNttToMont 100 = .ok (.iadd, 1) := dk_96 (dk_at dksX3_invNttToMont_4 5 rfl rfl)
theorem dX3_invNttToMont_101 : decode cX3_invNttToMont 101 = .ok (.istore_n 1, 1) := dk_60 (dk_at dksX3_invNttToMont_4 6 rfl rfl)
theorem dX3_invNttToMont_102 : decode cX3_invNttToMont 102 = .ok (.goto (-86), 3) := dk_167 255 170 (dk_at dksX3_invNttToMont_4 7 rfl rfl)
theorem dX3_invNttToMont_105 : decode cX3_invNttToMont 105 = .ok (.iload_n 2, 1) := dk_28 (dk_at dksX3_invNttToMont_4 10 rfl rfl)
theorem dX3_invNttToMont_106 : decode cX3_invNttToMont 106 = .ok (.iconst 1, 1) := dk_4 (dk_at dksX3_invNttToMont_4 11 rfl rfl)
theorem dX3_invNttToMont_107 : decode cX3_invNttToMont 107 = .ok (.ishl, 1) := dk_120 (dk_at dksX3_invNttToMont_4 12 rfl rfl)
theorem dX3_invNttToMont_108 : decode cX3_invNttToMont 108 = .ok (.istore_n 2, 1) := dk_61 (dk_at dksX3_invNttToMont_4 13 rfl rfl)
theorem dX3_invNttToMont_109 : decode cX3_invNttToMont 109 = .ok (.goto (-102), 3) := dk_167 255 154 (dk_at dksX3_invNttToMont_4 14 rfl rfl)
theorem dX3_invNttToMont_112 : decode cX3_invNttToMont 112 = .ok (.iconst 0, 1) := dk_3 (dk_at dksX3_invNttToMont_4 17 rfl rfl)
theorem dX3_invNttToMont_113 : decode cX3_invNttToMont 113 = .ok (.istore_n 3, 1) := dk_62 (dk_at dksX3_invNttToMont_4 18 rfl rfl)
theorem dX3_invNttToMont_114 : decode cX3_invNttToMont 114 = .ok (.iload_n 3, 1) := dk_29 (dk_at dksX3_invNttToMont_4 19 rfl rfl)
theorem dX3_invNttToMont_115 : decode cX3_invNttToMont 115 = .ok (.sipush 256, 3) := dk_17 1 0 (dk_at dksX3_invNttToMont_4 20 rfl rfl)
theorem dX3_invNttToMont_118 : decode cX3_invNttToMont 118 = .ok (.if_icmp .ge 23, 3) := dk_162 0 23 (dk_at dksX3_invNttToMont_5 0 rfl rfl)
theorem dX3_invNttToMont_121 : decode cX3_invNttToMont 121 = .ok (.aload_n 0, 1) := dk_42 (dk_at dksX3_invNttToMont_5 3 rfl rfl)
theorem dX3_invNttToMont_122 : decode cX3_invNttToMont 122 = .ok (.iload_n 3, 1) := dk_29 (dk_at dksX3_invNttToMont_5 4 rfl rfl)
theorem dX3_invNttToMont_123 : decode cX3_invNttToMont 123 = .ok (.ldc2_w 21, 3) := dk_20 0 21 (dk_at dksX3_invNttToMont_5 5 rfl rfl)
theorem dX3_invNttToMont_126 : decode cX3_invNttToMont 126 = .ok (.aload_n 0, 1) := dk_42 (dk_at dksX3_invNttToMont_5 8 rfl rfl)
theorem dX3_invNttToMont_127 : decode cX3_invNttToMont 127 = .ok (.iload_n 3, 1) := dk_29 (dk_at dksX3_invNttToMont_5 9 rfl rfl)
theorem dX3_invNttToMont_128 : decode cX3_invNttToMont 128 = .ok (.iaload, 1) := dk_46 (dk_at dksX3_invNttToMont_5 10 rfl rfl)
theorem dX3_invNttToMont_129 : decode cX3_invNttToMont 129 = .ok (.i2l, 1) := dk_133 (dk_at dksX3_invNttToMont_5 11 rfl rfl)
theorem dX3_invNttToMont_130 : decode cX3_invNttToMont 130 = .ok (.lmul, 1) := dk_105 (dk_at dksX3_invNttToMont_5 12 rfl rfl)
theorem dX3_invNttToMont_131 : decode cX3_invNttToMont 131 = .ok (.invokestatic 15, 3) := dk_184 0 15 (dk_at dksX3_invNttToMont_5 13 rfl rfl)
theorem dX3_invNttToMont_134 : decode cX3_invNttToMont 134 = .ok (.iastore, 1) := dk_79 (dk_at dksX3_invNttToMont_5 16 rfl rfl)
theorem dX3_invNttToMont_135 : decode cX3_invNttToMont 135 = .ok (.iinc 3 1, 3) := dk_132 3 1 (dk_at dksX3_invNttToMont_5 17 rfl rfl)
theorem dX3_invNttToMont_138 : decode cX3_invNttToMont 138 = .ok (.goto (-24), 3) := dk_167 255 232 (dk_at dksX3_invNttToMont_5 20 rfl rfl)
theorem dX3_invNttToMont_141 : decode cX3_invNttToMont 141 = .ok (.return_, 1) := dk_177 (dk_at dksX3_invNttToMont_5 23 rfl rfl)
theorem q3 : (Jvm.Cond.initialized "Ntt") ∈ lw_all := lw_g (lw_at lw_m0 3 rfl) rfl
theorem q22 : (Jvm.Cond.static ({ cls := "Ntt", name := "ntt", desc := "([I)V" } : Jvm.MethodName)) ∈ lw_all := lw_g (lw_at lw_m0 22 rfl) rfl
theorem q23 : (Jvm.Cond.code ({ cls := "Ntt", name := "ntt", desc := "([I)V" } : Jvm.MethodName) prog_4_method_2_code (7 : Nat) (Option.none : Option Jvm.ClassFile.FieldType)) ∈ lw_all := lw_g (lw_at lw_m0 23 rfl) rfl
theorem q24 : (Jvm.Cond.fieldLink "Ntt" (9 : Nat) "Ntt" "nttZetas" "[I") ∈ lw_all := lw_g (lw_at lw_m0 24 rfl) rfl
theorem q25 : (Jvm.Cond.laysStatic "Ntt" "nttZetas" "[I") ∈ lw_tbl := lw_at lw_m0 25 rfl
theorem q26 : (Jvm.Cond.methodLink "Ntt" (15 : Nat) ({ cls := "Reduce", name := "montgomeryReduce", desc := "(J)I" } : Jvm.MethodName)) ∈ lw_all := lw_g (lw_at lw_m0 26 rfl) rfl
theorem q33 : (Jvm.Cond.static ({ cls := "Ntt", name := "invNttToMont", desc := "([I)V" } : Jvm.MethodName)) ∈ lw_all := lw_g (lw_at lw_m0 33 rfl) rfl
theorem q34 : (Jvm.Cond.code ({ cls := "Ntt", name := "invNttToMont", desc := "([I)V" } : Jvm.MethodName) prog_4_method_3_code (7 : Nat) (Option.none : Option Jvm.ClassFile.FieldType)) ∈ lw_all := lw_g (lw_at lw_m0 34 rfl) rfl
theorem q35 : (Jvm.Cond.constantLong "Ntt" (21 : Nat) (41978 : Int64)) ∈ lw_all := lw_g (lw_at lw_m0 35 rfl) rfl
/-! HintRing -/
set_option maxRecDepth 100000
def RX1 : String := "HintRing"
def TX1 : u_T := fun k => match k with
  | _ => ("HintRing", "file", "[[I", false)
def tyX1 : Nat → FieldType := fun k => match k with
  | _ => .array (.array .int)
abbrev wsX10 : List Cond := u_ws RX1 TX1 1
theorem nmX1 : ∀ a, a < 1 → ∀ b, b < 1 → a ≠ b → (TX1 a).2.1 ≠ (TX1 b).2.1 := by decide +kernel
theorem tyX1_ok : ∀ k, k < 1 → parseFieldDescriptor (TX1 k).2.2.1 = some (tyX1 k) := by decide +kernel
abbrev cX1_put : ByteArray := prog_1_method_4_code
def yX1_put : MethodName := ⟨RX1, "put", "(III)V"⟩
def dkwX1_put_0 : List UInt8 := [42, 180, 0, 9, 27, 6, 126, 50, 28, 17, 0, 255, 126, 29, 184, 0, 25, 79, 177]
abbrev dktX1_put_0 : List UInt8 := dkwX1_put_0 ++ []
theorem dksX1_put_0 : cX1_put.data.toList.drop 0 = dktX1_put_0 := by decide +kernel
theorem dX1_put_0 : decode cX1_put 0 = .ok (.aload_n 0, 1) := dk_42 (dk_at dksX1_put_0 0 rfl rfl)
theorem dX1_put_1 : decode cX1_put 1 = .ok (.getfield 9, 3) := dk_180 0 9 (dk_at dksX1_put_0 1 rfl rfl)
theorem dX1_put_4 : decode cX1_put 4 = .ok (.iload_n 1, 1) := dk_27 (dk_at dksX1_put_0 4 rfl rfl)
theorem dX1_put_5 : decode cX1_put 5 = .ok (.iconst 3, 1) := dk_6 (dk_at dksX1_put_0 5 rfl rfl)
theorem dX1_put_6 : decode cX1_put 6 = .ok (.iand, 1) := dk_126 (dk_at dksX1_put_0 6 rfl rfl)
theorem dX1_put_7 : decode cX1_put 7 = .ok (.aaload, 1) := dk_50 (dk_at dksX1_put_0 7 rfl rfl)
theorem dX1_put_8 : decode cX1_put 8 = .ok (.iload_n 2, 1) := dk_28 (dk_at dksX1_put_0 8 rfl rfl)
theorem dX1_put_9 : decode cX1_put 9 = .ok (.sipush 255, 3) := dk_17 0 255 (dk_at dksX1_put_0 9 rfl rfl)
theorem dX1_put_12 : decode cX1_put 12 = .ok (.iand, 1) := dk_126 (dk_at dksX1_put_0 12 rfl rfl)
theorem dX1_put_13 : decode cX1_put 13 = .ok (.iload_n 3, 1) := dk_29 (dk_at dksX1_put_0 13 rfl rfl)
theorem dX1_put_14 : decode cX1_put 14 = .ok (.invokestatic 25, 3) := dk_184 0 25 (dk_at dksX1_put_0 14 rfl rfl)
theorem dX1_put_17 : decode cX1_put 17 = .ok (.iastore, 1) := dk_79 (dk_at dksX1_put_0 17 rfl rfl)
theorem dX1_put_18 : decode cX1_put 18 = .ok (.return_, 1) := dk_177 (dk_at dksX1_put_0 18 rfl rfl)
abbrev cX1_fair : ByteArray := prog_1_method_2_code
def yX1_fair : MethodName := ⟨RX1, "fair", "(I)I"⟩
def dkwX1_fair_0 : List UInt8 := [26, 18, 14, 126, 18, 15, 112, 172]
abbrev dktX1_fair_0 : List UInt8 := dkwX1_fair_0 ++ []
theorem dksX1_fair_0 : cX1_fair.data.toList.drop 0 = dktX1_fair_0 := by decide +kernel
theorem dX1_fair_0 : decode cX1_fair 0 = .ok (.iload_n 0, 1) := dk_26 (dk_at dksX1_fair_0 0 rfl rfl)
theorem dX1_fair_1 : decode cX1_fair 1 = .ok (.ldc 14, 2) := dk_18 14 (dk_at dksX1_fair_0 1 rfl rfl)
theorem dX1_fair_3 : decode cX1_fair 3 = .ok (.iand, 1) := dk_126 (dk_at dksX1_fair_0 3 rfl rfl)
theorem dX1_fair_4 : decode cX1_fair 4 = .ok (.ldc 15, 2) := dk_18 15 (dk_at dksX1_fair_0 4 rfl rfl)
theorem dX1_fair_6 : decode cX1_fair 6 = .ok (.irem, 1) := dk_112 (dk_at dksX1_fair_0 6 rfl rfl)
theorem dX1_fair_7 : decode cX1_fair 7 = .ok (.ireturn, 1) := dk_172 (dk_at dksX1_fair_0 7 rfl rfl)
abbrev cX1_spread : ByteArray := prog_1_method_5_code
def yX1_spread : MethodName := ⟨RX1, "spread", "(III)V"⟩
def dkwX1_spread_1 : List UInt8 := [29, 104, 96, 184, 0, 25, 79, 132, 4, 1, 167, 255, 225, 177]
abbrev dktX1_spread_1 : List UInt8 := dkwX1_spread_1 ++ []
def dkwX1_spread_0 : List UInt8 := [3, 54, 4, 21, 4, 17, 1, 0, 162, 0, 29, 42, 180, 0, 9, 27, 6, 126, 50, 21, 4, 28, 21, 4]
abbrev dktX1_spread_0 : List UInt8 := dkwX1_spread_0 ++ dktX1_spread_1
theorem dksX1_spread_0 : cX1_spread.data.toList.drop 0 = dktX1_spread_0 := by decide +kernel
theorem dksX1_spread_1 : cX1_spread.data.toList.drop 24 = dktX1_spread_1 := dk_seg dksX1_spread_0 24 rfl rfl
theorem dX1_spread_0 : decode cX1_spread 0 = .ok (.iconst 0, 1) := dk_3 (dk_at dksX1_spread_0 0 rfl rfl)
theorem dX1_spread_1 : decode cX1_spread 1 = .ok (.istore 4, 2) := dk_54 4 (dk_at dksX1_spread_0 1 rfl rfl)
theorem dX1_spread_3 : decode cX1_spread 3 = .ok (.iload 4, 2) := dk_21 4 (dk_at dksX1_spread_0 3 rfl rfl)
theorem dX1_spread_5 : decode cX1_spread 5 = .ok (.sipush 256, 3) := dk_17 1 0 (dk_at dksX1_spread_0 5 rfl rfl)
theorem dX1_spread_8 : decode cX1_spread 8 = .ok (.if_icmp .ge 29, 3) := dk_162 0 29 (dk_at dksX1_spread_0 8 rfl rfl)
theorem dX1_spread_11 : decode cX1_spread 11 = .ok (.aload_n 0, 1) := dk_42 (dk_at dksX1_spread_0 11 rfl rfl)
theorem dX1_spread_12 : decode cX1_spread 12 = .ok (.getfield 9, 3) := dk_180 0 9 (dk_at dksX1_spread_0 12 rfl rfl)
theorem dX1_spread_15 : decode cX1_spread 15 = .ok (.iload_n 1, 1) := dk_27 (dk_at dksX1_spread_0 15 rfl rfl)
theorem dX1_spread_16 : decode cX1_spread 16 = .ok (.iconst 3, 1) := dk_6 (dk_at dksX1_spread_0 16 rfl rfl)
theorem dX1_spread_17 : decode cX1_spread 17 = .ok (.iand, 1) := dk_126 (dk_at dksX1_spread_0 17 rfl rfl)
theorem dX1_spread_18 : decode cX1_spread 18 = .ok (.aaload, 1) := dk_50 (dk_at dksX1_spread_0 18 rfl rfl)
theorem dX1_spread_19 : decode cX1_spread 19 = .ok (.iload 4, 2) := dk_21 4 (dk_at dksX1_spread_0 19 rfl rfl)
theorem dX1_spread_21 : decode cX1_spread 21 = .ok (.iload_n 2, 1) := dk_28 (dk_at dksX1_spread_0 21 rfl rfl)
theorem dX1_spread_22 : decode cX1_spread 22 = .ok (.iload 4, 2) := dk_21 4 (dk_at dksX1_spread_0 22 rfl rfl)
theorem dX1_spread_24 : decode cX1_spread 24 = .ok (.iload_n 3, 1) := dk_29 (dk_at dksX1_spread_1 0 rfl rfl)
theorem dX1_spread_25 : decode cX1_spread 25 = .ok (.imul, 1) := dk_104 (dk_at dksX1_spread_1 1 rfl rfl)
theorem dX1_spread_26 : decode cX1_spread 26 = .ok (.iadd, 1) := dk_96 (dk_at dksX1_spread_1 2 rfl rfl)
theorem dX1_spread_27 : decode cX1_spread 27 = .ok (.invokestatic 25, 3) := dk_184 0 25 (dk_at dksX1_spread_1 3 rfl rfl)
theorem dX1_spread_30 : decode cX1_spread 30 = .ok (.iastore, 1) := dk_79 (dk_at dksX1_spread_1 6 rfl rfl)
theorem dX1_spread_31 : decode cX1_spread 31 = .ok (.iinc 4 1, 3) := dk_132 4 1 (dk_at dksX1_spread_1 7 rfl rfl)
theorem dX1_spread_34 : decode cX1_spread 34 = .ok (.goto (-31), 3) := dk_167 255 225 (dk_at dksX1_spread_1 10 rfl rfl)
theorem dX1_spread_37 : decode cX1_spread 37 = .ok (.return_, 1) := dk_177 (dk_at dksX1_spread_1 13 rfl rfl)
abbrev cX1_multiply : ByteArray := prog_1_method_6_code
def yX1_multiply : MethodName := ⟨RX1, "multiply", "(III)V"⟩
def dkwX1_multiply_6 : List UInt8 := [46, 184, 0, 41, 79, 132, 7, 1, 167, 255, 232, 42, 180, 0, 9, 27, 6, 126, 25, 6, 83, 177]
abbrev dktX1_multiply_6 : List UInt8 := dkwX1_multiply_6 ++ []
def dkwX1_multiply_5 : List UInt8 := [25, 6, 184, 0, 38, 3, 54, 7, 21, 7, 17, 1, 0, 162, 0, 22, 25, 6, 21, 7, 25, 6, 21, 7]
abbrev dktX1_multiply_5 : List UInt8 := dkwX1_multiply_5 ++ dktX1_multiply_6
def dkwX1_multiply_4 : List UInt8 := [25, 4, 21, 7, 46, 133, 25, 5, 21, 7, 46, 133, 105, 184, 0, 34, 79, 132, 7, 1, 167, 255, 224]
abbrev dktX1_multiply_4 : List UInt8 := dkwX1_multiply_4 ++ dktX1_multiply_5
def dkwX1_multiply_3 : List UInt8 := [184, 0, 28, 25, 5, 184, 0, 28, 3, 54, 7, 21, 7, 17, 1, 0, 162, 0, 30, 25, 6, 21, 7]
abbrev dktX1_multiply_3 : List UInt8 := dkwX1_multiply_3 ++ dktX1_multiply_4
def dkwX1_multiply_2 : List UInt8 := [25, 5, 21, 7, 42, 180, 0, 9, 29, 6, 126, 50, 21, 7, 46, 79, 132, 7, 1, 167, 255, 213, 25, 4]
abbrev dktX1_multiply_2 : List UInt8 := dkwX1_multiply_2 ++ dktX1_multiply_3
def dkwX1_multiply_1 : List UInt8 := [21, 7, 17, 1, 0, 162, 0, 41, 25, 4, 21, 7, 42, 180, 0, 9, 28, 6, 126, 50, 21, 7, 46, 79]
abbrev dktX1_multiply_1 : List UInt8 := dkwX1_multiply_1 ++ dktX1_multiply_2
def dkwX1_multiply_0 : List UInt8 := [17, 1, 0, 188, 10, 58, 4, 17, 1, 0, 188, 10, 58, 5, 17, 1, 0, 188, 10, 58, 6, 3, 54, 7]
abbrev dktX1_multiply_0 : List UInt8 := dkwX1_multiply_0 ++ dktX1_multiply_1
theorem dksX1_multiply_0 : cX1_multiply.data.toList.drop 0 = dktX1_multiply_0 := by decide +kernel
theorem dksX1_multiply_1 : cX1_multiply.data.toList.drop 24 = dktX1_multiply_1 := dk_seg dksX1_multiply_0 24 rfl rfl
theorem dksX1_multiply_2 : cX1_multiply.data.toList.drop 48 = dktX1_multiply_2 := dk_seg dksX1_multiply_1 24 rfl rfl
theorem dksX1_multiply_3 : cX1_multiply.data.toList.drop 72 = dktX1_multiply_3 := dk_seg dksX1_multiply_2 24 rfl rfl
theorem dksX1_multiply_4 : cX1_multiply.data.toList.drop 95 = dktX1_multiply_4 := dk_seg dksX1_multiply_3 23 rfl rfl
theorem dksX1_multiply_5 : cX1_multiply.data.toList.drop 118 = dktX1_multiply_5 := dk_seg dksX1_multiply_4 23 rfl rfl
theorem dksX1_multiply_6 : cX1_multiply.data.toList.drop 142 = dktX1_multiply_6 := dk_seg dksX1_multiply_5 24 rfl rfl
theorem dX1_multiply_0 : decode cX1_multiply 0 = .ok (.sipush 256, 3) := dk_17 1 0 (dk_at dksX1_multiply_0 0 rfl rfl)
theorem dX1_multiply_3 : decode cX1_multiply 3 = .ok (.newarray .int, 2) := dk_188_10 (dk_at dksX1_multiply_0 3 rfl rfl)
theorem dX1_multiply_5 : decode cX1_multiply 5 = .ok (.astore 4, 2) := dk_58 4 (dk_at dksX1_multiply_0 5 rfl rfl)
theorem dX1_multiply_7 : decode cX1_multiply 7 = .ok (.sipush 256, 3) := dk_17 1 0 (dk_at dksX1_multiply_0 7 rfl rfl)
theorem dX1_multiply_10 : decode cX1_multiply 10 = .ok (.newarray .int, 2) := dk_188_10 (dk_at dksX1_multiply_0 10 rfl rfl)
theorem dX1_multiply_12 : decode cX1_multiply 12 = .ok (.astore 5, 2) := dk_58 5 (dk_at dksX1_multiply_0 12 rfl rfl)
theorem dX1_multiply_14 : decode cX1_multiply 14 = .ok (.sipush 256, 3) := dk_17 1 0 (dk_at dksX1_multiply_0 14 rfl rfl)
theorem dX1_multiply_17 : decode cX1_multiply 17 = .ok (.newarray .int, 2) := dk_188_10 (dk_at dksX1_multiply_0 17 rfl rfl)
theorem dX1_multiply_19 : decode cX1_multiply 19 = .ok (.astore 6, 2) := dk_58 6 (dk_at dksX1_multiply_0 19 rfl rfl)
theorem dX1_multiply_21 : decode cX1_multiply 21 = .ok (.iconst 0, 1) := dk_3 (dk_at dksX1_multiply_0 21 rfl rfl)
theorem dX1_multiply_22 : decode cX1_multiply 22 = .ok (.istore 7, 2) := dk_54 7 (dk_at dksX1_multiply_0 22 rfl rfl)
theorem dX1_multiply_24 : decode cX1_multiply 24 = .ok (.iload 7, 2) := dk_21 7 (dk_at dksX1_multiply_1 0 rfl rfl)
theorem dX1_multiply_26 : decode cX1_multiply 26 = .ok (.sipush 256, 3) := dk_17 1 0 (dk_at dksX1_multiply_1 2 rfl rfl)
theorem dX1_multiply_29 : decode cX1_multiply 29 = .ok (.if_icmp .ge 41, 3) := dk_162 0 41 (dk_at dksX1_multiply_1 5 rfl rfl)
theorem dX1_multiply_32 : decode cX1_multiply 32 = .ok (.aload 4, 2) := dk_25 4 (dk_at dksX1_multiply_1 8 rfl rfl)
theorem dX1_multiply_34 : decode cX1_multiply 34 = .ok (.iload 7, 2) := dk_21 7 (dk_at dksX1_multiply_1 10 rfl rfl)
theorem dX1_multiply_36 : decode cX1_multiply 36 = .ok (.aload_n 0, 1) := dk_42 (dk_at dksX1_multiply_1 12 rfl rfl)
theorem dX1_multiply_37 : decode cX1_multiply 37 = .ok (.getfield 9, 3) := dk_180 0 9 (dk_at dksX1_multiply_1 13 rfl rfl)
theorem dX1_multiply_40 : decode cX1_multiply 40 = .ok (.iload_n 2, 1) := dk_28 (dk_at dksX1_multiply_1 16 rfl rfl)
theorem dX1_multiply_41 : decode cX1_multiply 41 = .ok (.iconst 3, 1) := dk_6 (dk_at dksX1_multiply_1 17 rfl rfl)
theorem dX1_multiply_42 : decode cX1_multiply 42 = .ok (.iand, 1) := dk_126 (dk_at dksX1_multiply_1 18 rfl rfl)
theorem dX1_multiply_43 : decode cX1_multiply 43 = .ok (.aaload, 1) := dk_50 (dk_at dksX1_multiply_1 19 rfl rfl)
theorem dX1_multiply_44 : decode cX1_multiply 44 = .ok (.iload 7, 2) := dk_21 7 (dk_at dksX1_multiply_1 20 rfl rfl)
theorem dX1_multiply_46 : decode cX1_multiply 46 = .ok (.iaload, 1) := dk_46 (dk_at dksX1_multiply_1 22 rfl rfl)
theorem dX1_multiply_47 : decode cX1_multiply 47 = .ok (.iastore, 1) := dk_79 (dk_at dksX1_multiply_1 23 rfl rfl)
theorem dX1_multiply_48 : decode cX1_multiply 48 = .ok (.aload 5, 2) := dk_25 5 (dk_at dksX1_multiply_2 0 rfl rfl)
theorem dX1_multiply_50 : decode cX1_multiply 50 = .ok (.iload 7, 2) := dk_21 7 (dk_at dksX1_multiply_2 2 rfl rfl)
theorem dX1_multiply_52 : decode cX1_multiply 52 = .ok (.aload_n 0, 1) := dk_42 (dk_at dksX1_multiply_2 4 rfl rfl)
theorem dX1_multiply_53 : decode cX1_multiply 53 = .ok (.getfield 9, 3) := dk_180 0 9 (dk_at dksX1_multiply_2 5 rfl rfl)
theorem dX1_multiply_56 : decode cX1_multiply 56 = .ok (.iload_n 3, 1) := dk_29 (dk_at dksX1_multiply_2 8 rfl rfl)
theorem dX1_multiply_57 : decode cX1_multiply 57 = .ok (.iconst 3, 1) := dk_6 (dk_at dksX1_multiply_2 9 rfl rfl)
theorem dX1_multiply_58 : decode cX1_multiply 58 = .ok (.iand, 1) := dk_126 (dk_at dksX1_multiply_2 10 rfl rfl)
theorem dX1_multiply_59 : decode cX1_multiply 59 = .ok (.aaload, 1) := dk_50 (dk_at dksX1_multiply_2 11 rfl rfl)
theorem dX1_multiply_60 : decode cX1_multiply 60 = .ok (.iload 7, 2) := dk_21 7 (dk_at dksX1_multiply_2 12 rfl rfl)
theorem dX1_multiply_62 : decode cX1_multiply 62 = .ok (.iaload, 1) := dk_46 (dk_at dksX1_multiply_2 14 rfl rfl)
theorem dX1_multiply_63 : decode cX1_multiply 63 = .ok (.iastore, 1) := dk_79 (dk_at dksX1_multiply_2 15 rfl rfl)
theorem dX1_multiply_64 : decode cX1_multiply 64 = .ok (.iinc 7 1, 3) := dk_132 7 1 (dk_at dksX1_multiply_2 16 rfl rfl)
theorem dX1_multiply_67 : decode cX1_multiply 67 = .ok (.goto (-43), 3) := dk_167 255 213 (dk_at dksX1_multiply_2 19 rfl rfl)
theorem dX1_multiply_70 : decode cX1_multiply 70 = .ok (.aload 4, 2) := dk_25 4 (dk_at dksX1_multiply_2 22 rfl rfl)
theorem dX1_multiply_72 : decode cX1_multiply 72 = .ok (.invokestatic 28, 3) := dk_184 0 28 (dk_at dksX1_multiply_3 0 rfl rfl)
theorem dX1_multiply_75 : decode cX1_multiply 75 = .ok (.aload 5, 2) := dk_25 5 (dk_at dksX1_multiply_3 3 rfl rfl)
theorem dX1_multiply_77 : decode cX1_multiply 77 = .ok (.invokestatic 28, 3) := dk_184 0 28 (dk_at dksX1_multiply_3 5 rfl rfl)
theorem dX1_multiply_80 : decode cX1_multiply 80 = .ok (.iconst 0, 1) := dk_3 (dk_at dksX1_multiply_3 8 rfl rfl)
theorem dX1_multiply_81 : decode cX1_multiply 81 = .ok (.istore 7, 2) := dk_54 7 (dk_at dksX1_multiply_3 9 rfl rfl)
theorem dX1_multiply_83 : decode cX1_multiply 83 = .ok (.iload 7, 2) := dk_21 7 (dk_at dksX1_multiply_3 11 rfl rfl)
theorem dX1_multiply_85 : decode cX1_multiply 85 = .ok (.sipush 256, 3) := dk_17 1 0 (dk_at dksX1_multiply_3 13 rfl rfl)
theorem dX1_multiply_88 : decode cX1_multiply 88 = .ok (.if_icmp .ge 30, 3) := dk_162 0 30 (dk_at dksX1_multiply_3 16 rfl rfl)
theorem dX1_multiply_91 : decode cX1_multiply 91 = .ok (.aload 6, 2) := dk_25 6 (dk_at dksX1_multiply_3 19 rfl rfl)
theorem dX1_multiply_93 : decode cX1_multiply 93 = .ok (.iload 7, 2) := dk_21 7 (dk_at dksX1_multiply_3 21 rfl rfl)
theorem dX1_multiply_95 : decode cX1_multiply 95 = .ok (.aload 4, 2) := dk_25 4 (dk_at dksX1_multiply_4 0 rfl rfl)
theorem dX1_multiply_97 : decode cX1_multiply 97 = .ok (.iload 7, 2) := dk_21 7 (dk_at dksX1_multiply_4 2 rfl rfl)
theorem dX1_multiply_99 : decode cX1_multiply 99 = .ok (.iaload, 1) := dk_46 (dk_at dksX1_multiply_4 4 rfl rfl)
theorem dX1_multiply_100 : decode cX1_multiply 100 = .ok (.i2l, 1) := dk_133 (dk_at dksX1_multiply_4 5 rfl rfl)
theorem dX1_multiply_101 : decode cX1_multiply 101 = .ok (.aload 5, 2) := dk_25 5 (dk_at dksX1_multiply_4 6 rfl rfl)
theorem dX1_multiply_103 : decode cX1_multiply 103 = .ok (.iload 7, 2) := dk_21 7 (dk_at dksX1_multiply_4 8 rfl rfl)
theorem dX1_multiply_105 : decode cX1_multiply 105 = .ok (.iaload, 1) := dk_46 (dk_at dksX1_multiply_4 10 rfl rfl)
theorem dX1_multiply_106 : decode cX1_multiply 106 = .ok (.i2l, 1) := dk_133 (dk_at dksX1_multiply_4 11 rfl rfl)
theorem dX1_multiply_107 : decode cX1_multiply 107 = .ok (.lmul, 1) := dk_105 (dk_at dksX1_multiply_4 12 rfl rfl)
theorem dX1_multiply_108 : decode cX1_multiply 108 = .ok (.invokestatic 34, 3) := dk_184 0 34 (dk_at dksX1_multiply_4 13 rfl rfl)
theorem dX1_multiply_111 : decode cX1_multiply 111 = .ok (.iastore, 1) := dk_79 (dk_at dksX1_multiply_4 16 rfl rfl)
theorem dX1_multiply_112 : decode cX1_multiply 112 = .ok (.iinc 7 1, 3) := dk_132 7 1 (dk_at dksX1_multiply_4 17 rfl rfl)
theorem dX1_multiply_115 : decode cX1_multiply 115 = .ok (.goto (-32), 3) := dk_167 255 224 (dk_at dksX1_multiply_4 20 rfl rfl)
theorem dX1_multiply_118 : decode cX1_multiply 118 = .ok (.aload 6, 2) := dk_25 6 (dk_at dksX1_multiply_5 0 rfl rfl)
theorem dX1_multiply_120 : decode cX1_multiply 120 = .ok (.invokestatic 38, 3) := dk_184 0 38 (dk_at dksX1_multiply_5 2 rfl rfl)
theorem dX1_multiply_123 : decode cX1_multiply 123 = .ok (.iconst 0, 1) := dk_3 (dk_at dksX1_multiply_5 5 rfl rfl)
theorem dX1_multiply_124 : decode cX1_multiply 124 = .ok (.istore 7, 2) := dk_54 7 (dk_at dksX1_multiply_5 6 rfl rfl)
theorem dX1_multiply_126 : decode cX1_multiply 126 = .ok (.iload 7, 2) := dk_21 7 (dk_at dksX1_multiply_5 8 rfl rfl)
theorem dX1_multiply_128 : decode cX1_multiply 128 = .ok (.sipush 256, 3) := dk_17 1 0 (dk_at dksX1_multiply_5 10 rfl rfl)
theorem dX1_multiply_131 : decode cX1_multiply 131 = .ok (.if_icmp .ge 22, 3) := dk_162 0 22 (dk_at dksX1_multiply_5 13 rfl rfl)
theorem dX1_multiply_134 : decode cX1_multiply 134 = .ok (.aload 6, 2) := dk_25 6 (dk_at dksX1_multiply_5 16 rfl rfl)
theorem dX1_multiply_136 : decode cX1_multiply 136 = .ok (.iload 7, 2) := dk_21 7 (dk_at dksX1_multiply_5 18 rfl rfl)
theorem dX1_multiply_138 : decode cX1_multiply 138 = .ok (.aload 6, 2) := dk_25 6 (dk_at dksX1_multiply_5 20 rfl rfl)
theorem dX1_multiply_140 : decode cX1_multiply 140 = .ok (.iload 7, 2) := dk_21 7 (dk_at dksX1_multiply_5 22 rfl rfl)
theorem dX1_multiply_142 : decode cX1_multiply 142 = .ok (.iaload, 1) := dk_46 (dk_at dksX1_multiply_6 0 rfl rfl)
theorem dX1_multiply_143 : decode cX1_multiply 143 = .ok (.invokestatic 41, 3) := dk_184 0 41 (dk_at dksX1_multiply_6 1 rfl rfl)
theorem dX1_multiply_146 : decode cX1_multiply 146 = .ok (.iastore, 1) := dk_79 (dk_at dksX1_multiply_6 4 rfl rfl)
theorem dX1_multiply_147 : decode cX1_multiply 147 = .ok (.iinc 7 1, 3) := dk_132 7 1 (dk_at dksX1_multiply_6 5 rfl rfl)
theorem dX1_multiply_150 : decode cX1_multiply 150 = .ok (.goto (-24), 3) := dk_167 255 232 (dk_at dksX1_multiply_6 8 rfl rfl)
theorem dX1_multiply_153 : decode cX1_multiply 153 = .ok (.aload_n 0, 1) := dk_42 (dk_at dksX1_multiply_6 11 rfl rfl)
theorem dX1_multiply_154 : decode cX1_multiply 154 = .ok (.getfield 9, 3) := dk_180 0 9 (dk_at dksX1_multiply_6 12 rfl rfl)
theorem dX1_multiply_157 : decode cX1_multiply 157 = .ok (.iload_n 1, 1) := dk_27 (dk_at dksX1_multiply_6 15 rfl rfl)
theorem dX1_multiply_158 : decode cX1_multiply 158 = .ok (.iconst 3, 1) := dk_6 (dk_at dksX1_multiply_6 16 rfl rfl)
theorem dX1_multiply_159 : decode cX1_multiply 159 = .ok (.iand, 1) := dk_126 (dk_at dksX1_multiply_6 17 rfl rfl)
theorem dX1_multiply_160 : decode cX1_multiply 160 = .ok (.aload 6, 2) := dk_25 6 (dk_at dksX1_multiply_6 18 rfl rfl)
theorem dX1_multiply_162 : decode cX1_multiply 162 = .ok (.aastore, 1) := dk_83 (dk_at dksX1_multiply_6 20 rfl rfl)
theorem dX1_multiply_163 : decode cX1_multiply 163 = .ok (.return_, 1) := dk_177 (dk_at dksX1_multiply_6 21 rfl rfl)
abbrev cX1_whole : ByteArray := prog_1_method_3_code
def yX1_whole : MethodName := ⟨RX1, "whole", "(I)I"⟩
def dkwX1_whole_0 : List UInt8 := [26, 184, 0, 16, 184, 0, 22, 172]
abbrev dktX1_whole_0 : List UInt8 := dkwX1_whole_0 ++ []
theorem dksX1_whole_0 : cX1_whole.data.toList.drop 0 = dktX1_whole_0 := by decide +kernel
theorem dX1_whole_0 : decode cX1_whole 0 = .ok (.iload_n 0, 1) := dk_26 (dk_at dksX1_whole_0 0 rfl rfl)
theorem dX1_whole_1 : decode cX1_whole 1 = .ok (.invokestatic 16, 3) := dk_184 0 16 (dk_at dksX1_whole_0 1 rfl rfl)
theorem dX1_whole_4 : decode cX1_whole 4 = .ok (.invokestatic 22, 3) := dk_184 0 22 (dk_at dksX1_whole_0 4 rfl rfl)
theorem dX1_whole_7 : decode cX1_whole 7 = .ok (.ireturn, 1) := dk_172 (dk_at dksX1_whole_0 7 rfl rfl)
abbrev cX1_add : ByteArray := prog_1_method_7_code
def yX1_add : MethodName := ⟨RX1, "add", "(II)V"⟩
def dkwX1_add_2 : List UInt8 := [132, 4, 1, 167, 255, 215, 42, 180, 0, 9, 27, 6, 126, 45, 83, 177]
abbrev dktX1_add_2 : List UInt8 := dkwX1_add_2 ++ []
def dkwX1_add_1 : List UInt8 := [27, 6, 126, 50, 21, 4, 46, 42, 180, 0, 9, 28, 6, 126, 50, 21, 4, 46, 96, 184, 0, 41, 79]
abbrev dktX1_add_1 : List UInt8 := dkwX1_add_1 ++ dktX1_add_2
def dkwX1_add_0 : List UInt8 := [17, 1, 0, 188, 10, 78, 3, 54, 4, 21, 4, 17, 1, 0, 162, 0, 39, 45, 21, 4, 42, 180, 0, 9]
abbrev dktX1_add_0 : List UInt8 := dkwX1_add_0 ++ dktX1_add_1
theorem dksX1_add_0 : cX1_add.data.toList.drop 0 = dktX1_add_0 := by decide +kernel
theorem dksX1_add_1 : cX1_add.data.toList.drop 24 = dktX1_add_1 := dk_seg dksX1_add_0 24 rfl rfl
theorem dksX1_add_2 : cX1_add.data.toList.drop 47 = dktX1_add_2 := dk_seg dksX1_add_1 23 rfl rfl
theorem dX1_add_0 : decode cX1_add 0 = .ok (.sipush 256, 3) := dk_17 1 0 (dk_at dksX1_add_0 0 rfl rfl)
theorem dX1_add_3 : decode cX1_add 3 = .ok (.newarray .int, 2) := dk_188_10 (dk_at dksX1_add_0 3 rfl rfl)
theorem dX1_add_5 : decode cX1_add 5 = .ok (.astore_n 3, 1) := dk_78 (dk_at dksX1_add_0 5 rfl rfl)
theorem dX1_add_6 : decode cX1_add 6 = .ok (.iconst 0, 1) := dk_3 (dk_at dksX1_add_0 6 rfl rfl)
theorem dX1_add_7 : decode cX1_add 7 = .ok (.istore 4, 2) := dk_54 4 (dk_at dksX1_add_0 7 rfl rfl)
theorem dX1_add_9 : decode cX1_add 9 = .ok (.iload 4, 2) := dk_21 4 (dk_at dksX1_add_0 9 rfl rfl)
theorem dX1_add_11 : decode cX1_add 11 = .ok (.sipush 256, 3) := dk_17 1 0 (dk_at dksX1_add_0 11 rfl rfl)
theorem dX1_add_14 : decode cX1_add 14 = .ok (.if_icmp .ge 39, 3) := dk_162 0 39 (dk_at dksX1_add_0 14 rfl rfl)
theorem dX1_add_17 : decode cX1_add 17 = .ok (.aload_n 3, 1) := dk_45 (dk_at dksX1_add_0 17 rfl rfl)
theorem dX1_add_18 : decode cX1_add 18 = .ok (.iload 4, 2) := dk_21 4 (dk_at dksX1_add_0 18 rfl rfl)
theorem dX1_add_20 : decode cX1_add 20 = .ok (.aload_n 0, 1) := dk_42 (dk_at dksX1_add_0 20 rfl rfl)
theorem dX1_add_21 : decode cX1_add 21 = .ok (.getfield 9, 3) := dk_180 0 9 (dk_at dksX1_add_0 21 rfl rfl)
theorem dX1_add_24 : decode cX1_add 24 = .ok (.iload_n 1, 1) := dk_27 (dk_at dksX1_add_1 0 rfl rfl)
theorem dX1_add_25 : decode cX1_add 25 = .ok (.iconst 3, 1) := dk_6 (dk_at dksX1_add_1 1 rfl rfl)
theorem dX1_add_26 : decode cX1_add 26 = .ok (.iand, 1) := dk_126 (dk_at dksX1_add_1 2 rfl rfl)
theorem dX1_add_27 : decode cX1_add 27 = .ok (.aaload, 1) := dk_50 (dk_at dksX1_add_1 3 rfl rfl)
theorem dX1_add_28 : decode cX1_add 28 = .ok (.iload 4, 2) := dk_21 4 (dk_at dksX1_add_1 4 rfl rfl)
theorem dX1_add_30 : decode cX1_add 30 = .ok (.iaload, 1) := dk_46 (dk_at dksX1_add_1 6 rfl rfl)
theorem dX1_add_31 : decode cX1_add 31 = .ok (.aload_n 0, 1) := dk_42 (dk_at dksX1_add_1 7 rfl rfl)
theorem dX1_add_32 : decode cX1_add 32 = .ok (.getfield 9, 3) := dk_180 0 9 (dk_at dksX1_add_1 8 rfl rfl)
theorem dX1_add_35 : decode cX1_add 35 = .ok (.iload_n 2, 1) := dk_28 (dk_at dksX1_add_1 11 rfl rfl)
theorem dX1_add_36 : decode cX1_add 36 = .ok (.iconst 3, 1) := dk_6 (dk_at dksX1_add_1 12 rfl rfl)
theorem dX1_add_37 : decode cX1_add 37 = .ok (.iand, 1) := dk_126 (dk_at dksX1_add_1 13 rfl rfl)
theorem dX1_add_38 : decode cX1_add 38 = .ok (.aaload, 1) := dk_50 (dk_at dksX1_add_1 14 rfl rfl)
theorem dX1_add_39 : decode cX1_add 39 = .ok (.iload 4, 2) := dk_21 4 (dk_at dksX1_add_1 15 rfl rfl)
theorem dX1_add_41 : decode cX1_add 41 = .ok (.iaload, 1) := dk_46 (dk_at dksX1_add_1 17 rfl rfl)
theorem dX1_add_42 : decode cX1_add 42 = .ok (.iadd, 1) := dk_96 (dk_at dksX1_add_1 18 rfl rfl)
theorem dX1_add_43 : decode cX1_add 43 = .ok (.invokestatic 41, 3) := dk_184 0 41 (dk_at dksX1_add_1 19 rfl rfl)
theorem dX1_add_46 : decode cX1_add 46 = .ok (.iastore, 1) := dk_79 (dk_at dksX1_add_1 22 rfl rfl)
theorem dX1_add_47 : decode cX1_add 47 = .ok (.iinc 4 1, 3) := dk_132 4 1 (dk_at dksX1_add_2 0 rfl rfl)
theorem dX1_add_50 : decode cX1_add 50 = .ok (.goto (-41), 3) := dk_167 255 215 (dk_at dksX1_add_2 3 rfl rfl)
theorem dX1_add_53 : decode cX1_add 53 = .ok (.aload_n 0, 1) := dk_42 (dk_at dksX1_add_2 6 rfl rfl)
theorem dX1_add_54 : decode cX1_add 54 = .ok (.getfield 9, 3) := dk_180 0 9 (dk_at dksX1_add_2 7 rfl rfl)
theorem dX1_add_57 : decode cX1_add 57 = .ok (.iload_n 1, 1) := dk_27 (dk_at dksX1_add_2 10 rfl rfl)
theorem dX1_add_58 : decode cX1_add 58 = .ok (.iconst 3, 1) := dk_6 (dk_at dksX1_add_2 11 rfl rfl)
theorem dX1_add_59 : decode cX1_add 59 = .ok (.iand, 1) := dk_126 (dk_at dksX1_add_2 12 rfl rfl)
theorem dX1_add_60 : decode cX1_add 60 = .ok (.aload_n 3, 1) := dk_45 (dk_at dksX1_add_2 13 rfl rfl)
theorem dX1_add_61 : decode cX1_add 61 = .ok (.aastore, 1) := dk_83 (dk_at dksX1_add_2 14 rfl rfl)
theorem dX1_add_62 : decode cX1_add 62 = .ok (.return_, 1) := dk_177 (dk_at dksX1_add_2 15 rfl rfl)
abbrev cX1_coefficient : ByteArray := prog_1_method_8_code
def yX1_coefficient : MethodName := ⟨RX1, "coefficient", "(II)I"⟩
def dkwX1_coefficient_0 : List UInt8 := [42, 180, 0, 9, 27, 6, 126, 50, 28, 17, 0, 255, 126, 46, 172]
abbrev dktX1_coefficient_0 : List UInt8 := dkwX1_coefficient_0 ++ []
theorem dksX1_coefficient_0 : cX1_coefficient.data.toList.drop 0 = dktX1_coefficient_0 := by decide +kernel
theorem dX1_coefficient_0 : decode cX1_coefficient 0 = .ok (.aload_n 0, 1) := dk_42 (dk_at dksX1_coefficient_0 0 rfl rfl)
theorem dX1_coefficient_1 : decode cX1_coefficient 1 = .ok (.getfield 9, 3) := dk_180 0 9 (dk_at dksX1_coefficient_0 1 rfl rfl)
theorem dX1_coefficient_4 : decode cX1_coefficient 4 = .ok (.iload_n 1, 1) := dk_27 (dk_at dksX1_coefficient_0 4 rfl rfl)
theorem dX1_coefficient_5 : decode cX1_coefficient 5 = .ok (.iconst 3, 1) := dk_6 (dk_at dksX1_coefficient_0 5 rfl rfl)
theorem dX1_coefficient_6 : decode cX1_coefficient 6 = .ok (.iand, 1) := dk_126 (dk_at dksX1_coefficient_0 6 rfl rfl)
theorem dX1_coefficient_7 : decode cX1_coefficient 7 = .ok (.aaload, 1) := dk_50 (dk_at dksX1_coefficient_0 7 rfl rfl)
theorem dX1_coefficient_8 : decode cX1_coefficient 8 = .ok (.iload_n 2, 1) := dk_28 (dk_at dksX1_coefficient_0 8 rfl rfl)
theorem dX1_coefficient_9 : decode cX1_coefficient 9 = .ok (.sipush 255, 3) := dk_17 0 255 (dk_at dksX1_coefficient_0 9 rfl rfl)
theorem dX1_coefficient_12 : decode cX1_coefficient 12 = .ok (.iand, 1) := dk_126 (dk_at dksX1_coefficient_0 12 rfl rfl)
theorem dX1_coefficient_13 : decode cX1_coefficient 13 = .ok (.iaload, 1) := dk_46 (dk_at dksX1_coefficient_0 13 rfl rfl)
theorem dX1_coefficient_14 : decode cX1_coefficient 14 = .ok (.ireturn, 1) := dk_172 (dk_at dksX1_coefficient_0 14 rfl rfl)
abbrev cX1_init : ByteArray := prog_1_method_1_code
def yX1_init : MethodName := ⟨RX1, "<init>", "()V"⟩
def dkwX1_init_0 : List UInt8 := [42, 183, 0, 1, 42, 7, 17, 1, 0, 197, 0, 7, 2, 181, 0, 9, 177]
abbrev dktX1_init_0 : List UInt8 := dkwX1_init_0 ++ []
theorem dksX1_init_0 : cX1_init.data.toList.drop 0 = dktX1_init_0 := by decide +kernel
theorem dX1_init_0 : decode cX1_init 0 = .ok (.aload_n 0, 1) := dk_42 (dk_at dksX1_init_0 0 rfl rfl)
theorem dX1_init_1 : decode cX1_init 1 = .ok (.invokespecial 1, 3) := dk_183 0 1 (dk_at dksX1_init_0 1 rfl rfl)
theorem dX1_init_4 : decode cX1_init 4 = .ok (.aload_n 0, 1) := dk_42 (dk_at dksX1_init_0 4 rfl rfl)
theorem dX1_init_5 : decode cX1_init 5 = .ok (.iconst 4, 1) := dk_7 (dk_at dksX1_init_0 5 rfl rfl)
theorem dX1_init_6 : decode cX1_init 6 = .ok (.sipush 256, 3) := dk_17 1 0 (dk_at dksX1_init_0 6 rfl rfl)
theorem dX1_init_9 : decode cX1_init 9 = .ok (.multianewarray 7 2, 4) := by decide +kernel
theorem dX1_init_13 : decode cX1_init 13 = .ok (.putfield 9, 3) := dk_181 0 9 (dk_at dksX1_init_0 13 rfl rfl)
theorem dX1_init_16 : decode cX1_init 16 = .ok (.return_, 1) := dk_177 (dk_at dksX1_init_0 16 rfl rfl)
theorem q1 : (Jvm.Cond.initialized "HintRing") ∈ lw_all := lw_g (lw_at lw_m0 1 rfl) rfl
theorem q5 : (Jvm.Cond.instanceMethod ({ cls := "HintRing", name := "put", desc := "(III)V" } : Jvm.MethodName)) ∈ lw_all := lw_g (lw_at lw_m0 5 rfl) rfl
theorem q6 : (Jvm.Cond.selects "HintRing" ({ cls := "HintRing", name := "put", desc := "(III)V" } : Jvm.MethodName) ({ cls := "HintRing", name := "put", desc := "(III)V" } : Jvm.MethodName)) ∈ lw_all := lw_g (lw_at lw_m0 6 rfl) rfl
theorem q7 : (Jvm.Cond.code ({ cls := "HintRing", name := "put", desc := "(III)V" } : Jvm.MethodName) prog_1_method_4_code (4 : Nat) (Option.none : Option Jvm.ClassFile.FieldType)) ∈ lw_all := lw_g (lw_at lw_m0 7 rfl) rfl
theorem q8 : (Jvm.Cond.methodLink "HintRing" (25 : Nat) ({ cls := "HintRing", name := "fair", desc := "(I)I" } : Jvm.MethodName)) ∈ lw_all := lw_g (lw_at lw_m0 8 rfl) rfl
theorem q9 : (Jvm.Cond.static ({ cls := "HintRing", name := "fair", desc := "(I)I" } : Jvm.MethodName)) ∈ lw_all := lw_g (lw_at lw_m0 9 rfl) rfl
theorem q10 : (Jvm.Cond.code ({ cls := "HintRing", name := "fair", desc := "(I)I" } : Jvm.MethodName) prog_1_method_2_code (1 : Nat) (Option.some Jvm.ClassFile.FieldType.int)) ∈ lw_all := lw_g (lw_at lw_m0 10 rfl) rfl
theorem q11 : (Jvm.Cond.constant "HintRing" (14 : Nat) (2147483647 : Int32)) ∈ lw_all := lw_g (lw_at lw_m0 11 rfl) rfl
theorem q12 : (Jvm.Cond.constant "HintRing" (15 : Nat) (8380417 : Int32)) ∈ lw_all := lw_g (lw_at lw_m0 12 rfl) rfl
theorem q14 : (Jvm.Cond.instanceMethod ({ cls := "HintRing", name := "spread", desc := "(III)V" } : Jvm.MethodName)) ∈ lw_all := lw_g (lw_at lw_m0 14 rfl) rfl
theorem q15 : (Jvm.Cond.selects "HintRing" ({ cls := "HintRing", name := "spread", desc := "(III)V" } : Jvm.MethodName) ({ cls := "HintRing", name := "spread", desc := "(III)V" } : Jvm.MethodName)) ∈ lw_all := lw_g (lw_at lw_m0 15 rfl) rfl
theorem q16 : (Jvm.Cond.code ({ cls := "HintRing", name := "spread", desc := "(III)V" } : Jvm.MethodName) prog_1_method_5_code (5 : Nat) (Option.none : Option Jvm.ClassFile.FieldType)) ∈ lw_all := lw_g (lw_at lw_m0 16 rfl) rfl
theorem q18 : (Jvm.Cond.instanceMethod ({ cls := "HintRing", name := "multiply", desc := "(III)V" } : Jvm.MethodName)) ∈ lw_all := lw_g (lw_at lw_m0 18 rfl) rfl
theorem q19 : (Jvm.Cond.selects "HintRing" ({ cls := "HintRing", name := "multiply", desc := "(III)V" } : Jvm.MethodName) ({ cls := "HintRing", name := "multiply", desc := "(III)V" } : Jvm.MethodName)) ∈ lw_all := lw_g (lw_at lw_m0 19 rfl) rfl
theorem q20 : (Jvm.Cond.code ({ cls := "HintRing", name := "multiply", desc := "(III)V" } : Jvm.MethodName) prog_1_method_6_code (8 : Nat) (Option.none : Option Jvm.ClassFile.FieldType)) ∈ lw_all := lw_g (lw_at lw_m0 20 rfl) rfl
theorem q21 : (Jvm.Cond.methodLink "HintRing" (28 : Nat) ({ cls := "Ntt", name := "ntt", desc := "([I)V" } : Jvm.MethodName)) ∈ lw_all := lw_g (lw_at lw_m0 21 rfl) rfl
theorem q31 : (Jvm.Cond.methodLink "HintRing" (34 : Nat) ({ cls := "Reduce", name := "montgomeryReduce", desc := "(J)I" } : Jvm.MethodName)) ∈ lw_all := lw_g (lw_at lw_m0 31 rfl) rfl
theorem q32 : (Jvm.Cond.methodLink "HintRing" (38 : Nat) ({ cls := "Ntt", name := "invNttToMont", desc := "([I)V" } : Jvm.MethodName)) ∈ lw_all := lw_g (lw_at lw_m0 32 rfl) rfl
theorem q36 : (Jvm.Cond.methodLink "HintRing" (41 : Nat) ({ cls := "HintRing", name := "whole", desc := "(I)I" } : Jvm.MethodName)) ∈ lw_all := lw_g (lw_at lw_m0 36 rfl) rfl
theorem q37 : (Jvm.Cond.static ({ cls := "HintRing", name := "whole", desc := "(I)I" } : Jvm.MethodName)) ∈ lw_all := lw_g (lw_at lw_m0 37 rfl) rfl
theorem q38 : (Jvm.Cond.code ({ cls := "HintRing", name := "whole", desc := "(I)I" } : Jvm.MethodName) prog_1_method_3_code (1 : Nat) (Option.some Jvm.ClassFile.FieldType.int)) ∈ lw_all := lw_g (lw_at lw_m0 38 rfl) rfl
theorem q39 : (Jvm.Cond.methodLink "HintRing" (16 : Nat) ({ cls := "Reduce", name := "reduce32", desc := "(I)I" } : Jvm.MethodName)) ∈ lw_all := lw_g (lw_at lw_m0 39 rfl) rfl
theorem q44 : (Jvm.Cond.methodLink "HintRing" (22 : Nat) ({ cls := "Reduce", name := "conditionalAddQ", desc := "(I)I" } : Jvm.MethodName)) ∈ lw_all := lw_g (lw_at lw_m0 44 rfl) rfl
theorem q49 : (Jvm.Cond.instanceMethod ({ cls := "HintRing", name := "add", desc := "(II)V" } : Jvm.MethodName)) ∈ lw_all := lw_g (lw_at lw_m0 49 rfl) rfl
theorem q50 : (Jvm.Cond.selects "HintRing" ({ cls := "HintRing", name := "add", desc := "(II)V" } : Jvm.MethodName) ({ cls := "HintRing", name := "add", desc := "(II)V" } : Jvm.MethodName)) ∈ lw_all := lw_g (lw_at lw_m0 50 rfl) rfl
theorem q51 : (Jvm.Cond.code ({ cls := "HintRing", name := "add", desc := "(II)V" } : Jvm.MethodName) prog_1_method_7_code (5 : Nat) (Option.none : Option Jvm.ClassFile.FieldType)) ∈ lw_all := lw_g (lw_at lw_m0 51 rfl) rfl
theorem q53 : (Jvm.Cond.instanceMethod ({ cls := "HintRing", name := "coefficient", desc := "(II)I" } : Jvm.MethodName)) ∈ lw_all := lw_g (lw_at lw_m0 53 rfl) rfl
theorem q54 : (Jvm.Cond.selects "HintRing" ({ cls := "HintRing", name := "coefficient", desc := "(II)I" } : Jvm.MethodName) ({ cls := "HintRing", name := "coefficient", desc := "(II)I" } : Jvm.MethodName)) ∈ lw_all := lw_g (lw_at lw_m0 54 rfl) rfl
theorem q55 : (Jvm.Cond.code ({ cls := "HintRing", name := "coefficient", desc := "(II)I" } : Jvm.MethodName) prog_1_method_8_code (3 : Nat) (Option.some Jvm.ClassFile.FieldType.int)) ∈ lw_all := lw_g (lw_at lw_m0 55 rfl) rfl
theorem q63 : (Jvm.Cond.instantiable "HintRing" (1 : Nat)) ∈ lw_all := lw_g (lw_at lw_m0 63 rfl) rfl
theorem q65 : (Jvm.Cond.instanceMethod ({ cls := "HintRing", name := "<init>", desc := "()V" } : Jvm.MethodName)) ∈ lw_all := lw_g (lw_at lw_m0 65 rfl) rfl
theorem q66 : (Jvm.Cond.code ({ cls := "HintRing", name := "<init>", desc := "()V" } : Jvm.MethodName) prog_1_method_1_code (1 : Nat) (Option.none : Option Jvm.ClassFile.FieldType)) ∈ lw_all := lw_g (lw_at lw_m0 66 rfl) rfl
theorem q67 : (Jvm.Cond.methodLink "HintRing" (1 : Nat) ({ cls := "java/lang/Object", name := "<init>", desc := "()V" } : Jvm.MethodName)) ∈ lw_all := lw_g (lw_at lw_m0 67 rfl) rfl
theorem q70 : (Jvm.Cond.classLink "HintRing" (7 : Nat) "[[I") ∈ lw_all := lw_g (lw_at lw_m0 70 rfl) rfl
theorem q72 : (Jvm.Cond.fieldLink "HintRing" (9 : Nat) "HintRing" "file" "[[I") ∈ lw_all := lw_g (lw_at lw_m0 72 rfl) rfl
theorem q73 : (Jvm.Cond.lays "HintRing" "HintRing" "file" "[[I") ∈ lw_all := lw_g (lw_at lw_m0 73 rfl) rfl
theorem q74 : (Jvm.Cond.soleField "HintRing" "file") ∈ lw_all := lw_g (lw_at lw_m0 74 rfl) rfl
theorem q75 : (Jvm.Cond.superclass "HintRing" "java/lang/Object") ∈ lw_all := lw_g (lw_at lw_m0 75 rfl) rfl
theorem in_X1 : ∀ w ∈ wsX10, w ∈ lw_all := lw_in wsX10 [73] (by decide +kernel) (by decide +kernel)
/-! HintRingLaw -/
set_option maxRecDepth 100000
def RX0 : String := "HintRingLaw"
abbrev cX0_cell : ByteArray := method_2_code
def yX0_cell : MethodName := ⟨RX0, "cell", "([II)I"⟩
def dkwX0_cell_0 : List UInt8 := [27, 42, 190, 162, 0, 9, 42, 27, 46, 167, 0, 4, 3, 172]
abbrev dktX0_cell_0 : List UInt8 := dkwX0_cell_0 ++ []
theorem dksX0_cell_0 : cX0_cell.data.toList.drop 0 = dktX0_cell_0 := by decide +kernel
theorem dX0_cell_0 : decode cX0_cell 0 = .ok (.iload_n 1, 1) := dk_27 (dk_at dksX0_cell_0 0 rfl rfl)
theorem dX0_cell_1 : decode cX0_cell 1 = .ok (.aload_n 0, 1) := dk_42 (dk_at dksX0_cell_0 1 rfl rfl)
theorem dX0_cell_2 : decode cX0_cell 2 = .ok (.arraylength, 1) := dk_190 (dk_at dksX0_cell_0 2 rfl rfl)
theorem dX0_cell_3 : decode cX0_cell 3 = .ok (.if_icmp .ge 9, 3) := dk_162 0 9 (dk_at dksX0_cell_0 3 rfl rfl)
theorem dX0_cell_6 : decode cX0_cell 6 = .ok (.aload_n 0, 1) := dk_42 (dk_at dksX0_cell_0 6 rfl rfl)
theorem dX0_cell_7 : decode cX0_cell 7 = .ok (.iload_n 1, 1) := dk_27 (dk_at dksX0_cell_0 7 rfl rfl)
theorem dX0_cell_8 : decode cX0_cell 8 = .ok (.iaload, 1) := dk_46 (dk_at dksX0_cell_0 8 rfl rfl)
theorem dX0_cell_9 : decode cX0_cell 9 = .ok (.goto 4, 3) := dk_167 0 4 (dk_at dksX0_cell_0 9 rfl rfl)
theorem dX0_cell_12 : decode cX0_cell 12 = .ok (.iconst 0, 1) := dk_3 (dk_at dksX0_cell_0 12 rfl rfl)
theorem dX0_cell_13 : decode cX0_cell 13 = .ok (.ireturn, 1) := dk_172 (dk_at dksX0_cell_0 13 rfl rfl)
abbrev cX0_three : ByteArray := method_3_code
def yX0_three : MethodName := ⟨RX0, "three", "([I)LHintRing;"⟩
def dkwX0_three_3 : List UInt8 := [132, 2, 2, 167, 255, 228, 43, 6, 3, 3, 182, 0, 16, 43, 176]
abbrev dktX0_three_3 : List UInt8 := dkwX0_three_3 ++ []
def dkwX0_three_2 : List UInt8 := [42, 190, 162, 0, 26, 43, 28, 4, 122, 4, 126, 42, 28, 46, 42, 28, 4, 96, 46, 182, 0, 20]
abbrev dktX0_three_2 : List UInt8 := dkwX0_three_2 ++ dktX0_three_3
def dkwX0_three_1 : List UInt8 := [42, 5, 28, 104, 4, 96, 184, 0, 10, 182, 0, 16, 132, 2, 1, 167, 255, 227, 16, 6, 61, 28, 4, 96]
abbrev dktX0_three_1 : List UInt8 := dkwX0_three_1 ++ dktX0_three_2
def dkwX0_three_0 : List UInt8 := [187, 0, 7, 89, 183, 0, 9, 76, 3, 61, 28, 6, 162, 0, 30, 43, 28, 42, 5, 28, 104, 184, 0, 10]
abbrev dktX0_three_0 : List UInt8 := dkwX0_three_0 ++ dktX0_three_1
theorem dksX0_three_0 : cX0_three.data.toList.drop 0 = dktX0_three_0 := by decide +kernel
theorem dksX0_three_1 : cX0_three.data.toList.drop 24 = dktX0_three_1 := dk_seg dksX0_three_0 24 rfl rfl
theorem dksX0_three_2 : cX0_three.data.toList.drop 48 = dktX0_three_2 := dk_seg dksX0_three_1 24 rfl rfl
theorem dksX0_three_3 : cX0_three.data.toList.drop 70 = dktX0_three_3 := dk_seg dksX0_three_2 22 rfl rfl
theorem dX0_three_0 : decode cX0_three 0 = .ok (.new 7, 3) := dk_187 0 7 (dk_at dksX0_three_0 0 rfl rfl)
theorem dX0_three_3 : decode cX0_three 3 = .ok (.dup, 1) := dk_89 (dk_at dksX0_three_0 3 rfl rfl)
theorem dX0_three_4 : decode cX0_three 4 = .ok (.invokespecial 9, 3) := dk_183 0 9 (dk_at dksX0_three_0 4 rfl rfl)
theorem dX0_three_7 : decode cX0_three 7 = .ok (.astore_n 1, 1) := dk_76 (dk_at dksX0_three_0 7 rfl rfl)
theorem dX0_three_8 : decode cX0_three 8 = .ok (.iconst 0, 1) := dk_3 (dk_at dksX0_three_0 8 rfl rfl)
theorem dX0_three_9 : decode cX0_three 9 = .ok (.istore_n 2, 1) := dk_61 (dk_at dksX0_three_0 9 rfl rfl)
theorem dX0_three_10 : decode cX0_three 10 = .ok (.iload_n 2, 1) := dk_28 (dk_at dksX0_three_0 10 rfl rfl)
theorem dX0_three_11 : decode cX0_three 11 = .ok (.iconst 3, 1) := dk_6 (dk_at dksX0_three_0 11 rfl rfl)
theorem dX0_three_12 : decode cX0_three 12 = .ok (.if_icmp .ge 30, 3) := dk_162 0 30 (dk_at dksX0_three_0 12 rfl rfl)
theorem dX0_three_15 : decode cX0_three 15 = .ok (.aload_n 1, 1) := dk_43 (dk_at dksX0_three_0 15 rfl rfl)
theorem dX0_three_16 : decode cX0_three 16 = .ok (.iload_n 2, 1) := dk_28 (dk_at dksX0_three_0 16 rfl rfl)
theorem dX0_three_17 : decode cX0_three 17 = .ok (.aload_n 0, 1) := dk_42 (dk_at dksX0_three_0 17 rfl rfl)
theorem dX0_three_18 : decode cX0_three 18 = .ok (.iconst 2, 1) := dk_5 (dk_at dksX0_three_0 18 rfl rfl)
theorem dX0_three_19 : decode cX0_three 19 = .ok (.iload_n 2, 1) := dk_28 (dk_at dksX0_three_0 19 rfl rfl)
theorem dX0_three_20 : decode cX0_three 20 = .ok (.imul, 1) := dk_104 (dk_at dksX0_three_0 20 rfl rfl)
theorem dX0_three_21 : decode cX0_three 21 = .ok (.invokestatic 10, 3) := dk_184 0 10 (dk_at dksX0_three_0 21 rfl rfl)
theorem dX0_three_24 : decode cX0_three 24 = .ok (.aload_n 0, 1) := dk_42 (dk_at dksX0_three_1 0 rfl rfl)
theorem dX0_three_25 : decode cX0_three 25 = .ok (.iconst 2, 1) := dk_5 (dk_at dksX0_three_1 1 rfl rfl)
theorem dX0_three_26 : decode cX0_three 26 = .ok (.iload_n 2, 1) := dk_28 (dk_at dksX0_three_1 2 rfl rfl)
theorem dX0_three_27 : decode cX0_three 27 = .ok (.imul, 1) := dk_104 (dk_at dksX0_three_1 3 rfl rfl)
theorem dX0_three_28 : decode cX0_three 28 = .ok (.iconst 1, 1) := dk_4 (dk_at dksX0_three_1 4 rfl rfl)
theorem dX0_three_29 : decode cX0_three 29 = .ok (.iadd, 1) := dk_96 (dk_at dksX0_three_1 5 rfl rfl)
theorem dX0_three_30 : decode cX0_three 30 = .ok (.invokestatic 10, 3) := dk_184 0 10 (dk_at dksX0_three_1 6 rfl rfl)
theorem dX0_three_33 : decode cX0_three 33 = .ok (.invokevirtual 16, 3) := dk_182 0 16 (dk_at dksX0_three_1 9 rfl rfl)
theorem dX0_three_36 : decode cX0_three 36 = .ok (.iinc 2 1, 3) := dk_132 2 1 (dk_at dksX0_three_1 12 rfl rfl)
theorem dX0_three_39 : decode cX0_three 39 = .ok (.goto (-29), 3) := dk_167 255 227 (dk_at dksX0_three_1 15 rfl rfl)
theorem dX0_three_42 : decode cX0_three 42 = .ok (.bipush 6, 2) := dk_16 6 (dk_at dksX0_three_1 18 rfl rfl)
theorem dX0_three_44 : decode cX0_three 44 = .ok (.istore_n 2, 1) := dk_61 (dk_at dksX0_three_1 20 rfl rfl)
theorem dX0_three_45 : decode cX0_three 45 = .ok (.iload_n 2, 1) := dk_28 (dk_at dksX0_three_1 21 rfl rfl)
theorem dX0_three_46 : decode cX0_three 46 = .ok (.iconst 1, 1) := dk_4 (dk_at dksX0_three_1 22 rfl rfl)
theorem dX0_three_47 : decode cX0_three 47 = .ok (.iadd, 1) := dk_96 (dk_at dksX0_three_1 23 rfl rfl)
theorem dX0_three_48 : decode cX0_three 48 = .ok (.aload_n 0, 1) := dk_42 (dk_at dksX0_three_2 0 rfl rfl)
theorem dX0_three_49 : decode cX0_three 49 = .ok (.arraylength, 1) := dk_190 (dk_at dksX0_three_2 1 rfl rfl)
theorem dX0_three_50 : decode cX0_three 50 = .ok (.if_icmp .ge 26, 3) := dk_162 0 26 (dk_at dksX0_three_2 2 rfl rfl)
theorem dX0_three_53 : decode cX0_three 53 = .ok (.aload_n 1, 1) := dk_43 (dk_at dksX0_three_2 5 rfl rfl)
theorem dX0_three_54 : decode cX0_three 54 = .ok (.iload_n 2, 1) := dk_28 (dk_at dksX0_three_2 6 rfl rfl)
theorem dX0_three_55 : decode cX0_three 55 = .ok (.iconst 1, 1) := dk_4 (dk_at dksX0_three_2 7 rfl rfl)
theorem dX0_three_56 : decode cX0_three 56 = .ok (.ishr, 1) := dk_122 (dk_at dksX0_three_2 8 rfl rfl)
theorem dX0_three_57 : decode cX0_three 57 = .ok (.iconst 1, 1) := dk_4 (dk_at dksX0_three_2 9 rfl rfl)
theorem dX0_three_58 : decode cX0_three 58 = .ok (.iand, 1) := dk_126 (dk_at dksX0_three_2 10 rfl rfl)
theorem dX0_three_59 : decode cX0_three 59 = .ok (.aload_n 0, 1) := dk_42 (dk_at dksX0_three_2 11 rfl rfl)
theorem dX0_three_60 : decode cX0_three 60 = .ok (.iload_n 2, 1) := dk_28 (dk_at dksX0_three_2 12 rfl rfl)
theorem dX0_three_61 : decode cX0_three 61 = .ok (.iaload, 1) := dk_46 (dk_at dksX0_three_2 13 rfl rfl)
theorem dX0_three_62 : decode cX0_three 62 = .ok (.aload_n 0, 1) := dk_42 (dk_at dksX0_three_2 14 rfl rfl)
theorem dX0_three_63 : decode cX0_three 63 = .ok (.iload_n 2, 1) := dk_28 (dk_at dksX0_three_2 15 rfl rfl)
theorem dX0_three_64 : decode cX0_three 64 = .ok (.iconst 1, 1) := dk_4 (dk_at dksX0_three_2 16 rfl rfl)
theorem dX0_three_65 : decode cX0_three 65 = .ok (.iadd, 1) := dk_96 (dk_at dksX0_three_2 17 rfl rfl)
theorem dX0_three_66 : decode cX0_three 66 = .ok (.iaload, 1) := dk_46 (dk_at dksX0_three_2 18 rfl rfl)
theorem dX0_three_67 : decode cX0_three 67 = .ok (.invokevirtual 20, 3) := dk_182 0 20 (dk_at dksX0_three_2 19 rfl rfl)
theorem dX0_three_70 : decode cX0_three 70 = .ok (.iinc 2 2, 3) := dk_132 2 2 (dk_at dksX0_three_3 0 rfl rfl)
theorem dX0_three_73 : decode cX0_three 73 = .ok (.goto (-28), 3) := dk_167 255 228 (dk_at dksX0_three_3 3 rfl rfl)
theorem dX0_three_76 : decode cX0_three 76 = .ok (.aload_n 1, 1) := dk_43 (dk_at dksX0_three_3 6 rfl rfl)
theorem dX0_three_77 : decode cX0_three 77 = .ok (.iconst 3, 1) := dk_6 (dk_at dksX0_three_3 7 rfl rfl)
theorem dX0_three_78 : decode cX0_three 78 = .ok (.iconst 0, 1) := dk_3 (dk_at dksX0_three_3 8 rfl rfl)
theorem dX0_three_79 : decode cX0_three 79 = .ok (.iconst 0, 1) := dk_3 (dk_at dksX0_three_3 9 rfl rfl)
theorem dX0_three_80 : decode cX0_three 80 = .ok (.invokevirtual 16, 3) := dk_182 0 16 (dk_at dksX0_three_3 10 rfl rfl)
theorem dX0_three_83 : decode cX0_three 83 = .ok (.aload_n 1, 1) := dk_43 (dk_at dksX0_three_3 13 rfl rfl)
theorem dX0_three_84 : decode cX0_three 84 = .ok (.areturn, 1) := dk_176 (dk_at dksX0_three_3 14 rfl rfl)
abbrev cX0_same : ByteArray := method_4_code
def yX0_same : MethodName := ⟨RX0, "same", "(LHintRing;ILHintRing;I)Z"⟩
def dkwX0_same_1 : List UInt8 := [182, 0, 23, 159, 0, 5, 3, 172, 132, 4, 1, 167, 255, 226, 4, 172]
abbrev dktX0_same_1 : List UInt8 := dkwX0_same_1 ++ []
def dkwX0_same_0 : List UInt8 := [3, 54, 4, 21, 4, 17, 1, 0, 162, 0, 28, 42, 27, 21, 4, 182, 0, 23, 44, 29, 21, 4]
abbrev dktX0_same_0 : List UInt8 := dkwX0_same_0 ++ dktX0_same_1
theorem dksX0_same_0 : cX0_same.data.toList.drop 0 = dktX0_same_0 := by decide +kernel
theorem dksX0_same_1 : cX0_same.data.toList.drop 22 = dktX0_same_1 := dk_seg dksX0_same_0 22 rfl rfl
theorem dX0_same_0 : decode cX0_same 0 = .ok (.iconst 0, 1) := dk_3 (dk_at dksX0_same_0 0 rfl rfl)
theorem dX0_same_1 : decode cX0_same 1 = .ok (.istore 4, 2) := dk_54 4 (dk_at dksX0_same_0 1 rfl rfl)
theorem dX0_same_3 : decode cX0_same 3 = .ok (.iload 4, 2) := dk_21 4 (dk_at dksX0_same_0 3 rfl rfl)
theorem dX0_same_5 : decode cX0_same 5 = .ok (.sipush 256, 3) := dk_17 1 0 (dk_at dksX0_same_0 5 rfl rfl)
theorem dX0_same_8 : decode cX0_same 8 = .ok (.if_icmp .ge 28, 3) := dk_162 0 28 (dk_at dksX0_same_0 8 rfl rfl)
theorem dX0_same_11 : decode cX0_same 11 = .ok (.aload_n 0, 1) := dk_42 (dk_at dksX0_same_0 11 rfl rfl)
theorem dX0_same_12 : decode cX0_same 12 = .ok (.iload_n 1, 1) := dk_27 (dk_at dksX0_same_0 12 rfl rfl)
theorem dX0_same_13 : decode cX0_same 13 = .ok (.iload 4, 2) := dk_21 4 (dk_at dksX0_same_0 13 rfl rfl)
theorem dX0_same_15 : decode cX0_same 15 = .ok (.invokevirtual 23, 3) := dk_182 0 23 (dk_at dksX0_same_0 15 rfl rfl)
theorem dX0_same_18 : decode cX0_same 18 = .ok (.aload_n 2, 1) := dk_44 (dk_at dksX0_same_0 18 rfl rfl)
theorem dX0_same_19 : decode cX0_same 19 = .ok (.iload_n 3, 1) := dk_29 (dk_at dksX0_same_0 19 rfl rfl)
theorem dX0_same_20 : decode cX0_same 20 = .ok (.iload 4, 2) := dk_21 4 (dk_at dksX0_same_0 20 rfl rfl)
theorem dX0_same_22 : decode cX0_same 22 = .ok (.invokevirtual 23, 3) := dk_182 0 23 (dk_at dksX0_same_1 0 rfl rfl)
theorem dX0_same_25 : decode cX0_same 25 = .ok (.if_icmp .eq 5, 3) := dk_159 0 5 (dk_at dksX0_same_1 3 rfl rfl)
theorem dX0_same_28 : decode cX0_same 28 = .ok (.iconst 0, 1) := dk_3 (dk_at dksX0_same_1 6 rfl rfl)
theorem dX0_same_29 : decode cX0_same 29 = .ok (.ireturn, 1) := dk_172 (dk_at dksX0_same_1 7 rfl rfl)
theorem dX0_same_30 : decode cX0_same 30 = .ok (.iinc 4 1, 3) := dk_132 4 1 (dk_at dksX0_same_1 8 rfl rfl)
theorem dX0_same_33 : decode cX0_same 33 = .ok (.goto (-30), 3) := dk_167 255 226 (dk_at dksX0_same_1 11 rfl rfl)
theorem dX0_same_36 : decode cX0_same 36 = .ok (.iconst 1, 1) := dk_4 (dk_at dksX0_same_1 14 rfl rfl)
theorem dX0_same_37 : decode cX0_same 37 = .ok (.ireturn, 1) := dk_172 (dk_at dksX0_same_1 15 rfl rfl)
theorem q0 : (Jvm.Cond.initialized "HintRingLaw") ∈ lw_all := lw_g (lw_at lw_m0 0 rfl) rfl
theorem q4 : (Jvm.Cond.methodLink "HintRingLaw" (20 : Nat) ({ cls := "HintRing", name := "put", desc := "(III)V" } : Jvm.MethodName)) ∈ lw_all := lw_g (lw_at lw_m0 4 rfl) rfl
theorem q13 : (Jvm.Cond.methodLink "HintRingLaw" (16 : Nat) ({ cls := "HintRing", name := "spread", desc := "(III)V" } : Jvm.MethodName)) ∈ lw_all := lw_g (lw_at lw_m0 13 rfl) rfl
theorem q17 : (Jvm.Cond.methodLink "HintRingLaw" (39 : Nat) ({ cls := "HintRing", name := "multiply", desc := "(III)V" } : Jvm.MethodName)) ∈ lw_all := lw_g (lw_at lw_m0 17 rfl) rfl
theorem q48 : (Jvm.Cond.methodLink "HintRingLaw" (35 : Nat) ({ cls := "HintRing", name := "add", desc := "(II)V" } : Jvm.MethodName)) ∈ lw_all := lw_g (lw_at lw_m0 48 rfl) rfl
theorem q52 : (Jvm.Cond.methodLink "HintRingLaw" (23 : Nat) ({ cls := "HintRing", name := "coefficient", desc := "(II)I" } : Jvm.MethodName)) ∈ lw_all := lw_g (lw_at lw_m0 52 rfl) rfl
theorem q56 : (Jvm.Cond.methodLink "HintRingLaw" (10 : Nat) ({ cls := "HintRingLaw", name := "cell", desc := "([II)I" } : Jvm.MethodName)) ∈ lw_all := lw_g (lw_at lw_m0 56 rfl) rfl
theorem q57 : (Jvm.Cond.static ({ cls := "HintRingLaw", name := "cell", desc := "([II)I" } : Jvm.MethodName)) ∈ lw_all := lw_g (lw_at lw_m0 57 rfl) rfl
theorem q58 : (Jvm.Cond.code ({ cls := "HintRingLaw", name := "cell", desc := "([II)I" } : Jvm.MethodName) method_2_code (2 : Nat) (Option.some Jvm.ClassFile.FieldType.int)) ∈ lw_all := lw_g (lw_at lw_m0 58 rfl) rfl
theorem q59 : (Jvm.Cond.methodLink "HintRingLaw" (27 : Nat) ({ cls := "HintRingLaw", name := "three", desc := "([I)LHintRing;" } : Jvm.MethodName)) ∈ lw_all := lw_g (lw_at lw_m0 59 rfl) rfl
theorem q60 : (Jvm.Cond.static ({ cls := "HintRingLaw", name := "three", desc := "([I)LHintRing;" } : Jvm.MethodName)) ∈ lw_all := lw_g (lw_at lw_m0 60 rfl) rfl
theorem q61 : (Jvm.Cond.code ({ cls := "HintRingLaw", name := "three", desc := "([I)LHintRing;" } : Jvm.MethodName) method_3_code (3 : Nat) (Option.some (Jvm.ClassFile.FieldType.object "HintRing"))) ∈ lw_all := lw_g (lw_at lw_m0 61 rfl) rfl
theorem q62 : (Jvm.Cond.classLink "HintRingLaw" (7 : Nat) "HintRing") ∈ lw_all := lw_g (lw_at lw_m0 62 rfl) rfl
theorem q64 : (Jvm.Cond.methodLink "HintRingLaw" (9 : Nat) ({ cls := "HintRing", name := "<init>", desc := "()V" } : Jvm.MethodName)) ∈ lw_all := lw_g (lw_at lw_m0 64 rfl) rfl
theorem q76 : (Jvm.Cond.methodLink "HintRingLaw" (42 : Nat) ({ cls := "HintRingLaw", name := "same", desc := "(LHintRing;ILHintRing;I)Z" } : Jvm.MethodName)) ∈ lw_all := lw_g (lw_at lw_m0 76 rfl) rfl
theorem q77 : (Jvm.Cond.static ({ cls := "HintRingLaw", name := "same", desc := "(LHintRing;ILHintRing;I)Z" } : Jvm.MethodName)) ∈ lw_all := lw_g (lw_at lw_m0 77 rfl) rfl
theorem q78 : (Jvm.Cond.code ({ cls := "HintRingLaw", name := "same", desc := "(LHintRing;ILHintRing;I)Z" } : Jvm.MethodName) method_4_code (5 : Nat) (Option.some Jvm.ClassFile.FieldType.boolean)) ∈ lw_all := lw_g (lw_at lw_m0 78 rfl) rfl
theorem q79 : (Jvm.Cond.classLink "HintRingLaw" (31 : Nat) "[[I") ∈ lw_all := lw_g (lw_at lw_m0 79 rfl) rfl
theorem q80 : (Jvm.Cond.constant "HintRingLaw" (33 : Nat) (2147483647 : Int32)) ∈ lw_all := lw_g (lw_at lw_m0 80 rfl) rfl
theorem q81 : (Jvm.Cond.constant "HintRingLaw" (34 : Nat) (8380417 : Int32)) ∈ lw_all := lw_g (lw_at lw_m0 81 rfl) rfl
end
section
/-! the law's own entry -/
set_option maxRecDepth 100000
abbrev cL_law : ByteArray := code
def dkwL_law_20 : List UInt8 := [182, 0, 35, 43, 3, 4, 182, 0, 35, 43, 6, 3, 5, 182, 0, 39, 43, 6, 44, 6, 184, 0, 42, 172]
abbrev dktL_law_20 : List UInt8 := dkwL_law_20 ++ []
def dkwL_law_19 : List UInt8 := [153, 0, 5, 3, 172, 44, 6, 3, 5, 182, 0, 39, 44, 5, 4, 5, 182, 0, 39, 44, 6, 5]
abbrev dktL_law_19 : List UInt8 := dkwL_law_19 ++ dktL_law_20
def dkwL_law_18 : List UInt8 := [132, 6, 1, 167, 255, 224, 43, 6, 3, 182, 0, 23, 43, 3, 17, 0, 255, 182, 0, 23, 96, 18, 34, 112]
abbrev dktL_law_18 : List UInt8 := dkwL_law_18 ++ dktL_law_19
def dkwL_law_17 : List UInt8 := [162, 0, 30, 43, 6, 21, 6, 4, 96, 182, 0, 23, 43, 3, 21, 6, 182, 0, 23, 159, 0, 5, 3, 172]
abbrev dktL_law_17 : List UInt8 := dkwL_law_17 ++ dktL_law_18
def dkwL_law_16 : List UInt8 := [43, 6, 4, 4, 182, 0, 20, 43, 6, 3, 6, 182, 0, 39, 3, 54, 6, 21, 6, 17, 0, 255]
abbrev dktL_law_16 : List UInt8 := dkwL_law_16 ++ dktL_law_17
def dkwL_law_15 : List UInt8 := [3, 6, 182, 0, 39, 43, 6, 43, 3, 184, 0, 42, 154, 0, 5, 3, 172, 43, 6, 3, 3, 182, 0, 16]
abbrev dktL_law_15 : List UInt8 := dkwL_law_15 ++ dktL_law_16
def dkwL_law_14 : List UInt8 := [184, 0, 42, 154, 0, 5, 3, 172, 43, 6, 3, 3, 182, 0, 16, 43, 6, 3, 4, 182, 0, 20, 43, 6]
abbrev dktL_law_14 : List UInt8 := dkwL_law_14 ++ dktL_law_15
def dkwL_law_13 : List UInt8 := [6, 6, 5, 182, 0, 39, 44, 6, 4, 5, 182, 0, 39, 44, 6, 3, 6, 182, 0, 39, 43, 6, 44, 6]
abbrev dktL_law_13 : List UInt8 := dkwL_law_13 ++ dktL_law_14
def dkwL_law_12 : List UInt8 := [4, 182, 0, 39, 44, 6, 4, 3, 182, 0, 39, 43, 6, 44, 6, 184, 0, 42, 154, 0, 5, 3, 172, 43]
abbrev dktL_law_12 : List UInt8 := dkwL_law_12 ++ dktL_law_13
def dkwL_law_11 : List UInt8 := [25, 4, 4, 21, 6, 182, 0, 23, 21, 7, 159, 0, 5, 3, 172, 132, 6, 1, 167, 255, 198, 43, 6, 3]
abbrev dktL_law_11 : List UInt8 := dkwL_law_11 ++ dktL_law_12
def dkwL_law_10 : List UInt8 := [21, 6, 182, 0, 23, 96, 18, 34, 112, 54, 7, 45, 3, 21, 6, 182, 0, 23, 21, 7, 160, 0, 16]
abbrev dktL_law_10 : List UInt8 := dkwL_law_10 ++ dktL_law_11
def dkwL_law_9 : List UInt8 := [182, 0, 35, 3, 54, 6, 21, 6, 17, 1, 0, 162, 0, 56, 43, 3, 21, 6, 182, 0, 23, 43, 4]
abbrev dktL_law_9 : List UInt8 := dkwL_law_9 ++ dktL_law_10
def dkwL_law_8 : List UInt8 := [132, 7, 1, 167, 255, 224, 132, 6, 1, 167, 255, 209, 45, 3, 4, 182, 0, 35, 25, 4, 4, 3]
abbrev dktL_law_8 : List UInt8 := dkwL_law_8 ++ dktL_law_9
def dkwL_law_7 : List UInt8 := [162, 0, 30, 43, 21, 6, 21, 7, 182, 0, 23, 25, 5, 21, 6, 50, 21, 7, 46, 159, 0, 5, 3, 172]
abbrev dktL_law_7 : List UInt8 := dkwL_law_7 ++ dktL_law_8
def dkwL_law_6 : List UInt8 := [79, 132, 6, 2, 167, 255, 214, 3, 54, 6, 21, 6, 6, 162, 0, 47, 3, 54, 7, 21, 7, 17, 1, 0]
abbrev dktL_law_6 : List UInt8 := dkwL_law_6 ++ dktL_law_7
def dkwL_law_5 : List UInt8 := [122, 4, 126, 50, 42, 21, 6, 46, 17, 0, 255, 126, 42, 21, 6, 4, 96, 46, 18, 33, 126, 18, 34, 112]
abbrev dktL_law_5 : List UInt8 := dkwL_law_5 ++ dktL_law_6
def dkwL_law_4 : List UInt8 := [132, 6, 1, 167, 255, 194, 16, 6, 54, 6, 21, 6, 4, 96, 42, 190, 162, 0, 39, 25, 5, 21, 6, 4]
abbrev dktL_law_4 : List UInt8 := dkwL_law_4 ++ dktL_law_5
def dkwL_law_3 : List UInt8 := [5, 21, 6, 104, 4, 96, 184, 0, 10, 104, 96, 18, 33, 126, 18, 34, 112, 79, 132, 7, 1, 167, 255, 209]
abbrev dktL_law_3 : List UInt8 := dkwL_law_3 ++ dktL_law_4
def dkwL_law_2 : List UInt8 := [17, 1, 0, 162, 0, 45, 25, 5, 21, 6, 50, 21, 7, 42, 5, 21, 6, 104, 184, 0, 10, 21, 7, 42]
abbrev dktL_law_2 : List UInt8 := dkwL_law_2 ++ dktL_law_3
def dkwL_law_1 : List UInt8 := [17, 1, 0, 197, 0, 31, 2, 58, 5, 3, 54, 6, 21, 6, 6, 162, 0, 62, 3, 54, 7, 21, 7]
abbrev dktL_law_1 : List UInt8 := dkwL_law_1 ++ dktL_law_2
def dkwL_law_0 : List UInt8 := [42, 184, 0, 27, 76, 42, 184, 0, 27, 77, 42, 184, 0, 27, 78, 42, 184, 0, 27, 58, 4, 6]
abbrev dktL_law_0 : List UInt8 := dkwL_law_0 ++ dktL_law_1
theorem dksL_law_0 : cL_law.data.toList.drop 0 = dktL_law_0 := by decide +kernel
theorem dksL_law_1 : cL_law.data.toList.drop 22 = dktL_law_1 := dk_seg dksL_law_0 22 rfl rfl
theorem dksL_law_2 : cL_law.data.toList.drop 45 = dktL_law_2 := dk_seg dksL_law_1 23 rfl rfl
theorem dksL_law_3 : cL_law.data.toList.drop 69 = dktL_law_3 := dk_seg dksL_law_2 24 rfl rfl
theorem dksL_law_4 : cL_law.data.toList.drop 93 = dktL_law_4 := dk_seg dksL_law_3 24 rfl rfl
theorem dksL_law_5 : cL_law.data.toList.drop 117 = dktL_law_5 := dk_seg dksL_law_4 24 rfl rfl
theorem dksL_law_6 : cL_law.data.toList.drop 141 = dktL_law_6 := dk_seg dksL_law_5 24 rfl rfl
theorem dksL_law_7 : cL_law.data.toList.drop 165 = dktL_law_7 := dk_seg dksL_law_6 24 rfl rfl
theorem dksL_law_8 : cL_law.data.toList.drop 189 = dktL_law_8 := dk_seg dksL_law_7 24 rfl rfl
theorem dksL_law_9 : cL_law.data.toList.drop 211 = dktL_law_9 := dk_seg dksL_law_8 22 rfl rfl
theorem dksL_law_10 : cL_law.data.toList.drop 234 = dktL_law_10 := dk_seg dksL_law_9 23 rfl rfl
theorem dksL_law_11 : cL_law.data.toList.drop 257 = dktL_law_11 := dk_seg dksL_law_10 23 rfl rfl
theorem dksL_law_12 : cL_law.data.toList.drop 281 = dktL_law_12 := dk_seg dksL_law_11 24 rfl rfl
theorem dksL_law_13 : cL_law.data.toList.drop 305 = dktL_law_13 := dk_seg dksL_law_12 24 rfl rfl
theorem dksL_law_14 : cL_law.data.toList.drop 329 = dktL_law_14 := dk_seg dksL_law_13 24 rfl rfl
theorem dksL_law_15 : cL_law.data.toList.drop 353 = dktL_law_15 := dk_seg dksL_law_14 24 rfl rfl
theorem dksL_law_16 : cL_law.data.toList.drop 377 = dktL_law_16 := dk_seg dksL_law_15 24 rfl rfl
theorem dksL_law_17 : cL_law.data.toList.drop 399 = dktL_law_17 := dk_seg dksL_law_16 22 rfl rfl
theorem dksL_law_18 : cL_law.data.toList.drop 423 = dktL_law_18 := dk_seg dksL_law_17 24 rfl rfl
theorem dksL_law_19 : cL_law.data.toList.drop 447 = dktL_law_19 := dk_seg dksL_law_18 24 rfl rfl
theorem dksL_law_20 : cL_law.data.toList.drop 469 = dktL_law_20 := dk_seg dksL_law_19 22 rfl rfl
theorem dL_law_0 : decode cL_law 0 = .ok (.aload_n 0, 1) := dk_42 (dk_at dksL_law_0 0 rfl rfl)
theorem dL_law_1 : decode cL_law 1 = .ok (.invokestatic 27, 3) := dk_184 0 27 (dk_at dksL_law_0 1 rfl rfl)
theorem dL_law_4 : decode cL_law 4 = .ok (.astore_n 1, 1) := dk_76 (dk_at dksL_law_0 4 rfl rfl)
theorem dL_law_5 : decode cL_law 5 = .ok (.aload_n 0, 1) := dk_42 (dk_at dksL_law_0 5 rfl rfl)
theorem dL_law_6 : decode cL_law 6 = .ok (.invokestatic 27, 3) := dk_184 0 27 (dk_at dksL_law_0 6 rfl rfl)
theorem dL_law_9 : decode cL_law 9 = .ok (.astore_n 2, 1) := dk_77 (dk_at dksL_law_0 9 rfl rfl)
theorem dL_law_10 : decode cL_law 10 = .ok (.aload_n 0, 1) := dk_42 (dk_at dksL_law_0 10 rfl rfl)
theorem dL_law_11 : decode cL_law 11 = .ok (.invokestatic 27, 3) := dk_184 0 27 (dk_at dksL_law_0 11 rfl rfl)
theorem dL_law_14 : decode cL_law 14 = .ok (.astore_n 3, 1) := dk_78 (dk_at dksL_law_0 14 rfl rfl)
theorem dL_law_15 : decode cL_law 15 = .ok (.aload_n 0, 1) := dk_42 (dk_at dksL_law_0 15 rfl rfl)
theorem dL_law_16 : decode cL_law 16 = .ok (.invokestatic 27, 3) := dk_184 0 27 (dk_at dksL_law_0 16 rfl rfl)
theorem dL_law_19 : decode cL_law 19 = .ok (.astore 4, 2) := dk_58 4 (dk_at dksL_law_0 19 rfl rfl)
theorem dL_law_21 : decode cL_law 21 = .ok (.iconst 3, 1) := dk_6 (dk_at dksL_law_0 21 rfl rfl)
theorem dL_law_22 : decode cL_law 22 = .ok (.sipush 256, 3) := dk_17 1 0 (dk_at dksL_law_1 0 rfl rfl)
theorem dL_law_25 : decode cL_law 25 = .ok (.multianewarray 31 2, 4) := by decide +kernel
theorem dL_law_29 : decode cL_law 29 = .ok (.astore 5, 2) := dk_58 5 (dk_at dksL_law_1 7 rfl rfl)
theorem dL_law_31 : decode cL_law 31 = .ok (.iconst 0, 1) := dk_3 (dk_at dksL_law_1 9 rfl rfl)
theorem dL_law_32 : decode cL_law 32 = .ok (.istore 6, 2) := dk_54 6 (dk_at dksL_law_1 10 rfl rfl)
theorem dL_law_34 : decode cL_law 34 = .ok (.iload 6, 2) := dk_21 6 (dk_at dksL_law_1 12 rfl rfl)
theorem dL_law_36 : decode cL_law 36 = .ok (.iconst 3, 1) := dk_6 (dk_at dksL_law_1 14 rfl rfl)
theorem dL_law_37 : decode cL_law 37 = .ok (.if_icmp .ge 62, 3) := dk_162 0 62 (dk_at dksL_law_1 15 rfl rfl)
theorem dL_law_40 : decode cL_law 40 = .ok (.iconst 0, 1) := dk_3 (dk_at dksL_law_1 18 rfl rfl)
theorem dL_law_41 : decode cL_law 41 = .ok (.istore 7, 2) := dk_54 7 (dk_at dksL_law_1 19 rfl rfl)
theorem dL_law_43 : decode cL_law 43 = .ok (.iload 7, 2) := dk_21 7 (dk_at dksL_law_1 21 rfl rfl)
theorem dL_law_45 : decode cL_law 45 = .ok (.sipush 256, 3) := dk_17 1 0 (dk_at dksL_law_2 0 rfl rfl)
theorem dL_law_48 : decode cL_law 48 = .ok (.if_icmp .ge 45, 3) := dk_162 0 45 (dk_at dksL_law_2 3 rfl rfl)
theorem dL_law_51 : decode cL_law 51 = .ok (.aload 5, 2) := dk_25 5 (dk_at dksL_law_2 6 rfl rfl)
theorem dL_law_53 : decode cL_law 53 = .ok (.iload 6, 2) := dk_21 6 (dk_at dksL_law_2 8 rfl rfl)
theorem dL_law_55 : decode cL_law 55 = .ok (.aaload, 1) := dk_50 (dk_at dksL_law_2 10 rfl rfl)
theorem dL_law_56 : decode cL_law 56 = .ok (.iload 7, 2) := dk_21 7 (dk_at dksL_law_2 11 rfl rfl)
theorem dL_law_58 : decode cL_law 58 = .ok (.aload_n 0, 1) := dk_42 (dk_at dksL_law_2 13 rfl rfl)
theorem dL_law_59 : decode cL_law 59 = .ok (.iconst 2, 1) := dk_5 (dk_at dksL_law_2 14 rfl rfl)
theorem dL_law_60 : decode cL_law 60 = .ok (.iload 6, 2) := dk_21 6 (dk_at dksL_law_2 15 rfl rfl)
theorem dL_law_62 : decode cL_law 62 = .ok (.imul, 1) := dk_104 (dk_at dksL_law_2 17 rfl rfl)
theorem dL_law_63 : decode cL_law 63 = .ok (.invokestatic 10, 3) := dk_184 0 10 (dk_at dksL_law_2 18 rfl rfl)
theorem dL_law_66 : decode cL_law 66 = .ok (.iload 7, 2) := dk_21 7 (dk_at dksL_law_2 21 rfl rfl)
theorem dL_law_68 : decode cL_law 68 = .ok (.aload_n 0, 1) := dk_42 (dk_at dksL_law_2 23 rfl rfl)
theorem dL_law_69 : decode cL_law 69 = .ok (.iconst 2, 1) := dk_5 (dk_at dksL_law_3 0 rfl rfl)
theorem dL_law_70 : decode cL_law 70 = .ok (.iload 6, 2) := dk_21 6 (dk_at dksL_law_3 1 rfl rfl)
theorem dL_law_72 : decode cL_law 72 = .ok (.imul, 1) := dk_104 (dk_at dksL_law_3 3 rfl rfl)
theorem dL_law_73 : decode cL_law 73 = .ok (.iconst 1, 1) := dk_4 (dk_at dksL_law_3 4 rfl rfl)
theorem dL_law_74 : decode cL_law 74 = .ok (.iadd, 1) := dk_96 (dk_at dksL_law_3 5 rfl rfl)
theorem dL_law_75 : decode cL_law 75 = .ok (.invokestatic 10, 3) := dk_184 0 10 (dk_at dksL_law_3 6 rfl rfl)
theorem dL_law_78 : decode cL_law 78 = .ok (.imul, 1) := dk_104 (dk_at dksL_law_3 9 rfl rfl)
theorem dL_law_79 : decode cL_law 79 = .ok (.iadd, 1) := dk_96 (dk_at dksL_law_3 10 rfl rfl)
theorem dL_law_80 : decode cL_law 80 = .ok (.ldc 33, 2) := dk_18 33 (dk_at dksL_law_3 11 rfl rfl)
theorem dL_law_82 : decode cL_law 82 = .ok (.iand, 1) := dk_126 (dk_at dksL_law_3 13 rfl rfl)
theorem dL_law_83 : decode cL_law 83 = .ok (.ldc 34, 2) := dk_18 34 (dk_at dksL_law_3 14 rfl rfl)
theorem dL_law_85 : decode cL_law 85 = .ok (.irem, 1) := dk_112 (dk_at dksL_law_3 16 rfl rfl)
theorem dL_law_86 : decode cL_law 86 = .ok (.iastore, 1) := dk_79 (dk_at dksL_law_3 17 rfl rfl)
theorem dL_law_87 : decode cL_law 87 = .ok (.iinc 7 1, 3) := dk_132 7 1 (dk_at dksL_law_3 18 rfl rfl)
theorem dL_law_90 : decode cL_law 90 = .ok (.goto (-47), 3) := dk_167 255 209 (dk_at dksL_law_3 21 rfl rfl)
theorem dL_law_93 : decode cL_law 93 = .ok (.iinc 6 1, 3) := dk_132 6 1 (dk_at dksL_law_4 0 rfl rfl)
theorem dL_law_96 : decode cL_law 96 = .ok (.goto (-62), 3) := dk_167 255 194 (dk_at dksL_law_4 3 rfl rfl)
theorem dL_law_99 : decode cL_law 99 = .ok (.bipush 6, 2) := dk_16 6 (dk_at dksL_law_4 6 rfl rfl)
theorem dL_law_101 : decode cL_law 101 = .ok (.istore 6, 2) := dk_54 6 (dk_at dksL_law_4 8 rfl rfl)
theorem dL_law_103 : decode cL_law 103 = .ok (.iload 6, 2) := dk_21 6 (dk_at dksL_law_4 10 rfl rfl)
theorem dL_law_105 : decode cL_law 105 = .ok (.iconst 1, 1) := dk_4 (dk_at dksL_law_4 12 rfl rfl)
theorem dL_law_106 : decode cL_law 106 = .ok (.iadd, 1) := dk_96 (dk_at dksL_law_4 13 rfl rfl)
theorem dL_law_107 : decode cL_law 107 = .ok (.aload_n 0, 1) := dk_42 (dk_at dksL_law_4 14 rfl rfl)
theorem dL_law_108 : decode cL_law 108 = .ok (.arraylength, 1) := dk_190 (dk_at dksL_law_4 15 rfl rfl)
theorem dL_law_109 : decode cL_law 109 = .ok (.if_icmp .ge 39, 3) := dk_162 0 39 (dk_at dksL_law_4 16 rfl rfl)
theorem dL_law_112 : decode cL_law 112 = .ok (.aload 5, 2) := dk_25 5 (dk_at dksL_law_4 19 rfl rfl)
theorem dL_law_114 : decode cL_law 114 = .ok (.iload 6, 2) := dk_21 6 (dk_at dksL_law_4 21 rfl rfl)
theorem dL_law_116 : decode cL_law 116 = .ok (.iconst 1, 1) := dk_4 (dk_at dksL_law_4 23 rfl rfl)
theorem dL_law_117 : decode cL_law 117 = .ok (.ishr, 1) := dk_122 (dk_at dksL_law_5 0 rfl rfl)
theorem dL_law_118 : decode cL_law 118 = .ok (.iconst 1, 1) := dk_4 (dk_at dksL_law_5 1 rfl rfl)
theorem dL_law_119 : decode cL_law 119 = .ok (.iand, 1) := dk_126 (dk_at dksL_law_5 2 rfl rfl)
theorem dL_law_120 : decode cL_law 120 = .ok (.aaload, 1) := dk_50 (dk_at dksL_law_5 3 rfl rfl)
theorem dL_law_121 : decode cL_law 121 = .ok (.aload_n 0, 1) := dk_42 (dk_at dksL_law_5 4 rfl rfl)
theorem dL_law_122 : decode cL_law 122 = .ok (.iload 6, 2) := dk_21 6 (dk_at dksL_law_5 5 rfl rfl)
theorem dL_law_124 : decode cL_law 124 = .ok (.iaload, 1) := dk_46 (dk_at dksL_law_5 7 rfl rfl)
theorem dL_law_125 : decode cL_law 125 = .ok (.sipush 255, 3) := dk_17 0 255 (dk_at dksL_law_5 8 rfl rfl)
theorem dL_law_128 : decode cL_law 128 = .ok (.iand, 1) := dk_126 (dk_at dksL_law_5 11 rfl rfl)
theorem dL_law_129 : decode cL_law 129 = .ok (.aload_n 0, 1) := dk_42 (dk_at dksL_law_5 12 rfl rfl)
theorem dL_law_130 : decode cL_law 130 = .ok (.iload 6, 2) := dk_21 6 (dk_at dksL_law_5 13 rfl rfl)
theorem dL_law_132 : decode cL_law 132 = .ok (.iconst 1, 1) := dk_4 (dk_at dksL_law_5 15 rfl rfl)
theorem dL_law_133 : decode cL_law 133 = .ok (.iadd, 1) := dk_96 (dk_at dksL_law_5 16 rfl rfl)
theorem dL_law_134 : decode cL_law 134 = .ok (.iaload, 1) := dk_46 (dk_at dksL_law_5 17 rfl rfl)
theorem dL_law_135 : decode cL_law 135 = .ok (.ldc 33, 2) := dk_18 33 (dk_at dksL_law_5 18 rfl rfl)
theorem dL_law_137 : decode cL_law 137 = .ok (.iand, 1) := dk_126 (dk_at dksL_law_5 20 rfl rfl)
theorem dL_law_138 : decode cL_law 138 = .ok (.ldc 34, 2) := dk_18 34 (dk_at dksL_law_5 21 rfl rfl)
theorem dL_law_140 : decode cL_law 140 = .ok (.irem, 1) := dk_112 (dk_at dksL_law_5 23 rfl rfl)
theorem dL_law_141 : decode cL_law 141 = .ok (.iastore, 1) := dk_79 (dk_at dksL_law_6 0 rfl rfl)
theorem dL_law_142 : decode cL_law 142 = .ok (.iinc 6 2, 3) := dk_132 6 2 (dk_at dksL_law_6 1 rfl rfl)
theorem dL_law_145 : decode cL_law 145 = .ok (.goto (-42), 3) := dk_167 255 214 (dk_at dksL_law_6 4 rfl rfl)
theorem dL_law_148 : decode cL_law 148 = .ok (.iconst 0, 1) := dk_3 (dk_at dksL_law_6 7 rfl rfl)
theorem dL_law_149 : decode cL_law 149 = .ok (.istore 6, 2) := dk_54 6 (dk_at dksL_law_6 8 rfl rfl)
theorem dL_law_151 : decode cL_law 151 = .ok (.iload 6, 2) := dk_21 6 (dk_at dksL_law_6 10 rfl rfl)
theorem dL_law_153 : decode cL_law 153 = .ok (.iconst 3, 1) := dk_6 (dk_at dksL_law_6 12 rfl rfl)
theorem dL_law_154 : decode cL_law 154 = .ok (.if_icmp .ge 47, 3) := dk_162 0 47 (dk_at dksL_law_6 13 rfl rfl)
theorem dL_law_157 : decode cL_law 157 = .ok (.iconst 0, 1) := dk_3 (dk_at dksL_law_6 16 rfl rfl)
theorem dL_law_158 : decode cL_law 158 = .ok (.istore 7, 2) := dk_54 7 (dk_at dksL_law_6 17 rfl rfl)
theorem dL_law_160 : decode cL_law 160 = .ok (.iload 7, 2) := dk_21 7 (dk_at dksL_law_6 19 rfl rfl)
theorem dL_law_162 : decode cL_law 162 = .ok (.sipush 256, 3) := dk_17 1 0 (dk_at dksL_law_6 21 rfl rfl)
theorem dL_law_165 : decode cL_law 165 = .ok (.if_icmp .ge 30, 3) := dk_162 0 30 (dk_at dksL_law_7 0 rfl rfl)
theorem dL_law_168 : decode cL_law 168 = .ok (.aload_n 1, 1) := dk_43 (dk_at dksL_law_7 3 rfl rfl)
theorem dL_law_169 : decode cL_law 169 = .ok (.iload 6, 2) := dk_21 6 (dk_at dksL_law_7 4 rfl rfl)
theorem dL_law_171 : decode cL_law 171 = .ok (.iload 7, 2) := dk_21 7 (dk_at dksL_law_7 6 rfl rfl)
theorem dL_law_173 : decode cL_law 173 = .ok (.invokevirtual 23, 3) := dk_182 0 23 (dk_at dksL_law_7 8 rfl rfl)
theorem dL_law_176 : decode cL_law 176 = .ok (.aload 5, 2) := dk_25 5 (dk_at dksL_law_7 11 rfl rfl)
theorem dL_law_178 : decode cL_law 178 = .ok (.iload 6, 2) := dk_21 6 (dk_at dksL_law_7 13 rfl rfl)
theorem dL_law_180 : decode cL_law 180 = .ok (.aaload, 1) := dk_50 (dk_at dksL_law_7 15 rfl rfl)
theorem dL_law_181 : decode cL_law 181 = .ok (.iload 7, 2) := dk_21 7 (dk_at dksL_law_7 16 rfl rfl)
theorem dL_law_183 : decode cL_law 183 = .ok (.iaload, 1) := dk_46 (dk_at dksL_law_7 18 rfl rfl)
theorem dL_law_184 : decode cL_law 184 = .ok (.if_icmp .eq 5, 3) := dk_159 0 5 (dk_at dksL_law_7 19 rfl rfl)
theorem dL_law_187 : decode cL_law 187 = .ok (.iconst 0, 1) := dk_3 (dk_at dksL_law_7 22 rfl rfl)
theorem dL_law_188 : decode cL_law 188 = .ok (.ireturn, 1) := dk_172 (dk_at dksL_law_7 23 rfl rfl)
theorem dL_law_189 : decode cL_law 189 = .ok (.iinc 7 1, 3) := dk_132 7 1 (dk_at dksL_law_8 0 rfl rfl)
theorem dL_law_192 : decode cL_law 192 = .ok (.goto (-32), 3) := dk_167 255 224 (dk_at dksL_law_8 3 rfl rfl)
theorem dL_law_195 : decode cL_law 195 = .ok (.iinc 6 1, 3) := dk_132 6 1 (dk_at dksL_law_8 6 rfl rfl)
theorem dL_law_198 : decode cL_law 198 = .ok (.goto (-47), 3) := dk_167 255 209 (dk_at dksL_law_8 9 rfl rfl)
theorem dL_law_201 : decode cL_law 201 = .ok (.aload_n 3, 1) := dk_45 (dk_at dksL_law_8 12 rfl rfl)
theorem dL_law_202 : decode cL_law 202 = .ok (.iconst 0, 1) := dk_3 (dk_at dksL_law_8 13 rfl rfl)
theorem dL_law_203 : decode cL_law 203 = .ok (.iconst 1, 1) := dk_4 (dk_at dksL_law_8 14 rfl rfl)
theorem dL_law_204 : decode cL_law 204 = .ok (.invokevirtual 35, 3) := dk_182 0 35 (dk_at dksL_law_8 15 rfl rfl)
theorem dL_law_207 : decode cL_law 207 = .ok (.aload 4, 2) := dk_25 4 (dk_at dksL_law_8 18 rfl rfl)
theorem dL_law_209 : decode cL_law 209 = .ok (.iconst 1, 1) := dk_4 (dk_at dksL_law_8 20 rfl rfl)
theorem dL_law_210 : decode cL_law 210 = .ok (.iconst 0, 1) := dk_3 (dk_at dksL_law_8 21 rfl rfl)
theorem dL_law_211 : decode cL_law 211 = .ok (.invokevirtual 35, 3) := dk_182 0 35 (dk_at dksL_law_9 0 rfl rfl)
theorem dL_law_214 : decode cL_law 214 = .ok (.iconst 0, 1) := dk_3 (dk_at dksL_law_9 3 rfl rfl)
theorem dL_law_215 : decode cL_law 215 = .ok (.istore 6, 2) := dk_54 6 (dk_at dksL_law_9 4 rfl rfl)
theorem dL_law_217 : decode cL_law 217 = .ok (.iload 6, 2) := dk_21 6 (dk_at dksL_law_9 6 rfl rfl)
theorem dL_law_219 : decode cL_law 219 = .ok (.sipush 256, 3) := dk_17 1 0 (dk_at dksL_law_9 8 rfl rfl)
theorem dL_law_222 : decode cL_law 222 = .ok (.if_icmp .ge 56, 3) := dk_162 0 56 (dk_at dksL_law_9 11 rfl rfl)
theorem dL_law_225 : decode cL_law 225 = .ok (.aload_n 1, 1) := dk_43 (dk_at dksL_law_9 14 rfl rfl)
theorem dL_law_226 : decode cL_law 226 = .ok (.iconst 0, 1) := dk_3 (dk_at dksL_law_9 15 rfl rfl)
theorem dL_law_227 : decode cL_law 227 = .ok (.iload 6, 2) := dk_21 6 (dk_at dksL_law_9 16 rfl rfl)
theorem dL_law_229 : decode cL_law 229 = .ok (.invokevirtual 23, 3) := dk_182 0 23 (dk_at dksL_law_9 18 rfl rfl)
theorem dL_law_232 : decode cL_law 232 = .ok (.aload_n 1, 1) := dk_43 (dk_at dksL_law_9 21 rfl rfl)
theorem dL_law_233 : decode cL_law 233 = .ok (.iconst 1, 1) := dk_4 (dk_at dksL_law_9 22 rfl rfl)
theorem dL_law_234 : decode cL_law 234 = .ok (.iload 6, 2) := dk_21 6 (dk_at dksL_law_10 0 rfl rfl)
theorem dL_law_236 : decode cL_law 236 = .ok (.invokevirtual 23, 3) := dk_182 0 23 (dk_at dksL_law_10 2 rfl rfl)
theorem dL_law_239 : decode cL_law 239 = .ok (.iadd, 1) := dk_96 (dk_at dksL_law_10 5 rfl rfl)
theorem dL_law_240 : decode cL_law 240 = .ok (.ldc 34, 2) := dk_18 34 (dk_at dksL_law_10 6 rfl rfl)
theorem dL_law_242 : decode cL_law 242 = .ok (.irem, 1) := dk_112 (dk_at dksL_law_10 8 rfl rfl)
theorem dL_law_243 : decode cL_law 243 = .ok (.istore 7, 2) := dk_54 7 (dk_at dksL_law_10 9 rfl rfl)
theorem dL_law_245 : decode cL_law 245 = .ok (.aload_n 3, 1) := dk_45 (dk_at dksL_law_10 11 rfl rfl)
theorem dL_law_246 : decode cL_law 246 = .ok (.iconst 0, 1) := dk_3 (dk_at dksL_law_10 12 rfl rfl)
theorem dL_law_247 : decode cL_law 247 = .ok (.iload 6, 2) := dk_21 6 (dk_at dksL_law_10 13 rfl rfl)
theorem dL_law_249 : decode cL_law 249 = .ok (.invokevirtual 23, 3) := dk_182 0 23 (dk_at dksL_law_10 15 rfl rfl)
theorem dL_law_252 : decode cL_law 252 = .ok (.iload 7, 2) := dk_21 7 (dk_at dksL_law_10 18 rfl rfl)
theorem dL_law_254 : decode cL_law 254 = .ok (.if_icmp .ne 16, 3) := dk_160 0 16 (dk_at dksL_law_10 20 rfl rfl)
theorem dL_law_257 : decode cL_law 257 = .ok (.aload 4, 2) := dk_25 4 (dk_at dksL_law_11 0 rfl rfl)
theorem dL_law_259 : decode cL_law 259 = .ok (.iconst 1, 1) := dk_4 (dk_at dksL_law_11 2 rfl rfl)
theorem dL_law_260 : decode cL_law 260 = .ok (.iload 6, 2) := dk_21 6 (dk_at dksL_law_11 3 rfl rfl)
theorem dL_law_262 : decode cL_law 262 = .ok (.invokevirtual 23, 3) := dk_182 0 23 (dk_at dksL_law_11 5 rfl rfl)
theorem dL_law_265 : decode cL_law 265 = .ok (.iload 7, 2) := dk_21 7 (dk_at dksL_law_11 8 rfl rfl)
theorem dL_law_267 : decode cL_law 267 = .ok (.if_icmp .eq 5, 3) := dk_159 0 5 (dk_at dksL_law_11 10 rfl rfl)
theorem dL_law_270 : decode cL_law 270 = .ok (.iconst 0, 1) := dk_3 (dk_at dksL_law_11 13 rfl rfl)
theorem dL_law_271 : decode cL_law 271 = .ok (.ireturn, 1) := dk_172 (dk_at dksL_law_11 14 rfl rfl)
theorem dL_law_272 : decode cL_law 272 = .ok (.iinc 6 1, 3) := dk_132 6 1 (dk_at dksL_law_11 15 rfl rfl)
theorem dL_law_275 : decode cL_law 275 = .ok (.goto (-58), 3) := dk_167 255 198 (dk_at dksL_law_11 18 rfl rfl)
theorem dL_law_278 : decode cL_law 278 = .ok (.aload_n 1, 1) := dk_43 (dk_at dksL_law_11 21 rfl rfl)
theorem dL_law_279 : decode cL_law 279 = .ok (.iconst 3, 1) := dk_6 (dk_at dksL_law_11 22 rfl rfl)
theorem dL_law_280 : decode cL_law 280 = .ok (.iconst 0, 1) := dk_3 (dk_at dksL_law_11 23 rfl rfl)
theorem dL_law_281 : decode cL_law 281 = .ok (.iconst 1, 1) := dk_4 (dk_at dksL_law_12 0 rfl rfl)
theorem dL_law_282 : decode cL_law 282 = .ok (.invokevirtual 39, 3) := dk_182 0 39 (dk_at dksL_law_12 1 rfl rfl)
theorem dL_law_285 : decode cL_law 285 = .ok (.aload_n 2, 1) := dk_44 (dk_at dksL_law_12 4 rfl rfl)
theorem dL_law_286 : decode cL_law 286 = .ok (.iconst 3, 1) := dk_6 (dk_at dksL_law_12 5 rfl rfl)
theorem dL_law_287 : decode cL_law 287 = .ok (.iconst 1, 1) := dk_4 (dk_at dksL_law_12 6 rfl rfl)
theorem dL_law_288 : decode cL_law 288 = .ok (.iconst 0, 1) := dk_3 (dk_at dksL_law_12 7 rfl rfl)
theorem dL_law_289 : decode cL_law 289 = .ok (.invokevirtual 39, 3) := dk_182 0 39 (dk_at dksL_law_12 8 rfl rfl)
theorem dL_law_292 : decode cL_law 292 = .ok (.aload_n 1, 1) := dk_43 (dk_at dksL_law_12 11 rfl rfl)
theorem dL_law_293 : decode cL_law 293 = .ok (.iconst 3, 1) := dk_6 (dk_at dksL_law_12 12 rfl rfl)
theorem dL_law_294 : decode cL_law 294 = .ok (.aload_n 2, 1) := dk_44 (dk_at dksL_law_12 13 rfl rfl)
theorem dL_law_295 : decode cL_law 295 = .ok (.iconst 3, 1) := dk_6 (dk_at dksL_law_12 14 rfl rfl)
theorem dL_law_296 : decode cL_law 296 = .ok (.invokestatic 42, 3) := dk_184 0 42 (dk_at dksL_law_12 15 rfl rfl)
theorem dL_law_299 : decode cL_law 299 = .ok (.ifCond .ne 5, 3) := dk_154 0 5 (dk_at dksL_law_12 18 rfl rfl)
theorem dL_law_302 : decode cL_law 302 = .ok (.iconst 0, 1) := dk_3 (dk_at dksL_law_12 21 rfl rfl)
theorem dL_law_303 : decode cL_law 303 = .ok (.ireturn, 1) := dk_172 (dk_at dksL_law_12 22 rfl rfl)
theorem dL_law_304 : decode cL_law 304 = .ok (.aload_n 1, 1) := dk_43 (dk_at dksL_law_12 23 rfl rfl)
theorem dL_law_305 : decode cL_law 305 = .ok (.iconst 3, 1) := dk_6 (dk_at dksL_law_13 0 rfl rfl)
theorem dL_law_306 : decode cL_law 306 = .ok (.iconst 3, 1) := dk_6 (dk_at dksL_law_13 1 rfl rfl)
theorem dL_law_307 : decode cL_law 307 = .ok (.iconst 2, 1) := dk_5 (dk_at dksL_law_13 2 rfl rfl)
theorem dL_law_308 : decode cL_law 308 = .ok (.invokevirtual 39, 3) := dk_182 0 39 (dk_at dksL_law_13 3 rfl rfl)
theorem dL_law_311 : decode cL_law 311 = .ok (.aload_n 2, 1) := dk_44 (dk_at dksL_law_13 6 rfl rfl)
theorem dL_law_312 : decode cL_law 312 = .ok (.iconst 3, 1) := dk_6 (dk_at dksL_law_13 7 rfl rfl)
theorem dL_law_313 : decode cL_law 313 = .ok (.iconst 1, 1) := dk_4 (dk_at dksL_law_13 8 rfl rfl)
theorem dL_law_314 : decode cL_law 314 = .ok (.iconst 2, 1) := dk_5 (dk_at dksL_law_13 9 rfl rfl)
theorem dL_law_315 : decode cL_law 315 = .ok (.invokevirtual 39, 3) := dk_182 0 39 (dk_at dksL_law_13 10 rfl rfl)
theorem dL_law_318 : decode cL_law 318 = .ok (.aload_n 2, 1) := dk_44 (dk_at dksL_law_13 13 rfl rfl)
theorem dL_law_319 : decode cL_law 319 = .ok (.iconst 3, 1) := dk_6 (dk_at dksL_law_13 14 rfl rfl)
theorem dL_law_320 : decode cL_law 320 = .ok (.iconst 0, 1) := dk_3 (dk_at dksL_law_13 15 rfl rfl)
theorem dL_law_321 : decode cL_law 321 = .ok (.iconst 3, 1) := dk_6 (dk_at dksL_law_13 16 rfl rfl)
theorem dL_law_322 : decode cL_law 322 = .ok (.invokevirtual 39, 3) := dk_182 0 39 (dk_at dksL_law_13 17 rfl rfl)
theorem dL_law_325 : decode cL_law 325 = .ok (.aload_n 1, 1) := dk_43 (dk_at dksL_law_13 20 rfl rfl)
theorem dL_law_326 : decode cL_law 326 = .ok (.iconst 3, 1) := dk_6 (dk_at dksL_law_13 21 rfl rfl)
theorem dL_law_327 : decode cL_law 327 = .ok (.aload_n 2, 1) := dk_44 (dk_at dksL_law_13 22 rfl rfl)
theorem dL_law_328 : decode cL_law 328 = .ok (.iconst 3, 1) := dk_6 (dk_at dksL_law_13 23 rfl rfl)
theorem dL_law_329 : decode cL_law 329 = .ok (.invokestatic 42, 3) := dk_184 0 42 (dk_at dksL_law_14 0 rfl rfl)
theorem dL_law_332 : decode cL_law 332 = .ok (.ifCond .ne 5, 3) := dk_154 0 5 (dk_at dksL_law_14 3 rfl rfl)
theorem dL_law_335 : decode cL_law 335 = .ok (.iconst 0, 1) := dk_3 (dk_at dksL_law_14 6 rfl rfl)
theorem dL_law_336 : decode cL_law 336 = .ok (.ireturn, 1) := dk_172 (dk_at dksL_law_14 7 rfl rfl)
theorem dL_law_337 : decode cL_law 337 = .ok (.aload_n 1, 1) := dk_43 (dk_at dksL_law_14 8 rfl rfl)
theorem dL_law_338 : decode cL_law 338 = .ok (.iconst 3, 1) := dk_6 (dk_at dksL_law_14 9 rfl rfl)
theorem dL_law_339 : decode cL_law 339 = .ok (.iconst 0, 1) := dk_3 (dk_at dksL_law_14 10 rfl rfl)
theorem dL_law_340 : decode cL_law 340 = .ok (.iconst 0, 1) := dk_3 (dk_at dksL_law_14 11 rfl rfl)
theorem dL_law_341 : decode cL_law 341 = .ok (.invokevirtual 16, 3) := dk_182 0 16 (dk_at dksL_law_14 12 rfl rfl)
theorem dL_law_344 : decode cL_law 344 = .ok (.aload_n 1, 1) := dk_43 (dk_at dksL_law_14 15 rfl rfl)
theorem dL_law_345 : decode cL_law 345 = .ok (.iconst 3, 1) := dk_6 (dk_at dksL_law_14 16 rfl rfl)
theorem dL_law_346 : decode cL_law 346 = .ok (.iconst 0, 1) := dk_3 (dk_at dksL_law_14 17 rfl rfl)
theorem dL_law_347 : decode cL_law 347 = .ok (.iconst 1, 1) := dk_4 (dk_at dksL_law_14 18 rfl rfl)
theorem dL_law_348 : decode cL_law 348 = .ok (.invokevirtual 20, 3) := dk_182 0 20 (dk_at dksL_law_14 19 rfl rfl)
theorem dL_law_351 : decode cL_law 351 = .ok (.aload_n 1, 1) := dk_43 (dk_at dksL_law_14 22 rfl rfl)
theorem dL_law_352 : decode cL_law 352 = .ok (.iconst 3, 1) := dk_6 (dk_at dksL_law_14 23 rfl rfl)
theorem dL_law_353 : decode cL_law 353 = .ok (.iconst 0, 1) := dk_3 (dk_at dksL_law_15 0 rfl rfl)
theorem dL_law_354 : decode cL_law 354 = .ok (.iconst 3, 1) := dk_6 (dk_at dksL_law_15 1 rfl rfl)
theorem dL_law_355 : decode cL_law 355 = .ok (.invokevirtual 39, 3) := dk_182 0 39 (dk_at dksL_law_15 2 rfl rfl)
theorem dL_law_358 : decode cL_law 358 = .ok (.aload_n 1, 1) := dk_43 (dk_at dksL_law_15 5 rfl rfl)
theorem dL_law_359 : decode cL_law 359 = .ok (.iconst 3, 1) := dk_6 (dk_at dksL_law_15 6 rfl rfl)
theorem dL_law_360 : decode cL_law 360 = .ok (.aload_n 1, 1) := dk_43 (dk_at dksL_law_15 7 rfl rfl)
theorem dL_law_361 : decode cL_law 361 = .ok (.iconst 0, 1) := dk_3 (dk_at dksL_law_15 8 rfl rfl)
theorem dL_law_362 : decode cL_law 362 = .ok (.invokestatic 42, 3) := dk_184 0 42 (dk_at dksL_law_15 9 rfl rfl)
theorem dL_law_365 : decode cL_law 365 = .ok (.ifCond .ne 5, 3) := dk_154 0 5 (dk_at dksL_law_15 12 rfl rfl)
theorem dL_law_368 : decode cL_law 368 = .ok (.iconst 0, 1) := dk_3 (dk_at dksL_law_15 15 rfl rfl)
theorem dL_law_369 : decode cL_law 369 = .ok (.ireturn, 1) := dk_172 (dk_at dksL_law_15 16 rfl rfl)
theorem dL_law_370 : decode cL_law 370 = .ok (.aload_n 1, 1) := dk_43 (dk_at dksL_law_15 17 rfl rfl)
theorem dL_law_371 : decode cL_law 371 = .ok (.iconst 3, 1) := dk_6 (dk_at dksL_law_15 18 rfl rfl)
theorem dL_law_372 : decode cL_law 372 = .ok (.iconst 0, 1) := dk_3 (dk_at dksL_law_15 19 rfl rfl)
theorem dL_law_373 : decode cL_law 373 = .ok (.iconst 0, 1) := dk_3 (dk_at dksL_law_15 20 rfl rfl)
theorem dL_law_374 : decode cL_law 374 = .ok (.invokevirtual 16, 3) := dk_182 0 16 (dk_at dksL_law_15 21 rfl rfl)
theorem dL_law_377 : decode cL_law 377 = .ok (.aload_n 1, 1) := dk_43 (dk_at dksL_law_16 0 rfl rfl)
theorem dL_law_378 : decode cL_law 378 = .ok (.iconst 3, 1) := dk_6 (dk_at dksL_law_16 1 rfl rfl)
theorem dL_law_379 : decode cL_law 379 = .ok (.iconst 1, 1) := dk_4 (dk_at dksL_law_16 2 rfl rfl)
theorem dL_law_380 : decode cL_law 380 = .ok (.iconst 1, 1) := dk_4 (dk_at dksL_law_16 3 rfl rfl)
theorem dL_law_381 : decode cL_law 381 = .ok (.invokevirtual 20, 3) := dk_182 0 20 (dk_at dksL_law_16 4 rfl rfl)
theorem dL_law_384 : decode cL_law 384 = .ok (.aload_n 1, 1) := dk_43 (dk_at dksL_law_16 7 rfl rfl)
theorem dL_law_385 : decode cL_law 385 = .ok (.iconst 3, 1) := dk_6 (dk_at dksL_law_16 8 rfl rfl)
theorem dL_law_386 : decode cL_law 386 = .ok (.iconst 0, 1) := dk_3 (dk_at dksL_law_16 9 rfl rfl)
theorem dL_law_387 : decode cL_law 387 = .ok (.iconst 3, 1) := dk_6 (dk_at dksL_law_16 10 rfl rfl)
theorem dL_law_388 : decode cL_law 388 = .ok (.invokevirtual 39, 3) := dk_182 0 39 (dk_at dksL_law_16 11 rfl rfl)
theorem dL_law_391 : decode cL_law 391 = .ok (.iconst 0, 1) := dk_3 (dk_at dksL_law_16 14 rfl rfl)
theorem dL_law_392 : decode cL_law 392 = .ok (.istore 6, 2) := dk_54 6 (dk_at dksL_law_16 15 rfl rfl)
theorem dL_law_394 : decode cL_law 394 = .ok (.iload 6, 2) := dk_21 6 (dk_at dksL_law_16 17 rfl rfl)
theorem dL_law_396 : decode cL_law 396 = .ok (.sipush 255, 3) := dk_17 0 255 (dk_at dksL_law_16 19 rfl rfl)
theorem dL_law_399 : decode cL_law 399 = .ok (.if_icmp .ge 30, 3) := dk_162 0 30 (dk_at dksL_law_17 0 rfl rfl)
theorem dL_law_402 : decode cL_law 402 = .ok (.aload_n 1, 1) := dk_43 (dk_at dksL_law_17 3 rfl rfl)
theorem dL_law_403 : decode cL_law 403 = .ok (.iconst 3, 1) := dk_6 (dk_at dksL_law_17 4 rfl rfl)
theorem dL_law_404 : decode cL_law 404 = .ok (.iload 6, 2) := dk_21 6 (dk_at dksL_law_17 5 rfl rfl)
theorem dL_law_406 : decode cL_law 406 = .ok (.iconst 1, 1) := dk_4 (dk_at dksL_law_17 7 rfl rfl)
theorem dL_law_407 : decode cL_law 407 = .ok (.iadd, 1) := dk_96 (dk_at dksL_law_17 8 rfl rfl)
theorem dL_law_408 : decode cL_law 408 = .ok (.invokevirtual 23, 3) := dk_182 0 23 (dk_at dksL_law_17 9 rfl rfl)
theorem dL_law_411 : decode cL_law 411 = .ok (.aload_n 1, 1) := dk_43 (dk_at dksL_law_17 12 rfl rfl)
theorem dL_law_412 : decode cL_law 412 = .ok (.iconst 0, 1) := dk_3 (dk_at dksL_law_17 13 rfl rfl)
theorem dL_law_413 : decode cL_law 413 = .ok (.iload 6, 2) := dk_21 6 (dk_at dksL_law_17 14 rfl rfl)
theorem dL_law_415 : decode cL_law 415 = .ok (.invokevirtual 23, 3) := dk_182 0 23 (dk_at dksL_law_17 16 rfl rfl)
theorem dL_law_418 : decode cL_law 418 = .ok (.if_icmp .eq 5, 3) := dk_159 0 5 (dk_at dksL_law_17 19 rfl rfl)
theorem dL_law_421 : decode cL_law 421 = .ok (.iconst 0, 1) := dk_3 (dk_at dksL_law_17 22 rfl rfl)
theorem dL_law_422 : decode cL_law 422 = .ok (.ireturn, 1) := dk_172 (dk_at dksL_law_17 23 rfl rfl)
theorem dL_law_423 : decode cL_law 423 = .ok (.iinc 6 1, 3) := dk_132 6 1 (dk_at dksL_law_18 0 rfl rfl)
theorem dL_law_426 : decode cL_law 426 = .ok (.goto (-32), 3) := dk_167 255 224 (dk_at dksL_law_18 3 rfl rfl)
theorem dL_law_429 : decode cL_law 429 = .ok (.aload_n 1, 1) := dk_43 (dk_at dksL_law_18 6 rfl rfl)
theorem dL_law_430 : decode cL_law 430 = .ok (.iconst 3, 1) := dk_6 (dk_at dksL_law_18 7 rfl rfl)
theorem dL_law_431 : decode cL_law 431 = .ok (.iconst 0, 1) := dk_3 (dk_at dksL_law_18 8 rfl rfl)
theorem dL_law_432 : decode cL_law 432 = .ok (.invokevirtual 23, 3) := dk_182 0 23 (dk_at dksL_law_18 9 rfl rfl)
theorem dL_law_435 : decode cL_law 435 = .ok (.aload_n 1, 1) := dk_43 (dk_at dksL_law_18 12 rfl rfl)
theorem dL_law_436 : decode cL_law 436 = .ok (.iconst 0, 1) := dk_3 (dk_at dksL_law_18 13 rfl rfl)
theorem dL_law_437 : decode cL_law 437 = .ok (.sipush 255, 3) := dk_17 0 255 (dk_at dksL_law_18 14 rfl rfl)
theorem dL_law_440 : decode cL_law 440 = .ok (.invokevirtual 23, 3) := dk_182 0 23 (dk_at dksL_law_18 17 rfl rfl)
theorem dL_law_443 : decode cL_law 443 = .ok (.iadd, 1) := dk_96 (dk_at dksL_law_18 20 rfl rfl)
theorem dL_law_444 : decode cL_law 444 = .ok (.ldc 34, 2) := dk_18 34 (dk_at dksL_law_18 21 rfl rfl)
theorem dL_law_446 : decode cL_law 446 = .ok (.irem, 1) := dk_112 (dk_at dksL_law_18 23 rfl rfl)
theorem dL_law_447 : decode cL_law 447 = .ok (.ifCond .eq 5, 3) := dk_153 0 5 (dk_at dksL_law_19 0 rfl rfl)
theorem dL_law_450 : decode cL_law 450 = .ok (.iconst 0, 1) := dk_3 (dk_at dksL_law_19 3 rfl rfl)
theorem dL_law_451 : decode cL_law 451 = .ok (.ireturn, 1) := dk_172 (dk_at dksL_law_19 4 rfl rfl)
theorem dL_law_452 : decode cL_law 452 = .ok (.aload_n 2, 1) := dk_44 (dk_at dksL_law_19 5 rfl rfl)
theorem dL_law_453 : decode cL_law 453 = .ok (.iconst 3, 1) := dk_6 (dk_at dksL_law_19 6 rfl rfl)
theorem dL_law_454 : decode cL_law 454 = .ok (.iconst 0, 1) := dk_3 (dk_at dksL_law_19 7 rfl rfl)
theorem dL_law_455 : decode cL_law 455 = .ok (.iconst 2, 1) := dk_5 (dk_at dksL_law_19 8 rfl rfl)
theorem dL_law_456 : decode cL_law 456 = .ok (.invokevirtual 39, 3) := dk_182 0 39 (dk_at dksL_law_19 9 rfl rfl)
theorem dL_law_459 : decode cL_law 459 = .ok (.aload_n 2, 1) := dk_44 (dk_at dksL_law_19 12 rfl rfl)
theorem dL_law_460 : decode cL_law 460 = .ok (.iconst 2, 1) := dk_5 (dk_at dksL_law_19 13 rfl rfl)
theorem dL_law_461 : decode cL_law 461 = .ok (.iconst 1, 1) := dk_4 (dk_at dksL_law_19 14 rfl rfl)
theorem dL_law_462 : decode cL_law 462 = .ok (.iconst 2, 1) := dk_5 (dk_at dksL_law_19 15 rfl rfl)
theorem dL_law_463 : decode cL_law 463 = .ok (.invokevirtual 39, 3) := dk_182 0 39 (dk_at dksL_law_19 16 rfl rfl)
theorem dL_law_466 : decode cL_law 466 = .ok (.aload_n 2, 1) := dk_44 (dk_at dksL_law_19 19 rfl rfl)
theorem dL_law_467 : decode cL_law 467 = .ok (.iconst 3, 1) := dk_6 (dk_at dksL_law_19 20 rfl rfl)
theorem dL_law_468 : decode cL_law 468 = .ok (.iconst 2, 1) := dk_5 (dk_at dksL_law_19 21 rfl rfl)
theorem dL_law_469 : decode cL_law 469 = .ok (.invokevirtual 35, 3) := dk_182 0 35 (dk_at dksL_law_20 0 rfl rfl)
theorem dL_law_472 : decode cL_law 472 = .ok (.aload_n 1, 1) := dk_43 (dk_at dksL_law_20 3 rfl rfl)
theorem dL_law_473 : decode cL_law 473 = .ok (.iconst 0, 1) := dk_3 (dk_at dksL_law_20 4 rfl rfl)
theorem dL_law_474 : decode cL_law 474 = .ok (.iconst 1, 1) := dk_4 (dk_at dksL_law_20 5 rfl rfl)
theorem dL_law_475 : decode cL_law 475 = .ok (.invokevirtual 35, 3) := dk_182 0 35 (dk_at dksL_law_20 6 rfl rfl)
theorem dL_law_478 : decode cL_law 478 = .ok (.aload_n 1, 1) := dk_43 (dk_at dksL_law_20 9 rfl rfl)
theorem dL_law_479 : decode cL_law 479 = .ok (.iconst 3, 1) := dk_6 (dk_at dksL_law_20 10 rfl rfl)
theorem dL_law_480 : decode cL_law 480 = .ok (.iconst 0, 1) := dk_3 (dk_at dksL_law_20 11 rfl rfl)
theorem dL_law_481 : decode cL_law 481 = .ok (.iconst 2, 1) := dk_5 (dk_at dksL_law_20 12 rfl rfl)
theorem dL_law_482 : decode cL_law 482 = .ok (.invokevirtual 39, 3) := dk_182 0 39 (dk_at dksL_law_20 13 rfl rfl)
theorem dL_law_485 : decode cL_law 485 = .ok (.aload_n 1, 1) := dk_43 (dk_at dksL_law_20 16 rfl rfl)
theorem dL_law_486 : decode cL_law 486 = .ok (.iconst 3, 1) := dk_6 (dk_at dksL_law_20 17 rfl rfl)
theorem dL_law_487 : decode cL_law 487 = .ok (.aload_n 2, 1) := dk_44 (dk_at dksL_law_20 18 rfl rfl)
theorem dL_law_488 : decode cL_law 488 = .ok (.iconst 3, 1) := dk_6 (dk_at dksL_law_20 19 rfl rfl)
theorem dL_law_489 : decode cL_law 489 = .ok (.invokestatic 42, 3) := dk_184 0 42 (dk_at dksL_law_20 20 rfl rfl)
theorem dL_law_492 : decode cL_law 492 = .ok (.ireturn, 1) := dk_172 (dk_at dksL_law_20 23 rfl rfl)
end
section
/-! PURE: the Int32 functions that the walks compute -/
def ztl : List Int32 := [
  0, 25847, -2608894, -518909, 237124, -777960, -876248, 466468,
  1826347, 2353451, -359251, -2091905, 3119733, -2884855, 3111497, 2680103,
  2725464, 1024112, -1079900, 3585928, -549488, -1119584, 2619752, -2108549,
  -2118186, -3859737, -1399561, -3277672, 1757237, -19422, 4010497, 280005,
  2706023, 95776, 3077325, 3530437, -1661693, -3592148, -2537516, 3915439,
  -3861115, -3043716, 3574422, -2867647, 3539968, -300467, 2348700, -539299,
  -1699267, -1643818, 3505694, -3821735, 3507263, -2140649, -1600420, 3699596,
  811944, 531354, 954230, 3881043, 3900724, -2556880, 2071892, -2797779,
  -3930395, -1528703, -3677745, -3041255, -1452451, 3475950, 2176455, -1585221,
  -1257611, 1939314, -4083598, -1000202, -3190144, -3157330, -3632928, 126922,
  3412210, -983419, 2147896, 2715295, -2967645, -3693493, -411027, -2477047,
  -671102, -1228525, -22981, -1308169, -381987, 1349076, 1852771, -1430430,
  -3343383, 264944, 508951, 3097992, 44288, -1100098, 904516, 3958618,
  -3724342, -8578, 1653064, -3249728, 2389356, -210977, 759969, -1316856,
  189548, -3553272, 3159746, -1851402, -2409325, -177440, 1315589, 1341330,
  1285669, -1584928, -812732, -1439742, -3019102, -3881060, -3628969, 3839961,
  2091667, 3407706, 2316500, 3817976, -3342478, 2244091, -2446433, -3562462,
  266997, 2434439, -1235728, 3513181, -3520352, -3759364, -1197226, -3193378,
  900702, 1859098, 909542, 819034, 495491, -1613174, -43260, -522500,
  -655327, -3122442, 2031748, 3207046, -3556995, -525098, -768622, -3595838,
  342297, 286988, -2437823, 4108315, 3437287, -3342277, 1735879, 203044,
  2842341, 2691481, -2590150, 1265009, 4055324, 1247620, 2486353, 1595974,
  -3767016, 1250494, 2635921, -3548272, -2994039, 1869119, 1903435, -1050970,
  -1333058, 1237275, -3318210, -1430225, -451100, 1312455, 3306115, -1962642,
  -1279661, 1917081, -2546312, -1374803, 1500165, 777191, 2235880, 3406031,
  -542412, -2831860, -1671176, -1846953, -2584293, -3724270, 594136, -3776993,
  -2013608, 2432395, 2454455, -164721, 1957272, 3369112, 185531, -1207385,
  -3183426, 162844, 1616392, 3014001, 810149, 1652634, -3694233, -1799107,
  -3038916, 3523897, 3866901, 269760, 2213111, -975884, 1717735, 472078,
  -426683, 1723600, -1803090, 1910376, -1667432, -1104333, -260646, -3833893,
  -2939036, -2235985, -420899, -2286327, 183443, -976891, 1612842, -3545687,
  -554416, 3919660, -48306, -1362209, 3937738, 1400424, -846154, 1976782]
def zt (k : Nat) : Int32 := ztl.getD k 0
def montI (a : Int64) : Int32 := (((a - (a * 58728449).toInt32.toInt64 * 8380417).toUInt64 >>> ((32 : Int32).toInt64.toUInt64 &&& Int64.toUInt64 63)).toInt64).toInt32
def redI (a : Int32) : Int32 := a - ((a + 4194304) >>> ((23 : Int32) &&& 31)) * 8380417
def cadI (a : Int32) : Int32 := a + ((a >>> ((31 : Int32) &&& 31)) &&& 8380417)
def wholeI (v : Int32) : Int32 := cadI (redI v)
def fairI (v : Int32) : Int32 := (v &&& 2147483647) - (v &&& 2147483647) / 8380417 * 8380417
/-- a layer of the transform: blocks of 2n, the block b with the zeta k0 + b -/
def fwdI (n k0 : Nat) (f : Nat → Int32) (i : Nat) : Int32 :=
  if i % (2 * n) < n then f i + montI ((zt (k0 + i / (2 * n))).toInt64 * (f (i + n)).toInt64)
  else f (i - n) - montI ((zt (k0 + i / (2 * n))).toInt64 * (f i).toInt64)
/-- a layer of the way back: the block b with the zeta K - 1 - b, turned -/
def bwdI (n K : Nat) (f : Nat → Int32) (i : Nat) : Int32 :=
  if i % (2 * n) < n then f i + f (i + n)
  else montI (((-1) * zt (K - 1 - i / (2 * n))).toInt64 * (f (i - n) - f i).toInt64)
def nttI (f : Nat → Int32) : Nat → Int32 :=
  fwdI 1 128 (fwdI 2 64 (fwdI 4 32 (fwdI 8 16 (fwdI 16 8 (fwdI 32 4 (fwdI 64 2 (fwdI 128 1 f)))))))
def bacI (f : Nat → Int32) : Nat → Int32 :=
  bwdI 128 2 (bwdI 64 4 (bwdI 32 8 (bwdI 16 16 (bwdI 8 32 (bwdI 4 64 (bwdI 2 128 (bwdI 1 256 f)))))))
def invI (f : Nat → Int32) (i : Nat) : Int32 := montI (41978 * (bacI f i).toInt64)
def mulI (a b : Nat → Int32) (k : Nat) : Int32 := wholeI (invI (fun i => montI ((nttI a i).toInt64 * (nttI b i).toInt64)) k)
def addI (a b : Nat → Int32) (k : Nat) : Int32 := wholeI (a k + b k)
end
section
/-! RING: the transform over any commutative ring with fit zetas; nothing of the program -/
section RINGS
theorem nb_m {n b r : Nat} (h : r < 2 * n) : (2 * n * b + r) % (2 * n) = r := by
  rw [Nat.mul_add_mod, Nat.mod_eq_of_lt h]
theorem nb_d {n b r : Nat} (h : r < 2 * n) : (2 * n * b + r) / (2 * n) = b := by
  rw [Nat.mul_add_div (by omega), Nat.div_eq_of_lt h, Nat.add_zero]
theorem nb_lt {n k0 b r : Nat} (hk : 2 * n * k0 = 256) (hb : b < k0) (hr : r < 2 * n) : 2 * n * b + r < 256 := by
  have h := Nat.mul_le_mul_left (2 * n) (show b + 1 ≤ k0 from hb)
  rw [hk, Nat.mul_add, Nat.mul_one] at h
  omega
theorem nb_all {n k0 : Nat} (hk : 2 * n * k0 = 256) (P : Nat → Prop) (lo : ∀ b r, b < k0 → r < n → P (2 * n * b + r)) (hi : ∀ b r, b < k0 → r < n → P (2 * n * b + (r + n))) : ∀ i, i < 256 → P i := by
  intro i h256
  have hn : 0 < n := by
    rcases Nat.eq_zero_or_pos n with h | h
    · subst h
      simp at hk
    · exact h
  have h1 := Nat.div_add_mod i (2 * n)
  have h2 : i % (2 * n) < 2 * n := Nat.mod_lt _ (by omega)
  have h3 : i / (2 * n) < k0 := Nat.div_lt_of_lt_mul (by rw [hk]; exact h256)
  by_cases h : i % (2 * n) < n
  · have h4 := lo _ _ h3 h
    rwa [h1] at h4
  · have h4 := hi (i / (2 * n)) (i % (2 * n) - n) h3 (by omega)
    rw [Nat.sub_add_cancel (by omega), h1] at h4
    exact h4
def fw {R : Type} [Lean.Grind.CommRing R] (z : Nat → R) (n k0 : Nat) (f : Nat → R) (i : Nat) : R :=
  if i % (2 * n) < n then f i + z (k0 + i / (2 * n)) * f (i + n) else f (i - n) - z (k0 + i / (2 * n)) * f i
def bw {R : Type} [Lean.Grind.CommRing R] (z : Nat → R) (n K : Nat) (f : Nat → R) (i : Nat) : R :=
  if i % (2 * n) < n then f i + f (i + n) else -z (K - 1 - i / (2 * n)) * (f (i - n) - f i)
theorem fw_lo {R : Type} [Lean.Grind.CommRing R] {z f : Nat → R} {n k0 b r : Nat} (h : r < n) : fw z n k0 f (2 * n * b + r) = f (2 * n * b + r) + z (k0 + b) * f (2 * n * b + (r + n)) := by
  unfold fw
  rw [nb_m (by omega), nb_d (by omega), if_pos h, Nat.add_assoc]
theorem fw_hi {R : Type} [Lean.Grind.CommRing R] {z f : Nat → R} {n k0 b r : Nat} (h : r < n) : fw z n k0 f (2 * n * b + (r + n)) = f (2 * n * b + r) - z (k0 + b) * f (2 * n * b + (r + n)) := by
  unfold fw
  rw [nb_m (by omega), nb_d (by omega), if_neg (by omega), show 2 * n * b + (r + n) - n = 2 * n * b + r by omega]
theorem bw_lo {R : Type} [Lean.Grind.CommRing R] {z f : Nat → R} {n K b r : Nat} (h : r < n) : bw z n K f (2 * n * b + r) = f (2 * n * b + r) + f (2 * n * b + (r + n)) := by
  unfold bw
  rw [nb_m (by omega), if_pos h, Nat.add_assoc]
theorem bw_hi {R : Type} [Lean.Grind.CommRing R] {z f : Nat → R} {n K b r : Nat} (h : r < n) : bw z n K f (2 * n * b + (r + n)) = -z (K - 1 - b) * (f (2 * n * b + r) - f (2 * n * b + (r + n))) := by
  unfold bw
  rw [nb_m (by omega), nb_d (by omega), if_neg (by omega), show 2 * n * b + (r + n) - n = 2 * n * b + r by omega]
theorem bw_fw {R : Type} [Lean.Grind.CommRing R] {z f : Nat → R} {n k0 : Nat} (hk : 2 * n * k0 = 256) (hz : ∀ b, b < k0 → -z (2 * k0 - 1 - b) * z (k0 + b) = 1) : ∀ i, i < 256 → bw z n (2 * k0) (fw z n k0 f) i = 2 * f i := by
  refine nb_all hk (fun i => bw z n (2 * k0) (fw z n k0 f) i = 2 * f i) (fun b r hb hr => ?_) (fun b r hb hr => ?_)
  · show bw z n (2 * k0) (fw z n k0 f) (2 * n * b + r) = 2 * f (2 * n * b + r)
    rw [bw_lo hr, fw_lo hr, fw_hi hr]
    generalize f (2 * n * b + r) = x
    generalize f (2 * n * b + (r + n)) = y
    generalize z (k0 + b) = w
    grind
  · show bw z n (2 * k0) (fw z n k0 f) (2 * n * b + (r + n)) = 2 * f (2 * n * b + (r + n))
    have h := hz b hb
    rw [bw_hi hr, fw_lo hr, fw_hi hr]
    revert h
    generalize f (2 * n * b + r) = x
    generalize f (2 * n * b + (r + n)) = y
    generalize z (k0 + b) = w
    generalize z (2 * k0 - 1 - b) = v
    intro h
    grind
theorem fw_bw {R : Type} [Lean.Grind.CommRing R] {z f : Nat → R} {n k0 : Nat} (hk : 2 * n * k0 = 256) (hz : ∀ b, b < k0 → -z (2 * k0 - 1 - b) * z (k0 + b) = 1) : ∀ i, i < 256 → fw z n k0 (bw z n (2 * k0) f) i = 2 * f i := by
  refine nb_all hk (fun i => fw z n k0 (bw z n (2 * k0) f) i = 2 * f i) (fun b r hb hr => ?_) (fun b r hb hr => ?_)
  · show fw z n k0 (bw z n (2 * k0) f) (2 * n * b + r) = 2 * f (2 * n * b + r)
    have h := hz b hb
    rw [fw_lo hr, bw_lo hr, bw_hi hr]
    revert h
    generalize f (2 * n * b + r) = x
    generalize f (2 * n * b + (r + n)) = y
    generalize z (k0 + b) = w
    generalize z (2 * k0 - 1 - b) = v
    intro h
    grind
  · show fw z n k0 (bw z n (2 * k0) f) (2 * n * b + (r + n)) = 2 * f (2 * n * b + (r + n))
    have h := hz b hb
    rw [fw_hi hr, bw_lo hr, bw_hi hr]
    revert h
    generalize f (2 * n * b + r) = x
    generalize f (2 * n * b + (r + n)) = y
    generalize z (k0 + b) = w
    generalize z (2 * k0 - 1 - b) = v
    intro h
    grind
theorem fw_congr {R : Type} [Lean.Grind.CommRing R] {z f g : Nat → R} {n k0 : Nat} (hk : 2 * n * k0 = 256) (h : ∀ i, i < 256 → f i = g i) : ∀ i, i < 256 → fw z n k0 f i = fw z n k0 g i := by
  refine nb_all hk (fun i => fw z n k0 f i = fw z n k0 g i) (fun b r hb hr => ?_) (fun b r hb hr => ?_)
  · show fw z n k0 f (2 * n * b + r) = fw z n k0 g (2 * n * b + r)
    rw [fw_lo hr, fw_lo hr, h _ (nb_lt hk hb (by omega)), h _ (nb_lt hk hb (by omega))]
  · show fw z n k0 f (2 * n * b + (r + n)) = fw z n k0 g (2 * n * b + (r + n))
    rw [fw_hi hr, fw_hi hr, h (2 * n * b + r) (nb_lt hk hb (by omega)), h _ (nb_lt hk hb (by omega))]
theorem bw_congr {R : Type} [Lean.Grind.CommRing R] {z f g : Nat → R} {n k0 K : Nat} (hk : 2 * n * k0 = 256) (h : ∀ i, i < 256 → f i = g i) : ∀ i, i < 256 → bw z n K f i = bw z n K g i := by
  refine nb_all hk (fun i => bw z n K f i = bw z n K g i) (fun b r hb hr => ?_) (fun b r hb hr => ?_)
  · show bw z n K f (2 * n * b + r) = bw z n K g (2 * n * b + r)
    rw [bw_lo hr, bw_lo hr, h (2 * n * b + r) (nb_lt hk hb (by omega)), h _ (nb_lt hk hb (by omega))]
  · show bw z n K f (2 * n * b + (r + n)) = bw z n K g (2 * n * b + (r + n))
    rw [bw_hi hr, bw_hi hr, h (2 * n * b + r) (nb_lt hk hb (by omega)), h _ (nb_lt hk hb (by omega))]
theorem fw_smul {R : Type} [Lean.Grind.CommRing R] {z f : Nat → R} {n k0 : Nat} (c : R) (i : Nat) : fw z n k0 (fun j => c * f j) i = c * fw z n k0 f i := by
  unfold fw
  split <;> grind
theorem bw_smul {R : Type} [Lean.Grind.CommRing R] {z f : Nat → R} {n k0 : Nat} (c : R) (i : Nat) : bw z n k0 (fun j => c * f j) i = c * bw z n k0 f i := by
  unfold bw
  split <;> grind
theorem fw_add {R : Type} [Lean.Grind.CommRing R] {z f g : Nat → R} {n k0 : Nat} (i : Nat) : fw z n k0 (fun j => f j + g j) i = fw z n k0 f i + fw z n k0 g i := by
  unfold fw
  split <;> grind
theorem bw_add {R : Type} [Lean.Grind.CommRing R] {z f g : Nat → R} {n k0 : Nat} (i : Nat) : bw z n k0 (fun j => f j + g j) i = bw z n k0 f i + bw z n k0 g i := by
  unfold bw
  split <;> grind
/-- the first m layers -/
def TT {R : Type} [Lean.Grind.CommRing R] (z : Nat → R) : Nat → (Nat → R) → Nat → R
  | 0, f => f
  | m + 1, f => fw z (2 ^ (7 - m)) (2 ^ m) (TT z m f)
/-- .. and the way back -/
def BB {R : Type} [Lean.Grind.CommRing R] (z : Nat → R) : Nat → (Nat → R) → Nat → R
  | 0, f => f
  | m + 1, f => BB z m (bw z (2 ^ (7 - m)) (2 * 2 ^ m) f)
def pw {R : Type} [Lean.Grind.CommRing R] : Nat → R
  | 0 => 1
  | m + 1 => 2 * pw m
theorem nk {m : Nat} (h : m < 8) : 2 * 2 ^ (7 - m) * 2 ^ m = 256 := by
  rcases (show m = 0 ∨ m = 1 ∨ m = 2 ∨ m = 3 ∨ m = 4 ∨ m = 5 ∨ m = 6 ∨ m = 7 by omega) with e | e | e | e | e | e | e | e <;> subst e <;> rfl
/-- the zetas are fit: each is turned over by its mate, and squares to its parent's root -/
def Fit {R : Type} [Lean.Grind.CommRing R] (z : Nat → R) : Prop :=
  (∀ m, m < 8 → ∀ b, b < 2 ^ m → -z (2 * 2 ^ m - 1 - b) * z (2 ^ m + b) = 1) ∧ z 1 * z 1 = -1 ∧ ∀ k, 1 ≤ k → k < 128 → z (2 * k) * z (2 * k) = z k ∧ z (2 * k + 1) * z (2 * k + 1) = -z k
theorem TT_congr {R : Type} [Lean.Grind.CommRing R] {z f g : Nat → R} (h : ∀ i, i < 256 → f i = g i) : ∀ m, m ≤ 8 → ∀ i, i < 256 → TT z m f i = TT z m g i := by
  intro m
  induction m with
  | zero => exact fun _ => h
  | succ m ih => exact fun hm => fw_congr (nk (by omega)) (ih (by omega))
theorem BB_congr {R : Type} [Lean.Grind.CommRing R] {z : Nat → R} : ∀ m, m ≤ 8 → ∀ f g : Nat → R, (∀ i, i < 256 → f i = g i) → ∀ i, i < 256 → BB z m f i = BB z m g i := by
  intro m
  induction m with
  | zero => exact fun _ f g h => h
  | succ m ih => exact fun hm f g h => ih (by omega) _ _ (bw_congr (nk (by omega)) h)
theorem TT_smul {R : Type} [Lean.Grind.CommRing R] {z f : Nat → R} (c : R) : ∀ m i, TT z m (fun j => c * f j) i = c * TT z m f i := by
  intro m
  induction m with
  | zero => exact fun _ => rfl
  | succ m ih =>
    intro i
    show fw z _ _ (TT z m (fun j => c * f j)) i = c * fw z _ _ (TT z m f) i
    rw [show TT z m (fun j => c * f j) = fun j => c * TT z m f j from funext ih]
    exact fw_smul c i
theorem TT_add {R : Type} [Lean.Grind.CommRing R] {z f g : Nat → R} : ∀ m i, TT z m (fun j => f j + g j) i = TT z m f i + TT z m g i := by
  intro m
  induction m with
  | zero => exact fun _ => rfl
  | succ m ih =>
    intro i
    show fw z _ _ (TT z m (fun j => f j + g j)) i = fw z _ _ (TT z m f) i + fw z _ _ (TT z m g) i
    rw [show TT z m (fun j => f j + g j) = fun j => TT z m f j + TT z m g j from funext ih]
    exact fw_add i
theorem BB_smul {R : Type} [Lean.Grind.CommRing R] {z : Nat → R} (c : R) : ∀ m (f : Nat → R) i, BB z m (fun j => c * f j) i = c * BB z m f i := by
  intro m
  induction m with
  | zero => exact fun _ _ => rfl
  | succ m ih =>
    intro f i
    show BB z m (bw z _ _ (fun j => c * f j)) i = c * BB z m (bw z _ _ f) i
    rw [show bw z (2 ^ (7 - m)) (2 * 2 ^ m) (fun j => c * f j) = fun j => c * bw z (2 ^ (7 - m)) (2 * 2 ^ m) f j from funext (bw_smul c)]
    exact ih _ i
theorem BB_add {R : Type} [Lean.Grind.CommRing R] {z : Nat → R} : ∀ m (f g : Nat → R) i, BB z m (fun j => f j + g j) i = BB z m f i + BB z m g i := by
  intro m
  induction m with
  | zero => exact fun _ _ _ => rfl
  | succ m ih =>
    intro f g i
    show BB z m (bw z _ _ (fun j => f j + g j)) i = BB z m (bw z _ _ f) i + BB z m (bw z _ _ g) i
    rw [show bw z (2 ^ (7 - m)) (2 * 2 ^ m) (fun j => f j + g j) = fun j => bw z (2 ^ (7 - m)) (2 * 2 ^ m) f j + bw z (2 ^ (7 - m)) (2 * 2 ^ m) g j from funext bw_add]
    exact ih _ _ i
theorem BB_TT {R : Type} [Lean.Grind.CommRing R] {z f : Nat → R} (hz : Fit z) : ∀ m, m ≤ 8 → ∀ i, i < 256 → BB z m (TT z m f) i = pw m * f i := by
  intro m
  induction m with
  | zero =>
    intro _ i _
    show f i = 1 * f i
    grind
  | succ m ih =>
    intro hm i hi
    show BB z m (bw z _ _ (fw z _ _ (TT z m f))) i = 2 * pw m * f i
    rw [BB_congr m (by omega) _ (fun j => 2 * TT z m f j) (bw_fw (nk (by omega)) (hz.1 m (by omega))) i hi, BB_smul, ih (by omega) i hi]
    grind
theorem TT_BB {R : Type} [Lean.Grind.CommRing R] {z : Nat → R} (hz : Fit z) : ∀ m, m ≤ 8 → ∀ (f : Nat → R) i, i < 256 → TT z m (BB z m f) i = pw m * f i := by
  intro m
  induction m with
  | zero =>
    intro _ f i _
    show f i = 1 * f i
    grind
  | succ m ih =>
    intro hm f i hi
    show fw z _ _ (TT z m (BB z m (bw z _ _ f))) i = 2 * pw m * f i
    rw [fw_congr (nk (by omega)) (ih (by omega) (bw z (2 ^ (7 - m)) (2 * 2 ^ m) f)) i hi, fw_smul, fw_bw (nk (by omega)) (hz.1 m (by omega)) i hi]
    grind
/-! a place up, the last to the first with the block's root -/
def sh {R : Type} [Lean.Grind.CommRing R] (L : Nat) (c : Nat → R) (f : Nat → R) (i : Nat) : R := if i % L = 0 then c (i / L) * f (i + L - 1) else f (i - 1)
theorem sh_0 {R : Type} [Lean.Grind.CommRing R] {L b : Nat} {c f : Nat → R} (h : 0 < L) : sh L c f (L * b) = c b * f (L * b + (L - 1)) := by
  unfold sh
  rw [Nat.mul_mod_right, if_pos rfl, Nat.mul_div_cancel_left _ h, show L * b + L - 1 = L * b + (L - 1) by omega]
theorem sh_s {R : Type} [Lean.Grind.CommRing R] {L b r : Nat} {c f : Nat → R} (h : r + 1 < L) : sh L c f (L * b + (r + 1)) = f (L * b + r) := by
  unfold sh
  rw [Nat.mul_add_mod, Nat.mod_eq_of_lt h, if_neg (by omega)]
  rfl
theorem sh_fw {R : Type} [Lean.Grind.CommRing R] {z f c c' : Nat → R} {n k0 : Nat} (hk : 2 * n * k0 = 256) (h0 : ∀ b, b < k0 → c b = z (k0 + b) * z (k0 + b)) (h1 : ∀ b, b < k0 → c' (2 * b) = z (k0 + b)) (h2 : ∀ b, b < k0 → c' (2 * b + 1) = -z (k0 + b)) : ∀ i, i < 256 → fw z n k0 (sh (2 * n) c f) i = sh n c' (fw z n k0 f) i := by
  refine nb_all hk (fun i => fw z n k0 (sh (2 * n) c f) i = sh n c' (fw z n k0 f) i) (fun b r hb hr => ?_) (fun b r hb hr => ?_)
  · show fw z n k0 (sh (2 * n) c f) (2 * n * b + r) = sh n c' (fw z n k0 f) (2 * n * b + r)
    rw [fw_lo hr]
    have e0 : ∀ x, 2 * n * b + x = n * (2 * b) + x := fun x => by rw [Nat.mul_comm 2 n, Nat.mul_assoc]
    cases r with
    | zero =>
      have a1 : sh n c' (fw z n k0 f) (2 * n * b + 0) = c' (2 * b) * fw z n k0 f (2 * n * b + (n - 1)) := by
        rw [e0 0, e0 (n - 1)]
        exact sh_0 hr
      have a2 : sh (2 * n) c f (2 * n * b + 0) = c b * f (2 * n * b + (n - 1 + n)) := by
        rw [show n - 1 + n = 2 * n - 1 by omega]
        exact sh_0 (by omega)
      have a3 : sh (2 * n) c f (2 * n * b + (0 + n)) = f (2 * n * b + (n - 1)) := by
        rw [show 0 + n = (n - 1) + 1 by omega]
        exact sh_s (by omega)
      rw [a1, a2, a3, fw_lo (by omega), h0 b hb, h1 b hb]
      grind
    | succ r =>
      have a1 : sh n c' (fw z n k0 f) (2 * n * b + (r + 1)) = fw z n k0 f (2 * n * b + r) := by
        rw [e0 (r + 1), e0 r]
        exact sh_s hr
      have a2 : sh (2 * n) c f (2 * n * b + (r + 1)) = f (2 * n * b + r) := sh_s (by omega)
      have a3 : sh (2 * n) c f (2 * n * b + (r + 1 + n)) = f (2 * n * b + (r + n)) := by
        rw [show r + 1 + n = (r + n) + 1 by omega]
        exact sh_s (by omega)
      rw [a1, a2, a3, fw_lo (by omega)]
  · show fw z n k0 (sh (2 * n) c f) (2 * n * b + (r + n)) = sh n c' (fw z n k0 f) (2 * n * b + (r + n))
    rw [fw_hi hr]
    have e0 : ∀ x, 2 * n * b + (x + n) = n * (2 * b + 1) + x := fun x => by
      rw [Nat.mul_add, Nat.mul_comm 2 n, Nat.mul_assoc]
      omega
    cases r with
    | zero =>
      have a1 : sh n c' (fw z n k0 f) (2 * n * b + (0 + n)) = c' (2 * b + 1) * fw z n k0 f (2 * n * b + (n - 1 + n)) := by
        rw [e0 0, e0 (n - 1)]
        exact sh_0 hr
      have a2 : sh (2 * n) c f (2 * n * b + 0) = c b * f (2 * n * b + (n - 1 + n)) := by
        rw [show n - 1 + n = 2 * n - 1 by omega]
        exact sh_0 (by omega)
      have a3 : sh (2 * n) c f (2 * n * b + (0 + n)) = f (2 * n * b + (n - 1)) := by
        rw [show 0 + n = (n - 1) + 1 by omega]
        exact sh_s (by omega)
      rw [a1, a2, a3, fw_hi (by omega), h0 b hb, h2 b hb]
      grind
    | succ r =>
      have a1 : sh n c' (fw z n k0 f) (2 * n * b + (r + 1 + n)) = fw z n k0 f (2 * n * b + (r + n)) := by
        rw [e0 (r + 1), e0 r]
        exact sh_s hr
      have a2 : sh (2 * n) c f (2 * n * b + (r + 1)) = f (2 * n * b + r) := sh_s (by omega)
      have a3 : sh (2 * n) c f (2 * n * b + (r + 1 + n)) = f (2 * n * b + (r + n)) := by
        rw [show r + 1 + n = (r + n) + 1 by omega]
        exact sh_s (by omega)
      rw [a1, a2, a3, fw_hi (by omega)]
/-- the root of the block k -/
def ck {R : Type} [Lean.Grind.CommRing R] (z : Nat → R) (k : Nat) : R := if k = 1 then -1 else if k % 2 = 0 then z (k / 2) else -z (k / 2)
theorem ck_sq {R : Type} [Lean.Grind.CommRing R] {z : Nat → R} (hz : Fit z) (k : Nat) (h1 : 1 ≤ k) (h2 : k < 256) : ck z k = z k * z k := by
  unfold ck
  by_cases e : k = 1
  · rw [if_pos e, e]
    exact hz.2.1.symm
  · rw [if_neg e]
    have h := hz.2.2 (k / 2) (by omega) (by omega)
    by_cases e2 : k % 2 = 0
    · rw [if_pos e2, ← h.1, show 2 * (k / 2) = k by omega]
    · rw [if_neg e2, ← h.2, show 2 * (k / 2) + 1 = k by omega]
theorem TT_sh {R : Type} [Lean.Grind.CommRing R] {z f : Nat → R} (hz : Fit z) : ∀ m, m ≤ 8 → ∀ i, i < 256 → TT z m (sh 256 (fun b => ck z (1 + b)) f) i = sh (2 ^ (8 - m)) (fun b => ck z (2 ^ m + b)) (TT z m f) i := by
  intro m
  induction m with
  | zero => exact fun _ _ _ => rfl
  | succ m ih =>
    intro hm i hi
    have hp : 1 ≤ 2 ^ m := Nat.one_le_two_pow
    have hp2 : 2 ^ m ≤ 128 := by
      have := Nat.pow_le_pow_right (show 0 < 2 by omega) (show m ≤ 7 by omega)
      exact this
    have e1 : 2 ^ (8 - m) = 2 * 2 ^ (7 - m) := by rw [show 8 - m = (7 - m) + 1 by omega, Nat.pow_succ, Nat.mul_comm]
    have e2 : 2 ^ (m + 1) = 2 * 2 ^ m := by rw [Nat.pow_succ, Nat.mul_comm]
    have e3 : 8 - (m + 1) = 7 - m := by omega
    have ih := ih (by omega)
    rw [e1] at ih
    show fw z _ _ (TT z m (sh 256 (fun b => ck z (1 + b)) f)) i = _
    rw [fw_congr (nk (by omega)) ih i hi, e2, e3]
    refine sh_fw (nk (by omega)) (fun b hb => ?_) (fun b hb => ?_) (fun b hb => ?_) i hi
    · exact ck_sq hz _ (by omega) (by omega)
    · show ck z (2 * 2 ^ m + 2 * b) = z (2 ^ m + b)
      unfold ck
      rw [if_neg (by omega), if_pos (by omega), show (2 * 2 ^ m + 2 * b) / 2 = 2 ^ m + b by omega]
    · show ck z (2 * 2 ^ m + (2 * b + 1)) = -z (2 ^ m + b)
      unfold ck
      rw [if_neg (by omega), if_neg (by omega), show (2 * 2 ^ m + (2 * b + 1)) / 2 = 2 ^ m + b by omega]
/-- one in each block of L -/
def on {R : Type} [Lean.Grind.CommRing R] (L : Nat) (i : Nat) : R := if i % L = 0 then 1 else 0
theorem on_at {R : Type} [Lean.Grind.CommRing R] {L b r : Nat} (h : r < L) : on (R := R) L (L * b + r) = if r = 0 then 1 else 0 := by
  unfold on
  rw [Nat.mul_add_mod, Nat.mod_eq_of_lt h]
theorem fw_on {R : Type} [Lean.Grind.CommRing R] {z : Nat → R} {n k0 : Nat} (hk : 2 * n * k0 = 256) : ∀ i, i < 256 → fw z n k0 (on (2 * n)) i = on n i := by
  refine nb_all hk (fun i => fw z n k0 (on (2 * n)) i = on n i) (fun b r hb hr => ?_) (fun b r hb hr => ?_)
  · show fw z n k0 (on (2 * n)) (2 * n * b + r) = on n (2 * n * b + r)
    have e0 : 2 * n * b + r = n * (2 * b) + r := by rw [Nat.mul_comm 2 n, Nat.mul_assoc]
    rw [fw_lo hr, on_at (by omega), on_at (by omega), e0, on_at hr, if_neg (show ¬ r + n = 0 by omega)]
    split <;> grind
  · show fw z n k0 (on (2 * n)) (2 * n * b + (r + n)) = on n (2 * n * b + (r + n))
    have e0 : 2 * n * b + (r + n) = n * (2 * b + 1) + r := by
      rw [Nat.mul_add, Nat.mul_comm 2 n, Nat.mul_assoc]
      omega
    rw [fw_hi hr, on_at (by omega), on_at (by omega), e0, on_at hr, if_neg (show ¬ r + n = 0 by omega)]
    split <;> grind
theorem TT_on {R : Type} [Lean.Grind.CommRing R] {z : Nat → R} : ∀ m, m ≤ 8 → ∀ i, i < 256 → TT z m (on 256) i = on (2 ^ (8 - m)) i := by
  intro m
  induction m with
  | zero => exact fun _ _ _ => rfl
  | succ m ih =>
    intro hm i hi
    have e1 : 2 ^ (8 - m) = 2 * 2 ^ (7 - m) := by rw [show 8 - m = (7 - m) + 1 by omega, Nat.pow_succ, Nat.mul_comm]
    have e3 : 8 - (m + 1) = 7 - m := by omega
    have ih := ih (by omega)
    rw [e1] at ih
    show fw z _ _ (TT z m (on 256)) i = _
    rw [fw_congr (nk (by omega)) ih i hi, e3]
    exact fw_on (nk (by omega)) i hi
theorem TT_one {R : Type} [Lean.Grind.CommRing R] {z : Nat → R} (i : Nat) (hi : i < 256) : TT z 8 (on 256) i = 1 := by
  rw [TT_on 8 (by omega) i hi]
  unfold on
  rw [if_pos (by show i % 1 = 0; omega)]
/-- the product by the transform -/
def mulR {R : Type} [Lean.Grind.CommRing R] (z : Nat → R) (h : R) (a b : Nat → R) (i : Nat) : R := h * BB z 8 (fun j => TT z 8 a j * TT z 8 b j) i
theorem mulR_T {R : Type} [Lean.Grind.CommRing R] {z a b : Nat → R} {h : R} (hz : Fit z) (hh : h * pw 8 = 1) (i : Nat) (hi : i < 256) : TT z 8 (mulR z h a b) i = TT z 8 a i * TT z 8 b i := by
  show TT z 8 (fun i => h * BB z 8 (fun j => TT z 8 a j * TT z 8 b j) i) i = _
  rw [TT_smul, TT_BB hz 8 (by omega) _ i hi]
  show h * (pw 8 * (TT z 8 a i * TT z 8 b i)) = TT z 8 a i * TT z 8 b i
  generalize TT z 8 a i * TT z 8 b i = x
  revert hh
  generalize pw (R := R) 8 = y
  intro hh
  grind
theorem mulR_congr {R : Type} [Lean.Grind.CommRing R] {z a b a' b' : Nat → R} {h : R} (ha : ∀ i, i < 256 → a i = a' i) (hb : ∀ i, i < 256 → b i = b' i) (i : Nat) (hi : i < 256) : mulR z h a b i = mulR z h a' b' i := by
  unfold mulR
  rw [BB_congr 8 (by omega) _ (fun j => TT z 8 a' j * TT z 8 b' j) (fun j hj => by rw [TT_congr ha 8 (by omega) j hj, TT_congr hb 8 (by omega) j hj]) i hi]
theorem mulR_assoc {R : Type} [Lean.Grind.CommRing R] {z a b c : Nat → R} {h : R} (hz : Fit z) (hh : h * pw 8 = 1) (i : Nat) (hi : i < 256) : mulR z h (mulR z h a b) c i = mulR z h a (mulR z h b c) i := by
  show h * BB z 8 (fun j => TT z 8 (mulR z h a b) j * TT z 8 c j) i = h * BB z 8 (fun j => TT z 8 a j * TT z 8 (mulR z h b c) j) i
  rw [BB_congr 8 (by omega) _ (fun j => TT z 8 a j * TT z 8 (mulR z h b c) j) (fun j hj => by rw [mulR_T hz hh j hj, mulR_T hz hh j hj]; grind) i hi]
theorem mulR_add {R : Type} [Lean.Grind.CommRing R] {z a b c : Nat → R} {h : R} (i : Nat) (hi : i < 256) : mulR z h (fun j => a j + b j) c i = mulR z h a c i + mulR z h b c i := by
  show h * BB z 8 (fun j => TT z 8 (fun j => a j + b j) j * TT z 8 c j) i = h * BB z 8 (fun j => TT z 8 a j * TT z 8 c j) i + h * BB z 8 (fun j => TT z 8 b j * TT z 8 c j) i
  rw [BB_congr 8 (by omega) _ (fun j => (fun j => TT z 8 a j * TT z 8 c j) j + (fun j => TT z 8 b j * TT z 8 c j) j) (fun j hj => by rw [TT_add]; grind) i hi, BB_add]
  grind
theorem mulR_comm {R : Type} [Lean.Grind.CommRing R] {z a b : Nat → R} {h : R} (i : Nat) (hi : i < 256) : mulR z h a b i = mulR z h b a i := by
  show h * BB z 8 (fun j => TT z 8 a j * TT z 8 b j) i = h * BB z 8 (fun j => TT z 8 b j * TT z 8 a j) i
  rw [BB_congr 8 (by omega) _ (fun j => TT z 8 b j * TT z 8 a j) (fun j hj => by grind) i hi]
theorem mulR_back {R : Type} [Lean.Grind.CommRing R] {z a b g : Nat → R} {h : R} (hz : Fit z) (hh : h * pw 8 = 1) (e : ∀ j, j < 256 → TT z 8 a j * TT z 8 b j = TT z 8 g j) (i : Nat) (hi : i < 256) : mulR z h a b i = g i := by
  show h * BB z 8 (fun j => TT z 8 a j * TT z 8 b j) i = g i
  rw [BB_congr 8 (by omega) _ (TT z 8 g) e i hi, BB_TT hz 8 (by omega) i hi]
  revert hh
  generalize pw (R := R) 8 = y
  intro hh
  grind
theorem mulR_one {R : Type} [Lean.Grind.CommRing R] {z a e : Nat → R} {h : R} (hz : Fit z) (hh : h * pw 8 = 1) (he : ∀ i, i < 256 → e i = on 256 i) (i : Nat) (hi : i < 256) : mulR z h a e i = a i := by
  refine mulR_back hz hh (fun j hj => ?_) i hi
  rw [TT_congr he 8 (by omega) j hj, TT_one j hj]
  grind
theorem sh_1 {R : Type} [Lean.Grind.CommRing R] {c g : Nat → R} (i : Nat) : sh 1 c g i = c i * g i := by
  unfold sh
  rw [if_pos (by omega), Nat.div_one, Nat.add_sub_cancel]
theorem mulR_X {R : Type} [Lean.Grind.CommRing R] {z a e : Nat → R} {h : R} (hz : Fit z) (hh : h * pw 8 = 1) (he : ∀ i, i < 256 → e i = sh 256 (fun b => ck z (1 + b)) (on 256) i) (i : Nat) (hi : i < 256) : mulR z h a e i = sh 256 (fun b => ck z (1 + b)) a i := by
  refine mulR_back hz hh (fun j hj => ?_) i hi
  rw [TT_congr he 8 (by omega) j hj, TT_sh hz 8 (by omega) j hj, TT_sh hz 8 (by omega) j hj]
  show TT z 8 a j * sh 1 (fun b => ck z (256 + b)) (TT z 8 (on 256)) j = sh 1 (fun b => ck z (256 + b)) (TT z 8 a) j
  rw [sh_1, sh_1, TT_one j hj]
  grind
end RINGS
end
section
/-! BRIDGE: from the Int32 functions to the ring -/
section BRIDGE
def uN (x : Int64) : Nat := x.toUInt64.toNat
theorem uN_lt (x : Int64) : uN x < 18446744073709551616 := x.toUInt64.toNat_lt
theorem uN_shr (x : Int64) (s : UInt64) : uN (x.toUInt64 >>> s).toInt64 = uN x / 2 ^ (s.toNat % 64) := by
  show (x.toUInt64 >>> s).toNat = _
  rw [UInt64.toNat_shiftRight, Nat.shiftRight_eq_div_pow]
  rfl
theorem uN_s32 (x : Int64) : uN (x.toUInt64 >>> ((32 : Int32).toInt64.toUInt64 &&& Int64.toUInt64 63)).toInt64 = uN x / 4294967296 := by
  have h : ((32 : Int32).toInt64.toUInt64 &&& Int64.toUInt64 63).toNat % 64 = 32 := by decide
  rw [uN_shr, h]
theorem uN_int (x : Int64) : x.toInt = if 2 * uN x < 18446744073709551616 then (uN x : Int) else (uN x : Int) - 18446744073709551616 := BitVec.toInt_eq_toNat_cond _
theorem bm32 (x : Int) : x.bmod (2 ^ 32) = if x % 4294967296 < 2147483648 then x % 4294967296 else x % 4294967296 - 4294967296 := by
  rw [Int.bmod_def]
  rfl
theorem bm64 (x : Int) : x.bmod (2 ^ 64) = if x % 18446744073709551616 < 9223372036854775808 then x % 18446744073709551616 else x % 18446744073709551616 - 18446744073709551616 := by
  rw [Int.bmod_def]
  rfl
theorem i_add {a b : Int32} (h1 : -2147483648 ≤ a.toInt + b.toInt) (h2 : a.toInt + b.toInt < 2147483648) : (a + b).toInt = a.toInt + b.toInt := by
  rw [Int32.toInt_add, bm32]
  omega
theorem i_sub {a b : Int32} (h1 : -2147483648 ≤ a.toInt - b.toInt) (h2 : a.toInt - b.toInt < 2147483648) : (a - b).toInt = a.toInt - b.toInt := by
  rw [Int32.toInt_sub, bm32]
  omega
theorem i_mul {a b : Int32} (h1 : -2147483648 ≤ a.toInt * b.toInt) (h2 : a.toInt * b.toInt < 2147483648) : (a * b).toInt = a.toInt * b.toInt := by
  rw [Int32.toInt_mul, bm32]
  revert h1 h2
  generalize a.toInt * b.toInt = x
  intro h1 h2
  omega
theorem l_mul {a b : Int64} (h1 : -9223372036854775808 ≤ a.toInt * b.toInt) (h2 : a.toInt * b.toInt < 9223372036854775808) : (a * b).toInt = a.toInt * b.toInt := by
  rw [Int64.toInt_mul, bm64]
  revert h1 h2
  generalize a.toInt * b.toInt = x
  intro h1 h2
  omega
theorem l_sub {a b : Int64} (h1 : -9223372036854775808 ≤ a.toInt - b.toInt) (h2 : a.toInt - b.toInt < 9223372036854775808) : (a - b).toInt = a.toInt - b.toInt := by
  rw [Int64.toInt_sub, bm64]
  omega
theorem bx32 (x : Int) : ∃ k : Int, x.bmod (2 ^ 32) = x + 4294967296 * k := by
  rw [bm32]
  split
  · exact ⟨-(x / 4294967296), by omega⟩
  · exact ⟨-(x / 4294967296) - 1, by omega⟩
theorem bx64 (x : Int) : ∃ k : Int, x.bmod (2 ^ 64) = x + 18446744073709551616 * k := by
  rw [bm64]
  split
  · exact ⟨-(x / 18446744073709551616), by omega⟩
  · exact ⟨-(x / 18446744073709551616) - 1, by omega⟩
/-- the upper half of a multiple of 2^32 -/
theorem up_half {D E : Int64} {w : Int} (h : D.toInt = 4294967296 * w) (h1 : -8380417 < w) (h2 : w < 8380417) (hE : uN E = uN D / 4294967296) : E.toInt.bmod (2 ^ 32) = w := by
  have u2 := uN_int D
  have u3 := uN_int E
  have u4 := uN_lt D
  rw [bm32]
  by_cases c : 2 * uN D < 18446744073709551616
  · rw [if_pos c] at u2
    have hd : (uN E : Int) = w := by omega
    rw [if_pos (by omega)] at u3
    rw [u3, hd]
    split <;> omega
  · rw [if_neg c] at u2
    have hd : (uN E : Int) = w + 4294967296 := by omega
    rw [if_pos (by omega)] at u3
    rw [u3, hd]
    split <;> omega
/-- Montgomery's reduction: what is left over is a multiple of 2^32 -/
theorem montI_spec {a : Int64} (h1 : -17996808470921216 < a.toInt) (h2 : a.toInt < 17996808470921216) : ∃ t : Int, a.toInt - t * 8380417 = (montI a).toInt * 4294967296 ∧ -8380417 < (montI a).toInt ∧ (montI a).toInt < 8380417 := by
  have c1 : (58728449 : Int64).toInt = 58728449 := by decide
  have c2 : (8380417 : Int64).toInt = 8380417 := by decide
  generalize hT : (a * 58728449).toInt32 = T
  have e1 : T.toInt = ((a.toInt * 58728449).bmod (2 ^ 64)).bmod (2 ^ 32) := by
    rw [← hT, Int64.toInt_toInt32, Int64.toInt_mul, c1]
  have b1 := T.le_toInt
  have b2 := T.toInt_lt
  obtain ⟨k1, f1⟩ := bx64 (a.toInt * 58728449)
  obtain ⟨k2, f2⟩ := bx32 ((a.toInt * 58728449).bmod (2 ^ 64))
  rw [f2, f1] at e1
  have e2 : (T.toInt64 * 8380417).toInt = T.toInt * 8380417 := by
    rw [l_mul (by rw [Int32.toInt_toInt64, c2]; omega) (by rw [Int32.toInt_toInt64, c2]; omega), Int32.toInt_toInt64, c2]
  have e3 : (a - T.toInt64 * 8380417).toInt = a.toInt - T.toInt * 8380417 := by
    rw [l_sub (by rw [e2]; omega) (by rw [e2]; omega), e2]
  have e4 : (montI a).toInt = ((((a - T.toInt64 * 8380417).toUInt64 >>> ((32 : Int32).toInt64.toUInt64 &&& Int64.toUInt64 63)).toInt64).toInt).bmod (2 ^ 32) := by
    unfold montI
    rw [hT, Int64.toInt_toInt32]
  have u1 := uN_s32 (a - T.toInt64 * 8380417)
  have e5 : (a - T.toInt64 * 8380417).toInt = 4294967296 * (-(114592 * a.toInt + (4294967296 * k1 + k2) * 8380417)) := by
    rw [e3]
    omega
  have e6 := up_half e5 (by omega) (by omega) u1
  rw [← e4] at e6
  refine ⟨T.toInt, ?_, ?_, ?_⟩
  · rw [e6]
    omega
  · rw [e6]
    omega
  · rw [e6]
    omega
theorem redI_spec {a : Int32} (h1 : -8380417 < a.toInt) (h2 : a.toInt < 16760834) : (redI a).toInt = a.toInt - (a.toInt + 4194304) / 8388608 * 8380417 := by
  have c1 : (4194304 : Int32).toInt = 4194304 := by decide
  have c2 : (8380417 : Int32).toInt = 8380417 := by decide
  have e1 : (a + 4194304).toInt = a.toInt + 4194304 := by
    rw [i_add (by rw [c1]; omega) (by rw [c1]; omega), c1]
  have e2 : ((a + 4194304) >>> ((23 : Int32) &&& 31)).toInt = (a.toInt + 4194304) / 8388608 := by
    rw [pk_shr _ _ 23 (by decide), e1, Int.shiftRight_eq_div_pow]
    rfl
  generalize hS : (a + 4194304) >>> ((23 : Int32) &&& 31) = S at e2
  have e3 : (S * 8380417).toInt = S.toInt * 8380417 := by
    rw [i_mul (by rw [c2]; omega) (by rw [c2]; omega), c2]
  generalize hP : S * 8380417 = P at e3
  unfold redI
  rw [hS, hP, i_sub (by omega) (by omega), e3, e2]
theorem cadI_spec {a : Int32} (h1 : -8380417 ≤ a.toInt) (h2 : a.toInt < 8380417) : (cadI a).toInt = if a.toInt < 0 then a.toInt + 8380417 else a.toInt := by
  have c2 : (8380417 : Int32).toInt = 8380417 := by decide
  have e2 : (a >>> ((31 : Int32) &&& 31)).toInt = a.toInt / 2147483648 := by
    rw [pk_shr _ _ 31 (by decide), Int.shiftRight_eq_div_pow]
    rfl
  unfold cadI
  by_cases h : a.toInt < 0
  · have e3 : a >>> ((31 : Int32) &&& 31) = -1 := Int32.toInt_inj.mp (by rw [e2, show (-1 : Int32).toInt = -1 from by decide]; omega)
    rw [e3, show ((-1 : Int32) &&& 8380417) = 8380417 from by decide, i_add (by rw [c2]; omega) (by rw [c2]; omega), c2, if_pos h]
  · have e3 : a >>> ((31 : Int32) &&& 31) = 0 := Int32.toInt_inj.mp (by rw [e2, show (0 : Int32).toInt = 0 from by decide]; omega)
    rw [e3, show ((0 : Int32) &&& 8380417) = 0 from by decide, Int32.add_zero, if_neg h]
/-- brought back into range: the canonical representative -/
theorem wholeI_spec {a : Int32} (h1 : -8380417 < a.toInt) (h2 : a.toInt < 16760833) : (wholeI a).toInt = a.toInt % 8380417 := by
  have e1 := redI_spec h1 (by omega)
  have e2 := cadI_spec (a := redI a) (by omega) (by omega)
  unfold wholeI
  rw [e2]
  split <;> omega
theorem fairI_spec (v : Int32) : ∃ j : Nat, j < 8380417 ∧ fairI v = nI j := by
  refine ⟨v.toBitVec.toNat % 2 ^ 31 % 8380417, Nat.mod_lt _ (by decide), ?_⟩
  unfold fairI
  rw [pk_and v 31 (by decide), show (8380417 : Int32) = nI 8380417 from rfl, pk_rem (Nat.mod_lt _ (by decide)) (by decide) (by decide)]
def Hom {R : Type} [Lean.Grind.CommRing R] (p : Int → R) : Prop := (∀ x y, p (x + y) = p x + p y) ∧ (∀ x y, p (x * y) = p x * p y) ∧ p 1 = 1 ∧ ∀ x y, p x = p y ↔ x % 8380417 = y % 8380417
theorem Hom.sub {R : Type} [Lean.Grind.CommRing R] {p : Int → R} (H : Hom p) (x y : Int) : p (x - y) = p x - p y := by
  have h := H.1 (x - y) y
  rw [Int.sub_add_cancel] at h
  grind
theorem Hom.zero {R : Type} [Lean.Grind.CommRing R] {p : Int → R} (H : Hom p) : p 0 = 0 := by
  have h := H.1 0 0
  rw [Int.add_zero] at h
  grind
theorem Hom.neg {R : Type} [Lean.Grind.CommRing R] {p : Int → R} (H : Hom p) (x : Int) : p (-x) = -p x := by
  have h := H.sub 0 x
  rw [Int.zero_sub, H.zero] at h
  grind
theorem montI_p {R : Type} [Lean.Grind.CommRing R] {p : Int → R} (H : Hom p) {a : Int64} (h1 : -17996808470921216 < a.toInt) (h2 : a.toInt < 17996808470921216) : p (montI a).toInt = p a.toInt * p 8265825 := by
  obtain ⟨t, e, -, -⟩ := montI_spec h1 h2
  rw [← H.2.1]
  refine (H.2.2.2 _ _).mpr ?_
  omega
theorem mont_b {a : Int64} (h1 : -17996808470921216 < a.toInt) (h2 : a.toInt < 17996808470921216) : -8380417 < (montI a).toInt ∧ (montI a).toInt < 8380417 := by
  obtain ⟨t, e, h⟩ := montI_spec h1 h2
  exact h
/-- a product of two ints, as a long -/
theorem z_mul {z f : Int32} {Bz Bf : Nat} (hz : z.toInt.natAbs ≤ Bz) (hf : f.toInt.natAbs ≤ Bf) (hb : Bz * Bf < 17996808470921216) : (z.toInt64 * f.toInt64).toInt = z.toInt * f.toInt ∧ -17996808470921216 < z.toInt * f.toInt ∧ z.toInt * f.toInt < 17996808470921216 := by
  have h : (z.toInt * f.toInt).natAbs < 17996808470921216 := by
    rw [Int.natAbs_mul]
    exact Nat.lt_of_le_of_lt (Nat.mul_le_mul hz hf) hb
  have h3 : -17996808470921216 < z.toInt * f.toInt ∧ z.toInt * f.toInt < 17996808470921216 := by
    revert h
    generalize z.toInt * f.toInt = x
    intro h
    omega
  refine ⟨?_, h3⟩
  rw [l_mul (by rw [Int32.toInt_toInt64, Int32.toInt_toInt64]; omega) (by rw [Int32.toInt_toInt64, Int32.toInt_toInt64]; omega), Int32.toInt_toInt64, Int32.toInt_toInt64]
theorem zt_b (k : Nat) : (zt k).toInt.natAbs ≤ 4190208 := by
  by_cases h : k < 256
  · exact (by decide +kernel : ∀ k, k < 256 → (zt k).toInt.natAbs ≤ 4190208) k h
  · have e : zt k = 0 := by
      unfold zt
      have hl : ztl.length = 256 := by decide +kernel
      rw [List.getD_eq_getElem?_getD, List.getElem?_eq_none (by rw [hl]; omega)]
      rfl
    rw [e]
    decide
def zJ (k : Nat) : Int := (zt k).toInt * 8265825
def zR {R : Type} [Lean.Grind.CommRing R] (p : Int → R) (k : Nat) : R := p (zt k).toInt * p 8265825
theorem zR_J {R : Type} [Lean.Grind.CommRing R] {p : Int → R} (H : Hom p) (k : Nat) : zR p k = p (zJ k) := (H.2.1 _ _).symm
theorem zJ_inv : ∀ m, m < 8 → ∀ b, b < 2 ^ m → (-zJ (2 * 2 ^ m - 1 - b) * zJ (2 ^ m + b)) % 8380417 = 1 % 8380417 := by decide +kernel
theorem zJ_1 : (zJ 1 * zJ 1) % 8380417 = (-1) % 8380417 := by decide +kernel
theorem zJ_sq : ∀ k, k < 128 → 1 ≤ k → (zJ (2 * k) * zJ (2 * k)) % 8380417 = zJ k % 8380417 ∧ (zJ (2 * k + 1) * zJ (2 * k + 1)) % 8380417 = (-zJ k) % 8380417 := by decide +kernel
theorem zR_fit {R : Type} [Lean.Grind.CommRing R] {p : Int → R} (H : Hom p) : Fit (zR p) := by
  refine ⟨fun m hm b hb => ?_, ?_, fun k h1 h2 => ⟨?_, ?_⟩⟩
  · rw [zR_J H, zR_J H, ← H.neg, ← H.2.1, ← H.2.2.1]
    exact (H.2.2.2 _ _).mpr (zJ_inv m hm b hb)
  · rw [zR_J H, ← H.2.1, ← H.2.2.1, ← H.neg]
    exact (H.2.2.2 _ _).mpr zJ_1
  · rw [zR_J H, zR_J H, ← H.2.1]
    exact (H.2.2.2 _ _).mpr (zJ_sq k h2 h1).1
  · rw [zR_J H, zR_J H, ← H.2.1, ← H.neg]
    exact (H.2.2.2 _ _).mpr (zJ_sq k h2 h1).2
/-- the ints f stand for F, below B -/
def rl {R : Type} [Lean.Grind.CommRing R] (p : Int → R) (B : Int) (f : Nat → Int32) (F : Nat → R) : Prop := ∀ i, i < 256 → p (f i).toInt = F i ∧ -B < (f i).toInt ∧ (f i).toInt < B
theorem fwdI_lo {f : Nat → Int32} {n k0 b r : Nat} (h : r < n) : fwdI n k0 f (2 * n * b + r) = f (2 * n * b + r) + montI ((zt (k0 + b)).toInt64 * (f (2 * n * b + (r + n))).toInt64) := by
  unfold fwdI
  rw [nb_m (by omega), nb_d (by omega), if_pos h, Nat.add_assoc]
theorem fwdI_hi {f : Nat → Int32} {n k0 b r : Nat} (h : r < n) : fwdI n k0 f (2 * n * b + (r + n)) = f (2 * n * b + r) - montI ((zt (k0 + b)).toInt64 * (f (2 * n * b + (r + n))).toInt64) := by
  unfold fwdI
  rw [nb_m (by omega), nb_d (by omega), if_neg (by omega), show 2 * n * b + (r + n) - n = 2 * n * b + r by omega]
theorem bwdI_lo {f : Nat → Int32} {n K b r : Nat} (h : r < n) : bwdI n K f (2 * n * b + r) = f (2 * n * b + r) + f (2 * n * b + (r + n)) := by
  unfold bwdI
  rw [nb_m (by omega), if_pos h, Nat.add_assoc]
theorem bwdI_hi {f : Nat → Int32} {n K b r : Nat} (h : r < n) : bwdI n K f (2 * n * b + (r + n)) = montI (((-1) * zt (K - 1 - b)).toInt64 * (f (2 * n * b + r) - f (2 * n * b + (r + n))).toInt64) := by
  unfold bwdI
  rw [nb_m (by omega), nb_d (by omega), if_neg (by omega), show 2 * n * b + (r + n) - n = 2 * n * b + r by omega]
theorem fwdI_rl {R : Type} [Lean.Grind.CommRing R] {p : Int → R} (H : Hom p) {f : Nat → Int32} {F : Nat → R} {n k0 : Nat} {B : Int} (hk : 2 * n * k0 = 256) (hB : B ≤ 67043336) (h : rl p B f F) : rl p (B + 8380417) (fwdI n k0 f) (fw (zR p) n k0 F) := by
  have key : ∀ b r, b < k0 → r < n → ∃ x y : Int32, ∃ X Y : R, f (2 * n * b + r) = x ∧ f (2 * n * b + (r + n)) = y ∧ F (2 * n * b + r) = X ∧ F (2 * n * b + (r + n)) = Y ∧ p x.toInt = X ∧ -B < x.toInt ∧ x.toInt < B ∧ p (montI ((zt (k0 + b)).toInt64 * y.toInt64)).toInt = zR p (k0 + b) * Y ∧ -8380417 < (montI ((zt (k0 + b)).toInt64 * y.toInt64)).toInt ∧ (montI ((zt (k0 + b)).toInt64 * y.toInt64)).toInt < 8380417 := by
    intro b r hb hr
    obtain ⟨x1, x2, x3⟩ := h (2 * n * b + r) (nb_lt hk hb (by omega))
    obtain ⟨y1, y2, y3⟩ := h (2 * n * b + (r + n)) (nb_lt hk hb (by omega))
    obtain ⟨m1, m2, m3⟩ := z_mul (f := f (2 * n * b + (r + n))) (Bf := 67043336) (zt_b (k0 + b)) (by omega) (by decide)
    have hm := montI_p H (a := (zt (k0 + b)).toInt64 * (f (2 * n * b + (r + n))).toInt64) (by rw [m1]; exact m2) (by rw [m1]; exact m3)
    have hb2 := mont_b (a := (zt (k0 + b)).toInt64 * (f (2 * n * b + (r + n))).toInt64) (by rw [m1]; exact m2) (by rw [m1]; exact m3)
    refine ⟨_, _, _, _, rfl, rfl, rfl, rfl, x1, x2, x3, ?_, hb2.1, hb2.2⟩
    rw [hm, m1, H.2.1, y1]
    unfold zR
    grind
  refine nb_all hk (fun i => p (fwdI n k0 f i).toInt = fw (zR p) n k0 F i ∧ -(B + 8380417) < (fwdI n k0 f i).toInt ∧ (fwdI n k0 f i).toInt < B + 8380417) (fun b r hb hr => ?_) (fun b r hb hr => ?_)
  · obtain ⟨x, y, X, Y, e1, e2, e3, e4, x1, x2, x3, m1, m2, m3⟩ := key b r hb hr
    show p (fwdI n k0 f (2 * n * b + r)).toInt = fw (zR p) n k0 F (2 * n * b + r) ∧ -(B + 8380417) < (fwdI n k0 f (2 * n * b + r)).toInt ∧ (fwdI n k0 f (2 * n * b + r)).toInt < B + 8380417
    rw [fwdI_lo hr, fw_lo hr, e1, e2, e3, e4, i_add (by omega) (by omega)]
    refine ⟨?_, by omega, by omega⟩
    rw [H.1, x1, m1]
  · obtain ⟨x, y, X, Y, e1, e2, e3, e4, x1, x2, x3, m1, m2, m3⟩ := key b r hb hr
    show p (fwdI n k0 f (2 * n * b + (r + n))).toInt = fw (zR p) n k0 F (2 * n * b + (r + n)) ∧ -(B + 8380417) < (fwdI n k0 f (2 * n * b + (r + n))).toInt ∧ (fwdI n k0 f (2 * n * b + (r + n))).toInt < B + 8380417
    rw [fwdI_hi hr, fw_hi hr, e1, e2, e3, e4, i_sub (by omega) (by omega)]
    refine ⟨?_, by omega, by omega⟩
    rw [H.sub, x1, m1]
theorem bwd_v {R : Type} [Lean.Grind.CommRing R] {p : Int → R} (H : Hom p) {z x y : Int32} {B : Int} (hB : B ≤ 1072693376) (hz : z.toInt.natAbs ≤ 4190208) (x2 : -B < x.toInt) (x3 : x.toInt < B) (y2 : -B < y.toInt) (y3 : y.toInt < B) : p (montI (((-1) * z).toInt64 * (x - y).toInt64)).toInt = -(p z.toInt * p 8265825) * (p x.toInt - p y.toInt) ∧ -8380417 < (montI (((-1) * z).toInt64 * (x - y).toInt64)).toInt ∧ (montI (((-1) * z).toInt64 * (x - y).toInt64)).toInt < 8380417 := by
  have e1 : (x - y).toInt = x.toInt - y.toInt := i_sub (by omega) (by omega)
  have c1 : (-1 : Int32).toInt = -1 := by decide
  have e2 : ((-1) * z).toInt = -z.toInt := by
    rw [i_mul (by rw [c1]; omega) (by rw [c1]; omega), c1]
    omega
  obtain ⟨m1, m2, m3⟩ := z_mul (z := (-1) * z) (f := x - y) (Bz := 4190208) (Bf := 2145386752) (by rw [e2]; omega) (by rw [e1]; omega) (by decide)
  have hm := montI_p H (a := ((-1) * z).toInt64 * (x - y).toInt64) (by rw [m1]; exact m2) (by rw [m1]; exact m3)
  have hb2 := mont_b (a := ((-1) * z).toInt64 * (x - y).toInt64) (by rw [m1]; exact m2) (by rw [m1]; exact m3)
  refine ⟨?_, hb2⟩
  rw [hm, m1, H.2.1, e1, e2, H.neg, H.sub]
  grind
theorem bwdI_rl {R : Type} [Lean.Grind.CommRing R] {p : Int → R} (H : Hom p) {f : Nat → Int32} {F : Nat → R} {n k0 K : Nat} {B : Int} (hk : 2 * n * k0 = 256) (hB0 : 8380417 ≤ B) (hB : B ≤ 1072693376) (h : rl p B f F) : rl p (2 * B) (bwdI n K f) (bw (zR p) n K F) := by
  refine nb_all hk (fun i => p (bwdI n K f i).toInt = bw (zR p) n K F i ∧ -(2 * B) < (bwdI n K f i).toInt ∧ (bwdI n K f i).toInt < 2 * B) (fun b r hb hr => ?_) (fun b r hb hr => ?_)
  · obtain ⟨x1, x2, x3⟩ := h (2 * n * b + r) (nb_lt hk hb (by omega))
    obtain ⟨y1, y2, y3⟩ := h (2 * n * b + (r + n)) (nb_lt hk hb (by omega))
    show p (bwdI n K f (2 * n * b + r)).toInt = bw (zR p) n K F (2 * n * b + r) ∧ -(2 * B) < (bwdI n K f (2 * n * b + r)).toInt ∧ (bwdI n K f (2 * n * b + r)).toInt < 2 * B
    rw [bwdI_lo hr, bw_lo hr, i_add (by omega) (by omega)]
    refine ⟨?_, by omega, by omega⟩
    rw [H.1, x1, y1]
  · obtain ⟨x1, x2, x3⟩ := h (2 * n * b + r) (nb_lt hk hb (by omega))
    obtain ⟨y1, y2, y3⟩ := h (2 * n * b + (r + n)) (nb_lt hk hb (by omega))
    show p (bwdI n K f (2 * n * b + (r + n))).toInt = bw (zR p) n K F (2 * n * b + (r + n)) ∧ -(2 * B) < (bwdI n K f (2 * n * b + (r + n))).toInt ∧ (bwdI n K f (2 * n * b + (r + n))).toInt < 2 * B
    rw [bwdI_hi hr, bw_hi hr]
    have hv := bwd_v H hB (zt_b (K - 1 - b)) x2 x3 y2 y3
    rw [x1, y1] at hv
    generalize montI (((-1) * zt (K - 1 - b)).toInt64 * (f (2 * n * b + r) - f (2 * n * b + (r + n))).toInt64) = w at hv
    obtain ⟨v1, v2, v3⟩ := hv
    clear x2 x3 y2 y3
    exact ⟨v1, by omega, by omega⟩
theorem ntt_rl {R : Type} [Lean.Grind.CommRing R] {p : Int → R} (H : Hom p) {f : Nat → Int32} {F : Nat → R} (h : rl p 8380417 f F) : rl p 75423753 (nttI f) (TT (zR p) 8 F) := by
  have h1 := fwdI_rl H (n := 128) (k0 := 1) (by decide) (by decide) h
  have h2 := fwdI_rl H (n := 64) (k0 := 2) (by decide) (by decide) h1
  have h3 := fwdI_rl H (n := 32) (k0 := 4) (by decide) (by decide) h2
  have h4 := fwdI_rl H (n := 16) (k0 := 8) (by decide) (by decide) h3
  have h5 := fwdI_rl H (n := 8) (k0 := 16) (by decide) (by decide) h4
  have h6 := fwdI_rl H (n := 4) (k0 := 32) (by decide) (by decide) h5
  have h7 := fwdI_rl H (n := 2) (k0 := 64) (by decide) (by decide) h6
  have h8 := fwdI_rl H (n := 1) (k0 := 128) (by decide) (by decide) h7
  exact h8
theorem bac_rl {R : Type} [Lean.Grind.CommRing R] {p : Int → R} (H : Hom p) {f : Nat → Int32} {F : Nat → R} (h : rl p 8380417 f F) : rl p 2145386752 (bacI f) (BB (zR p) 8 F) := by
  have h1 := bwdI_rl H (n := 1) (k0 := 128) (K := 256) (by decide) (by decide) (by decide) h
  have h2 := bwdI_rl H (n := 2) (k0 := 64) (K := 128) (by decide) (by decide) (by decide) h1
  have h3 := bwdI_rl H (n := 4) (k0 := 32) (K := 64) (by decide) (by decide) (by decide) h2
  have h4 := bwdI_rl H (n := 8) (k0 := 16) (K := 32) (by decide) (by decide) (by decide) h3
  have h5 := bwdI_rl H (n := 16) (k0 := 8) (K := 16) (by decide) (by decide) (by decide) h4
  have h6 := bwdI_rl H (n := 32) (k0 := 4) (K := 8) (by decide) (by decide) (by decide) h5
  have h7 := bwdI_rl H (n := 64) (k0 := 2) (K := 4) (by decide) (by decide) (by decide) h6
  have h8 := bwdI_rl H (n := 128) (k0 := 1) (K := 2) (by decide) (by decide) (by decide) h7
  exact h8
/-- canonical: all in 0 .. q - 1 -/
def cn (f : Nat → Int32) : Prop := ∀ i, i < 256 → 0 ≤ (f i).toInt ∧ (f i).toInt < 8380417
def hR {R : Type} [Lean.Grind.CommRing R] (p : Int → R) : R := p 41978 * p 8265825 * p 8265825
theorem hR_1 {R : Type} [Lean.Grind.CommRing R] {p : Int → R} (H : Hom p) : hR p * pw 8 = 1 := by
  have e2 : p 2 = 2 := by
    have h := H.1 1 1
    rw [H.2.2.1] at h
    have h : p 2 = 1 + 1 := h
    rw [h]
    grind
  have e : (pw 8 : R) = p 256 := by
    show 2 * (2 * (2 * (2 * (2 * (2 * (2 * (2 * 1))))))) = p 256
    rw [show (256 : Int) = 2 * (2 * (2 * (2 * (2 * (2 * (2 * 2)))))) from rfl, H.2.1, H.2.1, H.2.1, H.2.1, H.2.1, H.2.1, H.2.1, e2]
    grind
  unfold hR
  rw [e, ← H.2.1, ← H.2.1, ← H.2.1, ← H.2.2.1]
  exact (H.2.2.2 _ _).mpr (by decide)
theorem cn_rl {R : Type} [Lean.Grind.CommRing R] {p : Int → R} {f : Nat → Int32} (h : cn f) : rl p 8380417 f (fun i => p (f i).toInt) := fun i hi => ⟨rfl, by have := h i hi; omega, (h i hi).2⟩
theorem mulI_p {R : Type} [Lean.Grind.CommRing R] {p : Int → R} (H : Hom p) {a b : Nat → Int32} (ha : cn a) (hb : cn b) (i : Nat) (hi : i < 256) : p (mulI a b i).toInt = mulR (zR p) (hR p) (fun i => p (a i).toInt) (fun i => p (b i).toInt) i ∧ 0 ≤ (mulI a b i).toInt ∧ (mulI a b i).toInt < 8380417 := by
  have A := ntt_rl H (cn_rl (p := p) ha)
  have B := ntt_rl H (cn_rl (p := p) hb)
  have P : rl p 8380417 (fun i => montI ((nttI a i).toInt64 * (nttI b i).toInt64)) (fun j => p 8265825 * (fun j => TT (zR p) 8 (fun i => p (a i).toInt) j * TT (zR p) 8 (fun i => p (b i).toInt) j) j) := by
    intro j hj
    obtain ⟨a1, a2, a3⟩ := A j hj
    obtain ⟨b1, b2, b3⟩ := B j hj
    obtain ⟨m1, m2, m3⟩ := z_mul (z := nttI a j) (f := nttI b j) (Bz := 75423753) (Bf := 75423753) (by omega) (by omega) (by decide)
    have hm := montI_p H (a := (nttI a j).toInt64 * (nttI b j).toInt64) (by rw [m1]; exact m2) (by rw [m1]; exact m3)
    have hb2 := mont_b (a := (nttI a j).toInt64 * (nttI b j).toInt64) (by rw [m1]; exact m2) (by rw [m1]; exact m3)
    refine ⟨?_, hb2⟩
    show p (montI ((nttI a j).toInt64 * (nttI b j).toInt64)).toInt = p 8265825 * (TT (zR p) 8 (fun i => p (a i).toInt) j * TT (zR p) 8 (fun i => p (b i).toInt) j)
    rw [hm, m1, H.2.1, a1, b1]
    grind
  have C := bac_rl H P
  obtain ⟨c1, c2, c3⟩ := C i hi
  rw [BB_smul] at c1
  generalize hx : bacI (fun i => montI ((nttI a i).toInt64 * (nttI b i).toInt64)) i = x at c1 c2 c3
  have e41 : (41978 : Int64) = (41978 : Int32).toInt64 := by decide
  obtain ⟨m1, m2, m3⟩ := z_mul (z := 41978) (f := x) (Bz := 41978) (Bf := 2147483648) (by decide) (by omega) (by decide)
  have c41 : (41978 : Int32).toInt = 41978 := by decide
  rw [c41] at m1 m2 m3
  have hm := montI_p H (a := (41978 : Int32).toInt64 * x.toInt64) (by rw [m1]; exact m2) (by rw [m1]; exact m3)
  have hb2 := mont_b (a := (41978 : Int32).toInt64 * x.toInt64) (by rw [m1]; exact m2) (by rw [m1]; exact m3)
  have hM : mulI a b i = wholeI (montI ((41978 : Int32).toInt64 * x.toInt64)) := by
    rw [← hx, ← e41]
    rfl
  rw [hM]
  generalize montI ((41978 : Int32).toInt64 * x.toInt64) = y at hm hb2
  have hw := wholeI_spec (a := y) hb2.1 (by omega)
  refine ⟨?_, by omega, by omega⟩
  rw [show p (wholeI y).toInt = p y.toInt from (H.2.2.2 _ _).mpr (by rw [hw]; omega), hm, m1, H.2.1, c1]
  unfold mulR hR
  generalize BB (zR p) 8 (fun j => TT (zR p) 8 (fun i => p (a i).toInt) j * TT (zR p) 8 (fun i => p (b i).toInt) j) i = w
  grind
theorem mulI_cn {a b : Nat → Int32} (ha : cn a) (hb : cn b) : cn (mulI a b) := fun i hi => by
  have H : Hom (fun x : Int => (Lean.Grind.Ring.intCast.intCast x : Fin 8380417)) := ⟨Lean.Grind.Ring.intCast_add, Lean.Grind.Ring.intCast_mul, Lean.Grind.Ring.intCast_one, fun x y => Lean.Grind.IsCharP.intCast_ext_iff 8380417⟩
  exact (mulI_p H ha hb i hi).2
theorem hom_ex : ∃ p : Int → Fin 8380417, Hom p := ⟨fun x : Int => (Lean.Grind.Ring.intCast.intCast x : Fin 8380417), Lean.Grind.Ring.intCast_add, Lean.Grind.Ring.intCast_mul, Lean.Grind.Ring.intCast_one, fun x y => Lean.Grind.IsCharP.intCast_ext_iff 8380417⟩
end BRIDGE
end
section
/-! LAWS: what the law asks of the products and the sums, in Int32 alone -/
section LAWS
theorem p_inj {R : Type} [Lean.Grind.CommRing R] {p : Int → R} (H : Hom p) {x y : Int32} (hx : 0 ≤ x.toInt ∧ x.toInt < 8380417) (hy : 0 ≤ y.toInt ∧ y.toInt < 8380417) (h : p x.toInt = p y.toInt) : x = y := by
  have h2 := (H.2.2.2 _ _).mp h
  exact Int32.toInt_inj.mp (by omega)
theorem addI_p {R : Type} [Lean.Grind.CommRing R] {p : Int → R} (H : Hom p) {a b : Nat → Int32} (ha : cn a) (hb : cn b) (i : Nat) (hi : i < 256) : p (addI a b i).toInt = p (a i).toInt + p (b i).toInt ∧ 0 ≤ (addI a b i).toInt ∧ (addI a b i).toInt < 8380417 ∧ (addI a b i).toInt = ((a i).toInt + (b i).toInt) % 8380417 := by
  have h1 := ha i hi
  have h2 := hb i hi
  have e : (a i + b i).toInt = (a i).toInt + (b i).toInt := i_add (by omega) (by omega)
  have hw := wholeI_spec (a := a i + b i) (by omega) (by omega)
  have e2 : addI a b i = wholeI (a i + b i) := rfl
  rw [e2, ← H.1]
  refine ⟨(H.2.2.2 _ _).mpr (by rw [hw, e]; omega), by omega, by omega, by rw [hw, e]⟩
theorem addI_cn {a b : Nat → Int32} (ha : cn a) (hb : cn b) : cn (addI a b) := fun i hi => by
  obtain ⟨p, H⟩ := hom_ex
  have h := addI_p H ha hb i hi
  exact ⟨h.2.1, h.2.2.1⟩
theorem law_comm {a b : Nat → Int32} (ha : cn a) (hb : cn b) (i : Nat) (hi : i < 256) : mulI a b i = mulI b a i := by
  obtain ⟨p, H⟩ := hom_ex
  have h1 := mulI_p H ha hb i hi
  have h2 := mulI_p H hb ha i hi
  refine p_inj H h1.2 h2.2 ?_
  rw [h1.1, h2.1]
  exact mulR_comm i hi
theorem law_assoc {a b c : Nat → Int32} (ha : cn a) (hb : cn b) (hc : cn c) (i : Nat) (hi : i < 256) : mulI (mulI a b) c i = mulI a (mulI b c) i := by
  obtain ⟨p, H⟩ := hom_ex
  have h1 := mulI_p H (mulI_cn ha hb) hc i hi
  have h2 := mulI_p H ha (mulI_cn hb hc) i hi
  refine p_inj H h1.2 h2.2 ?_
  rw [h1.1, h2.1, mulR_congr (fun j hj => (mulI_p H ha hb j hj).1) (fun _ _ => rfl) i hi, mulR_congr (a := fun i => p (a i).toInt) (fun _ _ => rfl) (fun j hj => (mulI_p H hb hc j hj).1) i hi]
  exact mulR_assoc (zR_fit H) (hR_1 H) i hi
theorem law_add {a b c : Nat → Int32} (ha : cn a) (hb : cn b) (hc : cn c) (i : Nat) (hi : i < 256) : mulI (addI a b) c i = addI (mulI a c) (mulI b c) i := by
  obtain ⟨p, H⟩ := hom_ex
  have h1 := mulI_p H (addI_cn ha hb) hc i hi
  have h2 := addI_p H (mulI_cn ha hc) (mulI_cn hb hc) i hi
  refine p_inj H h1.2 ⟨h2.2.1, h2.2.2.1⟩ ?_
  rw [h1.1, h2.1, (mulI_p H ha hc i hi).1, (mulI_p H hb hc i hi).1, mulR_congr (fun j hj => (addI_p H ha hb j hj).1) (fun _ _ => rfl) i hi]
  exact mulR_add i hi
/-- 1, and X -/
def un (k : Nat) (i : Nat) : Int32 := if i = k then 1 else 0
theorem un_cn (k : Nat) : cn (un k) := fun i _ => by
  unfold un
  split <;> decide
theorem law_one {a : Nat → Int32} (ha : cn a) (i : Nat) (hi : i < 256) : mulI a (un 0) i = a i := by
  obtain ⟨p, H⟩ := hom_ex
  have h1 := mulI_p H ha (un_cn 0) i hi
  refine p_inj H h1.2 (ha i hi) ?_
  rw [h1.1]
  refine mulR_one (zR_fit H) (hR_1 H) (fun j hj => ?_) i hi
  unfold un on
  by_cases e : j = 0
  · rw [if_pos e, if_pos (by omega)]
    exact H.2.2.1
  · rw [if_neg e, if_neg (by omega)]
    exact H.zero
theorem law_X {R : Type} [Lean.Grind.CommRing R] {p : Int → R} (H : Hom p) {a : Nat → Int32} (ha : cn a) (i : Nat) (hi : i < 256) : p (mulI a (un 1) i).toInt = if i = 0 then -p (a 255).toInt else p (a (i - 1)).toInt := by
  have h1 := mulI_p H ha (un_cn 1) i hi
  rw [h1.1, mulR_X (zR_fit H) (hR_1 H) (fun j hj => ?_) i hi]
  · unfold sh
    by_cases e : i = 0
    · subst e
      show ck (zR p) 1 * p (a 255).toInt = -p (a 255).toInt
      unfold ck
      rw [if_pos rfl]
      grind
    · rw [if_neg (by omega), if_neg e]
  · unfold sh on un
    by_cases e : j = 0
    · subst e
      show p 0 = ck (zR p) 1 * 0
      rw [H.zero]
      grind
    · by_cases e1 : j = 1
      · rw [e1]
        exact H.2.2.1
      · rw [if_neg e1, if_neg (show ¬ j % 256 = 0 by omega), if_neg (show ¬ (j - 1) % 256 = 0 by omega)]
        exact H.zero
theorem law_X1 {a : Nat → Int32} (ha : cn a) (i : Nat) (hi : i < 255) : mulI a (un 1) (i + 1) = a i := by
  obtain ⟨p, H⟩ := hom_ex
  refine p_inj H (mulI_cn ha (un_cn 1) _ (by omega)) (ha i (by omega)) ?_
  rw [law_X H ha (i + 1) (by omega), if_neg (by omega)]
  rfl
/-- the sum of two canonical ints, by the law's own remainder -/
theorem rem_sum {x y : Int32} (hx : 0 ≤ x.toInt ∧ x.toInt < 8380417) (hy : 0 ≤ y.toInt ∧ y.toInt < 8380417) : ((x + y) - (x + y) / 8380417 * 8380417).toInt = (x.toInt + y.toInt) % 8380417 := by
  obtain ⟨n, hn⟩ := Int.eq_ofNat_of_zero_le (show 0 ≤ x.toInt + y.toInt by omega)
  have e : x + y = nI n := Int32.toInt_inj.mp (by
    rw [i_add (by omega) (by omega), nI_toInt (by omega)]
    omega)
  rw [e, show (8380417 : Int32) = nI 8380417 from rfl, pk_rem (by omega) (by decide) (by decide), nI_toInt (by omega)]
  omega
theorem law_X0 {a : Nat → Int32} (ha : cn a) : (mulI a (un 1) 0 + a 255) - (mulI a (un 1) 0 + a 255) / 8380417 * 8380417 = 0 := by
  obtain ⟨p, H⟩ := hom_ex
  have h := law_X H ha 0 (by decide)
  rw [if_pos rfl] at h
  have h1 := mulI_cn ha (un_cn 1) 0 (by decide)
  have h2 := ha 255 (by decide)
  have e : p ((mulI a (un 1) 0).toInt + (a 255).toInt) = p 0 := by
    rw [H.1, h, H.zero]
    grind
  have e2 := (H.2.2.2 _ _).mp e
  refine Int32.toInt_inj.mp ?_
  rw [rem_sum h1 h2, e2]
  rfl
theorem law_sum {a b : Nat → Int32} (ha : cn a) (hb : cn b) (i : Nat) (hi : i < 256) : addI a b i = (a i + b i) - (a i + b i) / 8380417 * 8380417 := by
  obtain ⟨p, H⟩ := hom_ex
  refine Int32.toInt_inj.mp ?_
  rw [rem_sum (ha i hi) (hb i hi), (addI_p H ha hb i hi).2.2.2]
theorem law_sum2 {a b : Nat → Int32} (ha : cn a) (hb : cn b) (i : Nat) (hi : i < 256) : addI b a i = (a i + b i) - (a i + b i) / 8380417 * 8380417 := by
  rw [← law_sum ha hb i hi]
  show wholeI (b i + a i) = wholeI (a i + b i)
  rw [Int32.add_comm]
end LAWS
end
section
/-! ROWS OF OUR OWN: int[][] (made by multianewarray, read, written), a ring's world -/
section ROWSX
abbrev vwCl : List vw_C := [(RX1, TX1, 1)]
/-- an int[][] has been made before -/
def xa_AO (U : State) : Prop := (Cond.arrayOver (.array .int)).before #[] U = true
theorem xa_AO.of {A : Array Value} {U : State} (h : (Cond.arrayOver (.array .int)).before A U = true) : xa_AO U := h
theorem xa_AO.use {A : Array Value} {U : State} (h : xa_AO U) : (Cond.arrayOver (.array .int)).before A U = true := h
theorem xa_AO.moved {u U : State} (hvm : u.vm.Alike U.vm) (h : xa_AO u) : xa_AO U := by
  obtain ⟨comp, c, k, h1, h2, h3, h4, h5⟩ := arrayOverA_spec h
  obtain ⟨k', hk', he⟩ := hvm.2.2 _ _ h3
  have hi : (U.vm.classes.findIdx? fun (x : Class) => match x.kind with | .array component _ => component == comp | _ => false) = some c := by
    rw [hvm.findIdx?_eq _ (fun _ => rfl)]
    exact h2
  have hkind : k'.kind = .array comp (.array .int) := by rw [he]; exact h4
  have f1 : U.vm.findClass (FieldType.array .int).toString = some comp := by rw [hvm.findClass]; exact h1
  have f2 : U.vm.findClass ("[" ++ (FieldType.array .int).toString) = some c := by rw [hvm.findClass]; exact h5
  unfold xa_AO Cond.before Cond.holds
  simp only [Cond.value]
  rw [f1, Option.bind_some]
  refine (congrArg (fun o : Option Nat => (o.bind (fun c => (U.vm.classes[c]?).map fun (k : Class) => match k.kind with | .array _ ty => decide (ty = FieldType.array .int) && decide (U.vm.findClass ("[" ++ (FieldType.array .int).toString) = some c) | _ => false) == some true)) hi).trans ?_
  simp [hk', hkind, f2]
/-- what the tables say of HintRing, of int[][] (class cO) and of int[] (class cI) -/
def xK (D : va_G) (cO cI : ClassId) (U : State) : Prop := va_K D vwCl [(cO, .array .int), (cI, .int)] U ∧ xa_AO U
theorem xK.moved {D : va_G} {cO cI : ClassId} {u U : State} (hvm : u.vm.Alike U.vm) (h : xK D cO cI u) : xK D cO cI U := ⟨va_K.moved hvm h.1, xa_AO.moved hvm h.2⟩
theorem xK.nI_ {D : va_G} {cO cI : ClassId} {U : State} (h : xK D cO cI U) : U.vm.findClass "[I" = some cI := va_nm_int (h.1.2 1 _ rfl).2
theorem xK.nO {D : va_G} {cO cI : ClassId} {U : State} (h : xK D cO cI U) : U.vm.findClass ("[" ++ (FieldType.array .int).toString) = some cO := (h.1.2 0 _ rfl).2
theorem tS_ : (FieldType.array .int).toString = "[I" := by decide +kernel
theorem tS2_ : "[" ++ (FieldType.array .int).toString = "[[I" := by decide +kernel
abbrev xq (cO : ClassId) (n : Nat) (f : Nat → Option Nat) : va_E := .inl (cO, n, .inr (.inr (.inr (.inr f))))
abbrev xi (cI : ClassId) (f : Nat → Int32) : va_E := .inl (cI, 256, .inl f)
theorem arrV_congr {cA : ClassId} {n : Nat} {f g : Nat → Value} (h : ∀ j, j < n → f j = g j) : arrV cA n f = arrV cA n g := by
  unfold arrV
  rw [show (fun j : Fin n => f j.val) = fun j => g j.val from funext fun j => h j.val j.isLt]
theorem outerC_arr {cA : ClassId} {N h0 : Nat} : ∀ i, Jvm.Free.Multi.outerC cA N h0 i = arrV cA N (fun j => if j < i then .ref (h0 + 1 + j) else .null) := by
  intro i
  induction i with
  | zero =>
    show ({ cls := cA, slots := Array.replicate N .null, vm := .none } : Cell) = _
    rw [arrV_new]
    exact arrV_congr (fun j _ => by rw [if_neg (by omega)])
  | succ i ih =>
    show (Jvm.Free.Multi.outerC cA N h0 i).setSlot i (.ref (h0 + 1 + i)) = _
    rw [ih, arrV_store]
    refine arrV_congr (fun j _ => ?_)
    by_cases e : j = i
    · subst e
      simp [updV]
    · simp only [updV, e, if_false]
      by_cases e2 : j < i
      · rw [if_pos e2, if_pos (by omega)]
      · rw [if_neg e2, if_neg (by omega)]
theorem va_D.addr {A : Nat → Prop} {ws ws' : va_W} (h : va_D A ws) (e : ws.map (·.1) = ws'.map (·.1)) : va_D A ws' := by
  have key : ∀ (k : Nat) (q : Nat × va_E), ws'[k]? = some q → ∃ q0, ws[k]? = some q0 ∧ q0.1 = q.1 := by
    intro k q hk
    have h1 : (ws'.map (·.1))[k]? = some q.1 := by rw [List.getElem?_map, hk]; rfl
    rw [← e, List.getElem?_map] at h1
    cases hi : ws[k]? with
    | none => rw [hi] at h1; cases h1
    | some q0 => rw [hi] at h1; exact ⟨q0, rfl, Option.some.inj h1⟩
  refine ⟨fun i j x y hi hj hxy => ?_, fun k q hk => ?_⟩
  · obtain ⟨x0, h1, h2⟩ := key i x hi
    obtain ⟨y0, h3, h4⟩ := key j y hj
    exact h.1 i j x0 y0 h1 h3 (h2.trans (hxy.trans h4.symm))
  · obtain ⟨q0, h1, h2⟩ := key k q hk
    rw [← h2]
    exact h.2 k q0 h1
/-- the cells that multianewarray makes -/
def xg_new (cO cI : ClassId) (q N : Nat) : va_W := (q, xq cO N (fun i => some (q + 1 + i))) :: (List.range N).map (fun j => (q + 1 + j, xi cI (fun _ => 0)))
theorem xg_new_at {cO cI : ClassId} {q N k : Nat} {x : Nat × va_E} (h : (xg_new cO cI q N)[k]? = some x) : x.1 = q + k := by
  cases k with
  | zero =>
    cases h
    rfl
  | succ k =>
    have h1 : ((List.range N).map (fun j => ((q + 1 + j, xi cI (fun _ => 0)) : Nat × va_E)))[k]? = some x := h
    rw [List.getElem?_map] at h1
    cases hr : (List.range N)[k]? with
    | none => rw [hr] at h1; cases h1
    | some j =>
      rw [hr] at h1
      cases h1
      obtain ⟨hl, e⟩ := List.getElem?_eq_some_iff.mp hr
      rw [List.getElem_range] at e
      show q + 1 + j = q + (k + 1)
      omega
theorem xg_new_cell {cO cI : ClassId} {q N k : Nat} {x : Nat × va_E} (h : (xg_new cO cI q N)[k]? = some x) : x = (q, xq cO N (fun i => some (q + 1 + i))) ∨ ∃ j, j < N ∧ x = (q + 1 + j, xi cI (fun _ => 0)) := by
  cases k with
  | zero =>
    cases h
    exact Or.inl rfl
  | succ k =>
    have h1 : ((List.range N).map (fun j => ((q + 1 + j, xi cI (fun _ => 0)) : Nat × va_E)))[k]? = some x := h
    rw [List.getElem?_map] at h1
    cases hr : (List.range N)[k]? with
    | none => rw [hr] at h1; cases h1
    | some j =>
      rw [hr] at h1
      cases h1
      exact Or.inr ⟨j, List.mem_range.mp (List.mem_of_getElem? hr), rfl⟩
section VXX
variable {p : Program} {l : Launch} {e : Env} {R : Room} {s : State} {m : MethodId} {args : Array Value} {below : List Frame} {meth : Method} {c : Code} {H : Heap} {locs : List Loc} {cells slots : Nat} {Q : State → Prop}
variable {cc : ByteArray} {pc : Nat} {ls : Array Slot} {rest : List Value} {D : va_G} {A : Nat → Prop} {a : Nat} {ws : va_W} {H0 : Heap} {cO cI : ClassId}
theorem xa_newI (hexec : p.tables.exec = Jvm.exec) (hb : c.code = cc) (harr : (Cond.arrayClass .int).before args s = true) (hK : xK D cO cI s) (hP : va_P D vwCl ws H) (hD : va_D A ws) (hS : va_S A H0 H locs) (hA : ∀ q, H0.size ≤ q → A q) (hcells : cells + 1 ≤ R.cells) (hslots : slots + 256 ≤ R.slots) (hdg : decode cc pc = .ok (.newarray .int, 2))
    (kk : ∀ (q : Nat) (H1 : Heap), va_P D vwCl (ws ++ [(q, xi cI (fun _ => 0))]) H1 → va_D A (ws ++ [(q, xi cI (fun _ => 0))]) → va_S A H0 H1 locs →
      W p l e R s m args below meth c H1 locs (cells + 1) (slots + 256) Q (F0 m (pc + 2) ls (.ref q :: rest))) : W p l e R s m args below meth c H locs cells slots Q (F0 m pc ls (.int 256 :: rest)) := by
  refine va_newa (atype := .int) (ty := .int) (a0 := (256, .inl (fun _ => 0))) hexec hb harr rfl hK.1 hP hD hS hA (fun _ => rfl) (by decide) (by decide) (Nat.le_of_ble_eq_true rfl) hcells hslots hdg (fun q cA H1 hK' hP' hD' hS' => ?_)
  have e1 : s.vm.findClass "[I" = some cA := va_nm_int (hK'.2 2 _ rfl).2
  have e2 : cA = cI := Option.some.inj (e1.symm.trans hK.nI_)
  subst e2
  exact kk q H1 hP' hD' hS'
theorem xa_ald (hexec : p.tables.exec = Jvm.exec) (hb : c.code = cc) (hK : xK D cO cI s) (hP : va_P D vwCl ws H) (q0 : Nat) {n : Nat} {f : Nat → Option Nat} (ha : ws[q0]? = some (a, xq cO n f)) {i : Int32} (hin : vp_in i n) (hdg : decode cc pc = .ok (.aaload, 1))
    (kk : W p l e R s m args below meth c H locs cells slots Q (F0 m (pc + 1) ls (va_rf (f i.toNatClampNeg) :: rest))) : W p l e R s m args below meth c H locs cells slots Q (F0 m pc ls (.int i :: .ref a :: rest)) := by
  have hlt : i.toNatClampNeg < n := Nat.not_le.mp fun q => hin (Or.inr q)
  exact W.aald (v := va_rf (f i.toNatClampNeg)) (ty := .array .int) hexec hb (hP q0 _ ha) ((hK.1.2 0 _ rfl).1 n (fun j => va_rf (f j))) rfl (fun q => by cases q) (by show ¬ (i < 0 ∨ (arrV _ _ _).slots.size ≤ _); rw [arrV_size]; exact hin) (by show (arrV _ _ _).slots[_]? = _; rw [arrV_read _ _ hlt]) rfl rfl hdg kk
theorem xa_ast (hexec : p.tables.exec = Jvm.exec) (hb : c.code = cc) (hK : xK D cO cI s) (hP : va_P D vwCl ws H) (hD : va_D A ws) (hS : va_S A H0 H locs) (q0 qk : Nat) {n v : Nat} {f : Nat → Option Nat} {g : Nat → Int32} (ha : ws[q0]? = some (a, xq cO n f)) (hv : ws[qk]? = some (v, xi cI g)) {i : Int32} (hin : vp_in i n) (hdg : decode cc pc = .ok (.aastore, 1))
    (kk : ∀ (H1 : Heap) (locs1 : List Loc), va_P D vwCl (ws.set q0 (a, xq cO n (va_up f i.toNatClampNeg (some v)))) H1 → va_D A (ws.set q0 (a, xq cO n (va_up f i.toNatClampNeg (some v)))) → va_S A H0 H1 locs1 → W p l e R s m args below meth c H1 locs1 cells slots Q (F0 m (pc + 1) ls rest)) : W p l e R s m args below meth c H locs cells slots Q (F0 m pc ls (.ref v :: .int i :: .ref a :: rest)) := by
  have hlt : i.toNatClampNeg < n := Nat.not_le.mp fun q => hin (Or.inr q)
  have h0 : ¬ i < 0 := fun q => hin (Or.inl q)
  obtain ⟨comp, c9, k9, h1, h2, h3, h4, h5⟩ := arrayOverA_spec hK.2
  rw [tS_] at h1
  cases hK.nI_.symm.trans h1
  cases hK.nO.symm.trans h5
  obtain ⟨-, kI, hkI, -⟩ := (hK.1.2 1 _ rfl).1 0 (fun _ => .int 0)
  refine W.aast hexec hb (hP q0 _ ha) (fun q h => by cases h) (fun h => by cases h) h3 h4 rfl hkI ⟨h0, by show _ < (arrV _ _ _).slots.size; rw [arrV_size]; exact hlt⟩ (hP qk _ hv) (fun q h => by cases h) hkI (va_asg _ _) rfl rfl hdg fun H1 e z oq => ?_
  refine kk H1 _ (hP.set hD ha ?_ oq) (hD.set ha) (hS.put z oq (hD.2 q0 _ ha))
  show H1[a]? = some (vp_cell _ _)
  rw [e]
  rw [vp_cell_q, vp_cell_q, arrV_store]
  congr 2
  funext q
  by_cases hq : q = i.toNatClampNeg
  · subst hq
    simp [updV, va_up, va_rf]
  · simp [updV, va_up, hq]
theorem xa_mnew (hexec : p.tables.exec = Jvm.exec) (hb : c.code = cc) {own : String} {index : Nat} (hown : s.vm.findClass own = some m.cls) (hclink : (Cond.classLink own index "[[I").before args s = true) (harr : (Cond.arrayClass .int).before args s = true) (hK : xK D cO cI s) (hP : va_P D vwCl ws H) (hD : va_D A ws) (hS : va_S A H0 H locs) (hA : ∀ q, H0.size ≤ q → A q)
    {N : Nat} (hN : N ≤ 16) {n : Int32} (hn : n = nI N) (hcells : cells + (1 + N) ≤ R.cells) (hslots : slots + (N + N * 256) ≤ R.slots) (hdg : decode cc pc = .ok (.multianewarray index 2, 4))
    (kk : ∀ (q : Nat) (H1 : Heap), va_P D vwCl (ws ++ xg_new cO cI q N) H1 → va_D A (ws ++ xg_new cO cI q N) → va_S A H0 H1 locs →
      W p l e R s m args below meth c H1 locs (cells + 1 + N) (slots + N + N * 256) Q (F0 m (pc + 4) ls (.ref q :: rest))) : W p l e R s m args below meth c H locs cells slots Q (F0 m pc ls (.int 256 :: .int n :: rest)) := by
  intro T hT X
  have e1 : n.toNatClampNeg = N := by rw [hn]; exact nI_clamp (by omega)
  have e2 : (256 : Int32).toNatClampNeg = 256 := by decide
  obtain ⟨vm₁, cA, comp, hW, hfA, hfC, hOO, hII, X1, step⟩ := X.multianewarray2F hexec (own := own) (index := index) (ty := .int) hown (by rw [tS2_]; exact hclink) (xa_AO.use hK.2) harr (g := F0 m pc ls (.int 256 :: .int n :: rest)) rfl (by rw [hb]; exact hdg) (n := n) (k := 256) (rest := rest) rfl (by rw [hn]; exact nI_pos (by omega)) (by decide) (by rw [e1]; omega) (Nat.le_of_ble_eq_true rfl) (Nat.le_of_ble_eq_true rfl) rfl rfl (by rw [e1]; exact hcells) (by rw [e1, e2]; exact hslots)
  rw [tS_] at hfC
  cases hK.nO.symm.trans hfA
  cases hK.nI_.symm.trans hfC
  rw [e1, e2] at X1 step
  generalize hU : Jvm.Free.Multi.fill (T.setVm vm₁) cO cI N 256 (defaultValue .int) N = U at X1 step
  have hsz : (T.setVm vm₁).heap.size = H.size := by rw [← hT]; rfl
  obtain ⟨f1, f2, -, -⟩ := Jvm.Free.Multi.fill_facts (T.setVm vm₁) cO cI N 256 (defaultValue .int) N
  have f3 : ∀ j, j < N → U.heap[H.size + 1 + j]? = some (arrV cI 256 (fun _ => .int 0)) := fun j hj => by
    have h := Jvm.Free.Multi.fill_inner (T.setVm vm₁) cO cI N 256 (defaultValue .int) N j hj
    rw [hU, hsz] at h
    rw [h]
    show some ({ cls := cI, slots := Array.replicate 256 (defaultValue .int), vm := .none } : Cell) = _
    rw [arrV_new]
    rfl
  have f4 : ∀ x, x < H.size → U.heap[x]? = H[x]? := fun x hx => by
    rw [← hU, Jvm.Free.Multi.fill_old (T.setVm vm₁) cO cI N 256 (defaultValue .int) (by rw [hsz]; exact hx)]
    show T.heap[x]? = _
    rw [hT]
  rw [hU, hsz] at f1 f2
  rw [outerC_arr] at f2
  have hcell : ∀ (k : Nat) (x : Nat × va_E), (xg_new cO cI H.size N)[k]? = some x → va_at D vwCl x U.heap := by
    intro k x hx
    rcases xg_new_cell hx with h | ⟨j, hj, h⟩
    · subst h
      show U.heap[H.size]? = some (vp_cell _ _)
      rw [f2, vp_cell_q]
      exact congrArg some (arrV_congr (fun j hj => by rw [if_pos hj]; rfl))
    · subst h
      show U.heap[H.size + 1 + j]? = some (vp_cell _ _)
      rw [f3 j hj]
      rfl
  have hPn : va_P D vwCl (ws ++ xg_new cO cI H.size N) U.heap := (hP.kept (fun k x hx => f4 _ (hP k x hx).lt)).app hcell
  have hDn : va_D A (ws ++ xg_new cO cI H.size N) := by
    refine hD.app ⟨fun i j x y hx hy hxy => ?_, fun k x hx => ?_⟩ (fun i j x y hx hy => ?_)
    · have := xg_new_at hx
      have := xg_new_at hy
      omega
    · rw [xg_new_at hx]
      exact hA _ (Nat.le_trans hS.1 (Nat.le_add_right _ _))
    · have h1 := (hP i x hx).lt
      have h2 := xg_new_at hy
      omega
  have hSn : va_S A H0 U.heap locs := ⟨Nat.le_trans hS.1 (by omega), fun x h1 h2 => (f4 x (Nat.lt_of_lt_of_le h1 hS.1)).trans (hS.2.1 x h1 h2), hS.2.2⟩
  obtain ⟨t, a1, b1⟩ := kk H.size U.heap hPn hDn hSn U rfl X1
  refine ⟨t, step t ?_, b1⟩
  rw [hT]
  exact a1
end VXX
/-- a ring's world: the object, its array of rows, the four rows -/
abbrev rg (cO cI : ClassId) (h g : Nat) (R : Nat → Nat) (F : Nat → Nat → Int32) : va_W := [(h, .inr (0, [.ref g])), (g, xq cO 4 (fun i => some (R i))), (R 0, xi cI (F 0)), (R 1, xi cI (F 1)), (R 2, xi cI (F 2)), (R 3, xi cI (F 3))]
theorem c4 {P : Nat → Prop} (h0 : P 0) (h1 : P 1) (h2 : P 2) (h3 : P 3) {j : Nat} (hj : j < 4) : P j := by
  rcases (show j = 0 ∨ j = 1 ∨ j = 2 ∨ j = 3 by omega) with e | e | e | e <;> subst e
  · exact h0
  · exact h1
  · exact h2
  · exact h3
theorem rg_row {cO cI : ClassId} {h g : Nat} {R : Nat → Nat} {F : Nat → Nat → Int32} {w : va_W} {j : Nat} (hj : j < 4) : (rg cO cI h g R F ++ w)[2 + j]? = some (R j, xi cI (F j)) :=
  c4 (P := fun j => (rg cO cI h g R F ++ w)[2 + j]? = some (R j, xi cI (F j))) rfl rfl rfl rfl hj
theorem rg_set {cO cI : ClassId} {h g : Nat} {R : Nat → Nat} {F : Nat → Nat → Int32} {w : va_W} {j : Nat} {f f' : Nat → Int32} (hj : j < 4) : (rg cO cI h g R (va_up F j f) ++ w).set (2 + j) (R j, xi cI f') = rg cO cI h g R (va_up F j f') ++ w :=
  c4 (P := fun j => (rg cO cI h g R (va_up F j f) ++ w).set (2 + j) (R j, xi cI f') = rg cO cI h g R (va_up F j f') ++ w) rfl rfl rfl rfl hj
theorem va_up_at {α : Type} {F : Nat → α} {j : Nat} {f : α} : va_up F j f j = f := if_pos rfl
theorem va_up_id {α : Type} {F : Nat → α} {j : Nat} : va_up F j (F j) = F := funext fun i => by
  unfold va_up
  split
  · next h => rw [h]
  · rfl
theorem xi_congr {D : va_G} {cI : ClassId} {a : Nat} {f g : Nat → Int32} {H : Heap} (h : ∀ i, i < 256 → f i = g i) (hA : va_at D vwCl (a, xi cI f) H) : va_at D vwCl (a, xi cI g) H := by
  have hA : H[a]? = some (vp_cell cI (256, .inl f)) := hA
  show H[a]? = some (vp_cell cI (256, .inl g))
  rw [hA, vp_cell_i, vp_cell_i]
  exact congrArg some (arrV_congr (fun j hj => by rw [h j hj]))
theorem rg_congr {D : va_G} {cO cI : ClassId} {h g : Nat} {R : Nat → Nat} {F G : Nat → Nat → Int32} {w : va_W} {H : Heap} (e : ∀ j, j < 4 → ∀ i, i < 256 → F j i = G j i) (hP : va_P D vwCl (rg cO cI h g R F ++ w) H) : va_P D vwCl (rg cO cI h g R G ++ w) H := by
  intro k q hk
  match k, hk with
  | 0, hk => exact hP 0 q hk
  | 1, hk => exact hP 1 q hk
  | 2, hk => cases hk; exact xi_congr (e 0 (by decide)) (hP 2 _ rfl)
  | 3, hk => cases hk; exact xi_congr (e 1 (by decide)) (hP 3 _ rfl)
  | 4, hk => cases hk; exact xi_congr (e 2 (by decide)) (hP 4 _ rfl)
  | 5, hk => cases hk; exact xi_congr (e 3 (by decide)) (hP 5 _ rfl)
  | k + 6, hk => exact hP (k + 6) q hk
theorem rg_D {A : Nat → Prop} {cO cI : ClassId} {h g : Nat} {R : Nat → Nat} {F G : Nat → Nat → Int32} {w : va_W} (hD : va_D A (rg cO cI h g R F ++ w)) : va_D A (rg cO cI h g R G ++ w) := hD.addr rfl
/-- one array alone -/
theorem va_D1 {A : Nat → Prop} {a : Nat} {x : va_E} (h : A a) : va_D A [(a, x)] := by
  refine ⟨fun i j p q hp hq _ => ?_, fun k q hq => ?_⟩
  · have := (List.getElem?_eq_some_iff.mp hp).1
    have := (List.getElem?_eq_some_iff.mp hq).1
    simp at *
    omega
  · have h1 := List.mem_of_getElem? hq
    rw [List.mem_singleton.mp h1]
    exact h
/-- a part that is written up to i -/
def ptl (g f : Nat → Int32) (i : Nat) : Nat → Int32 := fun j => if j < i then g j else f j
theorem ptl_0 {g f : Nat → Int32} : ptl g f 0 = f := rfl
theorem ptl_s {g f : Nat → Int32} {i : Nat} : upd (ptl g f i) i (g i) = ptl g f (i + 1) := funext fun j => by
  unfold upd ptl
  by_cases e : j = i
  · rw [if_pos e, if_pos (by omega), e]
  · rw [if_neg e]
    by_cases e2 : j < i
    · rw [if_pos e2, if_pos (by omega)]
    · rw [if_neg e2, if_neg (by omega)]
theorem ptl_e {g f : Nat → Int32} {i : Nat} (h : i < 256) : ptl g f 256 i = g i := if_pos h
/-- a part of the machine's frame that every walk has -/
theorem and3 (r : Int32) : ∃ j : Nat, j < 4 ∧ r &&& 3 = nI j := pk_andE r 2 (by decide)
theorem and255 (r : Int32) : ∃ j : Nat, j < 256 ∧ r &&& 255 = nI j := pk_andE r 8 (by decide)
end ROWSX
end
section
/-! LEAVES: the methods that touch no cell -/
section LEAVES
section XV
variable {p : Program} {l : Launch} {e : Env} {R : Room} {s : State} {m : MethodId} {args : Array Value} {below : List Frame} {meth : Method} {c : Code} {H : Heap} {locs : List Loc} {cells slots : Nat} {Q : State → Prop} {pc : Nat} {ls : Array Slot} {rest : List Value}
theorem xv {x y : Int32} (h : x = y) (k : W p l e R s m args below meth c H locs cells slots Q (F0 m pc ls (.int y :: rest))) : W p l e R s m args below meth c H locs cells slots Q (F0 m pc ls (.int x :: rest)) := by
  rw [h]
  exact k
theorem xr {x : Value} {y : Nat} (h : x = .ref y) (k : W p l e R s m args below meth c H locs cells slots Q (F0 m pc ls (.ref y :: rest))) : W p l e R s m args below meth c H locs cells slots Q (F0 m pc ls (x :: rest)) := by
  rw [h]
  exact k
end XV
theorem xn_ {locs : List Loc} {A : Addr → Prop} (h : locs = []) : ∀ q ∈ locs, A q.base := fun q hq => by rw [h] at hq; exact absurd hq List.not_mem_nil
set_option maxHeartbeats 4000000 in
set_option maxRecDepth 100000 in
/-- Montgomery's reduction -/
theorem met_montgomeryReduce (l : Launch) (a : Int64) : Met l yX2_montgomeryReduce (ws_ yX2_montgomeryReduce cX2_montgomeryReduce 3 (some .int)) ({ frames := 0, cells := 0, slots := 0, locals := 0 }) (va_Pc [.long a] (fun _ => True)) (vp_Si (fun r => r = montI a)) 0 0 (fun _ => False) := by
  refine Met.ofW (cc := cX2_montgomeryReduce) (maxL := 3) (ret := (some .int)) (by decide) rfl ?_
  intro p e s m args below meth c s₁ B hml hv
  obtain ⟨rfl, -⟩ := hv
  have hx := B.exec
  have hb := B.bytes
  have hr := B.returns
  have hts := atoms_spec (ws := ws_ yX2_montgomeryReduce cX2_montgomeryReduce 3 (some .int)) B.pre
  have hts : ∀ w ∈ lw_all, w.before _ s = true := fun w h => hts w (List.mem_cons_of_mem _ h)
  have hown : s.vm.findClass RX2 = some m.cls := findClass_of_methodNamed B.named
  have hlocks := B.notSynchronized
  have hl := lv_entry ([.long a]) (n := 3) (Nat.le_of_ble_eq_true rfl)
  rw [lg_entry_eq]
  generalize (lg_sl ([.long a]) ++ List.replicate (3 - (lg_sl ([.long a])).length) Slot.unset).toArray = ls at hl ⊢
  have hl : lv_has ls 3 [(0, .long a)] := hl
  refine lv_lload_n hx hb dX2_montgomeryReduce_0 rfl (lv_at hl 0 rfl) ?_
  refine lv_ldc2 hx hb hown (hts _ q29) dX2_montgomeryReduce_1 ?_
  refine lv_lmul hx hb dX2_montgomeryReduce_4 ?_
  refine lv_l2i hx hb dX2_montgomeryReduce_5 rfl ?_
  refine lv_istore_n (lv' := [(2, .int (Int64.toInt32 (a * 58728449))), (0, .long a)]) hx hb dX2_montgomeryReduce_6 rfl hl (by decide) rfl (fun ls hl => ?_)
  refine lv_lload_n hx hb dX2_montgomeryReduce_7 rfl (lv_at hl 1 rfl) ?_
  refine lv_iload_n hx hb dX2_montgomeryReduce_8 rfl (lv_at hl 0 rfl) ?_
  refine lv_i2l hx hb dX2_montgomeryReduce_9 rfl ?_
  refine lv_ldc2 hx hb hown (hts _ q30) dX2_montgomeryReduce_10 ?_
  refine lv_lmul hx hb dX2_montgomeryReduce_13 ?_
  refine lv_lsub hx hb dX2_montgomeryReduce_14 ?_
  refine lv_bipush (v := 32) hx hb dX2_montgomeryReduce_15 (by decide) ?_
  refine lv_lushr (v := ((Int64.toUInt64 (a - ((Int32.toInt64 (Int64.toInt32 (a * 58728449))) * 8380417)) >>> (((32 : Int32).toInt64).toUInt64 &&& Int64.toUInt64 63)).toInt64)) hx hb dX2_montgomeryReduce_17 rfl ?_
  refine lv_l2i hx hb dX2_montgomeryReduce_18 rfl ?_
  refine lv_istore_n (lv' := [(2, .int (Int64.toInt32 ((Int64.toUInt64 (a - ((Int32.toInt64 (Int64.toInt32 (a * 58728449))) * 8380417)) >>> (((32 : Int32).toInt64).toUInt64 &&& Int64.toUInt64 63)).toInt64))), (0, .long a)]) hx hb dX2_montgomeryReduce_19 rfl hl (by decide) rfl (fun ls hl => ?_)
  refine lv_iload_n hx hb dX2_montgomeryReduce_20 rfl (lv_at hl 0 rfl) ?_
  exact W.iret hx hb hr (fun t ht hW => ⟨_, rfl, rfl, ht⟩) (xn_ rfl) dX2_montgomeryReduce_21
set_option maxHeartbeats 4000000 in
set_option maxRecDepth 100000 in
/-- Barrett's reduction -/
theorem met_reduce32 (l : Launch) (a : Int32) : Met l yX2_reduce32 (ws_ yX2_reduce32 cX2_reduce32 2 (some .int)) ({ frames := 0, cells := 0, slots := 0, locals := 0 }) (va_Pc [.int a] (fun _ => True)) (vp_Si (fun r => r = redI a)) 0 0 (fun _ => False) := by
  refine Met.ofW (cc := cX2_reduce32) (maxL := 2) (ret := (some .int)) (by decide) rfl ?_
  intro p e s m args below meth c s₁ B hml hv
  obtain ⟨rfl, -⟩ := hv
  have hx := B.exec
  have hb := B.bytes
  have hr := B.returns
  have hts := atoms_spec (ws := ws_ yX2_reduce32 cX2_reduce32 2 (some .int)) B.pre
  have hts : ∀ w ∈ lw_all, w.before _ s = true := fun w h => hts w (List.mem_cons_of_mem _ h)
  have hown : s.vm.findClass RX2 = some m.cls := findClass_of_methodNamed B.named
  have hlocks := B.notSynchronized
  have hl := lv_entry ([.int a]) (n := 2) (Nat.le_of_ble_eq_true rfl)
  rw [lg_entry_eq]
  generalize (lg_sl ([.int a]) ++ List.replicate (2 - (lg_sl ([.int a])).length) Slot.unset).toArray = ls at hl ⊢
  have hl : lv_has ls 2 [(0, .int a)] := hl
  refine lv_iload_n hx hb dX2_reduce32_0 rfl (lv_at hl 0 rfl) ?_
  refine lv_ldc hx hb hown (hts _ q42) dX2_reduce32_1 ?_
  refine lv_iadd hx hb dX2_reduce32_3 ?_
  refine lv_bipush (v := 23) hx hb dX2_reduce32_4 (by decide) ?_
  refine lv_ishr hx hb dX2_reduce32_6 ?_
  refine lv_istore_n (lv' := [(1, .int ((a + 4194304) >>> ((23 : Int32) &&& 31))), (0, .int a)]) hx hb dX2_reduce32_7 rfl hl (by decide) rfl (fun ls hl => ?_)
  refine lv_iload_n hx hb dX2_reduce32_8 rfl (lv_at hl 1 rfl) ?_
  refine lv_iload_n hx hb dX2_reduce32_9 rfl (lv_at hl 0 rfl) ?_
  refine lv_ldc hx hb hown (hts _ q43) dX2_reduce32_10 ?_
  refine lv_imul hx hb dX2_reduce32_12 ?_
  refine lv_isub hx hb dX2_reduce32_13 ?_
  refine lv_istore_n (lv' := [(1, .int (a - (((a + 4194304) >>> ((23 : Int32) &&& 31)) * 8380417))), (0, .int a)]) hx hb dX2_reduce32_14 rfl hl (by decide) rfl (fun ls hl => ?_)
  refine lv_iload_n hx hb dX2_reduce32_15 rfl (lv_at hl 0 rfl) ?_
  exact W.iret hx hb hr (fun t ht hW => ⟨_, rfl, rfl, ht⟩) (xn_ rfl) dX2_reduce32_16
set_option maxHeartbeats 4000000 in
set_option maxRecDepth 100000 in
/-- q is added to a negative -/
theorem met_conditionalAddQ (l : Launch) (a : Int32) : Met l yX2_conditionalAddQ (ws_ yX2_conditionalAddQ cX2_conditionalAddQ 1 (some .int)) ({ frames := 0, cells := 0, slots := 0, locals := 0 }) (va_Pc [.int a] (fun _ => True)) (vp_Si (fun r => r = cadI a)) 0 0 (fun _ => False) := by
  refine Met.ofW (cc := cX2_conditionalAddQ) (maxL := 1) (ret := (some .int)) (by decide) rfl ?_
  intro p e s m args below meth c s₁ B hml hv
  obtain ⟨rfl, -⟩ := hv
  have hx := B.exec
  have hb := B.bytes
  have hr := B.returns
  have hts := atoms_spec (ws := ws_ yX2_conditionalAddQ cX2_conditionalAddQ 1 (some .int)) B.pre
  have hts : ∀ w ∈ lw_all, w.before _ s = true := fun w h => hts w (List.mem_cons_of_mem _ h)
  have hown : s.vm.findClass RX2 = some m.cls := findClass_of_methodNamed B.named
  have hlocks := B.notSynchronized
  have hl := lv_entry ([.int a]) (n := 1) (Nat.le_of_ble_eq_true rfl)
  rw [lg_entry_eq]
  generalize (lg_sl ([.int a]) ++ List.replicate (1 - (lg_sl ([.int a])).length) Slot.unset).toArray = ls at hl ⊢
  have hl : lv_has ls 1 [(0, .int a)] := hl
  refine lv_iload_n hx hb dX2_conditionalAddQ_0 rfl (lv_at hl 0 rfl) ?_
  refine lv_iload_n hx hb dX2_conditionalAddQ_1 rfl (lv_at hl 0 rfl) ?_
  refine lv_bipush (v := 31) hx hb dX2_conditionalAddQ_2 (by decide) ?_
  refine lv_ishr hx hb dX2_conditionalAddQ_4 ?_
  refine lv_ldc hx hb hown (hts _ q43) dX2_conditionalAddQ_5 ?_
  refine lv_iand hx hb dX2_conditionalAddQ_7 ?_
  refine lv_iadd hx hb dX2_conditionalAddQ_8 ?_
  refine lv_istore_n (lv' := [(0, .int (a + ((a >>> ((31 : Int32) &&& 31)) &&& 8380417)))]) hx hb dX2_conditionalAddQ_9 rfl hl (by decide) rfl (fun ls hl => ?_)
  refine lv_iload_n hx hb dX2_conditionalAddQ_10 rfl (lv_at hl 0 rfl) ?_
  exact W.iret hx hb hr (fun t ht hW => ⟨_, rfl, rfl, ht⟩) (xn_ rfl) dX2_conditionalAddQ_11
set_option maxHeartbeats 4000000 in
set_option maxRecDepth 100000 in
/-- fair -/
theorem met_fair (l : Launch) (v : Int32) : Met l yX1_fair (ws_ yX1_fair cX1_fair 1 (some .int)) ({ frames := 0, cells := 0, slots := 0, locals := 0 }) (va_Pc [.int v] (fun _ => True)) (vp_Si (fun r => r = fairI v)) 0 0 (fun _ => False) := by
  refine Met.ofW (cc := cX1_fair) (maxL := 1) (ret := (some .int)) (by decide) rfl ?_
  intro p e s m args below meth c s₁ B hml hv
  obtain ⟨rfl, -⟩ := hv
  have hx := B.exec
  have hb := B.bytes
  have hr := B.returns
  have hts := atoms_spec (ws := ws_ yX1_fair cX1_fair 1 (some .int)) B.pre
  have hts : ∀ w ∈ lw_all, w.before _ s = true := fun w h => hts w (List.mem_cons_of_mem _ h)
  have hown : s.vm.findClass RX1 = some m.cls := findClass_of_methodNamed B.named
  have hlocks := B.notSynchronized
  have hl := lv_entry ([.int v]) (n := 1) (Nat.le_of_ble_eq_true rfl)
  rw [lg_entry_eq]
  generalize (lg_sl ([.int v]) ++ List.replicate (1 - (lg_sl ([.int v])).length) Slot.unset).toArray = ls at hl ⊢
  have hl : lv_has ls 1 [(0, .int v)] := hl
  refine lv_iload_n hx hb dX1_fair_0 rfl (lv_at hl 0 rfl) ?_
  refine lv_ldc hx hb hown (hts _ q11) dX1_fair_1 ?_
  refine lv_iand hx hb dX1_fair_3 ?_
  refine lv_ldc hx hb hown (hts _ q12) dX1_fair_4 ?_
  refine lv_irem hx hb dX1_fair_6 (by decide) ?_
  exact W.iret hx hb hr (fun t ht hW => ⟨_, rfl, rfl, ht⟩) (xn_ rfl) dX1_fair_7
set_option maxHeartbeats 4000000 in
set_option maxRecDepth 100000 in
/-- whole -/
theorem met_whole (l : Launch) (v : Int32) : Met l yX1_whole (ws_ yX1_whole cX1_whole 1 (some .int)) ({ frames := 1, cells := 0, slots := 0, locals := 21 }) (va_Pc [.int v] (fun _ => True)) (vp_Si (fun r => r = wholeI v)) 0 0 (fun _ => False) := by
  refine Met.ofW (cc := cX1_whole) (maxL := 1) (ret := (some .int)) (by decide) rfl ?_
  intro p e s m args below meth c s₁ B hml hv
  obtain ⟨rfl, -⟩ := hv
  have hx := B.exec
  have hb := B.bytes
  have hr := B.returns
  have hts := atoms_spec (ws := ws_ yX1_whole cX1_whole 1 (some .int)) B.pre
  have hts : ∀ w ∈ lw_all, w.before _ s = true := fun w h => hts w (List.mem_cons_of_mem _ h)
  have hown : s.vm.findClass RX1 = some m.cls := findClass_of_methodNamed B.named
  have hlocks := B.notSynchronized
  have hl := lv_entry ([.int v]) (n := 1) (Nat.le_of_ble_eq_true rfl)
  rw [lg_entry_eq]
  generalize (lg_sl ([.int v]) ++ List.replicate (1 - (lg_sl ([.int v])).length) Slot.unset).toArray = ls at hl ⊢
  have hl : lv_has ls 1 [(0, .int v)] := hl
  refine lv_iload_n hx hb dX1_whole_0 rfl (lv_at hl 0 rfl) ?_
  refine vp_callSi (W.runS (As := [.int v]) (rest := []) ⟨hx, hb, hml, hown, hts⟩ (met_reduce32 l v) (va_cwS 1 hts (lw_S q39 q40 q2 q41) rfl rfl rfl (by decide +kernel) ⟨Nat.le_of_ble_eq_true rfl, Nat.le_of_ble_eq_true rfl⟩) ⟨fun a U g mk q => q, fun U hU hW => ⟨rfl, trivial⟩⟩ rfl rfl hl.1 rfl (lv_room (Nat.le_of_ble_eq_true rfl)) dX1_whole_1 ⟨Nat.le_of_ble_eq_true rfl, Nat.le_of_ble_eq_true rfl⟩) (fun r hr1 => ?_)
  subst hr1
  refine vp_callSi (W.runS (As := [.int (redI v)]) (rest := []) ⟨hx, hb, hml, hown, hts⟩ (met_conditionalAddQ l (redI v)) (va_cwS 1 hts (lw_S q44 q45 q2 q46) rfl rfl rfl (by decide +kernel) ⟨Nat.le_of_ble_eq_true rfl, Nat.le_of_ble_eq_true rfl⟩) ⟨fun a U g mk q => q, fun U hU hW => ⟨rfl, trivial⟩⟩ rfl rfl hl.1 rfl (lv_room (Nat.le_of_ble_eq_true rfl)) dX1_whole_4 ⟨Nat.le_of_ble_eq_true rfl, Nat.le_of_ble_eq_true rfl⟩) (fun r hr1 => ?_)
  subst hr1
  exact W.iret hx hb hr (fun t ht hW => ⟨_, rfl, rfl, ht⟩) (xn_ rfl) dX1_whole_7
end LEAVES
end
section
/-! NTT: the transform, walked -/
section NTTS
/-- the table of zetas: a static that nobody writes -/
def xZ (A : Nat → Prop) (U : State) (H : Heap) : Prop := ∃ t : Nat, va_Z "Ntt" "nttZetas" "[I" (.ref t) A U H ∧ va_T .int t 256 (fun k => .int (zt k)) A U H
theorem xZ.moved {A : Nat → Prop} {u U : State} {H : Heap} (hvm : u.vm.Alike U.vm) (h : xZ A u H) : xZ A U H := by
  obtain ⟨t, h1, h2⟩ := h
  exact ⟨t, h1.moved hvm, h2.moved hvm⟩
theorem xZ.kept {A : Nat → Prop} {U : State} {H H1 : Heap} (h : xZ A U H) (hq : ∀ a : Nat, a < H.size → ¬ A a → H1[a]? = H[a]?) : xZ A U H1 := by
  obtain ⟨t, h1, h2⟩ := h
  exact ⟨t, h1.kept hq, h2.kept hq⟩
theorem xZ.narrow {A B : Nat → Prop} {U : State} {H : Heap} (h : xZ A U H) (hAB : ∀ q, B q → A q) : xZ B U H := by
  obtain ⟨t, h1, h2⟩ := h
  exact ⟨t, h1.narrow hAB, h2.narrow hAB⟩
theorem nb_top {n k0 b : Nat} (hk : 2 * n * k0 = 256) (hb : b < k0) : 2 * n * b + 2 * n ≤ 256 := by
  have h := Nat.mul_le_mul_left (2 * n) (show b + 1 ≤ k0 from hb)
  rw [hk, Nat.mul_add, Nat.mul_one] at h
  exact h
theorem itc_ {α : Type} {P Q : Prop} [Decidable P] [Decidable Q] (h : P ↔ Q) {x y : α} : (if P then x else y) = if Q then x else y := by
  by_cases hp : P
  · rw [if_pos hp, if_pos (h.mp hp)]
  · rw [if_neg hp, if_neg (fun q => hp (h.mpr q))]
def fwdP (n k0 : Nat) (f : Nat → Int32) (s0 j : Nat) : Nat → Int32 := fun i => if i < s0 ∨ (s0 ≤ i ∧ i < j) ∨ (s0 + n ≤ i ∧ i < j + n) then fwdI n k0 f i else f i
theorem fwdP_lo {n k0 s0 j : Nat} {f : Nat → Int32} (h1 : s0 ≤ j) (h2 : j < s0 + n) : fwdP n k0 f s0 j j = f j := if_neg (by omega)
theorem fwdP_hi {n k0 s0 j : Nat} {f : Nat → Int32} (h1 : s0 ≤ j) (h2 : j < s0 + n) : fwdP n k0 f s0 j (j + n) = f (j + n) := if_neg (by omega)
theorem fwdP_step {n k0 b r : Nat} {f : Nat → Int32} (hr : r < n) : upd (upd (fwdP n k0 f (2 * n * b) (2 * n * b + r)) (2 * n * b + r + n) (f (2 * n * b + r) - montI ((zt (k0 + b)).toInt64 * (f (2 * n * b + r + n)).toInt64))) (2 * n * b + r) (f (2 * n * b + r) + montI ((zt (k0 + b)).toInt64 * (f (2 * n * b + r + n)).toInt64)) = fwdP n k0 f (2 * n * b) (2 * n * b + (r + 1)) := by
  funext i
  unfold upd fwdP
  by_cases h1 : i = 2 * n * b + r
  · rw [if_pos h1, if_pos (by omega), h1, fwdI_lo hr, ← Nat.add_assoc]
  · rw [if_neg h1]
    by_cases h2 : i = 2 * n * b + r + n
    · rw [if_pos h2, if_pos (by omega), h2, Nat.add_assoc, fwdI_hi hr]
    · rw [if_neg h2]
      exact itc_ ⟨fun h => by omega, fun h => by omega⟩
theorem fwdP_next {n k0 b : Nat} {f : Nat → Int32} : fwdP n k0 f (2 * n * b) (2 * n * b + n) = fwdP n k0 f (2 * n * (b + 1)) (2 * n * (b + 1)) := by
  funext i
  unfold fwdP
  rw [show 2 * n * (b + 1) = 2 * n * b + 2 * n by rw [Nat.mul_add, Nat.mul_one]]
  exact itc_ ⟨fun h => by omega, fun h => by omega⟩
theorem fwdP_0 {n k0 : Nat} {f : Nat → Int32} : fwdP n k0 f (2 * n * 0) (2 * n * 0) = f := by
  funext i
  exact if_neg (by omega)
abbrev rmN : Room := ({ frames := 1, cells := 0, slots := 0, locals := 22 } : Room)
set_option maxHeartbeats 4000000 in
set_option maxRecDepth 100000 in
theorem ntt_j {p : Program} {l : Launch} {e : Env} {s : State} {m : MethodId} {below : List Frame} {meth : Method} {c : Code} {Q : State → Prop} {D : va_G} {cO cI : ClassId} {A : Nat → Prop} {a : Nat} (hx : p.tables.exec = Jvm.exec) (hb : c.code = cX3_ntt) (hml : c.maxLocals = 7) (hown : s.vm.findClass RX3 = some m.cls) (hts : ∀ w ∈ lw_all, w.before ([.ref a] : List Value).toArray s = true) (hK : xK D cO cI s) (hAa : A a) {n k0 b : Nat} (hk : 2 * n * k0 = 256) (hbk : b < k0) (f : Nat → Int32) (kk : ∀ (H : Heap) (locs : List Loc) (ls : Array Slot), va_P D vwCl [(a, xi cI (fwdP n k0 f (2 * n * b) (2 * n * b + n)))] H → va_S A s.heap H locs → lv_has ls 7 [(0, .ref a), (1, .int (nI n)), (2, .int (nI (2 * n * b))), (3, .int (nI (2 * n * b + n))), (4, .int (nI (k0 + b)))] → W p l e (headSpec (ws_ yX3_ntt cX3_ntt 7 none) rmN).room s m ([.ref a] : List Value).toArray below meth c H locs 0 0 Q (F0 m 81 ls [])) :
    ∀ (d r : Nat), r + d = n → ∀ (H : Heap) (locs : List Loc) (ls : Array Slot), va_P D vwCl [(a, xi cI (fwdP n k0 f (2 * n * b) (2 * n * b + r)))] H → va_S A s.heap H locs → lv_has ls 7 [(0, .ref a), (1, .int (nI n)), (2, .int (nI (2 * n * b))), (3, .int (nI (2 * n * b + r))), (4, .int (nI (k0 + b))), (5, .int (zt (k0 + b)))] → W p l e (headSpec (ws_ yX3_ntt cX3_ntt 7 none) rmN).room s m ([.ref a] : List Value).toArray below meth c H locs 0 0 Q (F0 m 33 ls []) := by
  have htop := nb_top hk hbk
  intro d
  induction d with
  | zero =>
    intro r hrd H locs ls hP hS hl
    have hrn : r = n := by omega
    subst hrn
    refine lv_iload_n hx hb dX3_ntt_33 rfl (lv_at hl 3 rfl) ?_
    refine lv_iload_n hx hb dX3_ntt_34 rfl (lv_at hl 2 rfl) ?_
    refine lv_iload_n hx hb dX3_ntt_35 rfl (lv_at hl 1 rfl) ?_
    refine lv_iadd hx hb dX3_ntt_36 ?_
    refine xv (y := (nI (2 * r * b + r))) (nI_add _ _) ?_
    refine lv_icmp_ge (tgt := 81) hx hb dX3_ntt_37 (by decide) (fun q9 => ?_) (fun q9 => ?_)
    · exact kk H locs ls hP hS (lv_sub hl [0, 1, 2, 3, 4] rfl)
    · exact absurd (nI_le (Nat.le_refl _) (by omega)) q9
  | succ d ih =>
    intro r hrd H locs ls hP hS hl
    have hlt : r < n := by omega
    refine lv_iload_n hx hb dX3_ntt_33 rfl (lv_at hl 3 rfl) ?_
    refine lv_iload_n hx hb dX3_ntt_34 rfl (lv_at hl 2 rfl) ?_
    refine lv_iload_n hx hb dX3_ntt_35 rfl (lv_at hl 1 rfl) ?_
    refine lv_iadd hx hb dX3_ntt_36 ?_
    refine xv (y := (nI (2 * n * b + n))) (nI_add _ _) ?_
    refine lv_icmp_ge (tgt := 81) hx hb dX3_ntt_37 (by decide) (fun q9 => ?_) (fun q9 => ?_)
    · exact absurd q9 (nI_ge (by omega) (by omega))
    · skip
      refine lv_iload hx hb dX3_ntt_40 (lv_at hl 5 rfl) ?_
      refine lv_i2l hx hb dX3_ntt_42 rfl ?_
      refine lv_aload_n hx hb dX3_ntt_43 rfl (lv_at hl 0 rfl) ?_
      refine lv_iload_n hx hb dX3_ntt_44 rfl (lv_at hl 3 rfl) ?_
      refine lv_iload_n hx hb dX3_ntt_45 rfl (lv_at hl 1 rfl) ?_
      refine lv_iadd hx hb dX3_ntt_46 ?_
      refine xv (y := (nI (2 * n * b + r + n))) (nI_add _ _) ?_
      refine va_iald hx hb hK.1 hP 0 1 rfl rfl (vp_in_nI (by omega) (by decide)) dX3_ntt_47 ?_
      refine xv (y := (f (2 * n * b + r + n))) (by rw [nI_clamp (by omega)]; exact fwdP_hi (by omega) (by omega)) ?_
      refine lv_i2l hx hb dX3_ntt_48 rfl ?_
      refine lv_lmul hx hb dX3_ntt_49 ?_
      refine vp_callSi (W.runS (As := [.long ((Int32.toInt64 (zt (k0 + b))) * (Int32.toInt64 (f (2 * n * b + r + n))))]) (rest := []) ⟨hx, hb, hml, hown, hts⟩ (met_montgomeryReduce l ((Int32.toInt64 (zt (k0 + b))) * (Int32.toInt64 (f (2 * n * b + r + n))))) (va_cwS 1 hts (lw_S q26 q27 q2 q28) rfl rfl rfl (by decide +kernel) ⟨Nat.le_of_ble_eq_true rfl, Nat.le_of_ble_eq_true rfl⟩) ⟨fun a U g mk q => q, fun U hU hW => ⟨rfl, trivial⟩⟩ rfl rfl hl.1 rfl (lv_room (Nat.le_of_ble_eq_true rfl)) dX3_ntt_50 ⟨Nat.le_of_ble_eq_true rfl, Nat.le_of_ble_eq_true rfl⟩) (fun t1 ht1 => ?_)
      refine lv_istore (lv' := [(6, .int t1), (0, .ref a), (1, .int (nI n)), (2, .int (nI (2 * n * b))), (3, .int (nI (2 * n * b + r))), (4, .int (nI (k0 + b))), (5, .int (zt (k0 + b)))]) hx hb dX3_ntt_53 hl (by decide) rfl (fun ls hl => ?_)
      refine lv_aload_n hx hb dX3_ntt_55 rfl (lv_at hl 1 rfl) ?_
      refine lv_iload_n hx hb dX3_ntt_56 rfl (lv_at hl 4 rfl) ?_
      refine lv_iload_n hx hb dX3_ntt_57 rfl (lv_at hl 2 rfl) ?_
      refine lv_iadd hx hb dX3_ntt_58 ?_
      refine xv (y := (nI (2 * n * b + r + n))) (nI_add _ _) ?_
      refine lv_aload_n hx hb dX3_ntt_59 rfl (lv_at hl 1 rfl) ?_
      refine lv_iload_n hx hb dX3_ntt_60 rfl (lv_at hl 4 rfl) ?_
      refine va_iald hx hb hK.1 hP 0 1 rfl rfl (vp_in_nI (by omega) (by decide)) dX3_ntt_61 ?_
      refine xv (y := (f (2 * n * b + r))) (by rw [nI_clamp (by omega)]; exact fwdP_lo (by omega) (by omega)) ?_
      refine lv_iload hx hb dX3_ntt_62 (lv_at hl 0 rfl) ?_
      refine lv_isub hx hb dX3_ntt_64 ?_
      refine va_iast hx hb hK.1 hP (va_D1 hAa) hS 0 1 rfl rfl (vp_in_nI (by omega) (by decide)) dX3_ntt_65 (fun H locs hP _ hS => ?_)
      rw [nI_clamp (by omega)] at hP
      have hP : va_P D vwCl [(a, xi cI (upd (fwdP n k0 f (2 * n * b) (2 * n * b + r)) (2 * n * b + r + n) (f (2 * n * b + r) - t1)))] H := hP
      refine lv_aload_n hx hb dX3_ntt_66 rfl (lv_at hl 1 rfl) ?_
      refine lv_iload_n hx hb dX3_ntt_67 rfl (lv_at hl 4 rfl) ?_
      refine lv_aload_n hx hb dX3_ntt_68 rfl (lv_at hl 1 rfl) ?_
      refine lv_iload_n hx hb dX3_ntt_69 rfl (lv_at hl 4 rfl) ?_
      refine va_iald hx hb hK.1 hP 0 1 rfl rfl (vp_in_nI (by omega) (by decide)) dX3_ntt_70 ?_
      refine xv (y := (f (2 * n * b + r))) (by rw [nI_clamp (by omega), pk_un (by omega)]; exact fwdP_lo (by omega) (by omega)) ?_
      refine lv_iload hx hb dX3_ntt_71 (lv_at hl 0 rfl) ?_
      refine lv_iadd hx hb dX3_ntt_73 ?_
      refine va_iast hx hb hK.1 hP (va_D1 hAa) hS 0 1 rfl rfl (vp_in_nI (by omega) (by decide)) dX3_ntt_74 (fun H locs hP _ hS => ?_)
      rw [nI_clamp (by omega)] at hP
      have hP : va_P D vwCl [(a, xi cI (upd (upd (fwdP n k0 f (2 * n * b) (2 * n * b + r)) (2 * n * b + r + n) (f (2 * n * b + r) - t1)) (2 * n * b + r) (f (2 * n * b + r) + t1)))] H := hP
      rw [ht1, fwdP_step hlt] at hP
      refine lv_iinc (v := (nI (2 * n * b + (r + 1)))) (lv' := [(3, .int (nI (2 * n * b + (r + 1)))), (6, .int t1), (0, .ref a), (1, .int (nI n)), (2, .int (nI (2 * n * b))), (4, .int (nI (k0 + b))), (5, .int (zt (k0 + b)))]) hx hb dX3_ntt_75 hl (k := 4) rfl (nI_1 _) (by decide) rfl (fun ls hl => ?_)
      refine lv_goto (tgt := 33) hx hb dX3_ntt_78 (by decide) ?_
      exact ih (r + 1) (by omega) H locs ls hP hS (lv_sub hl [2, 3, 4, 0, 5, 6] rfl)
set_option maxHeartbeats 4000000 in
set_option maxRecDepth 100000 in
theorem ntt_b {p : Program} {l : Launch} {e : Env} {s : State} {m : MethodId} {below : List Frame} {meth : Method} {c : Code} {Q : State → Prop} {D : va_G} {cO cI : ClassId} {A : Nat → Prop} {a : Nat} (hx : p.tables.exec = Jvm.exec) (hb : c.code = cX3_ntt) (hml : c.maxLocals = 7) (hown : s.vm.findClass RX3 = some m.cls) (hts : ∀ w ∈ lw_all, w.before ([.ref a] : List Value).toArray s = true) (hK : xK D cO cI s) (hAa : A a) {t : Nat} (hZ : va_Z "Ntt" "nttZetas" "[I" (.ref t) A s s.heap) (hT : va_T .int t 256 (fun k => .int (zt k)) A s s.heap) {n k0 : Nat} (hk : 2 * n * k0 = 256) (hn1 : 1 ≤ n) (hn2 : n ≤ 128) (hk1 : 1 ≤ k0) (hk2 : k0 ≤ 128) (f : Nat → Int32) (kk : ∀ (H : Heap) (locs : List Loc) (ls : Array Slot), va_P D vwCl [(a, xi cI (fwdI n k0 f))] H → va_S A s.heap H locs → lv_has ls 7 [(0, .ref a), (1, .int (nI n)), (4, .int (nI (2 * k0 - 1)))] → W p l e (headSpec (ws_ yX3_ntt cX3_ntt 7 none) rmN).room s m ([.ref a] : List Value).toArray below meth c H locs 0 0 Q (F0 m 88 ls [])) :
    ∀ (d b : Nat), b + d = k0 → ∀ (H : Heap) (locs : List Loc) (ls : Array Slot), va_P D vwCl [(a, xi cI (fwdP n k0 f (2 * n * b) (2 * n * b)))] H → va_S A s.heap H locs → lv_has ls 7 [(0, .ref a), (1, .int (nI n)), (2, .int (nI (2 * n * b))), (4, .int (nI (k0 - 1 + b)))] → W p l e (headSpec (ws_ yX3_ntt cX3_ntt 7 none) rmN).room s m ([.ref a] : List Value).toArray below meth c H locs 0 0 Q (F0 m 13 ls []) := by
  intro d
  induction d with
  | zero =>
    intro b hbd H locs ls hP hS hl
    have hbk : b = k0 := by omega
    subst hbk
    rw [hk] at hP hl
    refine lv_iload_n hx hb dX3_ntt_13 rfl (lv_at hl 2 rfl) ?_
    refine lv_sipush (v := nI 256) hx hb dX3_ntt_14 (by decide) ?_
    refine lv_icmp_ge (tgt := 88) hx hb dX3_ntt_17 (by decide) (fun q9 => ?_) (fun q9 => ?_)
    · refine kk H locs ls (fun k q hq => ?_) hS ?_
      · cases k with
        | zero => cases hq; exact xi_congr (fun i hi => if_pos (by omega)) (hP 0 _ rfl)
        | succ k => cases hq
      · rw [show 2 * b - 1 = b - 1 + b by omega]
        exact lv_sub hl [0, 1, 3] rfl
    · exact absurd (nI_le (Nat.le_refl _) (by decide)) q9
  | succ d ih =>
    intro b hbd H locs ls hP hS hl
    have hbk : b < k0 := by omega
    have htop := nb_top hk hbk
    refine lv_iload_n hx hb dX3_ntt_13 rfl (lv_at hl 2 rfl) ?_
    refine lv_sipush (v := nI 256) hx hb dX3_ntt_14 (by decide) ?_
    refine lv_icmp_ge (tgt := 88) hx hb dX3_ntt_17 (by decide) (fun q9 => ?_) (fun q9 => ?_)
    · exact absurd q9 (nI_ge (by omega) (by decide))
    · skip
      refine va_gets hx hb hZ hS hown (hts _ q24) (fun _ h9 => h9) dX3_ntt_20 ?_
      refine lv_iinc (v := (nI (k0 + b))) (lv' := [(4, .int (nI (k0 + b))), (0, .ref a), (1, .int (nI n)), (2, .int (nI (2 * n * b)))]) hx hb dX3_ntt_23 hl (k := 3) rfl (by rw [show k0 + b = k0 - 1 + b + 1 by omega]; exact nI_1 _) (by decide) rfl (fun ls hl => ?_)
      refine lv_iload hx hb dX3_ntt_26 (lv_at hl 0 rfl) ?_
      refine va_ti (v := .int (zt (k0 + b))) hx hb hT hS (vp_in_nI (by omega) (by decide)) (by rw [nI_clamp (by omega)]) dX3_ntt_28 ?_
      refine lv_istore (lv' := [(5, .int (zt (k0 + b))), (4, .int (nI (k0 + b))), (0, .ref a), (1, .int (nI n)), (2, .int (nI (2 * n * b)))]) hx hb dX3_ntt_29 hl (by decide) rfl (fun ls hl => ?_)
      refine lv_iload_n hx hb dX3_ntt_31 rfl (lv_at hl 4 rfl) ?_
      refine lv_istore_n (lv' := [(3, .int (nI (2 * n * b))), (5, .int (zt (k0 + b))), (4, .int (nI (k0 + b))), (0, .ref a), (1, .int (nI n)), (2, .int (nI (2 * n * b)))]) hx hb dX3_ntt_32 rfl hl (by decide) rfl (fun ls hl => ?_)
      refine ntt_j hx hb hml hown hts hK hAa hk hbk f (fun H locs ls hP hS hl => ?_) n 0 (by omega) H locs ls hP hS (lv_sub hl [3, 4, 5, 0, 2, 1] rfl)
      refine lv_iload_n hx hb dX3_ntt_81 rfl (lv_at hl 3 rfl) ?_
      refine lv_iload_n hx hb dX3_ntt_82 rfl (lv_at hl 1 rfl) ?_
      refine lv_iadd hx hb dX3_ntt_83 ?_
      refine xv (y := (nI (2 * n * (b + 1)))) (by rw [nI_add]; exact congrArg nI (by rw [Nat.mul_add]; omega)) ?_
      refine lv_istore_n (lv' := [(2, .int (nI (2 * n * (b + 1)))), (0, .ref a), (1, .int (nI n)), (3, .int (nI (2 * n * b + n))), (4, .int (nI (k0 + b)))]) hx hb dX3_ntt_84 rfl hl (by decide) rfl (fun ls hl => ?_)
      refine lv_goto (tgt := 13) hx hb dX3_ntt_85 (by decide) ?_
      rw [fwdP_next] at hP
      exact ih (b + 1) (by omega) H locs ls hP hS (by rw [show k0 - 1 + (b + 1) = k0 + b by omega]; exact (lv_sub hl [1, 2, 0, 4] rfl))
set_option maxHeartbeats 4000000 in
set_option maxRecDepth 100000 in
theorem ntt_layer {p : Program} {l : Launch} {e : Env} {s : State} {m : MethodId} {below : List Frame} {meth : Method} {c : Code} {Q : State → Prop} {D : va_G} {cO cI : ClassId} {A : Nat → Prop} {a : Nat} (hx : p.tables.exec = Jvm.exec) (hb : c.code = cX3_ntt) (hml : c.maxLocals = 7) (hown : s.vm.findClass RX3 = some m.cls) (hts : ∀ w ∈ lw_all, w.before ([.ref a] : List Value).toArray s = true) (hK : xK D cO cI s) (hAa : A a) {t : Nat} (hZ : va_Z "Ntt" "nttZetas" "[I" (.ref t) A s s.heap) (hT : va_T .int t 256 (fun k => .int (zt k)) A s s.heap) {n k0 : Nat} (hk : 2 * n * k0 = 256) (hn1 : 1 ≤ n) (hn2 : n ≤ 128) (hk1 : 1 ≤ k0) (hk2 : k0 ≤ 128) (f : Nat → Int32) (kk : ∀ (H : Heap) (locs : List Loc) (ls : Array Slot), va_P D vwCl [(a, xi cI (fwdI n k0 f))] H → va_S A s.heap H locs → lv_has ls 7 [(0, .ref a), (1, .int (nI (n / 2))), (4, .int (nI (2 * k0 - 1)))] → W p l e (headSpec (ws_ yX3_ntt cX3_ntt 7 none) rmN).room s m ([.ref a] : List Value).toArray below meth c H locs 0 0 Q (F0 m 7 ls [])) :
    ∀ (H : Heap) (locs : List Loc) (ls : Array Slot), va_P D vwCl [(a, xi cI (f))] H → va_S A s.heap H locs → lv_has ls 7 [(0, .ref a), (1, .int (nI n)), (4, .int (nI (k0 - 1)))] → W p l e (headSpec (ws_ yX3_ntt cX3_ntt 7 none) rmN).room s m ([.ref a] : List Value).toArray below meth c H locs 0 0 Q (F0 m 7 ls []) := by
  intro H locs ls hP hS hl
  refine lv_iload_n hx hb dX3_ntt_7 rfl (lv_at hl 1 rfl) ?_
  refine lv_if_le (tgt := 95) hx hb dX3_ntt_8 (by decide) (fun q9 => ?_) (fun q9 => ?_)
  · exact absurd q9 (nI_nle (by omega) (by omega))
  · skip
    refine lv_iconst (v := nI 0) hx hb dX3_ntt_11 (by decide) ?_
    refine lv_istore_n (lv' := [(2, .int (nI 0)), (0, .ref a), (1, .int (nI n)), (4, .int (nI (k0 - 1)))]) hx hb dX3_ntt_12 rfl hl (by decide) rfl (fun ls hl => ?_)
    refine ntt_b hx hb hml hown hts hK hAa hZ hT hk hn1 hn2 hk1 hk2 f (fun H locs ls hP hS hl => ?_) k0 0 (by omega) H locs ls (by rw [fwdP_0]; exact hP) hS (lv_sub hl [1, 2, 0, 3] rfl)
    refine lv_iload_n hx hb dX3_ntt_88 rfl (lv_at hl 1 rfl) ?_
    refine lv_iconst (v := 1) hx hb dX3_ntt_89 (by decide) ?_
    refine lv_iushr (v := ((Int32.toUInt32 (nI n) >>> (Int32.toUInt32 1 &&& Int32.toUInt32 31)).toInt32)) hx hb dX3_ntt_90 rfl ?_
    refine xv (y := (nI (n / 2))) (pk_ushrN (by omega) 1 1 (by decide)) ?_
    refine lv_istore_n (lv' := [(1, .int (nI (n / 2))), (0, .ref a), (4, .int (nI (2 * k0 - 1)))]) hx hb dX3_ntt_91 rfl hl (by decide) rfl (fun ls hl => ?_)
    refine lv_goto (tgt := 7) hx hb dX3_ntt_92 (by decide) ?_
    exact kk H locs ls hP hS (lv_sub hl [1, 0, 2] rfl)
set_option maxHeartbeats 4000000 in
set_option maxRecDepth 100000 in
/-- the transform -/
theorem met_ntt (l : Launch) (D : va_G) (cO cI : ClassId) (a sz : Nat) (f : Nat → Int32) : Met l yX3_ntt (ws_ yX3_ntt cX3_ntt 7 none) rmN (va_Pc [.ref a] (fun U => U.heap.size = sz ∧ va_P D vwCl [(a, xi cI f)] U.heap ∧ xK D cO cI U ∧ xZ (va_A [(a, xi cI f)] sz) U U.heap)) (va_Qv (fun (_ : Unit) => True) (fun _ t => va_P D vwCl [(a, xi cI (nttI f))] t.heap ∧ xK D cO cI t) (va_A [(a, xi cI f)] sz)) 0 0 (va_A [(a, xi cI f)] sz) := by
  refine Met.ofW (cc := cX3_ntt) (maxL := 7) (ret := none) (by decide) rfl ?_
  intro p e s m args below meth c s₁ B hml hv
  obtain ⟨rfl, hsz, hP, hK, hZZ⟩ := hv
  have hx := B.exec
  have hb := B.bytes
  have hr := B.returns
  have hts := atoms_spec (ws := ws_ yX3_ntt cX3_ntt 7 none) B.pre
  have hts : ∀ w ∈ lw_all, w.before _ s = true := fun w h => hts w (List.mem_cons_of_mem _ h)
  have hown : s.vm.findClass RX3 = some m.cls := findClass_of_methodNamed B.named
  have hlocks := B.notSynchronized
  subst hsz
  generalize hAe : va_A [(a, xi cI f)] s.heap.size = A at hZZ ⊢
  have hAa : A a := by rw [← hAe]; exact Or.inl ⟨0, _, rfl⟩
  obtain ⟨t, hZ, hT⟩ := hZZ
  have hS : va_S A s.heap s.heap [] := va_S.rf
  have hl := lv_entry ([.ref a]) (n := 7) (Nat.le_of_ble_eq_true rfl)
  rw [lg_entry_eq]
  generalize (lg_sl ([.ref a]) ++ List.replicate (7 - (lg_sl ([.ref a])).length) Slot.unset).toArray = ls at hl ⊢
  have hl : lv_has ls 7 [(0, .ref a)] := hl
  refine lv_iconst (v := nI 0) hx hb dX3_ntt_0 (by decide) ?_
  refine lv_istore (lv' := [(4, .int (nI 0)), (0, .ref a)]) hx hb dX3_ntt_1 hl (by decide) rfl (fun ls hl => ?_)
  refine lv_sipush (v := nI 128) hx hb dX3_ntt_3 (by decide) ?_
  refine lv_istore_n (lv' := [(1, .int (nI 128)), (4, .int (nI 0)), (0, .ref a)]) hx hb dX3_ntt_6 rfl hl (by decide) rfl (fun ls hl => ?_)
  refine ntt_layer hx hb hml hown hts hK hAa hZ hT (n := 128) (k0 := 1) (by decide) (by decide) (by decide) (by decide) (by decide) _ (fun H locs ls hP hS hl => ?_) _ _ _ hP hS (lv_sub hl [2, 0, 1] rfl)
  refine ntt_layer hx hb hml hown hts hK hAa hZ hT (n := 64) (k0 := 2) (by decide) (by decide) (by decide) (by decide) (by decide) _ (fun H locs ls hP hS hl => ?_) _ _ _ hP hS hl
  refine ntt_layer hx hb hml hown hts hK hAa hZ hT (n := 32) (k0 := 4) (by decide) (by decide) (by decide) (by decide) (by decide) _ (fun H locs ls hP hS hl => ?_) _ _ _ hP hS hl
  refine ntt_layer hx hb hml hown hts hK hAa hZ hT (n := 16) (k0 := 8) (by decide) (by decide) (by decide) (by decide) (by decide) _ (fun H locs ls hP hS hl => ?_) _ _ _ hP hS hl
  refine ntt_layer hx hb hml hown hts hK hAa hZ hT (n := 8) (k0 := 16) (by decide) (by decide) (by decide) (by decide) (by decide) _ (fun H locs ls hP hS hl => ?_) _ _ _ hP hS hl
  refine ntt_layer hx hb hml hown hts hK hAa hZ hT (n := 4) (k0 := 32) (by decide) (by decide) (by decide) (by decide) (by decide) _ (fun H locs ls hP hS hl => ?_) _ _ _ hP hS hl
  refine ntt_layer hx hb hml hown hts hK hAa hZ hT (n := 2) (k0 := 64) (by decide) (by decide) (by decide) (by decide) (by decide) _ (fun H locs ls hP hS hl => ?_) _ _ _ hP hS hl
  refine ntt_layer hx hb hml hown hts hK hAa hZ hT (n := 1) (k0 := 128) (by decide) (by decide) (by decide) (by decide) (by decide) _ (fun H locs ls hP hS hl => ?_) _ _ _ hP hS hl
  refine lv_iload_n hx hb dX3_ntt_7 rfl (lv_at hl 1 rfl) ?_
  refine lv_if_le (tgt := 95) hx hb dX3_ntt_8 (by decide) (fun q9 => ?_) (fun q9 => ?_)
  · exact W.vret hx hb hr (fun t ht hW => ⟨⟨(), rfl, trivial, by rw [ht]; exact hP, hK.moved hW.alike⟩, hS.F ht⟩) hS.2.2 dX3_ntt_95
  · exact absurd (by decide) q9
end NTTS
end
section
/-! INV: the way back, walked -/
section INVS
def bwdP (n K : Nat) (f : Nat → Int32) (s0 j : Nat) : Nat → Int32 := fun i => if i < s0 ∨ (s0 ≤ i ∧ i < j) ∨ (s0 + n ≤ i ∧ i < j + n) then bwdI n K f i else f i
theorem bwdP_lo {n K s0 j : Nat} {f : Nat → Int32} (h1 : s0 ≤ j) (h2 : j < s0 + n) : bwdP n K f s0 j j = f j := if_neg (by omega)
theorem bwdP_hi {n K s0 j : Nat} {f : Nat → Int32} (h1 : s0 ≤ j) (h2 : j < s0 + n) : bwdP n K f s0 j (j + n) = f (j + n) := if_neg (by omega)
theorem bwdP_step {n K b r : Nat} {f : Nat → Int32} (hr : r < n) : upd (upd (upd (bwdP n K f (2 * n * b) (2 * n * b + r)) (2 * n * b + r) (f (2 * n * b + r) + f (2 * n * b + r + n))) (2 * n * b + r + n) (f (2 * n * b + r) - f (2 * n * b + r + n))) (2 * n * b + r + n) (montI (((-1) * zt (K - 1 - b)).toInt64 * (f (2 * n * b + r) - f (2 * n * b + r + n)).toInt64)) = bwdP n K f (2 * n * b) (2 * n * b + (r + 1)) := by
  funext i
  unfold upd bwdP
  by_cases h2 : i = 2 * n * b + r + n
  · rw [if_pos h2, if_pos (by omega), h2, Nat.add_assoc, bwdI_hi hr]
  · rw [if_neg h2, if_neg h2]
    by_cases h1 : i = 2 * n * b + r
    · rw [if_pos h1, if_pos (by omega), h1, bwdI_lo hr, ← Nat.add_assoc]
    · rw [if_neg h1]
      exact itc_ ⟨fun h => by omega, fun h => by omega⟩
theorem bwdP_next {n K b : Nat} {f : Nat → Int32} : bwdP n K f (2 * n * b) (2 * n * b + n) = bwdP n K f (2 * n * (b + 1)) (2 * n * (b + 1)) := by
  funext i
  unfold bwdP
  rw [show 2 * n * (b + 1) = 2 * n * b + 2 * n by rw [Nat.mul_add, Nat.mul_one]]
  exact itc_ ⟨fun h => by omega, fun h => by omega⟩
theorem bwdP_0 {n K : Nat} {f : Nat → Int32} : bwdP n K f (2 * n * 0) (2 * n * 0) = f := by
  funext i
  exact if_neg (by omega)
theorem nI_dec {k : Nat} (h : 1 ≤ k) : nI k + Int32.ofInt (-1) = nI (k - 1) := by
  obtain ⟨j, rfl⟩ : ∃ j, k = j + 1 := ⟨k - 1, by omega⟩
  exact pk_m1 j
set_option maxHeartbeats 4000000 in
set_option maxRecDepth 100000 in
theorem inv_j {p : Program} {l : Launch} {e : Env} {s : State} {m : MethodId} {below : List Frame} {meth : Method} {c : Code} {Q : State → Prop} {D : va_G} {cO cI : ClassId} {A : Nat → Prop} {a : Nat} (hx : p.tables.exec = Jvm.exec) (hb : c.code = cX3_invNttToMont) (hml : c.maxLocals = 7) (hown : s.vm.findClass RX3 = some m.cls) (hts : ∀ w ∈ lw_all, w.before ([.ref a] : List Value).toArray s = true) (hK : xK D cO cI s) (hAa : A a) {n k0 K b : Nat} (hk : 2 * n * k0 = 256) (hbk : b < k0) (f : Nat → Int32) (kk : ∀ (H : Heap) (locs : List Loc) (ls : Array Slot), va_P D vwCl [(a, xi cI (bwdP n K f (2 * n * b) (2 * n * b + n)))] H → va_S A s.heap H locs → lv_has ls 7 [(0, .ref a), (1, .int (nI (2 * n * b))), (2, .int (nI n)), (3, .int (nI (2 * n * b + n))), (4, .int (nI (K - 1 - b)))] → W p l e (headSpec (ws_ yX3_invNttToMont cX3_invNttToMont 7 none) rmN).room s m ([.ref a] : List Value).toArray below meth c H locs 0 0 Q (F0 m 98 ls [])) :
    ∀ (d r : Nat), r + d = n → ∀ (H : Heap) (locs : List Loc) (ls : Array Slot), va_P D vwCl [(a, xi cI (bwdP n K f (2 * n * b) (2 * n * b + r)))] H → va_S A s.heap H locs → lv_has ls 7 [(0, .ref a), (1, .int (nI (2 * n * b))), (2, .int (nI n)), (3, .int (nI (2 * n * b + r))), (4, .int (nI (K - 1 - b))), (6, .int ((-1) * zt (K - 1 - b)))] → W p l e (headSpec (ws_ yX3_invNttToMont cX3_invNttToMont 7 none) rmN).room s m ([.ref a] : List Value).toArray below meth c H locs 0 0 Q (F0 m 38 ls []) := by
  have htop := nb_top hk hbk
  intro d
  induction d with
  | zero =>
    intro r hrd H locs ls hP hS hl
    have hrn : r = n := by omega
    subst hrn
    refine lv_iload_n hx hb dX3_invNttToMont_38 rfl (lv_at hl 3 rfl) ?_
    refine lv_iload_n hx hb dX3_invNttToMont_39 rfl (lv_at hl 1 rfl) ?_
    refine lv_iload_n hx hb dX3_invNttToMont_40 rfl (lv_at hl 2 rfl) ?_
    refine lv_iadd hx hb dX3_invNttToMont_41 ?_
    refine xv (y := (nI (2 * r * b + r))) (nI_add _ _) ?_
    refine lv_icmp_ge (tgt := 98) hx hb dX3_invNttToMont_42 (by decide) (fun q9 => ?_) (fun q9 => ?_)
    · exact kk H locs ls hP hS (lv_sub hl [0, 1, 2, 3, 4] rfl)
    · exact absurd (nI_le (Nat.le_refl _) (by omega)) q9
  | succ d ih =>
    intro r hrd H locs ls hP hS hl
    have hlt : r < n := by omega
    refine lv_iload_n hx hb dX3_invNttToMont_38 rfl (lv_at hl 3 rfl) ?_
    refine lv_iload_n hx hb dX3_invNttToMont_39 rfl (lv_at hl 1 rfl) ?_
    refine lv_iload_n hx hb dX3_invNttToMont_40 rfl (lv_at hl 2 rfl) ?_
    refine lv_iadd hx hb dX3_invNttToMont_41 ?_
    refine xv (y := (nI (2 * n * b + n))) (nI_add _ _) ?_
    refine lv_icmp_ge (tgt := 98) hx hb dX3_invNttToMont_42 (by decide) (fun q9 => ?_) (fun q9 => ?_)
    · exact absurd q9 (nI_ge (by omega) (by omega))
    · skip
      refine lv_aload_n hx hb dX3_invNttToMont_45 rfl (lv_at hl 0 rfl) ?_
      refine lv_iload_n hx hb dX3_invNttToMont_46 rfl (lv_at hl 3 rfl) ?_
      refine va_iald hx hb hK.1 hP 0 1 rfl rfl (vp_in_nI (by omega) (by decide)) dX3_invNttToMont_47 ?_
      refine xv (y := (f (2 * n * b + r))) (by rw [nI_clamp (by omega)]; exact bwdP_lo (by omega) (by omega)) ?_
      refine lv_istore (lv' := [(5, .int (f (2 * n * b + r))), (0, .ref a), (1, .int (nI (2 * n * b))), (2, .int (nI n)), (3, .int (nI (2 * n * b + r))), (4, .int (nI (K - 1 - b))), (6, .int ((-1) * zt (K - 1 - b)))]) hx hb dX3_invNttToMont_48 hl (by decide) rfl (fun ls hl => ?_)
      refine lv_aload_n hx hb dX3_invNttToMont_50 rfl (lv_at hl 1 rfl) ?_
      refine lv_iload_n hx hb dX3_invNttToMont_51 rfl (lv_at hl 4 rfl) ?_
      refine lv_iload hx hb dX3_invNttToMont_52 (lv_at hl 0 rfl) ?_
      refine lv_aload_n hx hb dX3_invNttToMont_54 rfl (lv_at hl 1 rfl) ?_
      refine lv_iload_n hx hb dX3_invNttToMont_55 rfl (lv_at hl 4 rfl) ?_
      refine lv_iload_n hx hb dX3_invNttToMont_56 rfl (lv_at hl 3 rfl) ?_
      refine lv_iadd hx hb dX3_invNttToMont_57 ?_
      refine xv (y := (nI (2 * n * b + r + n))) (nI_add _ _) ?_
      refine va_iald hx hb hK.1 hP 0 1 rfl rfl (vp_in_nI (by omega) (by decide)) dX3_invNttToMont_58 ?_
      refine xv (y := (f (2 * n * b + r + n))) (by rw [nI_clamp (by omega)]; exact bwdP_hi (by omega) (by omega)) ?_
      refine lv_iadd hx hb dX3_invNttToMont_59 ?_
      refine va_iast hx hb hK.1 hP (va_D1 hAa) hS 0 1 rfl rfl (vp_in_nI (by omega) (by decide)) dX3_invNttToMont_60 (fun H locs hP _ hS => ?_)
      rw [nI_clamp (by omega)] at hP
      have hP : va_P D vwCl [(a, xi cI (upd (bwdP n K f (2 * n * b) (2 * n * b + r)) (2 * n * b + r) ((f (2 * n * b + r)) + (f (2 * n * b + r + n)))))] H := hP
      refine lv_aload_n hx hb dX3_invNttToMont_61 rfl (lv_at hl 1 rfl) ?_
      refine lv_iload_n hx hb dX3_invNttToMont_62 rfl (lv_at hl 4 rfl) ?_
      refine lv_iload_n hx hb dX3_invNttToMont_63 rfl (lv_at hl 3 rfl) ?_
      refine lv_iadd hx hb dX3_invNttToMont_64 ?_
      refine xv (y := (nI (2 * n * b + r + n))) (nI_add _ _) ?_
      refine lv_iload hx hb dX3_invNttToMont_65 (lv_at hl 0 rfl) ?_
      refine lv_aload_n hx hb dX3_invNttToMont_67 rfl (lv_at hl 1 rfl) ?_
      refine lv_iload_n hx hb dX3_invNttToMont_68 rfl (lv_at hl 4 rfl) ?_
      refine lv_iload_n hx hb dX3_invNttToMont_69 rfl (lv_at hl 3 rfl) ?_
      refine lv_iadd hx hb dX3_invNttToMont_70 ?_
      refine xv (y := (nI (2 * n * b + r + n))) (nI_add _ _) ?_
      refine va_iald hx hb hK.1 hP 0 1 rfl rfl (vp_in_nI (by omega) (by decide)) dX3_invNttToMont_71 ?_
      refine xv (y := (f (2 * n * b + r + n))) (by rw [nI_clamp (by omega), pk_un (by omega)]; exact bwdP_hi (by omega) (by omega)) ?_
      refine lv_isub hx hb dX3_invNttToMont_72 ?_
      refine va_iast hx hb hK.1 hP (va_D1 hAa) hS 0 1 rfl rfl (vp_in_nI (by omega) (by decide)) dX3_invNttToMont_73 (fun H locs hP _ hS => ?_)
      rw [nI_clamp (by omega)] at hP
      have hP : va_P D vwCl [(a, xi cI (upd (upd (bwdP n K f (2 * n * b) (2 * n * b + r)) (2 * n * b + r) ((f (2 * n * b + r)) + (f (2 * n * b + r + n)))) (2 * n * b + r + n) ((f (2 * n * b + r)) - (f (2 * n * b + r + n)))))] H := hP
      refine lv_aload_n hx hb dX3_invNttToMont_74 rfl (lv_at hl 1 rfl) ?_
      refine lv_iload_n hx hb dX3_invNttToMont_75 rfl (lv_at hl 4 rfl) ?_
      refine lv_iload_n hx hb dX3_invNttToMont_76 rfl (lv_at hl 3 rfl) ?_
      refine lv_iadd hx hb dX3_invNttToMont_77 ?_
      refine xv (y := (nI (2 * n * b + r + n))) (nI_add _ _) ?_
      refine lv_iload hx hb dX3_invNttToMont_78 (lv_at hl 6 rfl) ?_
      refine lv_i2l hx hb dX3_invNttToMont_80 rfl ?_
      refine lv_aload_n hx hb dX3_invNttToMont_81 rfl (lv_at hl 1 rfl) ?_
      refine lv_iload_n hx hb dX3_invNttToMont_82 rfl (lv_at hl 4 rfl) ?_
      refine lv_iload_n hx hb dX3_invNttToMont_83 rfl (lv_at hl 3 rfl) ?_
      refine lv_iadd hx hb dX3_invNttToMont_84 ?_
      refine xv (y := (nI (2 * n * b + r + n))) (nI_add _ _) ?_
      refine va_iald hx hb hK.1 hP 0 1 rfl rfl (vp_in_nI (by omega) (by decide)) dX3_invNttToMont_85 ?_
      refine xv (y := ((f (2 * n * b + r)) - (f (2 * n * b + r + n)))) (by rw [nI_clamp (by omega), pk_us]) ?_
      refine lv_i2l hx hb dX3_invNttToMont_86 rfl ?_
      refine lv_lmul hx hb dX3_invNttToMont_87 ?_
      refine vp_callSi (W.runS (As := [.long ((Int32.toInt64 ((-1) * zt (K - 1 - b))) * (Int32.toInt64 ((f (2 * n * b + r)) - (f (2 * n * b + r + n)))))]) (rest := [.int (nI (2 * n * b + r + n)), .ref a]) ⟨hx, hb, hml, hown, hts⟩ (met_montgomeryReduce l ((Int32.toInt64 ((-1) * zt (K - 1 - b))) * (Int32.toInt64 ((f (2 * n * b + r)) - (f (2 * n * b + r + n)))))) (va_cwS 1 hts (lw_S q26 q27 q2 q28) rfl rfl rfl (by decide +kernel) ⟨Nat.le_of_ble_eq_true rfl, Nat.le_of_ble_eq_true rfl⟩) ⟨fun a U g mk q => q, fun U hU hW => ⟨rfl, trivial⟩⟩ rfl rfl hl.1 rfl (lv_room (Nat.le_of_ble_eq_true rfl)) dX3_invNttToMont_88 ⟨Nat.le_of_ble_eq_true rfl, Nat.le_of_ble_eq_true rfl⟩) (fun t1 ht1 => ?_)
      refine va_iast hx hb hK.1 hP (va_D1 hAa) hS 0 1 rfl rfl (vp_in_nI (by omega) (by decide)) dX3_invNttToMont_91 (fun H locs hP _ hS => ?_)
      rw [nI_clamp (by omega)] at hP
      have hP : va_P D vwCl [(a, xi cI (upd (upd (upd (bwdP n K f (2 * n * b) (2 * n * b + r)) (2 * n * b + r) ((f (2 * n * b + r)) + (f (2 * n * b + r + n)))) (2 * n * b + r + n) ((f (2 * n * b + r)) - (f (2 * n * b + r + n)))) (2 * n * b + r + n) (t1)))] H := hP
      rw [ht1, bwdP_step hlt] at hP
      refine lv_iinc (v := (nI (2 * n * b + (r + 1)))) (lv' := [(3, .int (nI (2 * n * b + (r + 1)))), (5, .int (f (2 * n * b + r))), (0, .ref a), (1, .int (nI (2 * n * b))), (2, .int (nI n)), (4, .int (nI (K - 1 - b))), (6, .int ((-1) * zt (K - 1 - b)))]) hx hb dX3_invNttToMont_92 hl (k := 4) rfl (nI_1 _) (by decide) rfl (fun ls hl => ?_)
      refine lv_goto (tgt := 38) hx hb dX3_invNttToMont_95 (by decide) ?_
      exact ih (r + 1) (by omega) H locs ls hP hS (lv_sub hl [2, 3, 4, 0, 5, 6] rfl)
set_option maxHeartbeats 4000000 in
set_option maxRecDepth 100000 in
theorem inv_b {p : Program} {l : Launch} {e : Env} {s : State} {m : MethodId} {below : List Frame} {meth : Method} {c : Code} {Q : State → Prop} {D : va_G} {cO cI : ClassId} {A : Nat → Prop} {a : Nat} (hx : p.tables.exec = Jvm.exec) (hb : c.code = cX3_invNttToMont) (hml : c.maxLocals = 7) (hown : s.vm.findClass RX3 = some m.cls) (hts : ∀ w ∈ lw_all, w.before ([.ref a] : List Value).toArray s = true) (hK : xK D cO cI s) (hAa : A a) {t : Nat} (hZ : va_Z "Ntt" "nttZetas" "[I" (.ref t) A s s.heap) (hT : va_T .int t 256 (fun k => .int (zt k)) A s s.heap) {n k0 K : Nat} (hk : 2 * n * k0 = 256) (hn1 : 1 ≤ n) (hn2 : n ≤ 128) (hk1 : 1 ≤ k0) (hk2 : k0 ≤ 128) (hK0 : K = 2 * k0) (f : Nat → Int32) (kk : ∀ (H : Heap) (locs : List Loc) (ls : Array Slot), va_P D vwCl [(a, xi cI (bwdI n K f))] H → va_S A s.heap H locs → lv_has ls 7 [(0, .ref a), (2, .int (nI n)), (4, .int (nI k0))] → W p l e (headSpec (ws_ yX3_invNttToMont cX3_invNttToMont 7 none) rmN).room s m ([.ref a] : List Value).toArray below meth c H locs 0 0 Q (F0 m 105 ls [])) :
    ∀ (d b : Nat), b + d = k0 → ∀ (H : Heap) (locs : List Loc) (ls : Array Slot), va_P D vwCl [(a, xi cI (bwdP n K f (2 * n * b) (2 * n * b)))] H → va_S A s.heap H locs → lv_has ls 7 [(0, .ref a), (1, .int (nI (2 * n * b))), (2, .int (nI n)), (4, .int (nI (K - b)))] → W p l e (headSpec (ws_ yX3_invNttToMont cX3_invNttToMont 7 none) rmN).room s m ([.ref a] : List Value).toArray below meth c H locs 0 0 Q (F0 m 16 ls []) := by
  intro d
  induction d with
  | zero =>
    intro b hbd H locs ls hP hS hl
    have hbk : b = k0 := by omega
    subst hbk
    rw [hk] at hP hl
    refine lv_iload_n hx hb dX3_invNttToMont_16 rfl (lv_at hl 1 rfl) ?_
    refine lv_sipush (v := nI 256) hx hb dX3_invNttToMont_17 (by decide) ?_
    refine lv_icmp_ge (tgt := 105) hx hb dX3_invNttToMont_20 (by decide) (fun q9 => ?_) (fun q9 => ?_)
    · refine kk H locs ls (fun k q hq => ?_) hS ?_
      · cases k with
        | zero => cases hq; exact xi_congr (fun i hi => if_pos (by omega)) (hP 0 _ rfl)
        | succ k => cases hq
      · rw [show K - b = b by omega] at hl
        exact lv_sub hl [0, 2, 3] rfl
    · exact absurd (nI_le (Nat.le_refl _) (by decide)) q9
  | succ d ih =>
    intro b hbd H locs ls hP hS hl
    have hbk : b < k0 := by omega
    have htop := nb_top hk hbk
    refine lv_iload_n hx hb dX3_invNttToMont_16 rfl (lv_at hl 1 rfl) ?_
    refine lv_sipush (v := nI 256) hx hb dX3_invNttToMont_17 (by decide) ?_
    refine lv_icmp_ge (tgt := 105) hx hb dX3_invNttToMont_20 (by decide) (fun q9 => ?_) (fun q9 => ?_)
    · exact absurd q9 (nI_ge (by omega) (by decide))
    · skip
      refine lv_iconst (v := (-1)) hx hb dX3_invNttToMont_23 (by decide) ?_
      refine va_gets hx hb hZ hS hown (hts _ q24) (fun _ h9 => h9) dX3_invNttToMont_24 ?_
      refine lv_iinc (v := (nI (K - 1 - b))) (lv' := [(4, .int (nI (K - 1 - b))), (0, .ref a), (1, .int (nI (2 * n * b))), (2, .int (nI n))]) hx hb dX3_invNttToMont_27 hl (k := 3) rfl (by rw [nI_dec (by omega), show K - b - 1 = K - 1 - b by omega]) (by decide) rfl (fun ls hl => ?_)
      refine lv_iload hx hb dX3_invNttToMont_30 (lv_at hl 0 rfl) ?_
      refine va_ti (v := .int (zt (K - 1 - b))) hx hb hT hS (vp_in_nI (by omega) (by decide)) (by rw [nI_clamp (by omega)]) dX3_invNttToMont_32 ?_
      refine lv_imul hx hb dX3_invNttToMont_33 ?_
      refine lv_istore (lv' := [(6, .int ((-1) * (zt (K - 1 - b)))), (4, .int (nI (K - 1 - b))), (0, .ref a), (1, .int (nI (2 * n * b))), (2, .int (nI n))]) hx hb dX3_invNttToMont_34 hl (by decide) rfl (fun ls hl => ?_)
      refine lv_iload_n hx hb dX3_invNttToMont_36 rfl (lv_at hl 3 rfl) ?_
      refine lv_istore_n (lv' := [(3, .int (nI (2 * n * b))), (6, .int ((-1) * (zt (K - 1 - b)))), (4, .int (nI (K - 1 - b))), (0, .ref a), (1, .int (nI (2 * n * b))), (2, .int (nI n))]) hx hb dX3_invNttToMont_37 rfl hl (by decide) rfl (fun ls hl => ?_)
      refine inv_j hx hb hml hown hts hK hAa hk hbk f (fun H locs ls hP hS hl => ?_) n 0 (by omega) H locs ls hP hS (lv_sub hl [3, 4, 5, 0, 2, 1] rfl)
      refine lv_iload_n hx hb dX3_invNttToMont_98 rfl (lv_at hl 3 rfl) ?_
      refine lv_iload_n hx hb dX3_invNttToMont_99 rfl (lv_at hl 2 rfl) ?_
      refine lv_iadd hx hb dX3_invNttToMont_100 ?_
      refine xv (y := (nI (2 * n * (b + 1)))) (by rw [nI_add]; exact congrArg nI (by rw [Nat.mul_add]; omega)) ?_
      refine lv_istore_n (lv' := [(1, .int (nI (2 * n * (b + 1)))), (0, .ref a), (2, .int (nI n)), (3, .int (nI (2 * n * b + n))), (4, .int (nI (K - 1 - b)))]) hx hb dX3_invNttToMont_101 rfl hl (by decide) rfl (fun ls hl => ?_)
      refine lv_goto (tgt := 16) hx hb dX3_invNttToMont_102 (by decide) ?_
      rw [bwdP_next] at hP
      exact ih (b + 1) (by omega) H locs ls hP hS (by rw [show K - (b + 1) = K - 1 - b by omega]; exact (lv_sub hl [1, 0, 2, 4] rfl))
set_option maxHeartbeats 4000000 in
set_option maxRecDepth 100000 in
theorem inv_layer {p : Program} {l : Launch} {e : Env} {s : State} {m : MethodId} {below : List Frame} {meth : Method} {c : Code} {Q : State → Prop} {D : va_G} {cO cI : ClassId} {A : Nat → Prop} {a : Nat} (hx : p.tables.exec = Jvm.exec) (hb : c.code = cX3_invNttToMont) (hml : c.maxLocals = 7) (hown : s.vm.findClass RX3 = some m.cls) (hts : ∀ w ∈ lw_all, w.before ([.ref a] : List Value).toArray s = true) (hK : xK D cO cI s) (hAa : A a) {t : Nat} (hZ : va_Z "Ntt" "nttZetas" "[I" (.ref t) A s s.heap) (hT : va_T .int t 256 (fun k => .int (zt k)) A s s.heap) {n k0 K : Nat} (hk : 2 * n * k0 = 256) (hn1 : 1 ≤ n) (hn2 : n ≤ 128) (hk1 : 1 ≤ k0) (hk2 : k0 ≤ 128) (hK0 : K = 2 * k0) (f : Nat → Int32) (kk : ∀ (H : Heap) (locs : List Loc) (ls : Array Slot), va_P D vwCl [(a, xi cI (bwdI n K f))] H → va_S A s.heap H locs → lv_has ls 7 [(0, .ref a), (2, .int (nI (n * 2))), (4, .int (nI k0))] → W p l e (headSpec (ws_ yX3_invNttToMont cX3_invNttToMont 7 none) rmN).room s m ([.ref a] : List Value).toArray below meth c H locs 0 0 Q (F0 m 7 ls [])) :
    ∀ (H : Heap) (locs : List Loc) (ls : Array Slot), va_P D vwCl [(a, xi cI (f))] H → va_S A s.heap H locs → lv_has ls 7 [(0, .ref a), (2, .int (nI n)), (4, .int (nI K))] → W p l e (headSpec (ws_ yX3_invNttToMont cX3_invNttToMont 7 none) rmN).room s m ([.ref a] : List Value).toArray below meth c H locs 0 0 Q (F0 m 7 ls []) := by
  intro H locs ls hP hS hl
  refine lv_iload_n hx hb dX3_invNttToMont_7 rfl (lv_at hl 1 rfl) ?_
  refine lv_sipush (v := nI 256) hx hb dX3_invNttToMont_8 (by decide) ?_
  refine lv_icmp_ge (tgt := 112) hx hb dX3_invNttToMont_11 (by decide) (fun q9 => ?_) (fun q9 => ?_)
  · exact absurd q9 (nI_ge (by omega) (by decide))
  · skip
    refine lv_iconst (v := nI 0) hx hb dX3_invNttToMont_14 (by decide) ?_
    refine lv_istore_n (lv' := [(1, .int (nI 0)), (0, .ref a), (2, .int (nI n)), (4, .int (nI K))]) hx hb dX3_invNttToMont_15 rfl hl (by decide) rfl (fun ls hl => ?_)
    refine inv_b hx hb hml hown hts hK hAa hZ hT hk hn1 hn2 hk1 hk2 hK0 f (fun H locs ls hP hS hl => ?_) k0 0 (by omega) H locs ls (by rw [bwdP_0]; exact hP) hS (lv_sub hl [1, 0, 2, 3] rfl)
    refine lv_iload_n hx hb dX3_invNttToMont_105 rfl (lv_at hl 1 rfl) ?_
    refine lv_iconst (v := 1) hx hb dX3_invNttToMont_106 (by decide) ?_
    refine lv_ishl hx hb dX3_invNttToMont_107 ?_
    refine xv (y := (nI (n * 2))) (pk_shlN _ 1 (by decide) (by omega)) ?_
    refine lv_istore_n (lv' := [(2, .int (nI (n * 2))), (0, .ref a), (4, .int (nI k0))]) hx hb dX3_invNttToMont_108 rfl hl (by decide) rfl (fun ls hl => ?_)
    refine lv_goto (tgt := 7) hx hb dX3_invNttToMont_109 (by decide) ?_
    exact kk H locs ls hP hS (lv_sub hl [1, 0, 2] rfl)
set_option maxHeartbeats 4000000 in
set_option maxRecDepth 100000 in
theorem inv_f {p : Program} {l : Launch} {e : Env} {s : State} {m : MethodId} {below : List Frame} {meth : Method} {c : Code} {Q : State → Prop} {D : va_G} {cO cI : ClassId} {A : Nat → Prop} {a : Nat} (hx : p.tables.exec = Jvm.exec) (hb : c.code = cX3_invNttToMont) (hml : c.maxLocals = 7) (hown : s.vm.findClass RX3 = some m.cls) (hts : ∀ w ∈ lw_all, w.before ([.ref a] : List Value).toArray s = true) (hK : xK D cO cI s) (hAa : A a) (g : Nat → Int32) (kk : ∀ (H : Heap) (locs : List Loc) (ls : Array Slot), va_P D vwCl [(a, xi cI (fun i => montI (41978 * (g i).toInt64)))] H → va_S A s.heap H locs → lv_has ls 7 [(0, .ref a)] → W p l e (headSpec (ws_ yX3_invNttToMont cX3_invNttToMont 7 none) rmN).room s m ([.ref a] : List Value).toArray below meth c H locs 0 0 Q (F0 m 141 ls [])) :
    ∀ (d i : Nat), i + d = 256 → ∀ (H : Heap) (locs : List Loc) (ls : Array Slot), va_P D vwCl [(a, xi cI (ptl (fun i => montI (41978 * (g i).toInt64)) g i))] H → va_S A s.heap H locs → lv_has ls 7 [(0, .ref a), (3, .int (nI i))] → W p l e (headSpec (ws_ yX3_invNttToMont cX3_invNttToMont 7 none) rmN).room s m ([.ref a] : List Value).toArray below meth c H locs 0 0 Q (F0 m 114 ls []) := by
  intro d
  induction d with
  | zero =>
    intro i hi H locs ls hP hS hl
    have hi2 : i = 256 := by omega
    subst hi2
    refine lv_iload_n hx hb dX3_invNttToMont_114 rfl (lv_at hl 1 rfl) ?_
    refine lv_sipush (v := nI 256) hx hb dX3_invNttToMont_115 (by decide) ?_
    refine lv_icmp_ge (tgt := 141) hx hb dX3_invNttToMont_118 (by decide) (fun q9 => ?_) (fun q9 => ?_)
    · refine kk H locs ls (fun k q hq => ?_) hS (lv_sub hl [0] rfl)
      cases k with
      | zero => cases hq; exact xi_congr (fun i hi => ptl_e hi) (hP 0 _ rfl)
      | succ k => cases hq
    · exact absurd (nI_le (Nat.le_refl _) (by decide)) q9
  | succ d ih =>
    intro i hi H locs ls hP hS hl
    have hlt : i < 256 := by omega
    refine lv_iload_n hx hb dX3_invNttToMont_114 rfl (lv_at hl 1 rfl) ?_
    refine lv_sipush (v := nI 256) hx hb dX3_invNttToMont_115 (by decide) ?_
    refine lv_icmp_ge (tgt := 141) hx hb dX3_invNttToMont_118 (by decide) (fun q9 => ?_) (fun q9 => ?_)
    · exact absurd q9 (nI_ge (by omega) (by decide))
    · skip
      refine lv_aload_n hx hb dX3_invNttToMont_121 rfl (lv_at hl 0 rfl) ?_
      refine lv_iload_n hx hb dX3_invNttToMont_122 rfl (lv_at hl 1 rfl) ?_
      refine lv_ldc2 hx hb hown (hts _ q35) dX3_invNttToMont_123 ?_
      refine lv_aload_n hx hb dX3_invNttToMont_126 rfl (lv_at hl 0 rfl) ?_
      refine lv_iload_n hx hb dX3_invNttToMont_127 rfl (lv_at hl 1 rfl) ?_
      refine va_iald hx hb hK.1 hP 0 1 rfl rfl (vp_in_nI (by omega) (by decide)) dX3_invNttToMont_128 ?_
      refine xv (y := (g i)) (by rw [nI_clamp (by omega)]; exact if_neg (by omega)) ?_
      refine lv_i2l hx hb dX3_invNttToMont_129 rfl ?_
      refine lv_lmul hx hb dX3_invNttToMont_130 ?_
      refine vp_callSi (W.runS (As := [.long (41978 * (Int32.toInt64 (g i)))]) (rest := [.int (nI i), .ref a]) ⟨hx, hb, hml, hown, hts⟩ (met_montgomeryReduce l (41978 * (Int32.toInt64 (g i)))) (va_cwS 1 hts (lw_S q26 q27 q2 q28) rfl rfl rfl (by decide +kernel) ⟨Nat.le_of_ble_eq_true rfl, Nat.le_of_ble_eq_true rfl⟩) ⟨fun a U g mk q => q, fun U hU hW => ⟨rfl, trivial⟩⟩ rfl rfl hl.1 rfl (lv_room (Nat.le_of_ble_eq_true rfl)) dX3_invNttToMont_131 ⟨Nat.le_of_ble_eq_true rfl, Nat.le_of_ble_eq_true rfl⟩) (fun t1 ht1 => ?_)
      refine va_iast hx hb hK.1 hP (va_D1 hAa) hS 0 1 rfl rfl (vp_in_nI (by omega) (by decide)) dX3_invNttToMont_134 (fun H locs hP _ hS => ?_)
      rw [nI_clamp (by omega)] at hP
      have hP : va_P D vwCl [(a, xi cI (upd (ptl (fun i => montI (41978 * (g i).toInt64)) g i) i t1))] H := hP
      rw [ht1] at hP
      have hP : va_P D vwCl [(a, xi cI (ptl (fun i => montI (41978 * (g i).toInt64)) g (i + 1)))] H := by rw [← ptl_s]; exact hP
      refine lv_iinc (v := (nI (i + 1))) (lv' := [(3, .int (nI (i + 1))), (0, .ref a)]) hx hb dX3_invNttToMont_135 hl (k := 1) rfl (nI_1 _) (by decide) rfl (fun ls hl => ?_)
      refine lv_goto (tgt := 114) hx hb dX3_invNttToMont_138 (by decide) ?_
      exact ih (i + 1) (by omega) H locs ls hP hS (lv_sub hl [1, 0] rfl)
set_option maxHeartbeats 4000000 in
set_option maxRecDepth 100000 in
/-- the way back -/
theorem met_invNttToMont (l : Launch) (D : va_G) (cO cI : ClassId) (a sz : Nat) (f : Nat → Int32) : Met l yX3_invNttToMont (ws_ yX3_invNttToMont cX3_invNttToMont 7 none) rmN (va_Pc [.ref a] (fun U => U.heap.size = sz ∧ va_P D vwCl [(a, xi cI f)] U.heap ∧ xK D cO cI U ∧ xZ (va_A [(a, xi cI f)] sz) U U.heap)) (va_Qv (fun (_ : Unit) => True) (fun _ t => va_P D vwCl [(a, xi cI (invI f))] t.heap ∧ xK D cO cI t) (va_A [(a, xi cI f)] sz)) 0 0 (va_A [(a, xi cI f)] sz) := by
  refine Met.ofW (cc := cX3_invNttToMont) (maxL := 7) (ret := none) (by decide) rfl ?_
  intro p e s m args below meth c s₁ B hml hv
  obtain ⟨rfl, hsz, hP, hK, hZZ⟩ := hv
  have hx := B.exec
  have hb := B.bytes
  have hr := B.returns
  have hts := atoms_spec (ws := ws_ yX3_invNttToMont cX3_invNttToMont 7 none) B.pre
  have hts : ∀ w ∈ lw_all, w.before _ s = true := fun w h => hts w (List.mem_cons_of_mem _ h)
  have hown : s.vm.findClass RX3 = some m.cls := findClass_of_methodNamed B.named
  have hlocks := B.notSynchronized
  subst hsz
  generalize hAe : va_A [(a, xi cI f)] s.heap.size = A at hZZ ⊢
  have hAa : A a := by rw [← hAe]; exact Or.inl ⟨0, _, rfl⟩
  obtain ⟨t, hZ, hT⟩ := hZZ
  have hS : va_S A s.heap s.heap [] := va_S.rf
  have hl := lv_entry ([.ref a]) (n := 7) (Nat.le_of_ble_eq_true rfl)
  rw [lg_entry_eq]
  generalize (lg_sl ([.ref a]) ++ List.replicate (7 - (lg_sl ([.ref a])).length) Slot.unset).toArray = ls at hl ⊢
  have hl : lv_has ls 7 [(0, .ref a)] := hl
  refine lv_sipush (v := nI 256) hx hb dX3_invNttToMont_0 (by decide) ?_
  refine lv_istore (lv' := [(4, .int (nI 256)), (0, .ref a)]) hx hb dX3_invNttToMont_3 hl (by decide) rfl (fun ls hl => ?_)
  refine lv_iconst (v := nI 1) hx hb dX3_invNttToMont_5 (by decide) ?_
  refine lv_istore_n (lv' := [(2, .int (nI 1)), (4, .int (nI 256)), (0, .ref a)]) hx hb dX3_invNttToMont_6 rfl hl (by decide) rfl (fun ls hl => ?_)
  refine inv_layer hx hb hml hown hts hK hAa hZ hT (n := 1) (k0 := 128) (K := 256) (by decide) (by decide) (by decide) (by decide) (by decide) rfl _ (fun H locs ls hP hS hl => ?_) _ _ _ hP hS (lv_sub hl [2, 0, 1] rfl)
  refine inv_layer hx hb hml hown hts hK hAa hZ hT (n := 2) (k0 := 64) (K := 128) (by decide) (by decide) (by decide) (by decide) (by decide) rfl _ (fun H locs ls hP hS hl => ?_) _ _ _ hP hS hl
  refine inv_layer hx hb hml hown hts hK hAa hZ hT (n := 4) (k0 := 32) (K := 64) (by decide) (by decide) (by decide) (by decide) (by decide) rfl _ (fun H locs ls hP hS hl => ?_) _ _ _ hP hS hl
  refine inv_layer hx hb hml hown hts hK hAa hZ hT (n := 8) (k0 := 16) (K := 32) (by decide) (by decide) (by decide) (by decide) (by decide) rfl _ (fun H locs ls hP hS hl => ?_) _ _ _ hP hS hl
  refine inv_layer hx hb hml hown hts hK hAa hZ hT (n := 16) (k0 := 8) (K := 16) (by decide) (by decide) (by decide) (by decide) (by decide) rfl _ (fun H locs ls hP hS hl => ?_) _ _ _ hP hS hl
  refine inv_layer hx hb hml hown hts hK hAa hZ hT (n := 32) (k0 := 4) (K := 8) (by decide) (by decide) (by decide) (by decide) (by decide) rfl _ (fun H locs ls hP hS hl => ?_) _ _ _ hP hS hl
  refine inv_layer hx hb hml hown hts hK hAa hZ hT (n := 64) (k0 := 2) (K := 4) (by decide) (by decide) (by decide) (by decide) (by decide) rfl _ (fun H locs ls hP hS hl => ?_) _ _ _ hP hS hl
  refine inv_layer hx hb hml hown hts hK hAa hZ hT (n := 128) (k0 := 1) (K := 2) (by decide) (by decide) (by decide) (by decide) (by decide) rfl _ (fun H locs ls hP hS hl => ?_) _ _ _ hP hS hl
  refine lv_iload_n hx hb dX3_invNttToMont_7 rfl (lv_at hl 1 rfl) ?_
  refine lv_sipush (v := nI 256) hx hb dX3_invNttToMont_8 (by decide) ?_
  refine lv_icmp_ge (tgt := 112) hx hb dX3_invNttToMont_11 (by decide) (fun q9 => ?_) (fun q9 => ?_)
  · skip
    refine lv_iconst (v := nI 0) hx hb dX3_invNttToMont_112 (by decide) ?_
    refine lv_istore_n (lv' := [(3, .int (nI 0)), (0, .ref a), (2, .int (nI (128 * 2))), (4, .int (nI 1))]) hx hb dX3_invNttToMont_113 rfl hl (by decide) rfl (fun ls hl => ?_)
    have hP : va_P D vwCl [(a, xi cI (bacI f))] H := hP
    refine inv_f hx hb hml hown hts hK hAa (bacI f) (fun H locs ls hP hS hl => ?_) 256 0 (by decide) H locs ls (by rw [ptl_0]; exact hP) hS (lv_sub hl [1, 0] rfl)
    have hP : va_P D vwCl [(a, xi cI (invI f))] H := hP
    exact W.vret hx hb hr (fun t ht hW => ⟨⟨(), rfl, trivial, by rw [ht]; exact hP, hK.moved hW.alike⟩, hS.F ht⟩) hS.2.2 dX3_invNttToMont_141
  · exact absurd (by decide) q9
end INVS
end
section
/-! RING METHODS -/
section RINGM
theorem rg_set1 {cO cI : ClassId} {h g : Nat} {R : Nat → Nat} {F : Nat → Nat → Int32} {w : va_W} {j : Nat} {f' : Nat → Int32} (hj : j < 4) : (rg cO cI h g R F ++ w).set (2 + j) (R j, xi cI f') = rg cO cI h g R (va_up F j f') ++ w :=
  c4 (P := fun j => (rg cO cI h g R F ++ w).set (2 + j) (R j, xi cI f') = rg cO cI h g R (va_up F j f') ++ w) rfl rfl rfl rfl hj
/-- a new row is laid into its place -/
theorem rg_swap {D : va_G} {cO cI : ClassId} {h g z : Nat} {R : Nat → Nat} {F : Nat → Nat → Int32} {f : Nat → Int32} {A : Nat → Prop} {H : Heap} {j : Nat} (hj : j < 4) (hP : va_P D vwCl ((rg cO cI h g R F ++ [(z, xi cI f)]).set 1 (g, xq cO 4 (va_up (fun i => some (R i)) j (some z)))) H) (hD : va_D A ((rg cO cI h g R F ++ [(z, xi cI f)]).set 1 (g, xq cO 4 (va_up (fun i => some (R i)) j (some z))))) : va_P D vwCl (rg cO cI h g (va_up R j z) (va_up F j f)) H ∧ va_D A (rg cO cI h g (va_up R j z) (va_up F j f)) := by
  have e : va_up (fun i => some (R i)) j (some z) = fun i => some (va_up R j z i) := funext fun i => by
    unfold va_up
    split <;> rfl
  rw [e] at hP hD
  revert hP hD
  refine c4 (P := fun j => va_P D vwCl ((rg cO cI h g R F ++ [(z, xi cI f)]).set 1 (g, xq cO 4 (fun i => some (va_up R j z i)))) H → va_D A ((rg cO cI h g R F ++ [(z, xi cI f)]).set 1 (g, xq cO 4 (fun i => some (va_up R j z i)))) → va_P D vwCl (rg cO cI h g (va_up R j z) (va_up F j f)) H ∧ va_D A (rg cO cI h g (va_up R j z) (va_up F j f))) ?_ ?_ ?_ ?_ hj
  · exact fun hP hD => ⟨hP.sub [0, 1, 6, 3, 4, 5] rfl, hD.sub [0, 1, 6, 3, 4, 5] (by decide) rfl⟩
  · exact fun hP hD => ⟨hP.sub [0, 1, 2, 6, 4, 5] rfl, hD.sub [0, 1, 2, 6, 4, 5] (by decide) rfl⟩
  · exact fun hP hD => ⟨hP.sub [0, 1, 2, 3, 6, 5] rfl, hD.sub [0, 1, 2, 3, 6, 5] (by decide) rfl⟩
  · exact fun hP hD => ⟨hP.sub [0, 1, 2, 3, 4, 6] rfl, hD.sub [0, 1, 2, 3, 4, 6] (by decide) rfl⟩
theorem tail_D {A : Nat → Prop} {cO cI : ClassId} {h g z : Nat} {R : Nat → Nat} {F : Nat → Nat → Int32} {f f' : Nat → Int32} (hD : va_D A (rg cO cI h g R F ++ [(z, xi cI f)])) : va_D A (rg cO cI h g R F ++ [(z, xi cI f')]) := hD.addr rfl
theorem tail_congr {D : va_G} {cO cI : ClassId} {h g z : Nat} {R : Nat → Nat} {F : Nat → Nat → Int32} {f f' : Nat → Int32} {H : Heap} (e : ∀ i, i < 256 → f i = f' i) (hP : va_P D vwCl (rg cO cI h g R F ++ [(z, xi cI f)]) H) : va_P D vwCl (rg cO cI h g R F ++ [(z, xi cI f')]) H := by
  intro k q hk
  match k, hk with
  | 0, hk => exact hP 0 q hk
  | 1, hk => exact hP 1 q hk
  | 2, hk => exact hP 2 q hk
  | 3, hk => exact hP 3 q hk
  | 4, hk => exact hP 4 q hk
  | 5, hk => exact hP 5 q hk
  | 6, hk => cases hk; exact xi_congr e (hP 6 _ rfl)
  | k + 7, hk => cases hk
/-- what a ring is behind a method -/
abbrev rB (D : va_G) (cO cI : ClassId) (A : Nat → Prop) (h g : Nat) (R : Nat → Nat) (F : Nat → Nat → Int32) (t : State) : Prop := va_P D vwCl (rg cO cI h g R F) t.heap ∧ xK D cO cI t ∧ va_D A (rg cO cI h g R F)
abbrev rm_co : Room := ({ frames := 0, cells := 0, slots := 0, locals := 0 } : Room)
set_option maxHeartbeats 4000000 in
set_option maxRecDepth 100000 in
/-- a coefficient is read -/
theorem met_coefficient (l : Launch) (D : va_G) (cO cI : ClassId) (h g : Nat) (R : Nat → Nat) (F : Nat → Nat → Int32) (r i : Int32) (j k : Nat) (hj : j < 4) (hjv : r &&& 3 = nI j) (hk : k < 256) (hkv : i &&& 255 = nI k) : Met l yX1_coefficient (ws_ yX1_coefficient cX1_coefficient 3 (some .int)) rm_co (va_Pc [.ref h, .int r, .int i] (fun U => va_P D vwCl (rg cO cI h g R F) U.heap ∧ xK D cO cI U)) (vp_Si (fun v => v = F j k)) 0 0 (fun _ => False) := by
  refine Met.ofW (cc := cX1_coefficient) (maxL := 3) (ret := (some .int)) (by decide) rfl ?_
  intro p e s m args below meth c s₁ B hml hv
  obtain ⟨rfl, hP, hK⟩ := hv
  have hx := B.exec
  have hb := B.bytes
  have hr := B.returns
  have hts := atoms_spec (ws := ws_ yX1_coefficient cX1_coefficient 3 (some .int)) B.pre
  have hts : ∀ w ∈ lw_all, w.before _ s = true := fun w h => hts w (List.mem_cons_of_mem _ h)
  have hown : s.vm.findClass RX1 = some m.cls := findClass_of_methodNamed B.named
  have hlocks := B.notSynchronized
  have hl := lv_entry ([.ref h, .int r, .int i]) (n := 3) (Nat.le_of_ble_eq_true rfl)
  rw [lg_entry_eq]
  generalize (lg_sl ([.ref h, .int r, .int i]) ++ List.replicate (3 - (lg_sl ([.ref h, .int r, .int i])).length) Slot.unset).toArray = ls at hl ⊢
  have hl : lv_has ls 3 [(0, .ref h), (1, .int r), (2, .int i)] := hl
  refine lv_aload_n hx hb dX1_coefficient_0 rfl (lv_at hl 0 rfl) ?_
  refine va_get (D := D) (ci := 0) (v := .ref g) (C := RX1) (T := TX1) (N := 1) hx hb hts in_X1 hown hK.1 hP 0 rfl rfl 0 (by decide) (hts _ q72) (fun _ h9 => h9) rfl dX1_coefficient_1 ?_
  refine lv_iload_n hx hb dX1_coefficient_4 rfl (lv_at hl 1 rfl) ?_
  refine lv_iconst (v := 3) hx hb dX1_coefficient_5 (by decide) ?_
  refine lv_iand hx hb dX1_coefficient_6 ?_
  refine xv (y := (nI j)) (hjv) ?_
  refine xa_ald hx hb hK hP 1 rfl (vp_in_nI hj (by decide)) dX1_coefficient_7 ?_
  refine xr (y := R j) (by rw [nI_clamp (by omega)]; rfl) ?_
  refine lv_iload_n hx hb dX1_coefficient_8 rfl (lv_at hl 2 rfl) ?_
  refine lv_sipush (v := 255) hx hb dX1_coefficient_9 (by decide) ?_
  refine lv_iand hx hb dX1_coefficient_12 ?_
  refine xv (y := (nI k)) (hkv) ?_
  refine va_iald hx hb hK.1 hP (2 + j) 1 (rg_row (w := []) hj) rfl (vp_in_nI (by omega) (by decide)) dX1_coefficient_13 ?_
  refine xv (y := (F j k)) (by rw [nI_clamp (by omega)]) ?_
  exact W.iret hx hb hr (fun t ht hW => ⟨_, rfl, rfl, ht⟩) (xn_ rfl) dX1_coefficient_14
abbrev rm_pu : Room := ({ frames := 1, cells := 0, slots := 0, locals := 20 } : Room)
set_option maxHeartbeats 4000000 in
set_option maxRecDepth 100000 in
/-- a coefficient is written -/
theorem met_put (l : Launch) (D : va_G) (cO cI : ClassId) (h g : Nat) (R : Nat → Nat) (F : Nat → Nat → Int32) (sz : Nat) (r i v : Int32) (j k : Nat) (hj : j < 4) (hjv : r &&& 3 = nI j) (hk : k < 256) (hkv : i &&& 255 = nI k) : Met l yX1_put (ws_ yX1_put cX1_put 4 none) rm_pu (va_Pc [.ref h, .int r, .int i, .int v] (fun U => U.heap.size = sz ∧ va_P D vwCl (rg cO cI h g R F) U.heap ∧ xK D cO cI U ∧ va_D (fun _ => True) (rg cO cI h g R F))) (va_Qv (fun (_ : Unit) => True) (fun _ t => rB D cO cI (va_A (rg cO cI h g R F) sz) h g R (va_up F j (upd (F j) k (fairI v))) t) (va_A (rg cO cI h g R F) sz)) 0 0 (va_A (rg cO cI h g R F) sz) := by
  refine Met.ofW (cc := cX1_put) (maxL := 4) (ret := none) (by decide) rfl ?_
  intro p e s m args below meth c s₁ B hml hv
  obtain ⟨rfl, hsz, hP, hK, hD0⟩ := hv
  have hx := B.exec
  have hb := B.bytes
  have hr := B.returns
  have hts := atoms_spec (ws := ws_ yX1_put cX1_put 4 none) B.pre
  have hts : ∀ w ∈ lw_all, w.before _ s = true := fun w h => hts w (List.mem_cons_of_mem _ h)
  have hown : s.vm.findClass RX1 = some m.cls := findClass_of_methodNamed B.named
  have hlocks := B.notSynchronized
  subst hsz
  have hD := hD0.self (sz := s.heap.size)
  generalize hAe : va_A (rg cO cI h g R F) s.heap.size = A at hD ⊢
  have hA : ∀ q : Nat, s.heap.size ≤ q → A q := fun q h => by rw [← hAe]; exact Or.inr h
  have hS : va_S A s.heap s.heap [] := va_S.rf
  have hl := lv_entry ([.ref h, .int r, .int i, .int v]) (n := 4) (Nat.le_of_ble_eq_true rfl)
  rw [lg_entry_eq]
  generalize (lg_sl ([.ref h, .int r, .int i, .int v]) ++ List.replicate (4 - (lg_sl ([.ref h, .int r, .int i, .int v])).length) Slot.unset).toArray = ls at hl ⊢
  have hl : lv_has ls 4 [(0, .ref h), (1, .int r), (2, .int i), (3, .int v)] := hl
  refine lv_aload_n hx hb dX1_put_0 rfl (lv_at hl 0 rfl) ?_
  refine va_get (D := D) (ci := 0) (v := .ref g) (C := RX1) (T := TX1) (N := 1) hx hb hts in_X1 hown hK.1 hP 0 rfl rfl 0 (by decide) (hts _ q72) (fun _ h9 => h9) rfl dX1_put_1 ?_
  refine lv_iload_n hx hb dX1_put_4 rfl (lv_at hl 1 rfl) ?_
  refine lv_iconst (v := 3) hx hb dX1_put_5 (by decide) ?_
  refine lv_iand hx hb dX1_put_6 ?_
  refine xv (y := (nI j)) (hjv) ?_
  refine xa_ald hx hb hK hP 1 rfl (vp_in_nI hj (by decide)) dX1_put_7 ?_
  refine xr (y := R j) (by rw [nI_clamp (by omega)]; rfl) ?_
  refine lv_iload_n hx hb dX1_put_8 rfl (lv_at hl 2 rfl) ?_
  refine lv_sipush (v := 255) hx hb dX1_put_9 (by decide) ?_
  refine lv_iand hx hb dX1_put_12 ?_
  refine xv (y := (nI k)) (hkv) ?_
  refine lv_iload_n hx hb dX1_put_13 rfl (lv_at hl 3 rfl) ?_
  refine vp_callSi (W.runS (As := [.int v]) (rest := [.int (nI k), .ref (R j)]) ⟨hx, hb, hml, hown, hts⟩ (met_fair l v) (va_cwS 1 hts (lw_S q8 q9 q1 q10) rfl rfl rfl (by decide +kernel) ⟨Nat.le_of_ble_eq_true rfl, Nat.le_of_ble_eq_true rfl⟩) ⟨fun a U g mk q => q, fun U hU hW => ⟨rfl, trivial⟩⟩ rfl rfl hl.1 rfl (lv_room (Nat.le_of_ble_eq_true rfl)) dX1_put_14 ⟨Nat.le_of_ble_eq_true rfl, Nat.le_of_ble_eq_true rfl⟩) (fun t1 ht1 => ?_)
  refine xv (y := (fairI v)) (ht1) ?_
  refine va_iast hx hb hK.1 hP hD hS (2 + j) 1 (rg_row (w := []) hj) rfl (vp_in_nI hk (by decide)) dX1_put_17 (fun H locs hP hD hS => ?_)
  rw [nI_clamp (by omega)] at hP hD
  have hP : va_P D vwCl (rg cO cI h g R (va_up F j (upd (F j) k (fairI v))) ++ []) H := by rw [← rg_set1 hj]; exact hP
  have hD : va_D A (rg cO cI h g R (va_up F j (upd (F j) k (fairI v))) ++ []) := by rw [← rg_set1 hj]; exact hD
  exact W.vret hx hb hr (fun t ht hW => ⟨⟨(), rfl, trivial, by rw [ht]; exact hP, hK.moved hW.alike, hD⟩, hS.F ht⟩) hS.2.2 dX1_put_18
abbrev rm_sp : Room := ({ frames := 1, cells := 0, slots := 0, locals := 20 } : Room)
set_option maxHeartbeats 4000000 in
set_option maxRecDepth 100000 in
theorem spread_l {h g : Nat} {R : Nat → Nat} {F : Nat → Nat → Int32} {r x d : Int32} {j : Nat} {p : Program} {l : Launch} {e : Env} {s : State} {m : MethodId} {below : List Frame} {meth : Method} {c : Code} {Q : State → Prop} {D : va_G} {cO cI : ClassId} {A : Nat → Prop} (hx : p.tables.exec = Jvm.exec) (hb : c.code = cX1_spread) (hml : c.maxLocals = 5) (hown : s.vm.findClass RX1 = some m.cls) (hts : ∀ w ∈ lw_all, w.before ([.ref h, .int r, .int x, .int d] : List Value).toArray s = true) (hK : xK D cO cI s) (hj : j < 4) (hjv : r &&& 3 = nI j) (kk : ∀ (H : Heap) (locs : List Loc) (ls : Array Slot), va_P D vwCl (rg cO cI h g R (va_up F j (fun k => fairI (x + nI k * d)))) H → va_D A (rg cO cI h g R (va_up F j (fun k => fairI (x + nI k * d)))) → va_S A s.heap H locs → W p l e (headSpec (ws_ yX1_spread cX1_spread 5 none) rm_sp).room s m ([.ref h, .int r, .int x, .int d] : List Value).toArray below meth c H locs 0 0 Q (F0 m 37 ls [])) :
    ∀ (n i : Nat), i + n = 256 → ∀ (H : Heap) (locs : List Loc) (ls : Array Slot), va_P D vwCl (rg cO cI h g R (va_up F j (ptl (fun k => fairI (x + nI k * d)) (F j) i))) H → va_D A (rg cO cI h g R (va_up F j (ptl (fun k => fairI (x + nI k * d)) (F j) i))) → va_S A s.heap H locs → lv_has ls 5 [(4, .int (nI i)), (0, .ref h), (1, .int r), (2, .int x), (3, .int d)] → W p l e (headSpec (ws_ yX1_spread cX1_spread 5 none) rm_sp).room s m ([.ref h, .int r, .int x, .int d] : List Value).toArray below meth c H locs 0 0 Q (F0 m 3 ls []) := by
  intro n
  induction n with
  | zero =>
    intro i hi H locs ls hP hD hS hl
    have hi2 : i = 256 := by omega
    subst hi2
    refine lv_iload hx hb dX1_spread_3 (lv_at hl 0 rfl) ?_
    refine lv_sipush (v := nI 256) hx hb dX1_spread_5 (by decide) ?_
    refine lv_icmp_ge (tgt := 37) hx hb dX1_spread_8 (by decide) (fun c9 => ?_) (fun c9 => ?_)
    · refine kk H locs ls (rg_congr (w := []) (fun a ha k hk => ?_) hP) (rg_D (w := []) hD) hS
      by_cases e : a = j
      · rw [e, va_up_self, va_up_self]
        exact ptl_e hk
      · rw [va_up_ne _ _ e, va_up_ne _ _ e]
    · exact absurd (nI_le (Nat.le_refl _) (by decide)) c9
  | succ n ih =>
    intro i hi H locs ls hP hD hS hl
    have hlt : i < 256 := by omega
    refine lv_iload hx hb dX1_spread_3 (lv_at hl 0 rfl) ?_
    refine lv_sipush (v := nI 256) hx hb dX1_spread_5 (by decide) ?_
    refine lv_icmp_ge (tgt := 37) hx hb dX1_spread_8 (by decide) (fun c9 => ?_) (fun c9 => ?_)
    · exact absurd c9 (nI_ge (by omega) (by decide))
    · skip
      refine lv_aload_n hx hb dX1_spread_11 rfl (lv_at hl 1 rfl) ?_
      refine va_get (D := D) (ci := 0) (v := .ref g) (C := RX1) (T := TX1) (N := 1) hx hb hts in_X1 hown hK.1 hP 0 rfl rfl 0 (by decide) (hts _ q72) (fun _ h9 => h9) rfl dX1_spread_12 ?_
      refine lv_iload_n hx hb dX1_spread_15 rfl (lv_at hl 2 rfl) ?_
      refine lv_iconst (v := 3) hx hb dX1_spread_16 (by decide) ?_
      refine lv_iand hx hb dX1_spread_17 ?_
      refine xv (y := (nI j)) (hjv) ?_
      refine xa_ald hx hb hK hP 1 rfl (vp_in_nI hj (by decide)) dX1_spread_18 ?_
      refine xr (y := R j) (by rw [nI_clamp (by omega)]; rfl) ?_
      refine lv_iload hx hb dX1_spread_19 (lv_at hl 0 rfl) ?_
      refine lv_iload_n hx hb dX1_spread_21 rfl (lv_at hl 3 rfl) ?_
      refine lv_iload hx hb dX1_spread_22 (lv_at hl 0 rfl) ?_
      refine lv_iload_n hx hb dX1_spread_24 rfl (lv_at hl 4 rfl) ?_
      refine lv_imul hx hb dX1_spread_25 ?_
      refine lv_iadd hx hb dX1_spread_26 ?_
      refine vp_callSi (W.runS (As := [.int (x + nI i * d)]) (rest := [.int (nI i), .ref (R j)]) ⟨hx, hb, hml, hown, hts⟩ (met_fair l (x + nI i * d)) (va_cwS 1 hts (lw_S q8 q9 q1 q10) rfl rfl rfl (by decide +kernel) ⟨Nat.le_of_ble_eq_true rfl, Nat.le_of_ble_eq_true rfl⟩) ⟨fun a U g mk q => q, fun U hU hW => ⟨rfl, trivial⟩⟩ rfl rfl hl.1 rfl (lv_room (Nat.le_of_ble_eq_true rfl)) dX1_spread_27 ⟨Nat.le_of_ble_eq_true rfl, Nat.le_of_ble_eq_true rfl⟩) (fun t1 ht1 => ?_)
      refine xv (y := (fairI (x + nI i * d))) (ht1) ?_
      refine va_iast hx hb hK.1 hP hD hS (2 + j) 1 (rg_row (w := []) hj) rfl (vp_in_nI hlt (by decide)) dX1_spread_30 (fun H locs hP hD hS => ?_)
      rw [nI_clamp (by omega), va_up_self] at hP hD
      have e9 : (rg cO cI h g R (va_up F j (ptl (fun k => fairI (x + nI k * d)) (F j) i)) ++ []).set (2 + j) (R j, xi cI (upd (ptl (fun k => fairI (x + nI k * d)) (F j) i) i (fairI (x + nI i * d)))) = rg cO cI h g R (va_up F j (ptl (fun k => fairI (x + nI k * d)) (F j) (i + 1))) ++ [] := by
        rw [rg_set hj, ← ptl_s]
      have hP : va_P D vwCl (rg cO cI h g R (va_up F j (ptl (fun k => fairI (x + nI k * d)) (F j) (i + 1))) ++ []) H := by rw [← e9]; exact hP
      have hD : va_D A (rg cO cI h g R (va_up F j (ptl (fun k => fairI (x + nI k * d)) (F j) (i + 1))) ++ []) := by rw [← e9]; exact hD
      refine lv_iinc (v := (nI (i + 1))) (lv' := [(4, .int (nI (i + 1))), (0, .ref h), (1, .int r), (2, .int x), (3, .int d)]) hx hb dX1_spread_31 hl (k := 0) rfl (nI_1 _) (by decide) rfl (fun ls hl => ?_)
      refine lv_goto (tgt := 3) hx hb dX1_spread_34 (by decide) ?_
      exact ih (i + 1) (by omega) H locs ls hP hD hS (lv_sub hl [0, 1, 2, 3, 4] rfl)
set_option maxHeartbeats 4000000 in
set_option maxRecDepth 100000 in
/-- a row is laid in equal steps -/
theorem met_spread (l : Launch) (D : va_G) (cO cI : ClassId) (h g : Nat) (R : Nat → Nat) (F : Nat → Nat → Int32) (sz : Nat) (r x d : Int32) (j : Nat) (hj : j < 4) (hjv : r &&& 3 = nI j) : Met l yX1_spread (ws_ yX1_spread cX1_spread 5 none) rm_sp (va_Pc [.ref h, .int r, .int x, .int d] (fun U => U.heap.size = sz ∧ va_P D vwCl (rg cO cI h g R F) U.heap ∧ xK D cO cI U ∧ va_D (fun _ => True) (rg cO cI h g R F))) (va_Qv (fun (_ : Unit) => True) (fun _ t => rB D cO cI (va_A (rg cO cI h g R F) sz) h g R (va_up F j (fun k => fairI (x + nI k * d))) t) (va_A (rg cO cI h g R F) sz)) 0 0 (va_A (rg cO cI h g R F) sz) := by
  refine Met.ofW (cc := cX1_spread) (maxL := 5) (ret := none) (by decide) rfl ?_
  intro p e s m args below meth c s₁ B hml hv
  obtain ⟨rfl, hsz, hP, hK, hD0⟩ := hv
  have hx := B.exec
  have hb := B.bytes
  have hr := B.returns
  have hts := atoms_spec (ws := ws_ yX1_spread cX1_spread 5 none) B.pre
  have hts : ∀ w ∈ lw_all, w.before _ s = true := fun w h => hts w (List.mem_cons_of_mem _ h)
  have hown : s.vm.findClass RX1 = some m.cls := findClass_of_methodNamed B.named
  have hlocks := B.notSynchronized
  subst hsz
  have hD := hD0.self (sz := s.heap.size)
  generalize hAe : va_A (rg cO cI h g R F) s.heap.size = A at hD ⊢
  have hA : ∀ q : Nat, s.heap.size ≤ q → A q := fun q h => by rw [← hAe]; exact Or.inr h
  have hS : va_S A s.heap s.heap [] := va_S.rf
  have hl := lv_entry ([.ref h, .int r, .int x, .int d]) (n := 5) (Nat.le_of_ble_eq_true rfl)
  rw [lg_entry_eq]
  generalize (lg_sl ([.ref h, .int r, .int x, .int d]) ++ List.replicate (5 - (lg_sl ([.ref h, .int r, .int x, .int d])).length) Slot.unset).toArray = ls at hl ⊢
  have hl : lv_has ls 5 [(0, .ref h), (1, .int r), (2, .int x), (3, .int d)] := hl
  refine lv_iconst (v := nI 0) hx hb dX1_spread_0 (by decide) ?_
  refine lv_istore (lv' := [(4, .int (nI 0)), (0, .ref h), (1, .int r), (2, .int x), (3, .int d)]) hx hb dX1_spread_1 hl (by decide) rfl (fun ls hl => ?_)
  refine spread_l hx hb hml hown hts hK hj hjv (fun H locs ls hP hD hS => ?_) 256 0 (by decide) _ _ _ (by rw [ptl_0, va_up_id]; exact hP) (by rw [ptl_0, va_up_id]; exact hD) hS (lv_sub hl [0, 1, 2, 3, 4] rfl)
  exact W.vret hx hb hr (fun t ht hW => ⟨⟨(), rfl, trivial, by rw [ht]; exact hP, hK.moved hW.alike, hD⟩, hS.F ht⟩) hS.2.2 dX1_spread_37
abbrev rm_ad : Room := ({ frames := 2, cells := 1, slots := 256, locals := 41 } : Room)
set_option maxHeartbeats 4000000 in
set_option maxRecDepth 100000 in
theorem add_l {h g z : Nat} {R : Nat → Nat} {F : Nat → Nat → Int32} {r p0 : Int32} {j k : Nat} {p : Program} {l : Launch} {e : Env} {s : State} {m : MethodId} {below : List Frame} {meth : Method} {c : Code} {Q : State → Prop} {D : va_G} {cO cI : ClassId} {A : Nat → Prop} (hx : p.tables.exec = Jvm.exec) (hb : c.code = cX1_add) (hml : c.maxLocals = 5) (hown : s.vm.findClass RX1 = some m.cls) (hts : ∀ w ∈ lw_all, w.before ([.ref h, .int r, .int p0] : List Value).toArray s = true) (hK : xK D cO cI s) (hj : j < 4) (hjv : r &&& 3 = nI j) (hk : k < 4) (hkv : p0 &&& 3 = nI k) (kk : ∀ (H : Heap) (locs : List Loc) (ls : Array Slot), va_P D vwCl (rg cO cI h g R F ++ [(z, xi cI (addI (F j) (F k)))]) H → va_D A (rg cO cI h g R F ++ [(z, xi cI (addI (F j) (F k)))]) → va_S A s.heap H locs → lv_has ls 5 [(3, .ref z), (0, .ref h), (1, .int r), (2, .int p0)] → W p l e (headSpec (ws_ yX1_add cX1_add 5 none) rm_ad).room s m ([.ref h, .int r, .int p0] : List Value).toArray below meth c H locs 1 256 Q (F0 m 53 ls [])) :
    ∀ (n i : Nat), i + n = 256 → ∀ (H : Heap) (locs : List Loc) (ls : Array Slot), va_P D vwCl (rg cO cI h g R F ++ [(z, xi cI (ptl (addI (F j) (F k)) (fun _ => 0) i))]) H → va_D A (rg cO cI h g R F ++ [(z, xi cI (ptl (addI (F j) (F k)) (fun _ => 0) i))]) → va_S A s.heap H locs → lv_has ls 5 [(4, .int (nI i)), (3, .ref z), (0, .ref h), (1, .int r), (2, .int p0)] → W p l e (headSpec (ws_ yX1_add cX1_add 5 none) rm_ad).room s m ([.ref h, .int r, .int p0] : List Value).toArray below meth c H locs 1 256 Q (F0 m 9 ls []) := by
  intro n
  induction n with
  | zero =>
    intro i hi H locs ls hP hD hS hl
    have hi2 : i = 256 := by omega
    subst hi2
    refine lv_iload hx hb dX1_add_9 (lv_at hl 0 rfl) ?_
    refine lv_sipush (v := nI 256) hx hb dX1_add_11 (by decide) ?_
    refine lv_icmp_ge (tgt := 53) hx hb dX1_add_14 (by decide) (fun c9 => ?_) (fun c9 => ?_)
    · exact kk H locs ls (tail_congr (fun i hi => ptl_e hi) hP) (tail_D hD) hS (lv_sub hl [1, 2, 3, 4] rfl)
    · exact absurd (nI_le (Nat.le_refl _) (by decide)) c9
  | succ n ih =>
    intro i hi H locs ls hP hD hS hl
    have hlt : i < 256 := by omega
    refine lv_iload hx hb dX1_add_9 (lv_at hl 0 rfl) ?_
    refine lv_sipush (v := nI 256) hx hb dX1_add_11 (by decide) ?_
    refine lv_icmp_ge (tgt := 53) hx hb dX1_add_14 (by decide) (fun c9 => ?_) (fun c9 => ?_)
    · exact absurd c9 (nI_ge (by omega) (by decide))
    · skip
      refine lv_aload_n hx hb dX1_add_17 rfl (lv_at hl 1 rfl) ?_
      refine lv_iload hx hb dX1_add_18 (lv_at hl 0 rfl) ?_
      refine lv_aload_n hx hb dX1_add_20 rfl (lv_at hl 2 rfl) ?_
      refine va_get (D := D) (ci := 0) (v := .ref g) (C := RX1) (T := TX1) (N := 1) hx hb hts in_X1 hown hK.1 hP 0 rfl rfl 0 (by decide) (hts _ q72) (fun _ h9 => h9) rfl dX1_add_21 ?_
      refine lv_iload_n hx hb dX1_add_24 rfl (lv_at hl 3 rfl) ?_
      refine lv_iconst (v := 3) hx hb dX1_add_25 (by decide) ?_
      refine lv_iand hx hb dX1_add_26 ?_
      refine xv (y := (nI j)) (hjv) ?_
      refine xa_ald hx hb hK hP 1 rfl (vp_in_nI hj (by decide)) dX1_add_27 ?_
      refine xr (y := R j) (by rw [nI_clamp (by omega)]; rfl) ?_
      refine lv_iload hx hb dX1_add_28 (lv_at hl 0 rfl) ?_
      refine va_iald hx hb hK.1 hP (2 + j) 1 (rg_row (w := [(z, xi cI (ptl (addI (F j) (F k)) (fun _ => 0) i))]) hj) rfl (vp_in_nI (by omega) (by decide)) dX1_add_30 ?_
      refine xv (y := (F j i)) (by rw [nI_clamp (by omega)]) ?_
      refine lv_aload_n hx hb dX1_add_31 rfl (lv_at hl 2 rfl) ?_
      refine va_get (D := D) (ci := 0) (v := .ref g) (C := RX1) (T := TX1) (N := 1) hx hb hts in_X1 hown hK.1 hP 0 rfl rfl 0 (by decide) (hts _ q72) (fun _ h9 => h9) rfl dX1_add_32 ?_
      refine lv_iload_n hx hb dX1_add_35 rfl (lv_at hl 4 rfl) ?_
      refine lv_iconst (v := 3) hx hb dX1_add_36 (by decide) ?_
      refine lv_iand hx hb dX1_add_37 ?_
      refine xv (y := (nI k)) (hkv) ?_
      refine xa_ald hx hb hK hP 1 rfl (vp_in_nI hk (by decide)) dX1_add_38 ?_
      refine xr (y := R k) (by rw [nI_clamp (by omega)]; rfl) ?_
      refine lv_iload hx hb dX1_add_39 (lv_at hl 0 rfl) ?_
      refine va_iald hx hb hK.1 hP (2 + k) 1 (rg_row (w := [(z, xi cI (ptl (addI (F j) (F k)) (fun _ => 0) i))]) hk) rfl (vp_in_nI (by omega) (by decide)) dX1_add_41 ?_
      refine xv (y := (F k i)) (by rw [nI_clamp (by omega)]) ?_
      refine lv_iadd hx hb dX1_add_42 ?_
      refine vp_callSi (W.runS (As := [.int (F j i + F k i)]) (rest := [.int (nI i), .ref z]) ⟨hx, hb, hml, hown, hts⟩ (met_whole l (F j i + F k i)) (va_cwS 1 hts (lw_S q36 q37 q1 q38) rfl rfl rfl (by decide +kernel) ⟨Nat.le_of_ble_eq_true rfl, Nat.le_of_ble_eq_true rfl⟩) ⟨fun a U g mk q => q, fun U hU hW => ⟨rfl, trivial⟩⟩ rfl rfl hl.1 rfl (lv_room (Nat.le_of_ble_eq_true rfl)) dX1_add_43 ⟨Nat.le_of_ble_eq_true rfl, Nat.le_of_ble_eq_true rfl⟩) (fun t1 ht1 => ?_)
      refine xv (y := (addI (F j) (F k) i)) (ht1) ?_
      refine va_iast hx hb hK.1 hP hD hS 6 1 rfl rfl (vp_in_nI hlt (by decide)) dX1_add_46 (fun H locs hP hD hS => ?_)
      rw [nI_clamp (by omega), ptl_s] at hP hD
      have hP : va_P D vwCl (rg cO cI h g R F ++ [(z, xi cI (ptl (addI (F j) (F k)) (fun _ => 0) (i + 1)))]) H := hP
      have hD : va_D A (rg cO cI h g R F ++ [(z, xi cI (ptl (addI (F j) (F k)) (fun _ => 0) (i + 1)))]) := hD
      refine lv_iinc (v := (nI (i + 1))) (lv' := [(4, .int (nI (i + 1))), (3, .ref z), (0, .ref h), (1, .int r), (2, .int p0)]) hx hb dX1_add_47 hl (k := 0) rfl (nI_1 _) (by decide) rfl (fun ls hl => ?_)
      refine lv_goto (tgt := 9) hx hb dX1_add_50 (by decide) ?_
      exact ih (i + 1) (by omega) H locs ls hP hD hS (lv_sub hl [0, 1, 2, 3, 4] rfl)
set_option maxHeartbeats 4000000 in
set_option maxRecDepth 100000 in
/-- two rows are added -/
theorem met_add (l : Launch) (D : va_G) (cO cI : ClassId) (h g : Nat) (R : Nat → Nat) (F : Nat → Nat → Int32) (sz : Nat) (r p0 : Int32) (j k : Nat) (hj : j < 4) (hjv : r &&& 3 = nI j) (hk : k < 4) (hkv : p0 &&& 3 = nI k) : Met l yX1_add (ws_ yX1_add cX1_add 5 none) rm_ad (va_Pc [.ref h, .int r, .int p0] (fun U => U.heap.size = sz ∧ va_P D vwCl (rg cO cI h g R F) U.heap ∧ xK D cO cI U ∧ va_D (fun _ => True) (rg cO cI h g R F))) (va_Qv (fun (_ : Nat) => True) (fun z t => rB D cO cI (va_A (rg cO cI h g R F) sz) h g (va_up R j z) (va_up F j (addI (F j) (F k))) t) (va_A (rg cO cI h g R F) sz)) 1 256 (va_A (rg cO cI h g R F) sz) := by
  refine Met.ofW (cc := cX1_add) (maxL := 5) (ret := none) (by decide) rfl ?_
  intro p e s m args below meth c s₁ B hml hv
  obtain ⟨rfl, hsz, hP, hK, hD0⟩ := hv
  have hx := B.exec
  have hb := B.bytes
  have hr := B.returns
  have hts := atoms_spec (ws := ws_ yX1_add cX1_add 5 none) B.pre
  have hts : ∀ w ∈ lw_all, w.before _ s = true := fun w h => hts w (List.mem_cons_of_mem _ h)
  have hown : s.vm.findClass RX1 = some m.cls := findClass_of_methodNamed B.named
  have hlocks := B.notSynchronized
  subst hsz
  have hD := hD0.self (sz := s.heap.size)
  generalize hAe : va_A (rg cO cI h g R F) s.heap.size = A at hD ⊢
  have hA : ∀ q : Nat, s.heap.size ≤ q → A q := fun q h => by rw [← hAe]; exact Or.inr h
  have hS : va_S A s.heap s.heap [] := va_S.rf
  have hl := lv_entry ([.ref h, .int r, .int p0]) (n := 5) (Nat.le_of_ble_eq_true rfl)
  rw [lg_entry_eq]
  generalize (lg_sl ([.ref h, .int r, .int p0]) ++ List.replicate (5 - (lg_sl ([.ref h, .int r, .int p0])).length) Slot.unset).toArray = ls at hl ⊢
  have hl : lv_has ls 5 [(0, .ref h), (1, .int r), (2, .int p0)] := hl
  refine lv_sipush (v := 256) hx hb dX1_add_0 (by decide) ?_
  refine xa_newI hx hb (hts _ q47) hK hP hD hS hA (Nat.le_of_ble_eq_true rfl) (Nat.le_of_ble_eq_true rfl) dX1_add_3 (fun z H hP hD hS => ?_)
  refine lv_astore_n (lv' := [(3, .ref z), (0, .ref h), (1, .int r), (2, .int p0)]) hx hb dX1_add_5 rfl hl (by decide) rfl (fun ls hl => ?_)
  refine lv_iconst (v := nI 0) hx hb dX1_add_6 (by decide) ?_
  refine lv_istore (lv' := [(4, .int (nI 0)), (3, .ref z), (0, .ref h), (1, .int r), (2, .int p0)]) hx hb dX1_add_7 hl (by decide) rfl (fun ls hl => ?_)
  refine add_l hx hb hml hown hts hK hj hjv hk hkv (fun H locs ls hP hD hS hl => ?_) 256 0 (by decide) _ _ _ (by rw [ptl_0]; exact hP) (by rw [ptl_0]; exact hD) hS (lv_sub hl [0, 1, 2, 3, 4] rfl)
  refine lv_aload_n hx hb dX1_add_53 rfl (lv_at hl 1 rfl) ?_
  refine va_get (D := D) (ci := 0) (v := .ref g) (C := RX1) (T := TX1) (N := 1) hx hb hts in_X1 hown hK.1 hP 0 rfl rfl 0 (by decide) (hts _ q72) (fun _ h9 => h9) rfl dX1_add_54 ?_
  refine lv_iload_n hx hb dX1_add_57 rfl (lv_at hl 2 rfl) ?_
  refine lv_iconst (v := 3) hx hb dX1_add_58 (by decide) ?_
  refine lv_iand hx hb dX1_add_59 ?_
  refine xv (y := (nI j)) (hjv) ?_
  refine lv_aload_n hx hb dX1_add_60 rfl (lv_at hl 0 rfl) ?_
  refine xa_ast hx hb hK hP hD hS 1 6 rfl rfl (vp_in_nI hj (by decide)) dX1_add_61 (fun H locs hP hD hS => ?_)
  rw [nI_clamp (by omega)] at hP hD
  obtain ⟨hP, hD⟩ := rg_swap hj hP hD
  exact W.vret hx hb hr (fun t ht hW => ⟨⟨z, rfl, trivial, by rw [ht]; exact hP, hK.moved hW.alike, hD⟩, hS.F ht⟩) hS.2.2 dX1_add_62
abbrev rm_in : Room := ({ frames := 1, cells := 5, slots := 1028, locals := 12 } : Room)
set_option maxHeartbeats 4000000 in
set_option maxRecDepth 100000 in
/-- HintRing(): four rows of zeros -/
theorem met_init (l : Launch) (D : va_G) (cO cI : ClassId) (h sz : Nat) : Met l yX1_init (ws_ yX1_init cX1_init 1 none) rm_in (va_Pc [.ref h] (fun U => U.heap.size = sz ∧ va_P D vwCl [(h, .inr (0, [.null]))] U.heap ∧ xK D cO cI U ∧ va_D (fun _ => True) [(h, .inr (0, [.null]))])) (va_Qv (fun (_ : Nat) => True) (fun g t => rB D cO cI (va_A [(h, .inr (0, [.null]))] sz) h g (fun i => g + 1 + i) (fun _ _ => 0) t) (va_A [(h, .inr (0, [.null]))] sz)) 5 1028 (va_A [(h, .inr (0, [.null]))] sz) := by
  refine Met.ofW (cc := cX1_init) (maxL := 1) (ret := none) (by decide) rfl ?_
  intro p e s m args below meth c s₁ B hml hv
  obtain ⟨rfl, hsz, hP, hK, hD0⟩ := hv
  have hx := B.exec
  have hb := B.bytes
  have hr := B.returns
  have hts := atoms_spec (ws := ws_ yX1_init cX1_init 1 none) B.pre
  have hts : ∀ w ∈ lw_all, w.before _ s = true := fun w h => hts w (List.mem_cons_of_mem _ h)
  have hown : s.vm.findClass RX1 = some m.cls := findClass_of_methodNamed B.named
  have hlocks := B.notSynchronized
  subst hsz
  have hD := hD0.self (sz := s.heap.size)
  generalize hAe : va_A ([(h, .inr (0, [.null]))]) s.heap.size = A at hD ⊢
  have hA : ∀ q : Nat, s.heap.size ≤ q → A q := fun q h => by rw [← hAe]; exact Or.inr h
  have hS : va_S A s.heap s.heap [] := va_S.rf
  have hl := lv_entry ([.ref h]) (n := 1) (Nat.le_of_ble_eq_true rfl)
  rw [lg_entry_eq]
  generalize (lg_sl ([.ref h]) ++ List.replicate (1 - (lg_sl ([.ref h])).length) Slot.unset).toArray = ls at hl ⊢
  have hl : lv_has ls 1 [(0, .ref h)] := hl
  refine lv_aload_n hx hb dX1_init_0 rfl (lv_at hl 0 rfl) ?_
  refine W.objInit hx hb hown (hts _ q67) (hts _ q68) (hts _ q69) rfl (by rw [hml]; exact hl.1) rfl dX1_init_1 (Nat.le_of_ble_eq_true rfl) (Nat.le_of_ble_eq_true rfl) ?_
  refine W.eq (g2 := F0 m 4 ls []) rfl ?_
  refine lv_aload_n hx hb dX1_init_4 rfl (lv_at hl 0 rfl) ?_
  refine lv_iconst (v := 4) hx hb dX1_init_5 (by decide) ?_
  refine lv_sipush (v := 256) hx hb dX1_init_6 (by decide) ?_
  refine xa_mnew hx hb hown (hts _ q70) (hts _ q47) hK hP hD hS hA (N := 4) (by decide) rfl (Nat.le_of_ble_eq_true rfl) (Nat.le_of_ble_eq_true rfl) dX1_init_9 (fun g H hP hD hS => ?_)
  refine va_put (D := D) (ci := 0) (v := .ref g) (ty := .array (.array .int)) (C := RX1) (T := TX1) (N := 1) hx hb hts in_X1 tyX1 tyX1_ok nmX1 hown hK.1 hP hD hS 0 rfl rfl 0 (by decide) (hts _ q72) (fun _ h9 => h9) rfl (by decide +kernel) rfl rfl (Nat.le_of_ble_eq_true rfl) dX1_init_13 (fun H locs hP hD hS => ?_)
  have hP : va_P D vwCl (rg cO cI h g (fun i => g + 1 + i) (fun _ _ => 0)) H := hP
  have hD : va_D A (rg cO cI h g (fun i => g + 1 + i) (fun _ _ => 0)) := hD
  exact W.vret hx hb hr (fun t ht hW => ⟨⟨g, rfl, trivial, by rw [ht]; exact hP, hK.moved hW.alike, hD⟩, hS.F ht⟩) hS.2.2 dX1_init_16
end RINGM
end
section
/-! MULTIPLY -/
section MULT
abbrev t3 (cO cI : ClassId) (h g : Nat) (R : Nat → Nat) (F : Nat → Nat → Int32) (a b z : Nat) (fa fb fz : Nat → Int32) : va_W := rg cO cI h g R F ++ [(a, xi cI fa), (b, xi cI fb), (z, xi cI fz)]
theorem t3_D {A : Nat → Prop} {cO cI : ClassId} {h g a b z : Nat} {R : Nat → Nat} {F : Nat → Nat → Int32} {fa fb fz ga gb gz : Nat → Int32} (hD : va_D A (t3 cO cI h g R F a b z fa fb fz)) : va_D A (t3 cO cI h g R F a b z ga gb gz) := hD.addr rfl
theorem t3_congr {D : va_G} {cO cI : ClassId} {h g a b z : Nat} {R : Nat → Nat} {F : Nat → Nat → Int32} {fa fb fz ga gb gz : Nat → Int32} {H : Heap} (ea : ∀ i, i < 256 → fa i = ga i) (eb : ∀ i, i < 256 → fb i = gb i) (ez : ∀ i, i < 256 → fz i = gz i) (hP : va_P D vwCl (t3 cO cI h g R F a b z fa fb fz) H) : va_P D vwCl (t3 cO cI h g R F a b z ga gb gz) H := by
  intro k q hk
  match k, hk with
  | 0, hk => exact hP 0 q hk
  | 1, hk => exact hP 1 q hk
  | 2, hk => exact hP 2 q hk
  | 3, hk => exact hP 3 q hk
  | 4, hk => exact hP 4 q hk
  | 5, hk => exact hP 5 q hk
  | 6, hk => cases hk; exact xi_congr ea (hP 6 _ rfl)
  | 7, hk => cases hk; exact xi_congr eb (hP 7 _ rfl)
  | 8, hk => cases hk; exact xi_congr ez (hP 8 _ rfl)
  | k + 9, hk => cases hk
abbrev rm_mu : Room := ({ frames := 2, cells := 3, slots := 768, locals := 48 } : Room)
set_option maxHeartbeats 4000000 in
set_option maxRecDepth 100000 in
theorem mul_l1 {h g a b z : Nat} {R : Nat → Nat} {F : Nat → Nat → Int32} {r p0 q0 : Int32} {j jp jq : Nat} {p : Program} {l : Launch} {e : Env} {s : State} {m : MethodId} {below : List Frame} {meth : Method} {c : Code} {Q : State → Prop} {D : va_G} {cO cI : ClassId} {A : Nat → Prop} (hx : p.tables.exec = Jvm.exec) (hb : c.code = cX1_multiply) (hml : c.maxLocals = 8) (hown : s.vm.findClass RX1 = some m.cls) (hts : ∀ w ∈ lw_all, w.before ([.ref h, .int r, .int p0, .int q0] : List Value).toArray s = true) (hK : xK D cO cI s) (hj : j < 4) (hjv : r &&& 3 = nI j) (hjp : jp < 4) (hjpv : p0 &&& 3 = nI jp) (hjq : jq < 4) (hjqv : q0 &&& 3 = nI jq) (kk : ∀ (H : Heap) (locs : List Loc) (ls : Array Slot), va_P D vwCl (t3 cO cI h g R F a b z (F jp) (F jq) (fun _ => 0)) H → va_D A (t3 cO cI h g R F a b z (F jp) (F jq) (fun _ => 0)) → va_S A s.heap H locs → lv_has ls 8 [(4, .ref a), (5, .ref b), (6, .ref z), (0, .ref h), (1, .int r), (2, .int p0), (3, .int q0)] → W p l e (headSpec (ws_ yX1_multiply cX1_multiply 8 none) rm_mu).room s m ([.ref h, .int r, .int p0, .int q0] : List Value).toArray below meth c H locs 3 768 Q (F0 m 70 ls [])) :
    ∀ (n i : Nat), i + n = 256 → ∀ (H : Heap) (locs : List Loc) (ls : Array Slot), va_P D vwCl (t3 cO cI h g R F a b z (ptl (F jp) (fun _ => 0) i) (ptl (F jq) (fun _ => 0) i) (fun _ => 0)) H → va_D A (t3 cO cI h g R F a b z (ptl (F jp) (fun _ => 0) i) (ptl (F jq) (fun _ => 0) i) (fun _ => 0)) → va_S A s.heap H locs → lv_has ls 8 [(7, .int (nI i)), (4, .ref a), (5, .ref b), (6, .ref z), (0, .ref h), (1, .int r), (2, .int p0), (3, .int q0)] → W p l e (headSpec (ws_ yX1_multiply cX1_multiply 8 none) rm_mu).room s m ([.ref h, .int r, .int p0, .int q0] : List Value).toArray below meth c H locs 3 768 Q (F0 m 24 ls []) := by
  intro n
  induction n with
  | zero =>
    intro i hi H locs ls hP hD hS hl
    have hi2 : i = 256 := by omega
    subst hi2
    refine lv_iload hx hb dX1_multiply_24 (lv_at hl 0 rfl) ?_
    refine lv_sipush (v := nI 256) hx hb dX1_multiply_26 (by decide) ?_
    refine lv_icmp_ge (tgt := 70) hx hb dX1_multiply_29 (by decide) (fun c9 => ?_) (fun c9 => ?_)
    · exact kk H locs ls (t3_congr (fun i hi => ptl_e hi) (fun i hi => ptl_e hi) (fun _ _ => rfl) hP) (t3_D hD) hS (lv_sub hl [1, 2, 3, 4, 5, 6, 7] rfl)
    · exact absurd (nI_le (Nat.le_refl _) (by decide)) c9
  | succ n ih =>
    intro i hi H locs ls hP hD hS hl
    have hlt : i < 256 := by omega
    refine lv_iload hx hb dX1_multiply_24 (lv_at hl 0 rfl) ?_
    refine lv_sipush (v := nI 256) hx hb dX1_multiply_26 (by decide) ?_
    refine lv_icmp_ge (tgt := 70) hx hb dX1_multiply_29 (by decide) (fun c9 => ?_) (fun c9 => ?_)
    · exact absurd c9 (nI_ge (by omega) (by decide))
    · skip
      refine lv_aload hx hb dX1_multiply_32 (lv_at hl 1 rfl) ?_
      refine lv_iload hx hb dX1_multiply_34 (lv_at hl 0 rfl) ?_
      refine lv_aload_n hx hb dX1_multiply_36 rfl (lv_at hl 4 rfl) ?_
      refine va_get (D := D) (ci := 0) (v := .ref g) (C := RX1) (T := TX1) (N := 1) hx hb hts in_X1 hown hK.1 hP 0 rfl rfl 0 (by decide) (hts _ q72) (fun _ h9 => h9) rfl dX1_multiply_37 ?_
      refine lv_iload_n hx hb dX1_multiply_40 rfl (lv_at hl 6 rfl) ?_
      refine lv_iconst (v := 3) hx hb dX1_multiply_41 (by decide) ?_
      refine lv_iand hx hb dX1_multiply_42 ?_
      refine xv (y := (nI jp)) (hjpv) ?_
      refine xa_ald hx hb hK hP 1 rfl (vp_in_nI hjp (by decide)) dX1_multiply_43 ?_
      refine xr (y := R jp) (by rw [nI_clamp (by omega)]; rfl) ?_
      refine lv_iload hx hb dX1_multiply_44 (lv_at hl 0 rfl) ?_
      refine va_iald hx hb hK.1 hP (2 + jp) 1 (rg_row (w := [(a, xi cI (ptl (F jp) (fun _ => 0) i)), (b, xi cI (ptl (F jq) (fun _ => 0) i)), (z, xi cI (fun _ => 0))]) hjp) rfl (vp_in_nI (by omega) (by decide)) dX1_multiply_46 ?_
      refine xv (y := (F jp i)) (by rw [nI_clamp (by omega)]) ?_
      refine va_iast hx hb hK.1 hP hD hS 6 1 rfl rfl (vp_in_nI hlt (by decide)) dX1_multiply_47 (fun H locs hP hD hS => ?_)
      rw [nI_clamp (by omega), ptl_s] at hP hD
      have hP : va_P D vwCl (t3 cO cI h g R F a b z (ptl (F jp) (fun _ => 0) (i + 1)) (ptl (F jq) (fun _ => 0) i) (fun _ => 0)) H := hP
      have hD : va_D A (t3 cO cI h g R F a b z (ptl (F jp) (fun _ => 0) (i + 1)) (ptl (F jq) (fun _ => 0) i) (fun _ => 0)) := hD
      refine lv_aload hx hb dX1_multiply_48 (lv_at hl 2 rfl) ?_
      refine lv_iload hx hb dX1_multiply_50 (lv_at hl 0 rfl) ?_
      refine lv_aload_n hx hb dX1_multiply_52 rfl (lv_at hl 4 rfl) ?_
      refine va_get (D := D) (ci := 0) (v := .ref g) (C := RX1) (T := TX1) (N := 1) hx hb hts in_X1 hown hK.1 hP 0 rfl rfl 0 (by decide) (hts _ q72) (fun _ h9 => h9) rfl dX1_multiply_53 ?_
      refine lv_iload_n hx hb dX1_multiply_56 rfl (lv_at hl 7 rfl) ?_
      refine lv_iconst (v := 3) hx hb dX1_multiply_57 (by decide) ?_
      refine lv_iand hx hb dX1_multiply_58 ?_
      refine xv (y := (nI jq)) (hjqv) ?_
      refine xa_ald hx hb hK hP 1 rfl (vp_in_nI hjq (by decide)) dX1_multiply_59 ?_
      refine xr (y := R jq) (by rw [nI_clamp (by omega)]; rfl) ?_
      refine lv_iload hx hb dX1_multiply_60 (lv_at hl 0 rfl) ?_
      refine va_iald hx hb hK.1 hP (2 + jq) 1 (rg_row (w := [(a, xi cI (ptl (F jp) (fun _ => 0) (i + 1))), (b, xi cI (ptl (F jq) (fun _ => 0) i)), (z, xi cI (fun _ => 0))]) hjq) rfl (vp_in_nI (by omega) (by decide)) dX1_multiply_62 ?_
      refine xv (y := (F jq i)) (by rw [nI_clamp (by omega)]) ?_
      refine va_iast hx hb hK.1 hP hD hS 7 1 rfl rfl (vp_in_nI hlt (by decide)) dX1_multiply_63 (fun H locs hP hD hS => ?_)
      rw [nI_clamp (by omega), ptl_s] at hP hD
      have hP : va_P D vwCl (t3 cO cI h g R F a b z (ptl (F jp) (fun _ => 0) (i + 1)) (ptl (F jq) (fun _ => 0) (i + 1)) (fun _ => 0)) H := hP
      have hD : va_D A (t3 cO cI h g R F a b z (ptl (F jp) (fun _ => 0) (i + 1)) (ptl (F jq) (fun _ => 0) (i + 1)) (fun _ => 0)) := hD
      refine lv_iinc (v := (nI (i + 1))) (lv' := [(7, .int (nI (i + 1))), (4, .ref a), (5, .ref b), (6, .ref z), (0, .ref h), (1, .int r), (2, .int p0), (3, .int q0)]) hx hb dX1_multiply_64 hl (k := 0) rfl (nI_1 _) (by decide) rfl (fun ls hl => ?_)
      refine lv_goto (tgt := 24) hx hb dX1_multiply_67 (by decide) ?_
      exact ih (i + 1) (by omega) H locs ls hP hD hS (lv_sub hl [0, 1, 2, 3, 4, 5, 6, 7] rfl)
set_option maxHeartbeats 4000000 in
set_option maxRecDepth 100000 in
theorem mul_l2 {h g a b z : Nat} {R : Nat → Nat} {F : Nat → Nat → Int32} {r p0 q0 : Int32} {j jp jq : Nat} {fa fb : Nat → Int32} {p : Program} {l : Launch} {e : Env} {s : State} {m : MethodId} {below : List Frame} {meth : Method} {c : Code} {Q : State → Prop} {D : va_G} {cO cI : ClassId} {A : Nat → Prop} (hx : p.tables.exec = Jvm.exec) (hb : c.code = cX1_multiply) (hml : c.maxLocals = 8) (hown : s.vm.findClass RX1 = some m.cls) (hts : ∀ w ∈ lw_all, w.before ([.ref h, .int r, .int p0, .int q0] : List Value).toArray s = true) (hK : xK D cO cI s) (hj : j < 4) (hjv : r &&& 3 = nI j) (hjp : jp < 4) (hjpv : p0 &&& 3 = nI jp) (hjq : jq < 4) (hjqv : q0 &&& 3 = nI jq) (kk : ∀ (H : Heap) (locs : List Loc) (ls : Array Slot), va_P D vwCl (t3 cO cI h g R F a b z (fa) (fb) (fun i => montI ((Int32.toInt64 (fa i)) * (Int32.toInt64 (fb i))))) H → va_D A (t3 cO cI h g R F a b z (fa) (fb) (fun i => montI ((Int32.toInt64 (fa i)) * (Int32.toInt64 (fb i))))) → va_S A s.heap H locs → lv_has ls 8 [(4, .ref a), (5, .ref b), (6, .ref z), (0, .ref h), (1, .int r), (2, .int p0), (3, .int q0)] → W p l e (headSpec (ws_ yX1_multiply cX1_multiply 8 none) rm_mu).room s m ([.ref h, .int r, .int p0, .int q0] : List Value).toArray below meth c H locs 3 768 Q (F0 m 118 ls [])) :
    ∀ (n i : Nat), i + n = 256 → ∀ (H : Heap) (locs : List Loc) (ls : Array Slot), va_P D vwCl (t3 cO cI h g R F a b z (fa) (fb) (ptl (fun i => montI ((Int32.toInt64 (fa i)) * (Int32.toInt64 (fb i)))) (fun _ => 0) i)) H → va_D A (t3 cO cI h g R F a b z (fa) (fb) (ptl (fun i => montI ((Int32.toInt64 (fa i)) * (Int32.toInt64 (fb i)))) (fun _ => 0) i)) → va_S A s.heap H locs → lv_has ls 8 [(7, .int (nI i)), (4, .ref a), (5, .ref b), (6, .ref z), (0, .ref h), (1, .int r), (2, .int p0), (3, .int q0)] → W p l e (headSpec (ws_ yX1_multiply cX1_multiply 8 none) rm_mu).room s m ([.ref h, .int r, .int p0, .int q0] : List Value).toArray below meth c H locs 3 768 Q (F0 m 83 ls []) := by
  intro n
  induction n with
  | zero =>
    intro i hi H locs ls hP hD hS hl
    have hi2 : i = 256 := by omega
    subst hi2
    refine lv_iload hx hb dX1_multiply_83 (lv_at hl 0 rfl) ?_
    refine lv_sipush (v := nI 256) hx hb dX1_multiply_85 (by decide) ?_
    refine lv_icmp_ge (tgt := 118) hx hb dX1_multiply_88 (by decide) (fun c9 => ?_) (fun c9 => ?_)
    · exact kk H locs ls (t3_congr (fun _ _ => rfl) (fun _ _ => rfl) (fun i hi => ptl_e hi) hP) (t3_D hD) hS (lv_sub hl [1, 2, 3, 4, 5, 6, 7] rfl)
    · exact absurd (nI_le (Nat.le_refl _) (by decide)) c9
  | succ n ih =>
    intro i hi H locs ls hP hD hS hl
    have hlt : i < 256 := by omega
    refine lv_iload hx hb dX1_multiply_83 (lv_at hl 0 rfl) ?_
    refine lv_sipush (v := nI 256) hx hb dX1_multiply_85 (by decide) ?_
    refine lv_icmp_ge (tgt := 118) hx hb dX1_multiply_88 (by decide) (fun c9 => ?_) (fun c9 => ?_)
    · exact absurd c9 (nI_ge (by omega) (by decide))
    · skip
      refine lv_aload hx hb dX1_multiply_91 (lv_at hl 3 rfl) ?_
      refine lv_iload hx hb dX1_multiply_93 (lv_at hl 0 rfl) ?_
      refine lv_aload hx hb dX1_multiply_95 (lv_at hl 1 rfl) ?_
      refine lv_iload hx hb dX1_multiply_97 (lv_at hl 0 rfl) ?_
      refine va_iald hx hb hK.1 hP 6 1 rfl rfl (vp_in_nI hlt (by decide)) dX1_multiply_99 ?_
      refine xv (y := (fa i)) (by rw [nI_clamp (by omega)]) ?_
      refine lv_i2l hx hb dX1_multiply_100 rfl ?_
      refine lv_aload hx hb dX1_multiply_101 (lv_at hl 2 rfl) ?_
      refine lv_iload hx hb dX1_multiply_103 (lv_at hl 0 rfl) ?_
      refine va_iald hx hb hK.1 hP 7 1 rfl rfl (vp_in_nI hlt (by decide)) dX1_multiply_105 ?_
      refine xv (y := (fb i)) (by rw [nI_clamp (by omega)]) ?_
      refine lv_i2l hx hb dX1_multiply_106 rfl ?_
      refine lv_lmul hx hb dX1_multiply_107 ?_
      refine vp_callSi (W.runS (As := [.long ((Int32.toInt64 (fa i)) * (Int32.toInt64 (fb i)))]) (rest := [.int (nI i), .ref z]) ⟨hx, hb, hml, hown, hts⟩ (met_montgomeryReduce l ((Int32.toInt64 (fa i)) * (Int32.toInt64 (fb i)))) (va_cwS 1 hts (lw_S q31 q27 q2 q28) rfl rfl rfl (by decide +kernel) ⟨Nat.le_of_ble_eq_true rfl, Nat.le_of_ble_eq_true rfl⟩) ⟨fun a U g mk q => q, fun U hU hW => ⟨rfl, trivial⟩⟩ rfl rfl hl.1 rfl (lv_room (Nat.le_of_ble_eq_true rfl)) dX1_multiply_108 ⟨Nat.le_of_ble_eq_true rfl, Nat.le_of_ble_eq_true rfl⟩) (fun t1 ht1 => ?_)
      refine xv (y := (montI ((Int32.toInt64 (fa i)) * (Int32.toInt64 (fb i))))) (ht1) ?_
      refine va_iast hx hb hK.1 hP hD hS 8 1 rfl rfl (vp_in_nI hlt (by decide)) dX1_multiply_111 (fun H locs hP hD hS => ?_)
      rw [nI_clamp (by omega), ptl_s] at hP hD
      have hP : va_P D vwCl (t3 cO cI h g R F a b z (fa) (fb) (ptl (fun i => montI ((Int32.toInt64 (fa i)) * (Int32.toInt64 (fb i)))) (fun _ => 0) (i + 1))) H := hP
      have hD : va_D A (t3 cO cI h g R F a b z (fa) (fb) (ptl (fun i => montI ((Int32.toInt64 (fa i)) * (Int32.toInt64 (fb i)))) (fun _ => 0) (i + 1))) := hD
      refine lv_iinc (v := (nI (i + 1))) (lv' := [(7, .int (nI (i + 1))), (4, .ref a), (5, .ref b), (6, .ref z), (0, .ref h), (1, .int r), (2, .int p0), (3, .int q0)]) hx hb dX1_multiply_112 hl (k := 0) rfl (nI_1 _) (by decide) rfl (fun ls hl => ?_)
      refine lv_goto (tgt := 83) hx hb dX1_multiply_115 (by decide) ?_
      exact ih (i + 1) (by omega) H locs ls hP hD hS (lv_sub hl [0, 1, 2, 3, 4, 5, 6, 7] rfl)
set_option maxHeartbeats 4000000 in
set_option maxRecDepth 100000 in
theorem mul_l3 {h g a b z : Nat} {R : Nat → Nat} {F : Nat → Nat → Int32} {r p0 q0 : Int32} {j jp jq : Nat} {fa fb w : Nat → Int32} {p : Program} {l : Launch} {e : Env} {s : State} {m : MethodId} {below : List Frame} {meth : Method} {c : Code} {Q : State → Prop} {D : va_G} {cO cI : ClassId} {A : Nat → Prop} (hx : p.tables.exec = Jvm.exec) (hb : c.code = cX1_multiply) (hml : c.maxLocals = 8) (hown : s.vm.findClass RX1 = some m.cls) (hts : ∀ w ∈ lw_all, w.before ([.ref h, .int r, .int p0, .int q0] : List Value).toArray s = true) (hK : xK D cO cI s) (hj : j < 4) (hjv : r &&& 3 = nI j) (hjp : jp < 4) (hjpv : p0 &&& 3 = nI jp) (hjq : jq < 4) (hjqv : q0 &&& 3 = nI jq) (kk : ∀ (H : Heap) (locs : List Loc) (ls : Array Slot), va_P D vwCl (t3 cO cI h g R F a b z (fa) (fb) (fun k => wholeI (w k))) H → va_D A (t3 cO cI h g R F a b z (fa) (fb) (fun k => wholeI (w k))) → va_S A s.heap H locs → lv_has ls 8 [(4, .ref a), (5, .ref b), (6, .ref z), (0, .ref h), (1, .int r), (2, .int p0), (3, .int q0)] → W p l e (headSpec (ws_ yX1_multiply cX1_multiply 8 none) rm_mu).room s m ([.ref h, .int r, .int p0, .int q0] : List Value).toArray below meth c H locs 3 768 Q (F0 m 153 ls [])) :
    ∀ (n i : Nat), i + n = 256 → ∀ (H : Heap) (locs : List Loc) (ls : Array Slot), va_P D vwCl (t3 cO cI h g R F a b z (fa) (fb) (ptl (fun k => wholeI (w k)) w i)) H → va_D A (t3 cO cI h g R F a b z (fa) (fb) (ptl (fun k => wholeI (w k)) w i)) → va_S A s.heap H locs → lv_has ls 8 [(7, .int (nI i)), (4, .ref a), (5, .ref b), (6, .ref z), (0, .ref h), (1, .int r), (2, .int p0), (3, .int q0)] → W p l e (headSpec (ws_ yX1_multiply cX1_multiply 8 none) rm_mu).room s m ([.ref h, .int r, .int p0, .int q0] : List Value).toArray below meth c H locs 3 768 Q (F0 m 126 ls []) := by
  intro n
  induction n with
  | zero =>
    intro i hi H locs ls hP hD hS hl
    have hi2 : i = 256 := by omega
    subst hi2
    refine lv_iload hx hb dX1_multiply_126 (lv_at hl 0 rfl) ?_
    refine lv_sipush (v := nI 256) hx hb dX1_multiply_128 (by decide) ?_
    refine lv_icmp_ge (tgt := 153) hx hb dX1_multiply_131 (by decide) (fun c9 => ?_) (fun c9 => ?_)
    · exact kk H locs ls (t3_congr (fun _ _ => rfl) (fun _ _ => rfl) (fun i hi => ptl_e hi) hP) (t3_D hD) hS (lv_sub hl [1, 2, 3, 4, 5, 6, 7] rfl)
    · exact absurd (nI_le (Nat.le_refl _) (by decide)) c9
  | succ n ih =>
    intro i hi H locs ls hP hD hS hl
    have hlt : i < 256 := by omega
    refine lv_iload hx hb dX1_multiply_126 (lv_at hl 0 rfl) ?_
    refine lv_sipush (v := nI 256) hx hb dX1_multiply_128 (by decide) ?_
    refine lv_icmp_ge (tgt := 153) hx hb dX1_multiply_131 (by decide) (fun c9 => ?_) (fun c9 => ?_)
    · exact absurd c9 (nI_ge (by omega) (by decide))
    · skip
      refine lv_aload hx hb dX1_multiply_134 (lv_at hl 3 rfl) ?_
      refine lv_iload hx hb dX1_multiply_136 (lv_at hl 0 rfl) ?_
      refine lv_aload hx hb dX1_multiply_138 (lv_at hl 3 rfl) ?_
      refine lv_iload hx hb dX1_multiply_140 (lv_at hl 0 rfl) ?_
      refine va_iald hx hb hK.1 hP 8 1 rfl rfl (vp_in_nI hlt (by decide)) dX1_multiply_142 ?_
      refine xv (y := (w i)) (by rw [nI_clamp (by omega)]; exact if_neg (by omega)) ?_
      refine vp_callSi (W.runS (As := [.int (w i)]) (rest := [.int (nI i), .ref z]) ⟨hx, hb, hml, hown, hts⟩ (met_whole l (w i)) (va_cwS 1 hts (lw_S q36 q37 q1 q38) rfl rfl rfl (by decide +kernel) ⟨Nat.le_of_ble_eq_true rfl, Nat.le_of_ble_eq_true rfl⟩) ⟨fun a U g mk q => q, fun U hU hW => ⟨rfl, trivial⟩⟩ rfl rfl hl.1 rfl (lv_room (Nat.le_of_ble_eq_true rfl)) dX1_multiply_143 ⟨Nat.le_of_ble_eq_true rfl, Nat.le_of_ble_eq_true rfl⟩) (fun t1 ht1 => ?_)
      refine xv (y := (wholeI (w i))) (ht1) ?_
      refine va_iast hx hb hK.1 hP hD hS 8 1 rfl rfl (vp_in_nI hlt (by decide)) dX1_multiply_146 (fun H locs hP hD hS => ?_)
      rw [nI_clamp (by omega), ptl_s] at hP hD
      have hP : va_P D vwCl (t3 cO cI h g R F a b z (fa) (fb) (ptl (fun k => wholeI (w k)) w (i + 1))) H := hP
      have hD : va_D A (t3 cO cI h g R F a b z (fa) (fb) (ptl (fun k => wholeI (w k)) w (i + 1))) := hD
      refine lv_iinc (v := (nI (i + 1))) (lv' := [(7, .int (nI (i + 1))), (4, .ref a), (5, .ref b), (6, .ref z), (0, .ref h), (1, .int r), (2, .int p0), (3, .int q0)]) hx hb dX1_multiply_147 hl (k := 0) rfl (nI_1 _) (by decide) rfl (fun ls hl => ?_)
      refine lv_goto (tgt := 126) hx hb dX1_multiply_150 (by decide) ?_
      exact ih (i + 1) (by omega) H locs ls hP hD hS (lv_sub hl [0, 1, 2, 3, 4, 5, 6, 7] rfl)
set_option maxHeartbeats 4000000 in
set_option maxRecDepth 100000 in
/-- the product by the transform -/
theorem met_multiply (l : Launch) (D : va_G) (cO cI : ClassId) (h g : Nat) (R : Nat → Nat) (F : Nat → Nat → Int32) (sz : Nat) (r p0 q0 : Int32) (j jp jq : Nat) (hj : j < 4) (hjv : r &&& 3 = nI j) (hjp : jp < 4) (hjpv : p0 &&& 3 = nI jp) (hjq : jq < 4) (hjqv : q0 &&& 3 = nI jq) : Met l yX1_multiply (ws_ yX1_multiply cX1_multiply 8 none) rm_mu (va_Pc [.ref h, .int r, .int p0, .int q0] (fun U => U.heap.size = sz ∧ va_P D vwCl (rg cO cI h g R F) U.heap ∧ xK D cO cI U ∧ va_D (fun _ => True) (rg cO cI h g R F) ∧ xZ (va_A (rg cO cI h g R F) sz) U U.heap)) (va_Qv (fun (_ : Nat) => True) (fun z t => rB D cO cI (va_A (rg cO cI h g R F) sz) h g (va_up R j z) (va_up F j (mulI (F jp) (F jq))) t) (va_A (rg cO cI h g R F) sz)) 3 768 (va_A (rg cO cI h g R F) sz) := by
  refine Met.ofW (cc := cX1_multiply) (maxL := 8) (ret := none) (by decide) rfl ?_
  intro p e s m args below meth c s₁ B hml hv
  obtain ⟨rfl, hsz, hP, hK, hD0, hZ⟩ := hv
  have hx := B.exec
  have hb := B.bytes
  have hr := B.returns
  have hts := atoms_spec (ws := ws_ yX1_multiply cX1_multiply 8 none) B.pre
  have hts : ∀ w ∈ lw_all, w.before _ s = true := fun w h => hts w (List.mem_cons_of_mem _ h)
  have hown : s.vm.findClass RX1 = some m.cls := findClass_of_methodNamed B.named
  have hlocks := B.notSynchronized
  subst hsz
  have hD := hD0.self (sz := s.heap.size)
  generalize hAe : va_A (rg cO cI h g R F) s.heap.size = A at hD hZ ⊢
  have hA : ∀ q : Nat, s.heap.size ≤ q → A q := fun q h => by rw [← hAe]; exact Or.inr h
  have hS : va_S A s.heap s.heap [] := va_S.rf
  have hl := lv_entry ([.ref h, .int r, .int p0, .int q0]) (n := 8) (Nat.le_of_ble_eq_true rfl)
  rw [lg_entry_eq]
  generalize (lg_sl ([.ref h, .int r, .int p0, .int q0]) ++ List.replicate (8 - (lg_sl ([.ref h, .int r, .int p0, .int q0])).length) Slot.unset).toArray = ls at hl ⊢
  have hl : lv_has ls 8 [(0, .ref h), (1, .int r), (2, .int p0), (3, .int q0)] := hl
  refine lv_sipush (v := 256) hx hb dX1_multiply_0 (by decide) ?_
  refine xa_newI hx hb (hts _ q47) hK hP hD hS hA (Nat.le_of_ble_eq_true rfl) (Nat.le_of_ble_eq_true rfl) dX1_multiply_3 (fun a H hP hD hS => ?_)
  refine lv_astore (lv' := [(4, .ref a), (0, .ref h), (1, .int r), (2, .int p0), (3, .int q0)]) hx hb dX1_multiply_5 hl (by decide) rfl (fun ls hl => ?_)
  refine lv_sipush (v := 256) hx hb dX1_multiply_7 (by decide) ?_
  refine xa_newI hx hb (hts _ q47) hK hP hD hS hA (Nat.le_of_ble_eq_true rfl) (Nat.le_of_ble_eq_true rfl) dX1_multiply_10 (fun b H hP hD hS => ?_)
  refine lv_astore (lv' := [(5, .ref b), (4, .ref a), (0, .ref h), (1, .int r), (2, .int p0), (3, .int q0)]) hx hb dX1_multiply_12 hl (by decide) rfl (fun ls hl => ?_)
  refine lv_sipush (v := 256) hx hb dX1_multiply_14 (by decide) ?_
  refine xa_newI hx hb (hts _ q47) hK hP hD hS hA (Nat.le_of_ble_eq_true rfl) (Nat.le_of_ble_eq_true rfl) dX1_multiply_17 (fun z H hP hD hS => ?_)
  refine lv_astore (lv' := [(6, .ref z), (5, .ref b), (4, .ref a), (0, .ref h), (1, .int r), (2, .int p0), (3, .int q0)]) hx hb dX1_multiply_19 hl (by decide) rfl (fun ls hl => ?_)
  have hP : va_P D vwCl (t3 cO cI h g R F a b z (fun _ => 0) (fun _ => 0) (fun _ => 0)) H := hP
  have hD : va_D A (t3 cO cI h g R F a b z (fun _ => 0) (fun _ => 0) (fun _ => 0)) := hD
  refine lv_iconst (v := nI 0) hx hb dX1_multiply_21 (by decide) ?_
  refine lv_istore (lv' := [(7, .int (nI 0)), (6, .ref z), (5, .ref b), (4, .ref a), (0, .ref h), (1, .int r), (2, .int p0), (3, .int q0)]) hx hb dX1_multiply_22 hl (by decide) rfl (fun ls hl => ?_)
  refine mul_l1 hx hb hml hown hts hK hj hjv hjp hjpv hjq hjqv (fun H locs ls hP hD hS hl => ?_) 256 0 (by decide) H _ _ (by rw [ptl_0, ptl_0]; exact hP) (by rw [ptl_0, ptl_0]; exact hD) hS (lv_sub hl [0, 3, 2, 1, 4, 5, 6, 7] rfl)
  refine lv_aload hx hb dX1_multiply_70 (lv_at hl 0 rfl) ?_
  have hPc := hP.sub (ws' := [(a, xi cI (F jp))]) [6] rfl
  have hFc := va_free (wc := [(a, xi cI (F jp))]) hD hS hA [6] rfl
  have hZc : xZ (va_A [(a, xi cI (F jp))] H.size) s H := (hZ.kept hS.2.1).narrow hFc
  refine va_callv (va_runS (As := [.ref a]) (rest := []) ⟨hx, hb, hml, hown, hts⟩ (met_ntt l D cO cI a H.size (F jp)) (va_cwS 1 hts (lw_S q21 q22 q3 q23) rfl rfl rfl (by decide +kernel) ⟨Nat.le_of_ble_eq_true rfl, Nat.le_of_ble_eq_true rfl⟩) ⟨fun a U g mk q => by obtain ⟨q0, q1, qP, qK, qZ⟩ := q; exact ⟨q0, q1, qP, xK.moved (u := U) (U := U.calling g mk a) (Vm.Alike.refl U.vm) qK, xZ.moved (u := U) (U := U.calling g mk a) (Vm.Alike.refl U.vm) qZ⟩, fun U hU hW => ⟨rfl, by rw [hU], by rw [hU]; exact hPc, hK.moved hW.alike, by rw [hU]; exact hZc.moved hW.alike⟩⟩ rfl rfl hl.1 rfl (lv_room (Nat.le_of_ble_eq_true rfl)) dX1_multiply_72 ⟨Nat.le_of_ble_eq_true rfl, Nat.le_of_ble_eq_true rfl⟩) hS (fun q _ h => hFc q h) hFc (fun u t H1 locs ht hvm hw1 hB hz1 hk1 hS => ?_)
  obtain ⟨hP1, hK1⟩ := hB
  rw [ht] at hP1
  obtain ⟨hP, hD⟩ := va_join (wr := rg cO cI h g R F ++ [(b, xi cI (F jq)), (z, xi cI (fun _ => 0))]) (w1 := [(a, xi cI (nttI (F jp)))]) hP hD [6] [0, 1, 2, 3, 4, 5, 7, 8] rfl rfl (by decide) (by decide) hk1 hFc hP1 (va_D1 (Or.inl ⟨0, _, rfl⟩))
  have hP := hP.sub (ws' := t3 cO cI h g R F a b z (nttI (F jp)) (F jq) (fun _ => 0)) [0, 1, 2, 3, 4, 5, 8, 6, 7] rfl
  have hD := hD.sub (ws' := t3 cO cI h g R F a b z (nttI (F jp)) (F jq) (fun _ => 0)) [0, 1, 2, 3, 4, 5, 8, 6, 7] (by decide) rfl
  generalize H1 = H at hP hS ⊢
  clear hP1 ht hk1 hz1
  refine lv_aload hx hb dX1_multiply_75 (lv_at hl 1 rfl) ?_
  have hPc := hP.sub (ws' := [(b, xi cI (F jq))]) [7] rfl
  have hFc := va_free (wc := [(b, xi cI (F jq))]) hD hS hA [7] rfl
  have hZc : xZ (va_A [(b, xi cI (F jq))] H.size) s H := (hZ.kept hS.2.1).narrow hFc
  refine va_callv (va_runS (As := [.ref b]) (rest := []) ⟨hx, hb, hml, hown, hts⟩ (met_ntt l D cO cI b H.size (F jq)) (va_cwS 1 hts (lw_S q21 q22 q3 q23) rfl rfl rfl (by decide +kernel) ⟨Nat.le_of_ble_eq_true rfl, Nat.le_of_ble_eq_true rfl⟩) ⟨fun a U g mk q => by obtain ⟨q0, q1, qP, qK, qZ⟩ := q; exact ⟨q0, q1, qP, xK.moved (u := U) (U := U.calling g mk a) (Vm.Alike.refl U.vm) qK, xZ.moved (u := U) (U := U.calling g mk a) (Vm.Alike.refl U.vm) qZ⟩, fun U hU hW => ⟨rfl, by rw [hU], by rw [hU]; exact hPc, hK.moved hW.alike, by rw [hU]; exact hZc.moved hW.alike⟩⟩ rfl rfl hl.1 rfl (lv_room (Nat.le_of_ble_eq_true rfl)) dX1_multiply_77 ⟨Nat.le_of_ble_eq_true rfl, Nat.le_of_ble_eq_true rfl⟩) hS (fun q _ h => hFc q h) hFc (fun u t H1 locs ht hvm hw1 hB hz1 hk1 hS => ?_)
  obtain ⟨hP1, hK1⟩ := hB
  rw [ht] at hP1
  obtain ⟨hP, hD⟩ := va_join (wr := rg cO cI h g R F ++ [(a, xi cI (nttI (F jp))), (z, xi cI (fun _ => 0))]) (w1 := [(b, xi cI (nttI (F jq)))]) hP hD [7] [0, 1, 2, 3, 4, 5, 6, 8] rfl rfl (by decide) (by decide) hk1 hFc hP1 (va_D1 (Or.inl ⟨0, _, rfl⟩))
  have hP := hP.sub (ws' := t3 cO cI h g R F a b z (nttI (F jp)) (nttI (F jq)) (fun _ => 0)) [0, 1, 2, 3, 4, 5, 6, 8, 7] rfl
  have hD := hD.sub (ws' := t3 cO cI h g R F a b z (nttI (F jp)) (nttI (F jq)) (fun _ => 0)) [0, 1, 2, 3, 4, 5, 6, 8, 7] (by decide) rfl
  generalize H1 = H at hP hS ⊢
  clear hP1 ht hk1 hz1
  obtain ⟨fa, efa⟩ : ∃ f, f = nttI (F jp) := ⟨_, rfl⟩
  obtain ⟨fb, efb⟩ : ∃ f, f = nttI (F jq) := ⟨_, rfl⟩
  rw [← efa, ← efb] at hP hD
  refine lv_iconst (v := nI 0) hx hb dX1_multiply_80 (by decide) ?_
  refine lv_istore (lv' := [(7, .int (nI 0)), (4, .ref a), (5, .ref b), (6, .ref z), (0, .ref h), (1, .int r), (2, .int p0), (3, .int q0)]) hx hb dX1_multiply_81 hl (by decide) rfl (fun ls hl => ?_)
  refine mul_l2 hx hb hml hown hts hK hj hjv hjp hjpv hjq hjqv (fun H locs ls hP hD hS hl => ?_) 256 0 (by decide) H _ _ (by rw [ptl_0]; exact hP) (by rw [ptl_0]; exact hD) hS (lv_sub hl [0, 1, 2, 3, 4, 5, 6, 7] rfl)
  obtain ⟨fm, efm⟩ : ∃ f, f = (fun i => montI ((Int32.toInt64 (fa i)) * (Int32.toInt64 (fb i)))) := ⟨_, rfl⟩
  rw [← efm] at hP hD
  refine lv_aload hx hb dX1_multiply_118 (lv_at hl 2 rfl) ?_
  have hPc := hP.sub (ws' := [(z, xi cI (fm))]) [8] rfl
  have hFc := va_free (wc := [(z, xi cI (fm))]) hD hS hA [8] rfl
  have hZc : xZ (va_A [(z, xi cI (fm))] H.size) s H := (hZ.kept hS.2.1).narrow hFc
  refine va_callv (va_runS (As := [.ref z]) (rest := []) ⟨hx, hb, hml, hown, hts⟩ (met_invNttToMont l D cO cI z H.size (fm)) (va_cwS 1 hts (lw_S q32 q33 q3 q34) rfl rfl rfl (by decide +kernel) ⟨Nat.le_of_ble_eq_true rfl, Nat.le_of_ble_eq_true rfl⟩) ⟨fun a U g mk q => by obtain ⟨q0, q1, qP, qK, qZ⟩ := q; exact ⟨q0, q1, qP, xK.moved (u := U) (U := U.calling g mk a) (Vm.Alike.refl U.vm) qK, xZ.moved (u := U) (U := U.calling g mk a) (Vm.Alike.refl U.vm) qZ⟩, fun U hU hW => ⟨rfl, by rw [hU], by rw [hU]; exact hPc, hK.moved hW.alike, by rw [hU]; exact hZc.moved hW.alike⟩⟩ rfl rfl hl.1 rfl (lv_room (Nat.le_of_ble_eq_true rfl)) dX1_multiply_120 ⟨Nat.le_of_ble_eq_true rfl, Nat.le_of_ble_eq_true rfl⟩) hS (fun q _ h => hFc q h) hFc (fun u t H1 locs ht hvm hw1 hB hz1 hk1 hS => ?_)
  obtain ⟨hP1, hK1⟩ := hB
  rw [ht] at hP1
  obtain ⟨hP, hD⟩ := va_join (wr := rg cO cI h g R F ++ [(a, xi cI fa), (b, xi cI fb)]) (w1 := [(z, xi cI (invI fm))]) hP hD [8] [0, 1, 2, 3, 4, 5, 6, 7] rfl rfl (by decide) (by decide) hk1 hFc hP1 (va_D1 (Or.inl ⟨0, _, rfl⟩))
  have hP := hP.sub (ws' := t3 cO cI h g R F a b z (fa) (fb) (invI fm)) [0, 1, 2, 3, 4, 5, 6, 7, 8] rfl
  have hD := hD.sub (ws' := t3 cO cI h g R F a b z (fa) (fb) (invI fm)) [0, 1, 2, 3, 4, 5, 6, 7, 8] (by decide) rfl
  generalize H1 = H at hP hS ⊢
  clear hP1 ht hk1 hz1
  refine lv_iconst (v := nI 0) hx hb dX1_multiply_123 (by decide) ?_
  refine lv_istore (lv' := [(7, .int (nI 0)), (4, .ref a), (5, .ref b), (6, .ref z), (0, .ref h), (1, .int r), (2, .int p0), (3, .int q0)]) hx hb dX1_multiply_124 hl (by decide) rfl (fun ls hl => ?_)
  refine mul_l3 hx hb hml hown hts hK hj hjv hjp hjpv hjq hjqv (fun H locs ls hP hD hS hl => ?_) 256 0 (by decide) H _ _ (by rw [ptl_0]; exact hP) (by rw [ptl_0]; exact hD) hS (lv_sub hl [0, 1, 2, 3, 4, 5, 6, 7] rfl)
  have eM : (fun k => wholeI (invI fm k)) = mulI (F jp) (F jq) := by rw [efm, efa, efb]; rfl
  rw [eM] at hP hD
  have hP := hP.sub (ws' := rg cO cI h g R F ++ [(z, xi cI (mulI (F jp) (F jq)))]) [0, 1, 2, 3, 4, 5, 8] rfl
  have hD := hD.sub (ws' := rg cO cI h g R F ++ [(z, xi cI (mulI (F jp) (F jq)))]) [0, 1, 2, 3, 4, 5, 8] (by decide) rfl
  refine lv_aload_n hx hb dX1_multiply_153 rfl (lv_at hl 3 rfl) ?_
  refine va_get (D := D) (ci := 0) (v := .ref g) (C := RX1) (T := TX1) (N := 1) hx hb hts in_X1 hown hK.1 hP 0 rfl rfl 0 (by decide) (hts _ q72) (fun _ h9 => h9) rfl dX1_multiply_154 ?_
  refine lv_iload_n hx hb dX1_multiply_157 rfl (lv_at hl 4 rfl) ?_
  refine lv_iconst (v := 3) hx hb dX1_multiply_158 (by decide) ?_
  refine lv_iand hx hb dX1_multiply_159 ?_
  refine xv (y := (nI j)) (hjv) ?_
  refine lv_aload hx hb dX1_multiply_160 (lv_at hl 2 rfl) ?_
  refine xa_ast hx hb hK hP hD hS 1 6 rfl rfl (vp_in_nI hj (by decide)) dX1_multiply_162 (fun H locs hP hD hS => ?_)
  rw [nI_clamp (by omega)] at hP hD
  obtain ⟨hP, hD⟩ := rg_swap hj hP hD
  exact W.vret hx hb hr (fun t ht hW => ⟨⟨z, rfl, trivial, by rw [ht]; exact hP, hK.moved hW.alike, hD⟩, hS.F ht⟩) hS.2.2 dX1_multiply_163
end MULT
end
section
/-! THE LAW'S OWN METHODS: cell, same, three; and the calls of a ring's methods from the law's class, for any world that begins with the ring -/
section LAWM
def ceI (L : Nat) (xs : Nat → Int32) (k : Nat) : Int32 := if k < L then xs k else 0
abbrev spI (x d : Int32) : Nat → Int32 := fun k => fairI (x + nI k * d)
theorem a255 {i : Nat} (h : i < 256) : nI i &&& 255 = nI i := by
  rw [pk_andN (by omega) 8 (by decide), Nat.mod_eq_of_lt h]
theorem a3 {i : Nat} (h : i < 4) : nI i &&& 3 = nI i := by
  rw [pk_andN (by omega) 2 (by decide), Nat.mod_eq_of_lt h]
abbrev rm_ce : Room := ({ frames := 0, cells := 0, slots := 0, locals := 0 } : Room)
set_option maxHeartbeats 4000000 in
set_option maxRecDepth 100000 in
theorem met_cell (l : Launch) (b L : Nat) (xs : Nat → Int32) (k : Nat) (hL : L ≤ 24) (hk : k < 256) : Met l yX0_cell (ws_ yX0_cell cX0_cell 2 (some .int)) rm_ce (va_Pc [.ref b, .int (nI k)] (fun U => va_X b L xs U U.heap)) (vp_Si (fun v => v = ceI L xs k)) 0 0 (fun _ => False) := by
  refine Met.ofW (cc := cX0_cell) (maxL := 2) (ret := (some .int)) (by decide) rfl ?_
  intro p e s m args below meth c s₁ B hml hv
  obtain ⟨rfl, hX⟩ := hv
  have hx := B.exec
  have hb := B.bytes
  have hr := B.returns
  have hts := atoms_spec (ws := ws_ yX0_cell cX0_cell 2 (some .int)) B.pre
  have hts : ∀ w ∈ lw_all, w.before _ s = true := fun w h => hts w (List.mem_cons_of_mem _ h)
  have hown : s.vm.findClass RX0 = some m.cls := findClass_of_methodNamed B.named
  have hlocks := B.notSynchronized
  have hbl : b < s.heap.size := by obtain ⟨scr, h1, -⟩ := hX; exact (Array.getElem?_eq_some_iff.mp h1).1
  have hS : va_S (fun _ => False) s.heap s.heap [] := va_S.rf
  have hl := lv_entry ([.ref b, .int (nI k)]) (n := 2) (Nat.le_of_ble_eq_true rfl)
  rw [lg_entry_eq]
  generalize (lg_sl ([.ref b, .int (nI k)]) ++ List.replicate (2 - (lg_sl ([.ref b, .int (nI k)])).length) Slot.unset).toArray = ls at hl ⊢
  have hl : lv_has ls 2 [(0, .ref b), (1, .int (nI k))] := hl
  refine lv_iload_n hx hb dX0_cell_0 rfl (lv_at hl 1 rfl) ?_
  refine lv_aload_n hx hb dX0_cell_1 rfl (lv_at hl 0 rfl) ?_
  refine va_slen hx hb hX hbl (fun h => h) hS dX0_cell_2 ?_
  refine lv_icmp_ge (tgt := 12) hx hb dX0_cell_3 (by decide) (fun c9 => ?_) (fun c9 => ?_)
  · have h9 : ¬ k < L := fun h => absurd c9 (nI_ge h (by omega))
    refine lv_iconst (v := 0) hx hb dX0_cell_12 (by decide) ?_
    refine xv (y := (ceI L xs k)) ((if_neg h9).symm) ?_
    exact W.iret hx hb hr (fun t ht hW => ⟨_, rfl, rfl, ht⟩) (xn_ rfl) dX0_cell_13
  · have h9 : k < L := Nat.lt_of_not_le (fun h => c9 (nI_le h (by omega)))
    refine lv_aload_n hx hb dX0_cell_6 rfl (lv_at hl 0 rfl) ?_
    refine lv_iload_n hx hb dX0_cell_7 rfl (lv_at hl 1 rfl) ?_
    refine va_sld hx hb hX hbl (fun h => h) hS (vp_in_nI h9 (by omega)) dX0_cell_8 ?_
    refine xv (y := (ceI L xs k)) (by rw [nI_clamp (by omega)]; exact (if_pos h9).symm) ?_
    refine lv_goto (tgt := 13) hx hb dX0_cell_9 (by decide) ?_
    exact W.iret hx hb hr (fun t ht hW => ⟨_, rfl, rfl, ht⟩) (xn_ rfl) dX0_cell_13
set_option maxHeartbeats 4000000 in
set_option maxRecDepth 100000 in
theorem k_spread {p : Program} {l : Launch} {e : Env} {R : Room} {s : State} {m : MethodId} {args : Array Value} {below : List Frame} {meth : Method} {c : Code} {cc : ByteArray} {nL : Nat} {H : Heap} {locs : List Loc} {cells slots : Nat} {Q : State → Prop} {pc : Nat} {ls : Array Slot} {rest : List Value} {D : va_G} {A : Nat → Prop} {H0 : Heap} {cO cI : ClassId} {w : va_W} {h g : Nat} {Rr : Nat → Nat} {F : Nat → Nat → Int32} {r x d : Int32} {j : Nat} (S : CallFix p m c cc nL s args lw_all RX0) (hR : 2 ≤ R.frames ∧ 44 ≤ R.locals) (hK : xK D cO cI s) (hP : va_P D vwCl (rg cO cI h g Rr F ++ w) H) (hD : va_D A (rg cO cI h g Rr F ++ w)) (hS : va_S A H0 H locs) (hA : ∀ q, H0.size ≤ q → A q) (hls : ls.size = nL) (hrest : (rest.map fun v => v.category).sum ≤ 8) (hj : j < 4) (hjv : r &&& 3 = nI j)  (hdg : decode cc pc = .ok (.invokevirtual 16, 3)) (hroom : cells + 0 ≤ R.cells ∧ slots + 0 ≤ R.slots)
    (kk : ∀ (H1 : Heap) (locs1 : List Loc), va_P D vwCl (rg cO cI h g Rr (va_up F j (spI x d)) ++ w) H1 → va_D A (rg cO cI h g Rr (va_up F j (spI x d)) ++ w) → va_S A H0 H1 locs1 → W p l e R s m args below meth c H1 locs1 cells slots Q (F0 m (pc + 3) ls rest)) : W p l e R s m args below meth c H locs cells slots Q (F0 m pc ls (.int d :: .int x :: .int r :: .ref h :: rest)) := by
  have hPc := hP.sub (ws' := rg cO cI h g Rr F) [0, 1, 2, 3, 4, 5] rfl
  have hDc := hD.sub (ws' := rg cO cI h g Rr F) [0, 1, 2, 3, 4, 5] (by decide) rfl
  have hFc := va_free (wc := rg cO cI h g Rr F) hD hS hA [0, 1, 2, 3, 4, 5] rfl
  refine va_callv (va_runV (As := [.int r, .int x, .int d]) (rest := rest) S (met_spread l D cO cI h g Rr F H.size r x d j hj hjv) (cwV 3 S.2.2.2.2 (lw_V q13 q14 q15 q1 q16) rfl rfl rfl (by decide +kernel) hR) ⟨fun a U g mk q => by obtain ⟨q0, q1, qP, qK, qD⟩ := q; exact ⟨q0, q1, qP, xK.moved (u := U) (U := U.calling g mk a) (Vm.Alike.refl U.vm) qK, qD⟩, va_recv hK.1 hPc (ci := 0) (q0 := 0) rfl rfl, fun U hU hW => ⟨rfl, by rw [hU], by rw [hU]; exact hPc, hK.moved hW.alike, hDc.weaken (fun _ _ _ _ => trivial)⟩⟩ rfl rfl hls rfl (lv_room hrest) hdg hroom) hS (fun q _ h => hFc q h) hFc (fun u t H1 locs ht hvm hw1 hB hz1 hk1 hS => ?_)
  obtain ⟨hP1, hK1, hD1⟩ := hB
  rw [ht] at hP1
  obtain ⟨hP, hD⟩ := va_joinQ (X := rg cO cI h g Rr F) (pl := w) (wr := []) hP hD [0, 1, 2, 3, 4, 5] [] rfl rfl (by decide) (by decide) hk1 hFc hP1 hD1
  exact kk H1 locs hP hD hS
set_option maxHeartbeats 4000000 in
set_option maxRecDepth 100000 in
theorem k_put {p : Program} {l : Launch} {e : Env} {R : Room} {s : State} {m : MethodId} {args : Array Value} {below : List Frame} {meth : Method} {c : Code} {cc : ByteArray} {nL : Nat} {H : Heap} {locs : List Loc} {cells slots : Nat} {Q : State → Prop} {pc : Nat} {ls : Array Slot} {rest : List Value} {D : va_G} {A : Nat → Prop} {H0 : Heap} {cO cI : ClassId} {w : va_W} {h g : Nat} {Rr : Nat → Nat} {F : Nat → Nat → Int32} {r i v : Int32} {j k : Nat} (S : CallFix p m c cc nL s args lw_all RX0) (hR : 2 ≤ R.frames ∧ 43 ≤ R.locals) (hK : xK D cO cI s) (hP : va_P D vwCl (rg cO cI h g Rr F ++ w) H) (hD : va_D A (rg cO cI h g Rr F ++ w)) (hS : va_S A H0 H locs) (hA : ∀ q, H0.size ≤ q → A q) (hls : ls.size = nL) (hrest : (rest.map fun v => v.category).sum ≤ 8) (hj : j < 4) (hjv : r &&& 3 = nI j) (hk : k < 256) (hkv : i &&& 255 = nI k)  (hdg : decode cc pc = .ok (.invokevirtual 20, 3)) (hroom : cells + 0 ≤ R.cells ∧ slots + 0 ≤ R.slots)
    (kk : ∀ (H1 : Heap) (locs1 : List Loc), va_P D vwCl (rg cO cI h g Rr (va_up F j (upd (F j) k (fairI v))) ++ w) H1 → va_D A (rg cO cI h g Rr (va_up F j (upd (F j) k (fairI v))) ++ w) → va_S A H0 H1 locs1 → W p l e R s m args below meth c H1 locs1 cells slots Q (F0 m (pc + 3) ls rest)) : W p l e R s m args below meth c H locs cells slots Q (F0 m pc ls (.int v :: .int i :: .int r :: .ref h :: rest)) := by
  have hPc := hP.sub (ws' := rg cO cI h g Rr F) [0, 1, 2, 3, 4, 5] rfl
  have hDc := hD.sub (ws' := rg cO cI h g Rr F) [0, 1, 2, 3, 4, 5] (by decide) rfl
  have hFc := va_free (wc := rg cO cI h g Rr F) hD hS hA [0, 1, 2, 3, 4, 5] rfl
  refine va_callv (va_runV (As := [.int r, .int i, .int v]) (rest := rest) S (met_put l D cO cI h g Rr F H.size r i v j k hj hjv hk hkv) (cwV 3 S.2.2.2.2 (lw_V q4 q5 q6 q1 q7) rfl rfl rfl (by decide +kernel) hR) ⟨fun a U g mk q => by obtain ⟨q0, q1, qP, qK, qD⟩ := q; exact ⟨q0, q1, qP, xK.moved (u := U) (U := U.calling g mk a) (Vm.Alike.refl U.vm) qK, qD⟩, va_recv hK.1 hPc (ci := 0) (q0 := 0) rfl rfl, fun U hU hW => ⟨rfl, by rw [hU], by rw [hU]; exact hPc, hK.moved hW.alike, hDc.weaken (fun _ _ _ _ => trivial)⟩⟩ rfl rfl hls rfl (lv_room hrest) hdg hroom) hS (fun q _ h => hFc q h) hFc (fun u t H1 locs ht hvm hw1 hB hz1 hk1 hS => ?_)
  obtain ⟨hP1, hK1, hD1⟩ := hB
  rw [ht] at hP1
  obtain ⟨hP, hD⟩ := va_joinQ (X := rg cO cI h g Rr F) (pl := w) (wr := []) hP hD [0, 1, 2, 3, 4, 5] [] rfl rfl (by decide) (by decide) hk1 hFc hP1 hD1
  exact kk H1 locs hP hD hS
set_option maxHeartbeats 4000000 in
set_option maxRecDepth 100000 in
theorem k_add {p : Program} {l : Launch} {e : Env} {R : Room} {s : State} {m : MethodId} {args : Array Value} {below : List Frame} {meth : Method} {c : Code} {cc : ByteArray} {nL : Nat} {H : Heap} {locs : List Loc} {cells slots : Nat} {Q : State → Prop} {pc : Nat} {ls : Array Slot} {rest : List Value} {D : va_G} {A : Nat → Prop} {H0 : Heap} {cO cI : ClassId} {w : va_W} {h g : Nat} {Rr : Nat → Nat} {F : Nat → Nat → Int32} {r p0 : Int32} {j k : Nat} (S : CallFix p m c cc nL s args lw_all RX0) (hR : 3 ≤ R.frames ∧ 65 ≤ R.locals) (hK : xK D cO cI s) (hP : va_P D vwCl (rg cO cI h g Rr F ++ w) H) (hD : va_D A (rg cO cI h g Rr F ++ w)) (hS : va_S A H0 H locs) (hA : ∀ q, H0.size ≤ q → A q) (hls : ls.size = nL) (hrest : (rest.map fun v => v.category).sum ≤ 8) (hj : j < 4) (hjv : r &&& 3 = nI j) (hk : k < 4) (hkv : p0 &&& 3 = nI k)  (hdg : decode cc pc = .ok (.invokevirtual 35, 3)) (hroom : cells + 1 ≤ R.cells ∧ slots + 256 ≤ R.slots)
    (kk : ∀ (z : Nat) (H1 : Heap) (locs1 : List Loc), va_P D vwCl (rg cO cI h g (va_up Rr j z) (va_up F j (addI (F j) (F k))) ++ w) H1 → va_D A (rg cO cI h g (va_up Rr j z) (va_up F j (addI (F j) (F k))) ++ w) → va_S A H0 H1 locs1 → W p l e R s m args below meth c H1 locs1 (cells + 1) (slots + 256) Q (F0 m (pc + 3) ls rest)) : W p l e R s m args below meth c H locs cells slots Q (F0 m pc ls (.int p0 :: .int r :: .ref h :: rest)) := by
  have hPc := hP.sub (ws' := rg cO cI h g Rr F) [0, 1, 2, 3, 4, 5] rfl
  have hDc := hD.sub (ws' := rg cO cI h g Rr F) [0, 1, 2, 3, 4, 5] (by decide) rfl
  have hFc := va_free (wc := rg cO cI h g Rr F) hD hS hA [0, 1, 2, 3, 4, 5] rfl
  refine va_callv (va_runV (As := [.int r, .int p0]) (rest := rest) S (met_add l D cO cI h g Rr F H.size r p0 j k hj hjv hk hkv) (cwV 2 S.2.2.2.2 (lw_V q48 q49 q50 q1 q51) rfl rfl rfl (by decide +kernel) hR) ⟨fun a U g mk q => by obtain ⟨q0, q1, qP, qK, qD⟩ := q; exact ⟨q0, q1, qP, xK.moved (u := U) (U := U.calling g mk a) (Vm.Alike.refl U.vm) qK, qD⟩, va_recv hK.1 hPc (ci := 0) (q0 := 0) rfl rfl, fun U hU hW => ⟨rfl, by rw [hU], by rw [hU]; exact hPc, hK.moved hW.alike, hDc.weaken (fun _ _ _ _ => trivial)⟩⟩ rfl rfl hls rfl (lv_room hrest) hdg hroom) hS (fun q _ h => hFc q h) hFc (fun u t H1 locs ht hvm hw1 hB hz1 hk1 hS => ?_)
  obtain ⟨hP1, hK1, hD1⟩ := hB
  rw [ht] at hP1
  obtain ⟨hP, hD⟩ := va_joinQ (X := rg cO cI h g Rr F) (pl := w) (wr := []) hP hD [0, 1, 2, 3, 4, 5] [] rfl rfl (by decide) (by decide) hk1 hFc hP1 hD1
  exact kk u H1 locs hP hD hS
set_option maxHeartbeats 4000000 in
set_option maxRecDepth 100000 in
theorem k_mul {p : Program} {l : Launch} {e : Env} {R : Room} {s : State} {m : MethodId} {args : Array Value} {below : List Frame} {meth : Method} {c : Code} {cc : ByteArray} {nL : Nat} {H : Heap} {locs : List Loc} {cells slots : Nat} {Q : State → Prop} {pc : Nat} {ls : Array Slot} {rest : List Value} {D : va_G} {A : Nat → Prop} {H0 : Heap} {cO cI : ClassId} {w : va_W} {h g : Nat} {Rr : Nat → Nat} {F : Nat → Nat → Int32} {r p0 q0 : Int32} {j jp jq : Nat} (S : CallFix p m c cc nL s args lw_all RX0) (hR : 3 ≤ R.frames ∧ 75 ≤ R.locals) (hK : xK D cO cI s) (hP : va_P D vwCl (rg cO cI h g Rr F ++ w) H) (hD : va_D A (rg cO cI h g Rr F ++ w)) (hS : va_S A H0 H locs) (hA : ∀ q, H0.size ≤ q → A q) (hls : ls.size = nL) (hrest : (rest.map fun v => v.category).sum ≤ 8) (hj : j < 4) (hjv : r &&& 3 = nI j) (hjp : jp < 4) (hjpv : p0 &&& 3 = nI jp) (hjq : jq < 4) (hjqv : q0 &&& 3 = nI jq)  (hZ : xZ A s H) (hdg : decode cc pc = .ok (.invokevirtual 39, 3)) (hroom : cells + 3 ≤ R.cells ∧ slots + 768 ≤ R.slots)
    (kk : ∀ (z : Nat) (H1 : Heap) (locs1 : List Loc), va_P D vwCl (rg cO cI h g (va_up Rr j z) (va_up F j (mulI (F jp) (F jq))) ++ w) H1 → va_D A (rg cO cI h g (va_up Rr j z) (va_up F j (mulI (F jp) (F jq))) ++ w) → va_S A H0 H1 locs1 → W p l e R s m args below meth c H1 locs1 (cells + 3) (slots + 768) Q (F0 m (pc + 3) ls rest)) : W p l e R s m args below meth c H locs cells slots Q (F0 m pc ls (.int q0 :: .int p0 :: .int r :: .ref h :: rest)) := by
  have hPc := hP.sub (ws' := rg cO cI h g Rr F) [0, 1, 2, 3, 4, 5] rfl
  have hDc := hD.sub (ws' := rg cO cI h g Rr F) [0, 1, 2, 3, 4, 5] (by decide) rfl
  have hFc := va_free (wc := rg cO cI h g Rr F) hD hS hA [0, 1, 2, 3, 4, 5] rfl
  have hZc : xZ (va_A (rg cO cI h g Rr F) H.size) s H := hZ.narrow hFc
  refine va_callv (va_runV (As := [.int r, .int p0, .int q0]) (rest := rest) S (met_multiply l D cO cI h g Rr F H.size r p0 q0 j jp jq hj hjv hjp hjpv hjq hjqv) (cwV 3 S.2.2.2.2 (lw_V q17 q18 q19 q1 q20) rfl rfl rfl (by decide +kernel) hR) ⟨fun a U g mk q => by obtain ⟨q0, q1, qP, qK, qD, qZ⟩ := q; exact ⟨q0, q1, qP, xK.moved (u := U) (U := U.calling g mk a) (Vm.Alike.refl U.vm) qK, qD, xZ.moved (u := U) (U := U.calling g mk a) (Vm.Alike.refl U.vm) qZ⟩, va_recv hK.1 hPc (ci := 0) (q0 := 0) rfl rfl, fun U hU hW => ⟨rfl, by rw [hU], by rw [hU]; exact hPc, hK.moved hW.alike, hDc.weaken (fun _ _ _ _ => trivial), by rw [hU]; exact hZc.moved hW.alike⟩⟩ rfl rfl hls rfl (lv_room hrest) hdg hroom) hS (fun q _ h => hFc q h) hFc (fun u t H1 locs ht hvm hw1 hB hz1 hk1 hS => ?_)
  obtain ⟨hP1, hK1, hD1⟩ := hB
  rw [ht] at hP1
  obtain ⟨hP, hD⟩ := va_joinQ (X := rg cO cI h g Rr F) (pl := w) (wr := []) hP hD [0, 1, 2, 3, 4, 5] [] rfl rfl (by decide) (by decide) hk1 hFc hP1 hD1
  exact kk u H1 locs hP hD hS
set_option maxHeartbeats 4000000 in
set_option maxRecDepth 100000 in
theorem k_coef {p : Program} {l : Launch} {e : Env} {R : Room} {s : State} {m : MethodId} {args : Array Value} {below : List Frame} {meth : Method} {c : Code} {cc : ByteArray} {nL : Nat} {H : Heap} {locs : List Loc} {cells slots : Nat} {Q : State → Prop} {pc : Nat} {ls : Array Slot} {rest : List Value} {D : va_G} {cO cI : ClassId} {h g : Nat} {Rr : Nat → Nat} {F : Nat → Nat → Int32} {r i : Int32} {j k : Nat} (S : CallFix p m c cc nL s args lw_all RX0) (hR : 1 ≤ R.frames ∧ 22 ≤ R.locals) (hK : xK D cO cI s) (hP : va_P D vwCl (rg cO cI h g Rr F) H) (hls : ls.size = nL) (hrest : (rest.map fun v => v.category).sum ≤ 8) (hj : j < 4) (hjv : r &&& 3 = nI j) (hk : k < 256) (hkv : i &&& 255 = nI k) (hdg : decode cc pc = .ok (.invokevirtual 23, 3)) (hroom : cells ≤ R.cells ∧ slots ≤ R.slots)
    (kk : W p l e R s m args below meth c H locs cells slots Q (F0 m (pc + 3) ls (.int (F j k) :: rest))) : W p l e R s m args below meth c H locs cells slots Q (F0 m pc ls (.int i :: .int r :: .ref h :: rest)) := by
  refine vp_callSi (W.runV (As := [.int r, .int i]) (rest := rest) S (met_coefficient l D cO cI h g Rr F r i j k hj hjv hk hkv) (cwV 2 S.2.2.2.2 (lw_V q52 q53 q54 q1 q55) rfl rfl rfl (by decide +kernel) hR) ⟨fun a U g mk q => by obtain ⟨q0, qP, qK⟩ := q; exact ⟨q0, qP, xK.moved (u := U) (U := U.calling g mk a) (Vm.Alike.refl U.vm) qK⟩, va_recv hK.1 hP (ci := 0) (q0 := 0) rfl rfl, fun U hU hW => ⟨rfl, by rw [hU]; exact hP, hK.moved hW.alike⟩⟩ rfl rfl hls rfl (lv_room hrest) hdg hroom) (fun v hv => ?_)
  rw [hv]
  exact kk
abbrev rm_sa : Room := ({ frames := 1, cells := 0, slots := 0, locals := 22 } : Room)
set_option maxHeartbeats 4000000 in
set_option maxRecDepth 100000 in
theorem same_l {h1 g1 h2 g2 : Nat} {R1 R2 : Nat → Nat} {F1 F2 : Nat → Nat → Int32} {r1 r2 : Int32} {j1 j2 : Nat} {p : Program} {l : Launch} {e : Env} {s : State} {m : MethodId} {below : List Frame} {meth : Method} {c : Code} {Q : State → Prop} {D : va_G} {cO cI : ClassId} {A : Nat → Prop} (hx : p.tables.exec = Jvm.exec) (hb : c.code = cX0_same) (hml : c.maxLocals = 5) (hown : s.vm.findClass RX0 = some m.cls) (hts : ∀ w ∈ lw_all, w.before ([.ref h1, .int r1, .ref h2, .int r2] : List Value).toArray s = true) (hK : xK D cO cI s) (hj1 : j1 < 4) (hjv1 : r1 &&& 3 = nI j1) (hj2 : j2 < 4) (hjv2 : r2 &&& 3 = nI j2) (heq : ∀ i, i < 256 → F1 j1 i = F2 j2 i) (hP1 : va_P D vwCl (rg cO cI h1 g1 R1 F1) s.heap) (hP2 : va_P D vwCl (rg cO cI h2 g2 R2 F2) s.heap) (kk : ∀ ls : Array Slot, lv_has ls 5 [] → W p l e (headSpec (ws_ yX0_same cX0_same 5 (some .boolean)) rm_sa).room s m ([.ref h1, .int r1, .ref h2, .int r2] : List Value).toArray below meth c s.heap [] 0 0 Q (F0 m 36 ls [])) :
    ∀ (n i : Nat), i + n = 256 → ∀ (ls : Array Slot), lv_has ls 5 [(4, .int (nI i)), (0, .ref h1), (1, .int r1), (2, .ref h2), (3, .int r2)] → W p l e (headSpec (ws_ yX0_same cX0_same 5 (some .boolean)) rm_sa).room s m ([.ref h1, .int r1, .ref h2, .int r2] : List Value).toArray below meth c s.heap [] 0 0 Q (F0 m 3 ls []) := by
  intro n
  induction n with
  | zero =>
    intro i hi ls hl
    have hi2 : i = 256 := by omega
    subst hi2
    refine lv_iload hx hb dX0_same_3 (lv_at hl 0 rfl) ?_
    refine lv_sipush (v := nI 256) hx hb dX0_same_5 (by decide) ?_
    refine lv_icmp_ge (tgt := 36) hx hb dX0_same_8 (by decide) (fun c9 => ?_) (fun c9 => ?_)
    · exact kk ls (lv_sub hl [] rfl)
    · exact absurd (nI_le (Nat.le_refl _) (by decide)) c9
  | succ n ih =>
    intro i hi ls hl
    have hlt : i < 256 := by omega
    refine lv_iload hx hb dX0_same_3 (lv_at hl 0 rfl) ?_
    refine lv_sipush (v := nI 256) hx hb dX0_same_5 (by decide) ?_
    refine lv_icmp_ge (tgt := 36) hx hb dX0_same_8 (by decide) (fun c9 => ?_) (fun c9 => ?_)
    · exact absurd c9 (nI_ge (by omega) (by decide))
    · skip
      refine lv_aload_n hx hb dX0_same_11 rfl (lv_at hl 1 rfl) ?_
      refine lv_iload_n hx hb dX0_same_12 rfl (lv_at hl 2 rfl) ?_
      refine lv_iload hx hb dX0_same_13 (lv_at hl 0 rfl) ?_
      refine k_coef ⟨hx, hb, hml, hown, hts⟩ ⟨Nat.le_of_ble_eq_true rfl, Nat.le_of_ble_eq_true rfl⟩ hK hP1 hl.1 (Nat.le_of_ble_eq_true rfl) hj1 hjv1 hlt (a255 hlt) dX0_same_15 ⟨Nat.le_of_ble_eq_true rfl, Nat.le_of_ble_eq_true rfl⟩ ?_
      refine lv_aload_n hx hb dX0_same_18 rfl (lv_at hl 3 rfl) ?_
      refine lv_iload_n hx hb dX0_same_19 rfl (lv_at hl 4 rfl) ?_
      refine lv_iload hx hb dX0_same_20 (lv_at hl 0 rfl) ?_
      refine k_coef ⟨hx, hb, hml, hown, hts⟩ ⟨Nat.le_of_ble_eq_true rfl, Nat.le_of_ble_eq_true rfl⟩ hK hP2 hl.1 (Nat.le_of_ble_eq_true rfl) hj2 hjv2 hlt (a255 hlt) dX0_same_22 ⟨Nat.le_of_ble_eq_true rfl, Nat.le_of_ble_eq_true rfl⟩ ?_
      refine lv_icmp_eq (tgt := 30) hx hb dX0_same_25 (by decide) (fun c8 => ?_) (fun c8 => ?_)
      · skip
        refine lv_iinc (v := (nI (i + 1))) (lv' := [(4, .int (nI (i + 1))), (0, .ref h1), (1, .int r1), (2, .ref h2), (3, .int r2)]) hx hb dX0_same_30 hl (k := 0) rfl (nI_1 _) (by decide) rfl (fun ls hl => ?_)
        refine lv_goto (tgt := 3) hx hb dX0_same_33 (by decide) ?_
        exact ih (i + 1) (by omega) ls (lv_sub hl [0, 1, 2, 3, 4] rfl)
      · exact absurd (heq i hlt) c8
set_option maxHeartbeats 4000000 in
set_option maxRecDepth 100000 in
/-- two rows that are the same -/
theorem met_same (l : Launch) (D : va_G) (cO cI : ClassId) (h1 g1 h2 g2 : Nat) (R1 R2 : Nat → Nat) (F1 F2 : Nat → Nat → Int32) (r1 r2 : Int32) (j1 j2 : Nat) (hj1 : j1 < 4) (hjv1 : r1 &&& 3 = nI j1) (hj2 : j2 < 4) (hjv2 : r2 &&& 3 = nI j2) (heq : ∀ i, i < 256 → F1 j1 i = F2 j2 i) : Met l yX0_same (ws_ yX0_same cX0_same 5 (some .boolean)) rm_sa (va_Pc [.ref h1, .int r1, .ref h2, .int r2] (fun U => va_P D vwCl (rg cO cI h1 g1 R1 F1) U.heap ∧ va_P D vwCl (rg cO cI h2 g2 R2 F2) U.heap ∧ xK D cO cI U)) (vp_Si (fun v => v = 1)) 0 0 (fun _ => False) := by
  refine Met.ofW (cc := cX0_same) (maxL := 5) (ret := (some .boolean)) (by decide) rfl ?_
  intro p e s m args below meth c s₁ B hml hv
  obtain ⟨rfl, hP1, hP2, hK⟩ := hv
  have hx := B.exec
  have hb := B.bytes
  have hr := B.returns
  have hts := atoms_spec (ws := ws_ yX0_same cX0_same 5 (some .boolean)) B.pre
  have hts : ∀ w ∈ lw_all, w.before _ s = true := fun w h => hts w (List.mem_cons_of_mem _ h)
  have hown : s.vm.findClass RX0 = some m.cls := findClass_of_methodNamed B.named
  have hlocks := B.notSynchronized
  have hl := lv_entry ([.ref h1, .int r1, .ref h2, .int r2]) (n := 5) (Nat.le_of_ble_eq_true rfl)
  rw [lg_entry_eq]
  generalize (lg_sl ([.ref h1, .int r1, .ref h2, .int r2]) ++ List.replicate (5 - (lg_sl ([.ref h1, .int r1, .ref h2, .int r2])).length) Slot.unset).toArray = ls at hl ⊢
  have hl : lv_has ls 5 [(0, .ref h1), (1, .int r1), (2, .ref h2), (3, .int r2)] := hl
  refine lv_iconst (v := nI 0) hx hb dX0_same_0 (by decide) ?_
  refine lv_istore (lv' := [(4, .int (nI 0)), (0, .ref h1), (1, .int r1), (2, .ref h2), (3, .int r2)]) hx hb dX0_same_1 hl (by decide) rfl (fun ls hl => ?_)
  refine same_l (A := fun _ => False) hx hb hml hown hts hK hj1 hjv1 hj2 hjv2 heq hP1 hP2 (fun ls hl => ?_) 256 0 (by decide) _ (lv_sub hl [0, 1, 2, 3, 4] rfl)
  refine lv_iconst (v := 1) hx hb dX0_same_36 (by decide) ?_
  exact W.zret (v := 1) hx hb hr rfl (fun t ht hW => ⟨_, rfl, rfl, ht⟩) (xn_ rfl) dX0_same_37
end LAWM
end
section
/-! THREE: the ring that the script makes; calls of cell, three, same from the law's class -/
section THREES
def rw0 (L : Nat) (xs : Nat → Int32) (r : Nat) : Nat → Int32 := spI (ceI L xs (2 * r)) (ceI L xs (2 * r + 1))
def G1 (L : Nat) (xs : Nat → Int32) (r : Nat) : Nat → Nat → Int32 := fun j => if j < r then rw0 L xs j else fun _ => 0
theorem G1_s {L : Nat} {xs : Nat → Int32} {r : Nat} : va_up (G1 L xs r) r (rw0 L xs r) = G1 L xs (r + 1) := funext fun j => by
  unfold va_up G1
  by_cases e : j = r
  · rw [if_pos e, if_pos (by omega), e]
  · rw [if_neg e]
    exact itc_ ⟨fun h => by omega, fun h => by omega⟩
theorem G1_0 {L : Nat} {xs : Nat → Int32} : G1 L xs 0 = fun _ _ => 0 := funext fun j => if_neg (by omega)
def pj (i : Nat) : Nat := (3 + i) % 2
theorem pj_lt (i : Nat) : pj i < 2 := Nat.mod_lt _ (by decide)
def G2 (L : Nat) (xs : Nat → Int32) : Nat → Nat → Nat → Int32
  | 0 => G1 L xs 3
  | i + 1 => va_up (G2 L xs i) (pj i) (upd (G2 L xs i (pj i)) ((xs (6 + 2 * i)).toBitVec.toNat % 2 ^ 8) (fairI (xs (6 + 2 * i + 1))))
def thF (L : Nat) (xs : Nat → Int32) : Nat → Nat → Int32 := va_up (G2 L xs ((L - 6) / 2)) 3 (spI 0 0)
theorem shr_pj (i : Nat) (h : i < 100) : nI (6 + 2 * i) >>> ((1 : Int32) &&& 31) &&& 1 = nI (pj i) := by
  rw [pk_shrN (by omega) _ 1 (by decide), pk_andN (by omega) 1 (by decide)]
  exact congrArg nI (by unfold pj; omega)
set_option maxHeartbeats 4000000 in
set_option maxRecDepth 100000 in
theorem k_cell {p : Program} {l : Launch} {e : Env} {R : Room} {s : State} {m : MethodId} {args : Array Value} {below : List Frame} {meth : Method} {c : Code} {cc : ByteArray} {nL : Nat} {H : Heap} {locs : List Loc} {cells slots : Nat} {Q : State → Prop} {pc : Nat} {ls : Array Slot} {rest : List Value} {b L : Nat} {xs : Nat → Int32} {k : Nat} (S : CallFix p m c cc nL s args lw_all RX0) (hR : 1 ≤ R.frames ∧ 21 ≤ R.locals) (hX : va_X b L xs s H) (hL : L ≤ 24) (hk : k < 256) (hls : ls.size = nL) (hrest : (rest.map fun v => v.category).sum ≤ 8) (hdg : decode cc pc = .ok (.invokestatic 10, 3)) (hroom : cells ≤ R.cells ∧ slots ≤ R.slots)
    (kk : W p l e R s m args below meth c H locs cells slots Q (F0 m (pc + 3) ls (.int (ceI L xs k) :: rest))) : W p l e R s m args below meth c H locs cells slots Q (F0 m pc ls (.int (nI k) :: .ref b :: rest)) := by
  refine vp_callSi (W.runS (As := [.ref b, .int (nI k)]) (rest := rest) S (met_cell l b L xs k hL hk) (va_cwS 2 S.2.2.2.2 (lw_S q56 q57 q0 q58) rfl rfl rfl (by decide +kernel) hR) ⟨fun a U g mk q => ⟨q.1, va_X.moved (u := U) (U := U.calling g mk a) (Vm.Alike.refl U.vm) q.2⟩, fun U hU hW => ⟨rfl, by show va_X b L xs U U.heap; rw [hU]; exact hX.moved hW.alike⟩⟩ rfl rfl hls rfl (lv_room hrest) hdg hroom) (fun v hv => ?_)
  rw [hv]
  exact kk
set_option maxHeartbeats 4000000 in
set_option maxRecDepth 100000 in
theorem k_same {p : Program} {l : Launch} {e : Env} {R : Room} {s : State} {m : MethodId} {args : Array Value} {below : List Frame} {meth : Method} {c : Code} {cc : ByteArray} {nL : Nat} {H : Heap} {locs : List Loc} {cells slots : Nat} {Q : State → Prop} {pc : Nat} {ls : Array Slot} {rest : List Value} {D : va_G} {cO cI : ClassId} {h1 g1 h2 g2 : Nat} {R1 R2 : Nat → Nat} {F1 F2 : Nat → Nat → Int32} {r1 r2 : Int32} {j1 j2 : Nat} (S : CallFix p m c cc nL s args lw_all RX0) (hR : 2 ≤ R.frames ∧ 46 ≤ R.locals) (hK : xK D cO cI s) (hP1 : va_P D vwCl (rg cO cI h1 g1 R1 F1) H) (hP2 : va_P D vwCl (rg cO cI h2 g2 R2 F2) H) (hj1 : j1 < 4) (hjv1 : r1 &&& 3 = nI j1) (hj2 : j2 < 4) (hjv2 : r2 &&& 3 = nI j2) (heq : ∀ i, i < 256 → F1 j1 i = F2 j2 i) (hls : ls.size = nL) (hrest : (rest.map fun v => v.category).sum ≤ 8) (hdg : decode cc pc = .ok (.invokestatic 42, 3)) (hroom : cells ≤ R.cells ∧ slots ≤ R.slots)
    (kk : W p l e R s m args below meth c H locs cells slots Q (F0 m (pc + 3) ls (.int 1 :: rest))) : W p l e R s m args below meth c H locs cells slots Q (F0 m pc ls (.int r2 :: .ref h2 :: .int r1 :: .ref h1 :: rest)) := by
  refine vp_callSi (W.runS (As := [.ref h1, .int r1, .ref h2, .int r2]) (rest := rest) S (met_same l D cO cI h1 g1 h2 g2 R1 R2 F1 F2 r1 r2 j1 j2 hj1 hjv1 hj2 hjv2 heq) (va_cwS 4 S.2.2.2.2 (lw_S q76 q77 q0 q78) rfl rfl rfl (by decide +kernel) hR) ⟨fun a U g mk q => by obtain ⟨q0, qP, qP2, qK⟩ := q; exact ⟨q0, qP, qP2, xK.moved (u := U) (U := U.calling g mk a) (Vm.Alike.refl U.vm) qK⟩, fun U hU hW => ⟨rfl, by rw [hU]; exact hP1, by rw [hU]; exact hP2, hK.moved hW.alike⟩⟩ rfl rfl hls rfl (lv_room hrest) hdg hroom) (fun v hv => ?_)
  rw [hv]
  exact kk
abbrev rm_th : Room := ({ frames := 2, cells := 6, slots := 1029, locals := 44 } : Room)
set_option maxHeartbeats 4000000 in
set_option maxRecDepth 100000 in
theorem three_a {b L h g : Nat} {xs : Nat → Int32} {Rr : Nat → Nat} {p : Program} {l : Launch} {e : Env} {s : State} {m : MethodId} {below : List Frame} {meth : Method} {c : Code} {Q : State → Prop} {D : va_G} {cO cI : ClassId} {A : Nat → Prop} (hx : p.tables.exec = Jvm.exec) (hb : c.code = cX0_three) (hml : c.maxLocals = 3) (hown : s.vm.findClass RX0 = some m.cls) (hts : ∀ w ∈ lw_all, w.before ([.ref b] : List Value).toArray s = true) (hK : xK D cO cI s) (hX0 : va_X b L xs s s.heap) (hL : L ≤ 24) (hbl : b < s.heap.size) (hbA : ¬ A b) (hA : ∀ q, s.heap.size ≤ q → A q) (kk : ∀ (H : Heap) (locs : List Loc) (ls : Array Slot), va_P D vwCl (rg cO cI h g Rr (G1 L xs 3)) H → va_D A (rg cO cI h g Rr (G1 L xs 3)) → va_S A s.heap H locs → lv_has ls 3 [(1, .ref h), (0, .ref b)] → W p l e (headSpec (ws_ yX0_three cX0_three 3 (some (.object "HintRing"))) rm_th).room s m ([.ref b] : List Value).toArray below meth c H locs 6 1029 Q (F0 m 42 ls [])) :
    ∀ (n r : Nat), r + n = 3 → ∀ (H : Heap) (locs : List Loc) (ls : Array Slot), va_P D vwCl (rg cO cI h g Rr (G1 L xs r)) H → va_D A (rg cO cI h g Rr (G1 L xs r)) → va_S A s.heap H locs → lv_has ls 3 [(2, .int (nI r)), (1, .ref h), (0, .ref b)] → W p l e (headSpec (ws_ yX0_three cX0_three 3 (some (.object "HintRing"))) rm_th).room s m ([.ref b] : List Value).toArray below meth c H locs 6 1029 Q (F0 m 10 ls []) := by
  intro n
  induction n with
  | zero =>
    intro r hr3 H locs ls hP hD hS hl
    have hr4 : r = 3 := by omega
    subst hr4
    refine lv_iload_n hx hb dX0_three_10 rfl (lv_at hl 0 rfl) ?_
    refine lv_iconst (v := nI 3) hx hb dX0_three_11 (by decide) ?_
    refine lv_icmp_ge (tgt := 42) hx hb dX0_three_12 (by decide) (fun c9 => ?_) (fun c9 => ?_)
    · exact kk H locs ls hP hD hS (lv_sub hl [1, 2] rfl)
    · exact absurd (nI_le (Nat.le_refl _) (by decide)) c9
  | succ n ih =>
    intro r hr3 H locs ls hP hD hS hl
    have hlt : r < 3 := by omega
    refine lv_iload_n hx hb dX0_three_10 rfl (lv_at hl 0 rfl) ?_
    refine lv_iconst (v := nI 3) hx hb dX0_three_11 (by decide) ?_
    refine lv_icmp_ge (tgt := 42) hx hb dX0_three_12 (by decide) (fun c9 => ?_) (fun c9 => ?_)
    · exact absurd c9 (nI_ge hlt (by decide))
    · skip
      refine lv_aload_n hx hb dX0_three_15 rfl (lv_at hl 1 rfl) ?_
      refine lv_iload_n hx hb dX0_three_16 rfl (lv_at hl 0 rfl) ?_
      refine lv_aload_n hx hb dX0_three_17 rfl (lv_at hl 2 rfl) ?_
      refine lv_iconst (v := nI 2) hx hb dX0_three_18 (by decide) ?_
      refine lv_iload_n hx hb dX0_three_19 rfl (lv_at hl 0 rfl) ?_
      refine lv_imul hx hb dX0_three_20 ?_
      refine xv (y := (nI (2 * r))) (pk_mul _ _) ?_
      refine k_cell ⟨hx, hb, hml, hown, hts⟩ ⟨Nat.le_of_ble_eq_true rfl, Nat.le_of_ble_eq_true rfl⟩ (hX0.kept (hS.2.1 b hbl hbA)) hL (k := 2 * r) (by omega) hl.1 (Nat.le_of_ble_eq_true rfl) dX0_three_21 ⟨Nat.le_of_ble_eq_true rfl, Nat.le_of_ble_eq_true rfl⟩ ?_
      refine lv_aload_n hx hb dX0_three_24 rfl (lv_at hl 2 rfl) ?_
      refine lv_iconst (v := nI 2) hx hb dX0_three_25 (by decide) ?_
      refine lv_iload_n hx hb dX0_three_26 rfl (lv_at hl 0 rfl) ?_
      refine lv_imul hx hb dX0_three_27 ?_
      refine xv (y := (nI (2 * r))) (pk_mul _ _) ?_
      refine lv_iconst (v := nI 1) hx hb dX0_three_28 (by decide) ?_
      refine lv_iadd hx hb dX0_three_29 ?_
      refine xv (y := (nI (2 * r + 1))) (nI_add _ _) ?_
      refine k_cell ⟨hx, hb, hml, hown, hts⟩ ⟨Nat.le_of_ble_eq_true rfl, Nat.le_of_ble_eq_true rfl⟩ (hX0.kept (hS.2.1 b hbl hbA)) hL (k := 2 * r + 1) (by omega) hl.1 (Nat.le_of_ble_eq_true rfl) dX0_three_30 ⟨Nat.le_of_ble_eq_true rfl, Nat.le_of_ble_eq_true rfl⟩ ?_
      refine k_spread (w := []) ⟨hx, hb, hml, hown, hts⟩ ⟨Nat.le_of_ble_eq_true rfl, Nat.le_of_ble_eq_true rfl⟩ hK hP hD hS hA hl.1 (Nat.le_of_ble_eq_true rfl) (by omega) (a3 (by omega)) dX0_three_33 ⟨Nat.le_of_ble_eq_true rfl, Nat.le_of_ble_eq_true rfl⟩ (fun H locs hP hD hS => ?_)
      have e9 : va_up (G1 L xs r) r (spI (ceI L xs (2 * r)) (ceI L xs (2 * r + 1))) = G1 L xs (r + 1) := G1_s
      rw [e9] at hP hD
      refine lv_iinc (v := (nI (r + 1))) (lv' := [(2, .int (nI (r + 1))), (1, .ref h), (0, .ref b)]) hx hb dX0_three_36 hl (k := 0) rfl (nI_1 _) (by decide) rfl (fun ls hl => ?_)
      refine lv_goto (tgt := 10) hx hb dX0_three_39 (by decide) ?_
      exact ih (r + 1) (by omega) H locs ls hP hD hS (lv_sub hl [0, 1, 2] rfl)
set_option maxHeartbeats 4000000 in
set_option maxRecDepth 100000 in
theorem three_b {b L h g : Nat} {xs : Nat → Int32} {Rr : Nat → Nat} {p : Program} {l : Launch} {e : Env} {s : State} {m : MethodId} {below : List Frame} {meth : Method} {c : Code} {Q : State → Prop} {D : va_G} {cO cI : ClassId} {A : Nat → Prop} (hx : p.tables.exec = Jvm.exec) (hb : c.code = cX0_three) (hml : c.maxLocals = 3) (hown : s.vm.findClass RX0 = some m.cls) (hts : ∀ w ∈ lw_all, w.before ([.ref b] : List Value).toArray s = true) (hK : xK D cO cI s) (hX0 : va_X b L xs s s.heap) (hL : L ≤ 24) (hbl : b < s.heap.size) (hbA : ¬ A b) (hA : ∀ q, s.heap.size ≤ q → A q) (kk : ∀ (H : Heap) (locs : List Loc) (ls : Array Slot), va_P D vwCl (rg cO cI h g Rr (G2 L xs ((L - 6) / 2))) H → va_D A (rg cO cI h g Rr (G2 L xs ((L - 6) / 2))) → va_S A s.heap H locs → lv_has ls 3 [(1, .ref h), (0, .ref b)] → W p l e (headSpec (ws_ yX0_three cX0_three 3 (some (.object "HintRing"))) rm_th).room s m ([.ref b] : List Value).toArray below meth c H locs 6 1029 Q (F0 m 76 ls [])) :
    ∀ (n i : Nat), i + n = (L - 6) / 2 → ∀ (H : Heap) (locs : List Loc) (ls : Array Slot), va_P D vwCl (rg cO cI h g Rr (G2 L xs i)) H → va_D A (rg cO cI h g Rr (G2 L xs i)) → va_S A s.heap H locs → lv_has ls 3 [(2, .int (nI (6 + 2 * i))), (1, .ref h), (0, .ref b)] → W p l e (headSpec (ws_ yX0_three cX0_three 3 (some (.object "HintRing"))) rm_th).room s m ([.ref b] : List Value).toArray below meth c H locs 6 1029 Q (F0 m 45 ls []) := by
  intro n
  induction n with
  | zero =>
    intro i hi H locs ls hP hD hS hl
    have hi2 : i = (L - 6) / 2 := by omega
    refine lv_iload_n hx hb dX0_three_45 rfl (lv_at hl 0 rfl) ?_
    refine lv_iconst (v := nI 1) hx hb dX0_three_46 (by decide) ?_
    refine lv_iadd hx hb dX0_three_47 ?_
    refine xv (y := (nI (6 + 2 * i + 1))) (nI_add _ _) ?_
    refine lv_aload_n hx hb dX0_three_48 rfl (lv_at hl 2 rfl) ?_
    refine va_slen hx hb hX0 hbl hbA hS dX0_three_49 ?_
    refine lv_icmp_ge (tgt := 76) hx hb dX0_three_50 (by decide) (fun c9 => ?_) (fun c9 => ?_)
    · rw [hi2] at hP hD
      exact kk H locs ls hP hD hS (lv_sub hl [1, 2] rfl)
    · exact absurd (nI_le (by omega) (by omega)) c9
  | succ n ih =>
    intro i hi H locs ls hP hD hS hl
    have hlt : 6 + 2 * i + 1 < L := by omega
    refine lv_iload_n hx hb dX0_three_45 rfl (lv_at hl 0 rfl) ?_
    refine lv_iconst (v := nI 1) hx hb dX0_three_46 (by decide) ?_
    refine lv_iadd hx hb dX0_three_47 ?_
    refine xv (y := (nI (6 + 2 * i + 1))) (nI_add _ _) ?_
    refine lv_aload_n hx hb dX0_three_48 rfl (lv_at hl 2 rfl) ?_
    refine va_slen hx hb hX0 hbl hbA hS dX0_three_49 ?_
    refine lv_icmp_ge (tgt := 76) hx hb dX0_three_50 (by decide) (fun c9 => ?_) (fun c9 => ?_)
    · exact absurd c9 (nI_ge (by omega) (by omega))
    · skip
      refine lv_aload_n hx hb dX0_three_53 rfl (lv_at hl 1 rfl) ?_
      refine lv_iload_n hx hb dX0_three_54 rfl (lv_at hl 0 rfl) ?_
      refine lv_iconst (v := 1) hx hb dX0_three_55 (by decide) ?_
      refine lv_ishr hx hb dX0_three_56 ?_
      refine lv_iconst (v := 1) hx hb dX0_three_57 (by decide) ?_
      refine lv_iand hx hb dX0_three_58 ?_
      refine xv (y := (nI (pj i))) (shr_pj i (by omega)) ?_
      refine lv_aload_n hx hb dX0_three_59 rfl (lv_at hl 2 rfl) ?_
      refine lv_iload_n hx hb dX0_three_60 rfl (lv_at hl 0 rfl) ?_
      refine va_sld hx hb hX0 hbl hbA hS (vp_in_nI (by omega) (by omega)) dX0_three_61 ?_
      refine xv (y := (xs (6 + 2 * i))) (by rw [nI_clamp (by omega)]) ?_
      refine lv_aload_n hx hb dX0_three_62 rfl (lv_at hl 2 rfl) ?_
      refine lv_iload_n hx hb dX0_three_63 rfl (lv_at hl 0 rfl) ?_
      refine lv_iconst (v := nI 1) hx hb dX0_three_64 (by decide) ?_
      refine lv_iadd hx hb dX0_three_65 ?_
      refine xv (y := (nI (6 + 2 * i + 1))) (nI_add _ _) ?_
      refine va_sld hx hb hX0 hbl hbA hS (vp_in_nI (by omega) (by omega)) dX0_three_66 ?_
      refine xv (y := (xs (6 + 2 * i + 1))) (by rw [nI_clamp (by omega)]) ?_
      have hpj := pj_lt i
      refine k_put (w := []) ⟨hx, hb, hml, hown, hts⟩ ⟨Nat.le_of_ble_eq_true rfl, Nat.le_of_ble_eq_true rfl⟩ hK hP hD hS hA hl.1 (Nat.le_of_ble_eq_true rfl) (j := pj i) (by omega) (a3 (by omega)) (k := (xs (6 + 2 * i)).toBitVec.toNat % 2 ^ 8) (Nat.mod_lt _ (by decide)) (pk_and _ 8 (by decide)) dX0_three_67 ⟨Nat.le_of_ble_eq_true rfl, Nat.le_of_ble_eq_true rfl⟩ (fun H locs hP hD hS => ?_)
      refine lv_iinc (v := (nI (6 + 2 * (i + 1)))) (lv' := [(2, .int (nI (6 + 2 * (i + 1)))), (1, .ref h), (0, .ref b)]) hx hb dX0_three_70 hl (k := 0) rfl (nI_add _ 2) (by decide) rfl (fun ls hl => ?_)
      refine lv_goto (tgt := 45) hx hb dX0_three_73 (by decide) ?_
      exact ih (i + 1) (by omega) H locs ls hP hD hS (lv_sub hl [0, 1, 2] rfl)
set_option maxHeartbeats 4000000 in
set_option maxRecDepth 100000 in
/-- the ring that the script makes -/
theorem met_three (l : Launch) (D : va_G) (cO cI : ClassId) (b L sz : Nat) (xs : Nat → Int32) (hL : L ≤ 24) : Met l yX0_three (ws_ yX0_three cX0_three 3 (some (.object "HintRing"))) rm_th (va_Pc [.ref b] (fun U => U.heap.size = sz ∧ va_X b L xs U U.heap ∧ xK D cO cI U)) (va_Qr (fun (_ : Nat × (Nat → Nat)) => True) (fun u a t => rB D cO cI (va_A [] sz) a u.1 u.2 (thF L xs) t) (va_A [] sz)) 6 1029 (va_A [] sz) := by
  refine Met.ofW (cc := cX0_three) (maxL := 3) (ret := (some (.object "HintRing"))) (by decide) rfl ?_
  intro p e s m args below meth c s₁ B hml hv
  obtain ⟨rfl, hsz, hX0, hK⟩ := hv
  have hx := B.exec
  have hb := B.bytes
  have hr := B.returns
  have hts := atoms_spec (ws := ws_ yX0_three cX0_three 3 (some (.object "HintRing"))) B.pre
  have hts : ∀ w ∈ lw_all, w.before _ s = true := fun w h => hts w (List.mem_cons_of_mem _ h)
  have hown : s.vm.findClass RX0 = some m.cls := findClass_of_methodNamed B.named
  have hlocks := B.notSynchronized
  subst hsz
  have hbl : b < s.heap.size := by obtain ⟨scr, h1, -⟩ := hX0; exact (Array.getElem?_eq_some_iff.mp h1).1
  have hbA : ¬ va_A [] s.heap.size b := by
    intro h
    rcases h with ⟨k, e9, h⟩ | h
    · simp at h
    · omega
  generalize hAe : va_A [] s.heap.size = A at hbA ⊢
  have hA : ∀ q : Nat, s.heap.size ≤ q → A q := fun q h => by rw [← hAe]; exact Or.inr h
  have hS : va_S A s.heap s.heap [] := va_S.rf
  have hP : va_P D vwCl [] s.heap := fun k q hq => by simp at hq
  have hD : va_D A [] := ⟨fun i j x y hx => by simp at hx, fun k q hq => by simp at hq⟩
  have hl := lv_entry ([.ref b]) (n := 3) (Nat.le_of_ble_eq_true rfl)
  rw [lg_entry_eq]
  generalize (lg_sl ([.ref b]) ++ List.replicate (3 - (lg_sl ([.ref b])).length) Slot.unset).toArray = ls at hl ⊢
  have hl : lv_has ls 3 [(0, .ref b)] := hl
  refine va_new (ci := 0) (fs := [.null]) (C := RX1) (T := TX1) (N := 1) hx hb hts in_X1 tyX1 tyX1_ok hown (hts _ q62) (hts _ q63) (hts _ q1) hK.1 hP hD hS hA rfl (fun j hj => by rcases (show j = 0 by omega) with rfl <;> rfl) (Nat.le_of_ble_eq_true rfl) (Nat.le_of_ble_eq_true rfl) dX0_three_0 (fun h H hP hD hS => ?_)
  refine lv_dup hx hb dX0_three_3 rfl ?_
  have hP : va_P D vwCl [(h, .inr (0, [.null]))] H := hP
  have hD : va_D A [(h, .inr (0, [.null]))] := hD
  have hFc := va_free (wc := [(h, .inr (0, [.null]))]) hD hS hA [0] rfl
  refine va_callv (va_runI (As := []) (rest := [.ref h]) ⟨hx, hb, hml, hown, hts⟩ (met_init l D cO cI h H.size) (cwI 0 hts (lw_meth q66) rfl rfl rfl (hts _ q1) (hts _ q64) (hts _ q65) rfl (by decide +kernel) ⟨Nat.le_of_ble_eq_true rfl, Nat.le_of_ble_eq_true rfl⟩) ⟨fun a U g mk q => by obtain ⟨q0, q1, qP, qK, qD⟩ := q; exact ⟨q0, q1, qP, xK.moved (u := U) (U := U.calling g mk a) (Vm.Alike.refl U.vm) qK, qD⟩, fun U hU hW => ⟨rfl, by rw [hU], by rw [hU]; exact hP, hK.moved hW.alike, hD.weaken (fun _ _ _ _ => trivial)⟩⟩ rfl rfl hl.1 rfl (lv_room (Nat.le_of_ble_eq_true rfl)) dX0_three_4 ⟨Nat.le_of_ble_eq_true rfl, Nat.le_of_ble_eq_true rfl⟩) hS (fun q _ h => hFc q h) hFc (fun g t H1 locs ht hvm hw1 hB hz1 hk1 hS => ?_)
  obtain ⟨hP, -, hD1⟩ := hB
  rw [ht] at hP
  have hD := hD1.weaken (fun k q _ h => hFc q.1 h)
  generalize H1 = H at hP hS ⊢
  clear hD1 ht hk1 hz1 hFc
  refine lv_astore_n (lv' := [(1, .ref h), (0, .ref b)]) hx hb dX0_three_7 rfl hl (by decide) rfl (fun ls hl => ?_)
  refine lv_iconst (v := nI 0) hx hb dX0_three_8 (by decide) ?_
  refine lv_istore_n (lv' := [(2, .int (nI 0)), (1, .ref h), (0, .ref b)]) hx hb dX0_three_9 rfl hl (by decide) rfl (fun ls hl => ?_)
  refine three_a hx hb hml hown hts hK hX0 hL hbl hbA hA (fun H locs ls hP hD hS hl => ?_) 3 0 (by decide) H _ _ (by rw [G1_0]; exact hP) (by rw [G1_0]; exact hD) hS (lv_sub hl [0, 1, 2] rfl)
  refine lv_bipush (v := nI 6) hx hb dX0_three_42 (by decide) ?_
  refine lv_istore_n (lv' := [(2, .int (nI 6)), (1, .ref h), (0, .ref b)]) hx hb dX0_three_44 rfl hl (by decide) rfl (fun ls hl => ?_)
  refine three_b hx hb hml hown hts hK hX0 hL hbl hbA hA (fun H locs ls hP hD hS hl => ?_) ((L - 6) / 2) 0 (by omega) H _ _ hP hD hS (lv_sub hl [0, 1, 2] rfl)
  refine lv_aload_n hx hb dX0_three_76 rfl (lv_at hl 0 rfl) ?_
  refine lv_iconst (v := 3) hx hb dX0_three_77 (by decide) ?_
  refine lv_iconst (v := 0) hx hb dX0_three_78 (by decide) ?_
  refine lv_iconst (v := 0) hx hb dX0_three_79 (by decide) ?_
  refine k_spread (w := []) ⟨hx, hb, hml, hown, hts⟩ ⟨Nat.le_of_ble_eq_true rfl, Nat.le_of_ble_eq_true rfl⟩ hK hP hD hS hA hl.1 (Nat.le_of_ble_eq_true rfl) (j := 3) (by decide) (by decide) dX0_three_80 ⟨Nat.le_of_ble_eq_true rfl, Nat.le_of_ble_eq_true rfl⟩ (fun H locs hP hD hS => ?_)
  refine lv_aload_n hx hb dX0_three_83 rfl (lv_at hl 0 rfl) ?_
  exact W.aret hx hb hr (Or.inl ⟨_, rfl⟩) (Or.inr ⟨_, rfl⟩) (fun t ht hW => ⟨⟨(g, _), h, rfl, trivial, by rw [ht]; exact hP, hK.moved hW.alike, hD⟩, hS.F ht⟩) hS.2.2 dX0_three_84
set_option maxHeartbeats 4000000 in
set_option maxRecDepth 100000 in
theorem k_three {p : Program} {l : Launch} {e : Env} {R : Room} {s : State} {m : MethodId} {args : Array Value} {below : List Frame} {meth : Method} {c : Code} {cc : ByteArray} {nL : Nat} {H : Heap} {locs : List Loc} {cells slots : Nat} {Q : State → Prop} {pc : Nat} {ls : Array Slot} {rest : List Value} {D : va_G} {A : Nat → Prop} {H0 : Heap} {cO cI : ClassId} {w : va_W} {b L : Nat} {xs : Nat → Int32} (S : CallFix p m c cc nL s args lw_all RX0) (hR : 3 ≤ R.frames ∧ 66 ≤ R.locals) (hK : xK D cO cI s) (hX : va_X b L xs s H) (hL : L ≤ 24) (hP : va_P D vwCl w H) (hD : va_D A w) (hS : va_S A H0 H locs) (hA : ∀ q, H0.size ≤ q → A q) (hls : ls.size = nL) (hrest : (rest.map fun v => v.category).sum ≤ 8) (hdg : decode cc pc = .ok (.invokestatic 27, 3)) (hroom : cells + 6 ≤ R.cells ∧ slots + 1029 ≤ R.slots)
    (kk : ∀ (a g : Nat) (Rr : Nat → Nat) (H1 : Heap) (locs1 : List Loc), va_P D vwCl (rg cO cI a g Rr (thF L xs) ++ w) H1 → va_D A (rg cO cI a g Rr (thF L xs) ++ w) → va_S A H0 H1 locs1 → W p l e R s m args below meth c H1 locs1 (cells + 6) (slots + 1029) Q (F0 m (pc + 3) ls (.ref a :: rest))) : W p l e R s m args below meth c H locs cells slots Q (F0 m pc ls (.ref b :: rest)) := by
  have hFc : ∀ q, va_A [] H.size q → A q := va_free (wc := []) hD hS hA [] rfl
  refine va_callr (va_runS (As := [.ref b]) (rest := rest) S (met_three l D cO cI b L H.size xs hL) (va_cwS 1 S.2.2.2.2 (lw_S q59 q60 q0 q61) rfl rfl rfl (by decide +kernel) hR) ⟨fun a U g mk q => by obtain ⟨q0, q1, qX, qK⟩ := q; exact ⟨q0, q1, va_X.moved (u := U) (U := U.calling g mk a) (Vm.Alike.refl U.vm) qX, xK.moved (u := U) (U := U.calling g mk a) (Vm.Alike.refl U.vm) qK⟩, fun U hU hW => ⟨rfl, by rw [hU], by rw [hU]; exact hX.moved hW.alike, hK.moved hW.alike⟩⟩ rfl rfl hls rfl (lv_room hrest) hdg hroom) hS (fun q _ h => hFc q h) hFc (fun u ra t H1 locs ht hvm hw1 hB hz1 hk1 hS => ?_)
  obtain ⟨hP1, hK1, hD1⟩ := hB
  rw [ht] at hP1
  obtain ⟨hP, hD⟩ := va_joinQ (X := []) (cx := []) (pl := w) (wr := []) hP hD [] [] rfl rfl (by decide) (by decide) hk1 hFc hP1 hD1
  exact kk ra u.1 u.2 H1 locs hP hD hS
end THREES
end
section
/-! THE LAW's LOOPS -/
section LAWL
/-- the law's own grid -/
abbrev ow (cO cI : ClassId) (q : Nat) (O : Nat → Nat → Int32) : va_W := [(q, xq cO 3 (fun i => some (q + 1 + i))), (q + 1 + 0, xi cI (O 0)), (q + 1 + 1, xi cI (O 1)), (q + 1 + 2, xi cI (O 2))]
theorem c3 {P : Nat → Prop} (h0 : P 0) (h1 : P 1) (h2 : P 2) {j : Nat} (hj : j < 3) : P j := by
  rcases (show j = 0 ∨ j = 1 ∨ j = 2 by omega) with e | e | e <;> subst e
  · exact h0
  · exact h1
  · exact h2
theorem ow_row {cO cI : ClassId} {q : Nat} {O : Nat → Nat → Int32} {w : va_W} {j : Nat} (hj : j < 3) : (ow cO cI q O ++ w)[1 + j]? = some (q + 1 + j, xi cI (O j)) :=
  c3 (P := fun j => (ow cO cI q O ++ w)[1 + j]? = some (q + 1 + j, xi cI (O j))) rfl rfl rfl hj
theorem ow_set {cO cI : ClassId} {q : Nat} {O : Nat → Nat → Int32} {w : va_W} {j : Nat} {f' : Nat → Int32} (hj : j < 3) : (ow cO cI q O ++ w).set (1 + j) (q + 1 + j, xi cI f') = ow cO cI q (va_up O j f') ++ w :=
  c3 (P := fun j => (ow cO cI q O ++ w).set (1 + j) (q + 1 + j, xi cI f') = ow cO cI q (va_up O j f') ++ w) rfl rfl rfl hj
theorem ow_D {A : Nat → Prop} {cO cI : ClassId} {q : Nat} {O P : Nat → Nat → Int32} {w : va_W} (hD : va_D A (ow cO cI q O ++ w)) : va_D A (ow cO cI q P ++ w) := hD.addr rfl
theorem ow_congr {D : va_G} {cO cI : ClassId} {q : Nat} {O P : Nat → Nat → Int32} {w : va_W} {H : Heap} (e : ∀ j, j < 3 → ∀ i, i < 256 → O j i = P j i) (hP : va_P D vwCl (ow cO cI q O ++ w) H) : va_P D vwCl (ow cO cI q P ++ w) H := by
  intro k x hk
  match k, hk with
  | 0, hk => exact hP 0 x hk
  | 1, hk => cases hk; exact xi_congr (e 0 (by decide)) (hP 1 _ rfl)
  | 2, hk => cases hk; exact xi_congr (e 1 (by decide)) (hP 2 _ rfl)
  | 3, hk => cases hk; exact xi_congr (e 2 (by decide)) (hP 3 _ rfl)
  | k + 4, hk => exact hP (k + 4) x hk
theorem up_up {F : Nat → Nat → Int32} {j : Nat} {f f' : Nat → Int32} : va_up (va_up F j f) j f' = va_up F j f' := funext fun i => by
  unfold va_up
  split <;> rfl
/-- the law's room, asked once -/
abbrev okR (cells slots : Nat) : Prop := cells ≤ room_1.cells ∧ slots ≤ room_1.slots
set_option maxHeartbeats 4000000 in
set_option maxRecDepth 100000 in
theorem lawA_i {q : Nat} {w : va_W} {h1 h2 h3 h4 : Nat} {r : Nat} {p : Program} {l : Launch} {e : Env} {s : State} {m : MethodId} {below : List Frame} {meth : Method} {c : Code} {Q : State → Prop} {D : va_G} {cO cI : ClassId} {A : Nat → Prop} {b L : Nat} {xs : Nat → Int32} {cells slots : Nat} (hx : p.tables.exec = Jvm.exec) (hb : c.code = code) (hml : c.maxLocals = 8) (hown : s.vm.findClass RX0 = some m.cls) (hts : ∀ w ∈ lw_all, w.before ([.ref b] : List Value).toArray s = true) (hK : xK D cO cI s) (hX0 : va_X b L xs s s.heap) (hL : L ≤ 24) (hbl : b < s.heap.size) (hbA : ¬ A b) (hroom : okR cells slots) (hr3 : r < 3) (kk : ∀ (H : Heap) (locs : List Loc) (ls : Array Slot), va_P D vwCl (ow cO cI q (G1 L xs (r + 1)) ++ w) H → va_D A (ow cO cI q (G1 L xs (r + 1)) ++ w) → va_S A s.heap H locs → lv_has ls 8 [(6, .int (nI r)), (5, .ref q), (0, .ref b), (1, .ref h1), (2, .ref h2), (3, .ref h3), (4, .ref h4)] → W p l e room_1 s m ([.ref b] : List Value).toArray below meth c H locs cells slots Q (F0 m 93 ls [])) :
    ∀ (n i : Nat), i + n = 256 → ∀ (H : Heap) (locs : List Loc) (ls : Array Slot), va_P D vwCl (ow cO cI q (va_up (G1 L xs r) r (ptl (rw0 L xs r) (fun _ => 0) i)) ++ w) H → va_D A (ow cO cI q (va_up (G1 L xs r) r (ptl (rw0 L xs r) (fun _ => 0) i)) ++ w) → va_S A s.heap H locs → lv_has ls 8 [(7, .int (nI i)), (6, .int (nI r)), (5, .ref q), (0, .ref b), (1, .ref h1), (2, .ref h2), (3, .ref h3), (4, .ref h4)] → W p l e room_1 s m ([.ref b] : List Value).toArray below meth c H locs cells slots Q (F0 m 43 ls []) := by
  intro n
  induction n with
  | zero =>
    intro i hi H locs ls hP hD hS hl
    have hi2 : i = 256 := by omega
    subst hi2
    refine lv_iload hx hb dL_law_43 (lv_at hl 0 rfl) ?_
    refine lv_sipush (v := nI 256) hx hb dL_law_45 (by decide) ?_
    refine lv_icmp_ge (tgt := 93) hx hb dL_law_48 (by decide) (fun c9 => ?_) (fun c9 => ?_)
    · refine kk H locs ls (ow_congr (fun a ha k hk => ?_) hP) (ow_D hD) hS (lv_sub hl [1, 2, 3, 4, 5, 6, 7] rfl)
      rw [← G1_s]
      by_cases e : a = r
      · rw [e, va_up_self, va_up_self]
        exact ptl_e hk
      · rw [va_up_ne _ _ e, va_up_ne _ _ e]
    · exact absurd (nI_le (Nat.le_refl _) (by decide)) c9
  | succ n ih =>
    intro i hi H locs ls hP hD hS hl
    have hlt : i < 256 := by omega
    refine lv_iload hx hb dL_law_43 (lv_at hl 0 rfl) ?_
    refine lv_sipush (v := nI 256) hx hb dL_law_45 (by decide) ?_
    refine lv_icmp_ge (tgt := 93) hx hb dL_law_48 (by decide) (fun c9 => ?_) (fun c9 => ?_)
    · exact absurd c9 (nI_ge hlt (by decide))
    · skip
      refine lv_aload hx hb dL_law_51 (lv_at hl 2 rfl) ?_
      refine lv_iload hx hb dL_law_53 (lv_at hl 1 rfl) ?_
      refine xa_ald hx hb hK hP 0 rfl (vp_in_nI hr3 (by decide)) dL_law_55 ?_
      refine xr (y := q + 1 + r) (by rw [nI_clamp (by omega)]; rfl) ?_
      refine lv_iload hx hb dL_law_56 (lv_at hl 0 rfl) ?_
      refine lv_aload_n hx hb dL_law_58 rfl (lv_at hl 3 rfl) ?_
      refine lv_iconst (v := nI 2) hx hb dL_law_59 (by decide) ?_
      refine lv_iload hx hb dL_law_60 (lv_at hl 1 rfl) ?_
      refine lv_imul hx hb dL_law_62 ?_
      refine xv (y := (nI (2 * r))) (pk_mul _ _) ?_
      refine k_cell ⟨hx, hb, hml, hown, hts⟩ ⟨Nat.le_of_ble_eq_true rfl, Nat.le_of_ble_eq_true rfl⟩ (hX0.kept (hS.2.1 b hbl hbA)) hL (k := 2 * r) (by omega) hl.1 (Nat.le_of_ble_eq_true rfl) dL_law_63 hroom ?_
      refine lv_iload hx hb dL_law_66 (lv_at hl 0 rfl) ?_
      refine lv_aload_n hx hb dL_law_68 rfl (lv_at hl 3 rfl) ?_
      refine lv_iconst (v := nI 2) hx hb dL_law_69 (by decide) ?_
      refine lv_iload hx hb dL_law_70 (lv_at hl 1 rfl) ?_
      refine lv_imul hx hb dL_law_72 ?_
      refine xv (y := (nI (2 * r))) (pk_mul _ _) ?_
      refine lv_iconst (v := nI 1) hx hb dL_law_73 (by decide) ?_
      refine lv_iadd hx hb dL_law_74 ?_
      refine xv (y := (nI (2 * r + 1))) (nI_add _ _) ?_
      refine k_cell ⟨hx, hb, hml, hown, hts⟩ ⟨Nat.le_of_ble_eq_true rfl, Nat.le_of_ble_eq_true rfl⟩ (hX0.kept (hS.2.1 b hbl hbA)) hL (k := 2 * r + 1) (by omega) hl.1 (Nat.le_of_ble_eq_true rfl) dL_law_75 hroom ?_
      refine lv_imul hx hb dL_law_78 ?_
      refine lv_iadd hx hb dL_law_79 ?_
      refine lv_ldc hx hb hown (hts _ q80) dL_law_80 ?_
      refine lv_iand hx hb dL_law_82 ?_
      refine lv_ldc hx hb hown (hts _ q81) dL_law_83 ?_
      refine lv_irem hx hb dL_law_85 (by decide) ?_
      refine xv (y := (rw0 L xs r i)) (rfl) ?_
      refine va_iast hx hb hK.1 hP hD hS (1 + r) 1 (ow_row hr3) rfl (vp_in_nI hlt (by decide)) dL_law_86 (fun H locs hP hD hS => ?_)
      rw [nI_clamp (by omega), ow_set hr3, va_up_self, ptl_s, up_up] at hP hD
      refine lv_iinc (v := (nI (i + 1))) (lv' := [(7, .int (nI (i + 1))), (6, .int (nI r)), (5, .ref q), (0, .ref b), (1, .ref h1), (2, .ref h2), (3, .ref h3), (4, .ref h4)]) hx hb dL_law_87 hl (k := 0) rfl (nI_1 _) (by decide) rfl (fun ls hl => ?_)
      refine lv_goto (tgt := 43) hx hb dL_law_90 (by decide) ?_
      exact ih (i + 1) (by omega) H locs ls hP hD hS (lv_sub hl [0, 1, 2, 3, 4, 5, 6, 7] rfl)
set_option maxHeartbeats 4000000 in
set_option maxRecDepth 100000 in
theorem lawA {q : Nat} {w : va_W} {h1 h2 h3 h4 : Nat} {p : Program} {l : Launch} {e : Env} {s : State} {m : MethodId} {below : List Frame} {meth : Method} {c : Code} {Q : State → Prop} {D : va_G} {cO cI : ClassId} {A : Nat → Prop} {b L : Nat} {xs : Nat → Int32} {cells slots : Nat} (hx : p.tables.exec = Jvm.exec) (hb : c.code = code) (hml : c.maxLocals = 8) (hown : s.vm.findClass RX0 = some m.cls) (hts : ∀ w ∈ lw_all, w.before ([.ref b] : List Value).toArray s = true) (hK : xK D cO cI s) (hX0 : va_X b L xs s s.heap) (hL : L ≤ 24) (hbl : b < s.heap.size) (hbA : ¬ A b) (hroom : okR cells slots) (kk : ∀ (H : Heap) (locs : List Loc) (ls : Array Slot), va_P D vwCl (ow cO cI q (G1 L xs 3) ++ w) H → va_D A (ow cO cI q (G1 L xs 3) ++ w) → va_S A s.heap H locs → lv_has ls 8 [(5, .ref q), (0, .ref b), (1, .ref h1), (2, .ref h2), (3, .ref h3), (4, .ref h4)] → W p l e room_1 s m ([.ref b] : List Value).toArray below meth c H locs cells slots Q (F0 m 99 ls [])) :
    ∀ (n r : Nat), r + n = 3 → ∀ (H : Heap) (locs : List Loc) (ls : Array Slot), va_P D vwCl (ow cO cI q (G1 L xs r) ++ w) H → va_D A (ow cO cI q (G1 L xs r) ++ w) → va_S A s.heap H locs → lv_has ls 8 [(6, .int (nI r)), (5, .ref q), (0, .ref b), (1, .ref h1), (2, .ref h2), (3, .ref h3), (4, .ref h4)] → W p l e room_1 s m ([.ref b] : List Value).toArray below meth c H locs cells slots Q (F0 m 34 ls []) := by
  intro n
  induction n with
  | zero =>
    intro r hr H locs ls hP hD hS hl
    have hi2 : r = 3 := by omega
    subst hi2
    refine lv_iload hx hb dL_law_34 (lv_at hl 0 rfl) ?_
    refine lv_iconst (v := nI 3) hx hb dL_law_36 (by decide) ?_
    refine lv_icmp_ge (tgt := 99) hx hb dL_law_37 (by decide) (fun c9 => ?_) (fun c9 => ?_)
    · exact kk H locs ls hP hD hS (lv_sub hl [1, 2, 3, 4, 5, 6] rfl)
    · exact absurd (nI_le (Nat.le_refl _) (by decide)) c9
  | succ n ih =>
    intro r hr H locs ls hP hD hS hl
    have hr3 : r < 3 := by omega
    refine lv_iload hx hb dL_law_34 (lv_at hl 0 rfl) ?_
    refine lv_iconst (v := nI 3) hx hb dL_law_36 (by decide) ?_
    refine lv_icmp_ge (tgt := 99) hx hb dL_law_37 (by decide) (fun c9 => ?_) (fun c9 => ?_)
    · exact absurd c9 (nI_ge hr3 (by decide))
    · skip
      refine lv_iconst (v := nI 0) hx hb dL_law_40 (by decide) ?_
      refine lv_istore (lv' := [(7, .int (nI 0)), (6, .int (nI r)), (5, .ref q), (0, .ref b), (1, .ref h1), (2, .ref h2), (3, .ref h3), (4, .ref h4)]) hx hb dL_law_41 hl (by decide) rfl (fun ls hl => ?_)
      have e0 : va_up (G1 L xs r) r (ptl (rw0 L xs r) (fun _ => 0) 0) = G1 L xs r := by
        rw [ptl_0, show (fun _ => 0 : Nat → Int32) = G1 L xs r r from (if_neg (by omega)).symm]
        exact va_up_id
      refine lawA_i hx hb hml hown hts hK hX0 hL hbl hbA hroom hr3 (fun H locs ls hP hD hS hl => ?_) 256 0 (by decide) H locs ls (by rw [e0]; exact hP) (by rw [e0]; exact hD) hS (lv_sub hl [0, 1, 2, 3, 4, 5, 6, 7] rfl)
      refine lv_iinc (v := (nI (r + 1))) (lv' := [(6, .int (nI (r + 1))), (5, .ref q), (0, .ref b), (1, .ref h1), (2, .ref h2), (3, .ref h3), (4, .ref h4)]) hx hb dL_law_93 hl (k := 0) rfl (nI_1 _) (by decide) rfl (fun ls hl => ?_)
      refine lv_goto (tgt := 34) hx hb dL_law_96 (by decide) ?_
      exact ih (r + 1) (by omega) H locs ls hP hD hS (lv_sub hl [0, 1, 2, 3, 4, 5, 6] rfl)
set_option maxHeartbeats 4000000 in
set_option maxRecDepth 100000 in
theorem lawB {q : Nat} {w : va_W} {h1 h2 h3 h4 : Nat} {p : Program} {l : Launch} {e : Env} {s : State} {m : MethodId} {below : List Frame} {meth : Method} {c : Code} {Q : State → Prop} {D : va_G} {cO cI : ClassId} {A : Nat → Prop} {b L : Nat} {xs : Nat → Int32} {cells slots : Nat} (hx : p.tables.exec = Jvm.exec) (hb : c.code = code) (hml : c.maxLocals = 8) (hown : s.vm.findClass RX0 = some m.cls) (hts : ∀ w ∈ lw_all, w.before ([.ref b] : List Value).toArray s = true) (hK : xK D cO cI s) (hX0 : va_X b L xs s s.heap) (hL : L ≤ 24) (hbl : b < s.heap.size) (hbA : ¬ A b) (hroom : okR cells slots) (kk : ∀ (H : Heap) (locs : List Loc) (ls : Array Slot), va_P D vwCl (ow cO cI q (G2 L xs ((L - 6) / 2)) ++ w) H → va_D A (ow cO cI q (G2 L xs ((L - 6) / 2)) ++ w) → va_S A s.heap H locs → lv_has ls 8 [(5, .ref q), (0, .ref b), (1, .ref h1), (2, .ref h2), (3, .ref h3), (4, .ref h4)] → W p l e room_1 s m ([.ref b] : List Value).toArray below meth c H locs cells slots Q (F0 m 148 ls [])) :
    ∀ (n i : Nat), i + n = (L - 6) / 2 → ∀ (H : Heap) (locs : List Loc) (ls : Array Slot), va_P D vwCl (ow cO cI q (G2 L xs i) ++ w) H → va_D A (ow cO cI q (G2 L xs i) ++ w) → va_S A s.heap H locs → lv_has ls 8 [(6, .int (nI (6 + 2 * i))), (5, .ref q), (0, .ref b), (1, .ref h1), (2, .ref h2), (3, .ref h3), (4, .ref h4)] → W p l e room_1 s m ([.ref b] : List Value).toArray below meth c H locs cells slots Q (F0 m 103 ls []) := by
  intro n
  induction n with
  | zero =>
    intro i hi H locs ls hP hD hS hl
    have hi2 : i = (L - 6) / 2 := by omega
    refine lv_iload hx hb dL_law_103 (lv_at hl 0 rfl) ?_
    refine lv_iconst (v := nI 1) hx hb dL_law_105 (by decide) ?_
    refine lv_iadd hx hb dL_law_106 ?_
    refine xv (y := (nI (6 + 2 * i + 1))) (nI_add _ _) ?_
    refine lv_aload_n hx hb dL_law_107 rfl (lv_at hl 2 rfl) ?_
    refine va_slen hx hb hX0 hbl hbA hS dL_law_108 ?_
    refine lv_icmp_ge (tgt := 148) hx hb dL_law_109 (by decide) (fun c9 => ?_) (fun c9 => ?_)
    · rw [hi2] at hP hD
      exact kk H locs ls hP hD hS (lv_sub hl [1, 2, 3, 4, 5, 6] rfl)
    · exact absurd (nI_le (by omega) (by omega)) c9
  | succ n ih =>
    intro i hi H locs ls hP hD hS hl
    have hlt : 6 + 2 * i + 1 < L := by omega
    refine lv_iload hx hb dL_law_103 (lv_at hl 0 rfl) ?_
    refine lv_iconst (v := nI 1) hx hb dL_law_105 (by decide) ?_
    refine lv_iadd hx hb dL_law_106 ?_
    refine xv (y := (nI (6 + 2 * i + 1))) (nI_add _ _) ?_
    refine lv_aload_n hx hb dL_law_107 rfl (lv_at hl 2 rfl) ?_
    refine va_slen hx hb hX0 hbl hbA hS dL_law_108 ?_
    refine lv_icmp_ge (tgt := 148) hx hb dL_law_109 (by decide) (fun c9 => ?_) (fun c9 => ?_)
    · exact absurd c9 (nI_ge (by omega) (by omega))
    · have hpj := pj_lt i
      refine lv_aload hx hb dL_law_112 (lv_at hl 1 rfl) ?_
      refine lv_iload hx hb dL_law_114 (lv_at hl 0 rfl) ?_
      refine lv_iconst (v := 1) hx hb dL_law_116 (by decide) ?_
      refine lv_ishr hx hb dL_law_117 ?_
      refine lv_iconst (v := 1) hx hb dL_law_118 (by decide) ?_
      refine lv_iand hx hb dL_law_119 ?_
      refine xv (y := (nI (pj i))) (shr_pj i (by omega)) ?_
      refine xa_ald hx hb hK hP 0 rfl (vp_in_nI (show pj i < 3 by omega) (by decide)) dL_law_120 ?_
      refine xr (y := q + 1 + pj i) (by rw [nI_clamp (by omega)]; rfl) ?_
      refine lv_aload_n hx hb dL_law_121 rfl (lv_at hl 2 rfl) ?_
      refine lv_iload hx hb dL_law_122 (lv_at hl 0 rfl) ?_
      refine va_sld hx hb hX0 hbl hbA hS (vp_in_nI (by omega) (by omega)) dL_law_124 ?_
      refine xv (y := (xs (6 + 2 * i))) (by rw [nI_clamp (by omega)]) ?_
      refine lv_sipush (v := 255) hx hb dL_law_125 (by decide) ?_
      refine lv_iand hx hb dL_law_128 ?_
      refine xv (y := (nI ((xs (6 + 2 * i)).toBitVec.toNat % 2 ^ 8))) (pk_and _ 8 (by decide)) ?_
      refine lv_aload_n hx hb dL_law_129 rfl (lv_at hl 2 rfl) ?_
      refine lv_iload hx hb dL_law_130 (lv_at hl 0 rfl) ?_
      refine lv_iconst (v := nI 1) hx hb dL_law_132 (by decide) ?_
      refine lv_iadd hx hb dL_law_133 ?_
      refine xv (y := (nI (6 + 2 * i + 1))) (nI_add _ _) ?_
      refine va_sld hx hb hX0 hbl hbA hS (vp_in_nI (by omega) (by omega)) dL_law_134 ?_
      refine xv (y := (xs (6 + 2 * i + 1))) (by rw [nI_clamp (by omega)]) ?_
      refine lv_ldc hx hb hown (hts _ q80) dL_law_135 ?_
      refine lv_iand hx hb dL_law_137 ?_
      refine lv_ldc hx hb hown (hts _ q81) dL_law_138 ?_
      refine lv_irem hx hb dL_law_140 (by decide) ?_
      refine xv (y := (fairI (xs (6 + 2 * i + 1)))) (rfl) ?_
      have hpl : (xs (6 + 2 * i)).toBitVec.toNat % 2 ^ 8 < 256 := Nat.mod_lt _ (by decide)
      refine va_iast hx hb hK.1 hP hD hS (1 + pj i) 1 (ow_row (by omega)) rfl (vp_in_nI hpl (by decide)) dL_law_141 (fun H locs hP hD hS => ?_)
      rw [nI_clamp (by omega), ow_set (by omega)] at hP hD
      refine lv_iinc (v := (nI (6 + 2 * (i + 1)))) (lv' := [(6, .int (nI (6 + 2 * (i + 1)))), (5, .ref q), (0, .ref b), (1, .ref h1), (2, .ref h2), (3, .ref h3), (4, .ref h4)]) hx hb dL_law_142 hl (k := 0) rfl (nI_add _ 2) (by decide) rfl (fun ls hl => ?_)
      refine lv_goto (tgt := 103) hx hb dL_law_145 (by decide) ?_
      exact ih (i + 1) (by omega) H locs ls hP hD hS (lv_sub hl [0, 1, 2, 3, 4, 5, 6] rfl)
theorem C_x {D : va_G} {cO cI : ClassId} {q h1 g1 : Nat} {R1 : Nat → Nat} {F1 O : Nat → Nat → Int32} {w : va_W} {H : Heap} (hP : va_P D vwCl (ow cO cI q O ++ (rg cO cI h1 g1 R1 F1 ++ w)) H) : va_P D vwCl (rg cO cI h1 g1 R1 F1) H := hP.sub [4, 5, 6, 7, 8, 9] rfl
set_option maxHeartbeats 4000000 in
set_option maxRecDepth 100000 in
theorem lawC_i {q : Nat} {w : va_W} {h1 h2 h3 h4 : Nat} {g1 : Nat} {R1 : Nat → Nat} {F1 O : Nat → Nat → Int32} {r : Nat} {H : Heap} {locs : List Loc} {p : Program} {l : Launch} {e : Env} {s : State} {m : MethodId} {below : List Frame} {meth : Method} {c : Code} {Q : State → Prop} {D : va_G} {cO cI : ClassId} {A : Nat → Prop} {b L : Nat} {xs : Nat → Int32} {cells slots : Nat} (hx : p.tables.exec = Jvm.exec) (hb : c.code = code) (hml : c.maxLocals = 8) (hown : s.vm.findClass RX0 = some m.cls) (hts : ∀ w ∈ lw_all, w.before ([.ref b] : List Value).toArray s = true) (hK : xK D cO cI s) (hX0 : va_X b L xs s s.heap) (hL : L ≤ 24) (hbl : b < s.heap.size) (hbA : ¬ A b) (hroom : okR cells slots) (hr3 : r < 3) (heq : ∀ i, i < 256 → F1 r i = O r i) (hP : va_P D vwCl (ow cO cI q O ++ (rg cO cI h1 g1 R1 F1 ++ w)) H) (kk : ∀ (ls : Array Slot), lv_has ls 8 [(6, .int (nI r)), (5, .ref q), (0, .ref b), (1, .ref h1), (2, .ref h2), (3, .ref h3), (4, .ref h4)] → W p l e room_1 s m ([.ref b] : List Value).toArray below meth c H locs cells slots Q (F0 m 195 ls [])) :
    ∀ (n i : Nat), i + n = 256 → ∀ (ls : Array Slot), lv_has ls 8 [(7, .int (nI i)), (6, .int (nI r)), (5, .ref q), (0, .ref b), (1, .ref h1), (2, .ref h2), (3, .ref h3), (4, .ref h4)] → W p l e room_1 s m ([.ref b] : List Value).toArray below meth c H locs cells slots Q (F0 m 160 ls []) := by
  intro n
  induction n with
  | zero =>
    intro i hi ls hl
    have hi2 : i = 256 := by omega
    subst hi2
    refine lv_iload hx hb dL_law_160 (lv_at hl 0 rfl) ?_
    refine lv_sipush (v := nI 256) hx hb dL_law_162 (by decide) ?_
    refine lv_icmp_ge (tgt := 195) hx hb dL_law_165 (by decide) (fun c9 => ?_) (fun c9 => ?_)
    · exact kk ls (lv_sub hl [1, 2, 3, 4, 5, 6, 7] rfl)
    · exact absurd (nI_le (Nat.le_refl _) (by decide)) c9
  | succ n ih =>
    intro i hi ls hl
    have hlt : i < 256 := by omega
    refine lv_iload hx hb dL_law_160 (lv_at hl 0 rfl) ?_
    refine lv_sipush (v := nI 256) hx hb dL_law_162 (by decide) ?_
    refine lv_icmp_ge (tgt := 195) hx hb dL_law_165 (by decide) (fun c9 => ?_) (fun c9 => ?_)
    · exact absurd c9 (nI_ge hlt (by decide))
    · skip
      refine lv_aload_n hx hb dL_law_168 rfl (lv_at hl 4 rfl) ?_
      refine lv_iload hx hb dL_law_169 (lv_at hl 1 rfl) ?_
      refine lv_iload hx hb dL_law_171 (lv_at hl 0 rfl) ?_
      refine k_coef ⟨hx, hb, hml, hown, hts⟩ ⟨Nat.le_of_ble_eq_true rfl, Nat.le_of_ble_eq_true rfl⟩ hK (C_x hP) hl.1 (Nat.le_of_ble_eq_true rfl) (j := r) (by omega) (a3 (by omega)) (k := i) hlt (a255 hlt) dL_law_173 hroom ?_
      refine lv_aload hx hb dL_law_176 (lv_at hl 2 rfl) ?_
      refine lv_iload hx hb dL_law_178 (lv_at hl 1 rfl) ?_
      refine xa_ald hx hb hK hP 0 rfl (vp_in_nI hr3 (by decide)) dL_law_180 ?_
      refine xr (y := q + 1 + r) (by rw [nI_clamp (by omega)]; rfl) ?_
      refine lv_iload hx hb dL_law_181 (lv_at hl 0 rfl) ?_
      refine va_iald hx hb hK.1 hP (1 + r) 1 (ow_row hr3) rfl (vp_in_nI hlt (by decide)) dL_law_183 ?_
      refine xv (y := (O r i)) (by rw [nI_clamp (by omega)]) ?_
      refine lv_icmp_eq (tgt := 189) hx hb dL_law_184 (by decide) (fun c8 => ?_) (fun c8 => ?_)
      · skip
        refine lv_iinc (v := (nI (i + 1))) (lv' := [(7, .int (nI (i + 1))), (6, .int (nI r)), (5, .ref q), (0, .ref b), (1, .ref h1), (2, .ref h2), (3, .ref h3), (4, .ref h4)]) hx hb dL_law_189 hl (k := 0) rfl (nI_1 _) (by decide) rfl (fun ls hl => ?_)
        refine lv_goto (tgt := 160) hx hb dL_law_192 (by decide) ?_
        exact ih (i + 1) (by omega) ls (lv_sub hl [0, 1, 2, 3, 4, 5, 6, 7] rfl)
      · exact absurd (heq i hlt) c8
set_option maxHeartbeats 4000000 in
set_option maxRecDepth 100000 in
theorem lawC {q : Nat} {w : va_W} {h1 h2 h3 h4 : Nat} {g1 : Nat} {R1 : Nat → Nat} {F1 O : Nat → Nat → Int32} {H : Heap} {locs : List Loc} {p : Program} {l : Launch} {e : Env} {s : State} {m : MethodId} {below : List Frame} {meth : Method} {c : Code} {Q : State → Prop} {D : va_G} {cO cI : ClassId} {A : Nat → Prop} {b L : Nat} {xs : Nat → Int32} {cells slots : Nat} (hx : p.tables.exec = Jvm.exec) (hb : c.code = code) (hml : c.maxLocals = 8) (hown : s.vm.findClass RX0 = some m.cls) (hts : ∀ w ∈ lw_all, w.before ([.ref b] : List Value).toArray s = true) (hK : xK D cO cI s) (hX0 : va_X b L xs s s.heap) (hL : L ≤ 24) (hbl : b < s.heap.size) (hbA : ¬ A b) (hroom : okR cells slots) (heq : ∀ r, r < 3 → ∀ i, i < 256 → F1 r i = O r i) (hP : va_P D vwCl (ow cO cI q O ++ (rg cO cI h1 g1 R1 F1 ++ w)) H) (kk : ∀ (ls : Array Slot), lv_has ls 8 [(5, .ref q), (0, .ref b), (1, .ref h1), (2, .ref h2), (3, .ref h3), (4, .ref h4)] → W p l e room_1 s m ([.ref b] : List Value).toArray below meth c H locs cells slots Q (F0 m 201 ls [])) :
    ∀ (n r : Nat), r + n = 3 → ∀ (ls : Array Slot), lv_has ls 8 [(6, .int (nI r)), (5, .ref q), (0, .ref b), (1, .ref h1), (2, .ref h2), (3, .ref h3), (4, .ref h4)] → W p l e room_1 s m ([.ref b] : List Value).toArray below meth c H locs cells slots Q (F0 m 151 ls []) := by
  intro n
  induction n with
  | zero =>
    intro r hr ls hl
    have hi2 : r = 3 := by omega
    subst hi2
    refine lv_iload hx hb dL_law_151 (lv_at hl 0 rfl) ?_
    refine lv_iconst (v := nI 3) hx hb dL_law_153 (by decide) ?_
    refine lv_icmp_ge (tgt := 201) hx hb dL_law_154 (by decide) (fun c9 => ?_) (fun c9 => ?_)
    · exact kk ls (lv_sub hl [1, 2, 3, 4, 5, 6] rfl)
    · exact absurd (nI_le (Nat.le_refl _) (by decide)) c9
  | succ n ih =>
    intro r hr ls hl
    have hr3 : r < 3 := by omega
    refine lv_iload hx hb dL_law_151 (lv_at hl 0 rfl) ?_
    refine lv_iconst (v := nI 3) hx hb dL_law_153 (by decide) ?_
    refine lv_icmp_ge (tgt := 201) hx hb dL_law_154 (by decide) (fun c9 => ?_) (fun c9 => ?_)
    · exact absurd c9 (nI_ge hr3 (by decide))
    · skip
      refine lv_iconst (v := nI 0) hx hb dL_law_157 (by decide) ?_
      refine lv_istore (lv' := [(7, .int (nI 0)), (6, .int (nI r)), (5, .ref q), (0, .ref b), (1, .ref h1), (2, .ref h2), (3, .ref h3), (4, .ref h4)]) hx hb dL_law_158 hl (by decide) rfl (fun ls hl => ?_)
      refine lawC_i hx hb hml hown hts hK hX0 hL hbl hbA hroom hr3 (heq r hr3) hP (fun ls hl => ?_) 256 0 (by decide) ls (lv_sub hl [0, 1, 2, 3, 4, 5, 6, 7] rfl)
      refine lv_iinc (v := (nI (r + 1))) (lv' := [(6, .int (nI (r + 1))), (5, .ref q), (0, .ref b), (1, .ref h1), (2, .ref h2), (3, .ref h3), (4, .ref h4)]) hx hb dL_law_195 hl (k := 0) rfl (nI_1 _) (by decide) rfl (fun ls hl => ?_)
      refine lv_goto (tgt := 151) hx hb dL_law_198 (by decide) ?_
      exact ih (r + 1) (by omega) ls (lv_sub hl [0, 1, 2, 3, 4, 5, 6] rfl)
set_option maxHeartbeats 4000000 in
set_option maxRecDepth 100000 in
theorem lawD {h1 h2 h3 h4 : Nat} {g1 g3 g4 : Nat} {R1 R3 R4 : Nat → Nat} {F1 F3 F4 : Nat → Nat → Int32} {H : Heap} {locs : List Loc} {p : Program} {l : Launch} {e : Env} {s : State} {m : MethodId} {below : List Frame} {meth : Method} {c : Code} {Q : State → Prop} {D : va_G} {cO cI : ClassId} {A : Nat → Prop} {b L : Nat} {xs : Nat → Int32} {cells slots : Nat} (hx : p.tables.exec = Jvm.exec) (hb : c.code = code) (hml : c.maxLocals = 8) (hown : s.vm.findClass RX0 = some m.cls) (hts : ∀ w ∈ lw_all, w.before ([.ref b] : List Value).toArray s = true) (hK : xK D cO cI s) (hX0 : va_X b L xs s s.heap) (hL : L ≤ 24) (hbl : b < s.heap.size) (hbA : ¬ A b) (hroom : okR cells slots) (e3 : ∀ i, i < 256 → F3 0 i = ((F1 0 i + F1 1 i) - (F1 0 i + F1 1 i) / 8380417 * 8380417)) (e4 : ∀ i, i < 256 → F4 1 i = ((F1 0 i + F1 1 i) - (F1 0 i + F1 1 i) / 8380417 * 8380417)) (hP1 : va_P D vwCl (rg cO cI h1 g1 R1 F1) H) (hP3 : va_P D vwCl (rg cO cI h3 g3 R3 F3) H) (hP4 : va_P D vwCl (rg cO cI h4 g4 R4 F4) H) (kk : ∀ (ls : Array Slot), lv_has ls 8 [(0, .ref b), (1, .ref h1), (2, .ref h2), (3, .ref h3), (4, .ref h4)] → W p l e room_1 s m ([.ref b] : List Value).toArray below meth c H locs cells slots Q (F0 m 278 ls [])) :
    ∀ (n i : Nat), i + n = 256 → ∀ (ls : Array Slot), lv_has ls 8 [(6, .int (nI i)), (0, .ref b), (1, .ref h1), (2, .ref h2), (3, .ref h3), (4, .ref h4)] → W p l e room_1 s m ([.ref b] : List Value).toArray below meth c H locs cells slots Q (F0 m 217 ls []) := by
  intro n
  induction n with
  | zero =>
    intro i hi ls hl
    have hi2 : i = 256 := by omega
    subst hi2
    refine lv_iload hx hb dL_law_217 (lv_at hl 0 rfl) ?_
    refine lv_sipush (v := nI 256) hx hb dL_law_219 (by decide) ?_
    refine lv_icmp_ge (tgt := 278) hx hb dL_law_222 (by decide) (fun c9 => ?_) (fun c9 => ?_)
    · exact kk ls (lv_sub hl [1, 2, 3, 4, 5] rfl)
    · exact absurd (nI_le (Nat.le_refl _) (by decide)) c9
  | succ n ih =>
    intro i hi ls hl
    have hlt : i < 256 := by omega
    refine lv_iload hx hb dL_law_217 (lv_at hl 0 rfl) ?_
    refine lv_sipush (v := nI 256) hx hb dL_law_219 (by decide) ?_
    refine lv_icmp_ge (tgt := 278) hx hb dL_law_222 (by decide) (fun c9 => ?_) (fun c9 => ?_)
    · exact absurd c9 (nI_ge hlt (by decide))
    · skip
      refine lv_aload_n hx hb dL_law_225 rfl (lv_at hl 2 rfl) ?_
      refine lv_iconst (v := 0) hx hb dL_law_226 (by decide) ?_
      refine lv_iload hx hb dL_law_227 (lv_at hl 0 rfl) ?_
      refine k_coef ⟨hx, hb, hml, hown, hts⟩ ⟨Nat.le_of_ble_eq_true rfl, Nat.le_of_ble_eq_true rfl⟩ hK hP1 hl.1 (Nat.le_of_ble_eq_true rfl) (j := 0) (by decide) (by decide) (k := i) hlt (a255 hlt) dL_law_229 hroom ?_
      refine lv_aload_n hx hb dL_law_232 rfl (lv_at hl 2 rfl) ?_
      refine lv_iconst (v := 1) hx hb dL_law_233 (by decide) ?_
      refine lv_iload hx hb dL_law_234 (lv_at hl 0 rfl) ?_
      refine k_coef ⟨hx, hb, hml, hown, hts⟩ ⟨Nat.le_of_ble_eq_true rfl, Nat.le_of_ble_eq_true rfl⟩ hK hP1 hl.1 (Nat.le_of_ble_eq_true rfl) (j := 1) (by decide) (by decide) (k := i) hlt (a255 hlt) dL_law_236 hroom ?_
      refine lv_iadd hx hb dL_law_239 ?_
      refine lv_ldc hx hb hown (hts _ q81) dL_law_240 ?_
      refine lv_irem hx hb dL_law_242 (by decide) ?_
      refine lv_istore (lv' := [(7, .int (((F1 0 i) + (F1 1 i)) - ((F1 0 i) + (F1 1 i)) / 8380417 * 8380417)), (6, .int (nI i)), (0, .ref b), (1, .ref h1), (2, .ref h2), (3, .ref h3), (4, .ref h4)]) hx hb dL_law_243 hl (by decide) rfl (fun ls hl => ?_)
      refine lv_aload_n hx hb dL_law_245 rfl (lv_at hl 5 rfl) ?_
      refine lv_iconst (v := 0) hx hb dL_law_246 (by decide) ?_
      refine lv_iload hx hb dL_law_247 (lv_at hl 1 rfl) ?_
      refine k_coef ⟨hx, hb, hml, hown, hts⟩ ⟨Nat.le_of_ble_eq_true rfl, Nat.le_of_ble_eq_true rfl⟩ hK hP3 hl.1 (Nat.le_of_ble_eq_true rfl) (j := 0) (by decide) (by decide) (k := i) hlt (a255 hlt) dL_law_249 hroom ?_
      refine lv_iload hx hb dL_law_252 (lv_at hl 0 rfl) ?_
      refine lv_icmp_ne (tgt := 270) hx hb dL_law_254 (by decide) (fun c8 => ?_) (fun c8 => ?_)
      · exact absurd (e3 i hlt) c8
      · skip
        refine lv_aload hx hb dL_law_257 (lv_at hl 6 rfl) ?_
        refine lv_iconst (v := 1) hx hb dL_law_259 (by decide) ?_
        refine lv_iload hx hb dL_law_260 (lv_at hl 1 rfl) ?_
        refine k_coef ⟨hx, hb, hml, hown, hts⟩ ⟨Nat.le_of_ble_eq_true rfl, Nat.le_of_ble_eq_true rfl⟩ hK hP4 hl.1 (Nat.le_of_ble_eq_true rfl) (j := 1) (by decide) (by decide) (k := i) hlt (a255 hlt) dL_law_262 hroom ?_
        refine lv_iload hx hb dL_law_265 (lv_at hl 0 rfl) ?_
        refine lv_icmp_eq (tgt := 272) hx hb dL_law_267 (by decide) (fun c7 => ?_) (fun c7 => ?_)
        · skip
          refine lv_iinc (v := (nI (i + 1))) (lv' := [(6, .int (nI (i + 1))), (7, .int (((F1 0 i) + (F1 1 i)) - ((F1 0 i) + (F1 1 i)) / 8380417 * 8380417)), (0, .ref b), (1, .ref h1), (2, .ref h2), (3, .ref h3), (4, .ref h4)]) hx hb dL_law_272 hl (k := 1) rfl (nI_1 _) (by decide) rfl (fun ls hl => ?_)
          refine lv_goto (tgt := 217) hx hb dL_law_275 (by decide) ?_
          exact ih (i + 1) (by omega) ls (lv_sub hl [0, 2, 3, 4, 5, 6] rfl)
        · exact absurd (e4 i hlt) c7
set_option maxHeartbeats 4000000 in
set_option maxRecDepth 100000 in
theorem lawE {h1 h2 : Nat} {g1 : Nat} {R1 : Nat → Nat} {F1 : Nat → Nat → Int32} {H : Heap} {locs : List Loc} {p : Program} {l : Launch} {e : Env} {s : State} {m : MethodId} {below : List Frame} {meth : Method} {c : Code} {Q : State → Prop} {D : va_G} {cO cI : ClassId} {A : Nat → Prop} {b L : Nat} {xs : Nat → Int32} {cells slots : Nat} (hx : p.tables.exec = Jvm.exec) (hb : c.code = code) (hml : c.maxLocals = 8) (hown : s.vm.findClass RX0 = some m.cls) (hts : ∀ w ∈ lw_all, w.before ([.ref b] : List Value).toArray s = true) (hK : xK D cO cI s) (hX0 : va_X b L xs s s.heap) (hL : L ≤ 24) (hbl : b < s.heap.size) (hbA : ¬ A b) (hroom : okR cells slots) (heq : ∀ i, i < 255 → F1 3 (i + 1) = F1 0 i) (hP1 : va_P D vwCl (rg cO cI h1 g1 R1 F1) H) (kk : ∀ (ls : Array Slot), lv_has ls 8 [(0, .ref b), (1, .ref h1), (2, .ref h2)] → W p l e room_1 s m ([.ref b] : List Value).toArray below meth c H locs cells slots Q (F0 m 429 ls [])) :
    ∀ (n i : Nat), i + n = 255 → ∀ (ls : Array Slot), lv_has ls 8 [(6, .int (nI i)), (0, .ref b), (1, .ref h1), (2, .ref h2)] → W p l e room_1 s m ([.ref b] : List Value).toArray below meth c H locs cells slots Q (F0 m 394 ls []) := by
  intro n
  induction n with
  | zero =>
    intro i hi ls hl
    have hi2 : i = 255 := by omega
    subst hi2
    refine lv_iload hx hb dL_law_394 (lv_at hl 0 rfl) ?_
    refine lv_sipush (v := nI 255) hx hb dL_law_396 (by decide) ?_
    refine lv_icmp_ge (tgt := 429) hx hb dL_law_399 (by decide) (fun c9 => ?_) (fun c9 => ?_)
    · exact kk ls (lv_sub hl [1, 2, 3] rfl)
    · exact absurd (nI_le (Nat.le_refl _) (by decide)) c9
  | succ n ih =>
    intro i hi ls hl
    have hlt : i < 255 := by omega
    refine lv_iload hx hb dL_law_394 (lv_at hl 0 rfl) ?_
    refine lv_sipush (v := nI 255) hx hb dL_law_396 (by decide) ?_
    refine lv_icmp_ge (tgt := 429) hx hb dL_law_399 (by decide) (fun c9 => ?_) (fun c9 => ?_)
    · exact absurd c9 (nI_ge hlt (by decide))
    · skip
      refine lv_aload_n hx hb dL_law_402 rfl (lv_at hl 2 rfl) ?_
      refine lv_iconst (v := 3) hx hb dL_law_403 (by decide) ?_
      refine lv_iload hx hb dL_law_404 (lv_at hl 0 rfl) ?_
      refine lv_iconst (v := nI 1) hx hb dL_law_406 (by decide) ?_
      refine lv_iadd hx hb dL_law_407 ?_
      refine xv (y := (nI (i + 1))) (nI_add _ _) ?_
      refine k_coef ⟨hx, hb, hml, hown, hts⟩ ⟨Nat.le_of_ble_eq_true rfl, Nat.le_of_ble_eq_true rfl⟩ hK hP1 hl.1 (Nat.le_of_ble_eq_true rfl) (j := 3) (by decide) (by decide) (k := i + 1) (by omega) (a255 (by omega)) dL_law_408 hroom ?_
      refine lv_aload_n hx hb dL_law_411 rfl (lv_at hl 2 rfl) ?_
      refine lv_iconst (v := 0) hx hb dL_law_412 (by decide) ?_
      refine lv_iload hx hb dL_law_413 (lv_at hl 0 rfl) ?_
      refine k_coef ⟨hx, hb, hml, hown, hts⟩ ⟨Nat.le_of_ble_eq_true rfl, Nat.le_of_ble_eq_true rfl⟩ hK hP1 hl.1 (Nat.le_of_ble_eq_true rfl) (j := 0) (by decide) (by decide) (k := i) (by omega) (a255 (by omega)) dL_law_415 hroom ?_
      refine lv_icmp_eq (tgt := 423) hx hb dL_law_418 (by decide) (fun c8 => ?_) (fun c8 => ?_)
      · skip
        refine lv_iinc (v := (nI (i + 1))) (lv' := [(6, .int (nI (i + 1))), (0, .ref b), (1, .ref h1), (2, .ref h2)]) hx hb dL_law_423 hl (k := 0) rfl (nI_1 _) (by decide) rfl (fun ls hl => ?_)
        refine lv_goto (tgt := 394) hx hb dL_law_426 (by decide) ?_
        exact ih (i + 1) (by omega) ls (lv_sub hl [0, 1, 2, 3] rfl)
      · exact absurd (heq i hlt) c8
end LAWL
end
section
/-! THE CLAIM OUT OF ONE WALK OF THE LAW'S BODY. Your part is whole_start (and what it stands on); all else here is the same for every law, but numbers. -/
def R_law : String := "HintRingLaw"
def lw_P (b : Addr) (xs : List Int32) (args : Array Value) (s : State) : Prop := args = #[.ref b] ∧ s.IntsAt b xs ∧ xs.length ≤ 24 ∧ (Jvm.Cond.and given_1 narrow_1).before args s = true
def lw_Q (_ : Array Value) (s : State) (o : Outcome) (t : State) : Prop := o = .returned (some (.int 1)) ∧ Framed s o t [] 600000 7302250
def lw_Z (below : List Frame) (a : Array Value) (s : State) : State → Prop := fun t => ∃ o, t.status = .running ∧ Ended t below o ∧ lw_Q a s o t
/-- the law's own end, with 1 on the stack, nothing written that was there before, its room as the claim has it -/
theorem lw_ret {p : Program} {l : Launch} {e : Env} {s : State} {m : MethodId} {below : List Frame} {meth : Method} {c : Code} {b : Nat} (hx : p.tables.exec = Jvm.exec) (hb : c.code = code) (hr : meth.sig.returnType = ret) (hlocks : meth.locks = false) {pc : Nat} {H : Heap} {ls : Array Slot} (hdg : decode code pc = .ok (.ireturn, 1)) : W p l e room_1 s m #[Value.ref b] below meth c H [] 600000 7302250 (lw_Z below #[Value.ref b] s) (F0 m pc ls [.int 1]) := by
  intro T hT X
  obtain ⟨fs, hret, hrun, hended, hW, hframe⟩ := X.leave (v := some (.int 1)) (hlocks := hlocks) (fun h => by rw [hr] at h; cases h)
  have hmeth' : T.vm.method? m = some meth := X.method'
  refine ⟨T.setFrames fs, ?_, .returned (some (.int 1)), hrun, hended, rfl, ⟨_, rfl⟩, hW, hframe⟩
  jvm_step X.here [X.here.top, hx, hb, hdg, hmeth', hr, ret, narrow_b1]
  (try refine ⟨rfl, ?_⟩); (try refine ⟨rfl, ?_⟩)
  first | (intro acts; rw [hret _ acts rfl rfl rfl]) | rw [hret _ _ rfl rfl rfl]
  exact Steps.refl _
/-- what holds at the law's entry: the machine, the code, the tables' words (any of lw_tbl by 'hts w (by decide +kernel)'), the script of L ints xs at the cell b, what the Statement gives of the start (any of its parts by flat_of_before) -/
def lw_At (p : Program) (s : State) (m : MethodId) (meth : Method) (c : Code) (b L : Nat) (xs : Nat → Int32) : Prop :=
  p.tables.exec = Jvm.exec ∧ c.code = code ∧ meth.sig.returnType = ret ∧ c.maxLocals = 8 ∧ s.vm.findClass R_law = some m.cls ∧ (∀ w ∈ lw_tbl, w.before #[Value.ref b] s = true) ∧ va_X b L xs s s.heap ∧ b < s.heap.size ∧ meth.locks = false ∧ (Jvm.Cond.and given_1 narrow_1).before #[Value.ref b] s = true
section START
theorem fairI_cn (v : Int32) : 0 ≤ (fairI v).toInt ∧ (fairI v).toInt < 8380417 := by
  obtain ⟨j, hj, e⟩ := fairI_spec v
  rw [e, nI_toInt (by omega)]
  omega
theorem G1_cn {L : Nat} {xs : Nat → Int32} (r j : Nat) : cn (G1 L xs r j) := fun i _ => by
  unfold G1
  by_cases e : j < r
  · rw [if_pos e]
    exact fairI_cn _
  · rw [if_neg e]
    decide
theorem G2_cn {L : Nat} {xs : Nat → Int32} : ∀ n j, cn (G2 L xs n j) := by
  intro n
  induction n with
  | zero => exact G1_cn 3
  | succ n ih =>
    intro j
    show cn (va_up (G2 L xs n) (pj n) (upd (G2 L xs n (pj n)) ((xs (6 + 2 * n)).toBitVec.toNat % 2 ^ 8) (fairI (xs (6 + 2 * n + 1)))) j)
    by_cases e : j = pj n
    · rw [e, va_up_self]
      intro i hi
      by_cases e2 : i = (xs (6 + 2 * n)).toBitVec.toNat % 2 ^ 8
      · rw [e2, pk_us]
        exact fairI_cn _
      · rw [pk_un e2]
        exact ih _ i hi
    · rw [va_up_ne _ _ e]
      exact ih j
theorem thF_cn {L : Nat} {xs : Nat → Int32} (j : Nat) : cn (thF L xs j) := by
  unfold thF
  by_cases e : j = 3
  · rw [e, va_up_self]
    exact fun i _ => fairI_cn _
  · rw [va_up_ne _ _ e]
    exact G2_cn _ j
theorem un_eq (k : Nat) : upd (spI 0 0) k (fairI 1) = un k := funext fun i => by
  unfold upd un
  by_cases e : i = k
  · rw [if_pos e, if_pos e]
    decide
  · rw [if_neg e, if_neg e]
    show fairI (0 + nI i * 0) = 0
    rw [Int32.mul_zero]
    decide
theorem start_K {s : State} {b : Nat} (hts0 : ∀ w ∈ lw_tbl, w.before #[Value.ref b] s = true) : ∃ (D : va_G) (cO cI : ClassId), xK D cO cI s := by
  obtain ⟨cC, iS, hKn⟩ := u_known (C := RX1) (T := TX1) (N := 1) (n := 1) hts0 (fun w h => lw_all_tbl (in_X1 w h)) (hts0 _ (lw_all_tbl q63))
  obtain ⟨comp, cO, kO, h1, h2, h3, h4, h5⟩ := arrayOverA_spec (hts0 _ q71)
  obtain ⟨cI, kI, compI, g1, g2, g3⟩ := Cond.arrayClass_spec (hts0 _ (lw_all_tbl q47))
  refine ⟨(fun _ => cC, fun _ => iS), cO, cI, ⟨fun c q hq => ?_, fun k q hk => ?_⟩, xa_AO.of (hts0 _ q71)⟩
  · match c, hq with
    | 0, hq => cases hq; exact hKn
    | c + 1, hq => simp [vwCl] at hq
  · match k, hk with
    | 0, hk => cases hk; exact ⟨fun n z => ⟨(fun k h => by cases h), kO, h3, comp, h4⟩, h5⟩
    | 1, hk => cases hk; exact ⟨fun n z => ⟨(fun k h => by cases h), kI, g2, compI, g3⟩, g1⟩
    | k + 2, hk => simp at hk
def zC (j : Nat) : Cond := Cond.eq (.elem (.static "Ntt" "nttZetas" "[I") (.int (Int32.ofNat j))) (.int (zt j))
set_option maxRecDepth 100000 in
theorem zC_run : (List.range 256).map zC = ((flatC (Jvm.Cond.and given_1 narrow_1)).drop 7).take 256 := by decide +kernel
set_option maxRecDepth 100000 in
theorem start_Z {s : State} {b : Nat} (hts0 : ∀ w ∈ lw_tbl, w.before #[Value.ref b] s = true) (hgv : (Jvm.Cond.and given_1 narrow_1).before #[Value.ref b] s = true) {A : Nat → Prop} (hA : ∀ a : Nat, a < s.heap.size → ¬ A a) : xZ A s s.heap := by
  have hs := flat_of_before _ hgv
  have harr : (Cond.arrayOf (.static "Ntt" "nttZetas" "[I") .int).before #[Value.ref b] s = true := hs _ (List.mem_of_getElem? (i := 5) (by decide +kernel))
  have hlen : (Cond.eq (.length (.static "Ntt" "nttZetas" "[I")) (.int 256)).before #[Value.ref b] s = true := hs _ (List.mem_of_getElem? (i := 6) (by decide +kernel))
  obtain ⟨t, ht, hT⟩ := va_Tof (tm := .static "Ntt" "nttZetas" "[I") (ty := .int) (N := 256) (f := fun k => .int (zt k)) (A := A) (by decide) harr (va_eqt hlen) (fun j hj => va_eqt (hs _ (va_run zC_run j hj))) hA
  exact ⟨t, va_Zref (hts0 _ q25) (hts0 _ (lw_all_tbl q3)) ht hA, hT⟩
end START
section WHOLE
set_option maxHeartbeats 4000000 in
set_option maxRecDepth 100000 in
theorem whole_start {p : Program} {e : Env} {s : State} {m : MethodId} {below : List Frame} {meth : Method} {c : Code} (l : Launch) (hflags : l.flags = flags0) {b L : Nat} {xs : Nat → Int32} (hL : L ≤ 24) (C0 : lw_At p s m meth c b L xs) : W p l e room_1 s m #[Value.ref b] below meth c s.heap [] 0 0 (lw_Z below #[Value.ref b] s) (entryFrame m ([Value.ref b] : List Value).toArray 8) := by
  obtain ⟨hx, hb, hr, hml, hown, hts0, hX0, hbl, hlocks, hgv⟩ := C0
  have hts : ∀ w ∈ lw_all, w.before ([.ref b] : List Value).toArray s = true := fun w h => hts0 w (lw_all_tbl h)
  have hown : s.vm.findClass RX0 = some m.cls := hown
  obtain ⟨D, cO, cI, hK⟩ := start_K hts0
  obtain ⟨A, hAe⟩ : ∃ A : Nat → Prop, A = fun q => s.heap.size ≤ q := ⟨_, rfl⟩
  have hA : ∀ q, s.heap.size ≤ q → A q := fun q h => by rw [hAe]; exact h
  have hA2 : ∀ q, A q → s.heap.size ≤ q := fun q h => by rw [hAe] at h; exact h
  have hbA : ¬ A b := fun h => absurd (hA2 b h) (by omega)
  have hZ0 : xZ A s s.heap := start_Z hts0 hgv (fun a h1 h2 => absurd (hA2 a h2) (by omega))
  clear hAe
  have hS : va_S A s.heap s.heap [] := va_S.rf
  have hP : va_P D vwCl [] s.heap := fun k q hq => by simp at hq
  have hD : va_D A [] := ⟨fun i j x y hx => by simp at hx, fun k q hq => by simp at hq⟩
  have hl := lv_entry ([.ref b]) (n := 8) (Nat.le_of_ble_eq_true rfl)
  rw [lg_entry_eq]
  generalize (lg_sl ([.ref b]) ++ List.replicate (8 - (lg_sl ([.ref b])).length) Slot.unset).toArray = ls at hl ⊢
  have hl : lv_has ls 8 [(0, .ref b)] := hl
  have cT := thF_cn (L := L) (xs := xs)
  refine lv_aload_n hx hb dL_law_0 rfl (lv_at hl 0 rfl) ?_
  refine k_three (w := []) ⟨hx, hb, hml, hown, hts⟩ ⟨Nat.le_of_ble_eq_true rfl, Nat.le_of_ble_eq_true rfl⟩ hK (hX0.kept (hS.2.1 b hbl hbA)) hL hP hD hS hA hl.1 (Nat.le_of_ble_eq_true rfl) dL_law_1 ⟨Nat.le_of_ble_eq_true rfl, Nat.le_of_ble_eq_true rfl⟩ (fun h1 g1 R1 H locs hP hD hS => ?_)
  refine lv_astore_n (lv' := [(1, .ref h1), (0, .ref b)]) hx hb dL_law_4 rfl hl (by decide) rfl (fun ls hl => ?_)
  refine lv_aload_n hx hb dL_law_5 rfl (lv_at hl 1 rfl) ?_
  refine k_three (w := rg cO cI h1 g1 R1 (thF L xs) ++ []) ⟨hx, hb, hml, hown, hts⟩ ⟨Nat.le_of_ble_eq_true rfl, Nat.le_of_ble_eq_true rfl⟩ hK (hX0.kept (hS.2.1 b hbl hbA)) hL hP hD hS hA hl.1 (Nat.le_of_ble_eq_true rfl) dL_law_6 ⟨Nat.le_of_ble_eq_true rfl, Nat.le_of_ble_eq_true rfl⟩ (fun h2 g2 R2 H locs hP hD hS => ?_)
  refine lv_astore_n (lv' := [(2, .ref h2), (1, .ref h1), (0, .ref b)]) hx hb dL_law_9 rfl hl (by decide) rfl (fun ls hl => ?_)
  refine lv_aload_n hx hb dL_law_10 rfl (lv_at hl 2 rfl) ?_
  refine k_three (w := rg cO cI h2 g2 R2 (thF L xs) ++ (rg cO cI h1 g1 R1 (thF L xs) ++ [])) ⟨hx, hb, hml, hown, hts⟩ ⟨Nat.le_of_ble_eq_true rfl, Nat.le_of_ble_eq_true rfl⟩ hK (hX0.kept (hS.2.1 b hbl hbA)) hL hP hD hS hA hl.1 (Nat.le_of_ble_eq_true rfl) dL_law_11 ⟨Nat.le_of_ble_eq_true rfl, Nat.le_of_ble_eq_true rfl⟩ (fun h3 g3 R3 H locs hP hD hS => ?_)
  refine lv_astore_n (lv' := [(3, .ref h3), (2, .ref h2), (1, .ref h1), (0, .ref b)]) hx hb dL_law_14 rfl hl (by decide) rfl (fun ls hl => ?_)
  refine lv_aload_n hx hb dL_law_15 rfl (lv_at hl 3 rfl) ?_
  refine k_three (w := rg cO cI h3 g3 R3 (thF L xs) ++ (rg cO cI h2 g2 R2 (thF L xs) ++ (rg cO cI h1 g1 R1 (thF L xs) ++ []))) ⟨hx, hb, hml, hown, hts⟩ ⟨Nat.le_of_ble_eq_true rfl, Nat.le_of_ble_eq_true rfl⟩ hK (hX0.kept (hS.2.1 b hbl hbA)) hL hP hD hS hA hl.1 (Nat.le_of_ble_eq_true rfl) dL_law_16 ⟨Nat.le_of_ble_eq_true rfl, Nat.le_of_ble_eq_true rfl⟩ (fun h4 g4 R4 H locs hP hD hS => ?_)
  refine lv_astore (lv' := [(4, .ref h4), (3, .ref h3), (2, .ref h2), (1, .ref h1), (0, .ref b)]) hx hb dL_law_19 hl (by decide) rfl (fun ls hl => ?_)
  refine lv_iconst (v := 3) hx hb dL_law_21 (by decide) ?_
  refine lv_sipush (v := 256) hx hb dL_law_22 (by decide) ?_
  refine xa_mnew hx hb hown (hts _ q79) (hts _ q47) hK hP hD hS hA (N := 3) (by decide) rfl (Nat.le_of_ble_eq_true rfl) (Nat.le_of_ble_eq_true rfl) dL_law_25 (fun q H hP hD hS => ?_)
  have hP := hP.sub (ws' := ow cO cI q (fun _ _ => 0) ++ (rg cO cI h1 g1 R1 (thF L xs) ++ (rg cO cI h2 g2 R2 (thF L xs) ++ (rg cO cI h3 g3 R3 (thF L xs) ++ (rg cO cI h4 g4 R4 (thF L xs) ++ []))))) [24, 25, 26, 27, 18, 19, 20, 21, 22, 23, 12, 13, 14, 15, 16, 17, 6, 7, 8, 9, 10, 11, 0, 1, 2, 3, 4, 5] rfl
  have hD := hD.sub (ws' := ow cO cI q (fun _ _ => 0) ++ (rg cO cI h1 g1 R1 (thF L xs) ++ (rg cO cI h2 g2 R2 (thF L xs) ++ (rg cO cI h3 g3 R3 (thF L xs) ++ (rg cO cI h4 g4 R4 (thF L xs) ++ []))))) [24, 25, 26, 27, 18, 19, 20, 21, 22, 23, 12, 13, 14, 15, 16, 17, 6, 7, 8, 9, 10, 11, 0, 1, 2, 3, 4, 5] (by decide) rfl
  refine lv_astore (lv' := [(5, .ref q), (4, .ref h4), (3, .ref h3), (2, .ref h2), (1, .ref h1), (0, .ref b)]) hx hb dL_law_29 hl (by decide) rfl (fun ls hl => ?_)
  refine lv_iconst (v := nI 0) hx hb dL_law_31 (by decide) ?_
  refine lv_istore (lv' := [(6, .int (nI 0)), (5, .ref q), (4, .ref h4), (3, .ref h3), (2, .ref h2), (1, .ref h1), (0, .ref b)]) hx hb dL_law_32 hl (by decide) rfl (fun ls hl => ?_)
  refine lawA hx hb hml hown hts hK hX0 hL hbl hbA ⟨Nat.le_of_ble_eq_true rfl, Nat.le_of_ble_eq_true rfl⟩ (fun H locs ls hP hD hS hl => ?_) 3 0 (by decide) H _ _ (by rw [G1_0]; exact hP) (by rw [G1_0]; exact hD) hS (lv_sub hl [0, 1, 6, 5, 4, 3, 2] rfl)
  refine lv_bipush (v := nI 6) hx hb dL_law_99 (by decide) ?_
  refine lv_istore (lv' := [(6, .int (nI 6)), (5, .ref q), (0, .ref b), (1, .ref h1), (2, .ref h2), (3, .ref h3), (4, .ref h4)]) hx hb dL_law_101 hl (by decide) rfl (fun ls hl => ?_)
  refine lawB hx hb hml hown hts hK hX0 hL hbl hbA ⟨Nat.le_of_ble_eq_true rfl, Nat.le_of_ble_eq_true rfl⟩ (fun H locs ls hP hD hS hl => ?_) ((L - 6) / 2) 0 (by omega) H _ _ hP hD hS (lv_sub hl [0, 1, 2, 3, 4, 5, 6] rfl)
  refine lv_iconst (v := nI 0) hx hb dL_law_148 (by decide) ?_
  refine lv_istore (lv' := [(6, .int (nI 0)), (5, .ref q), (0, .ref b), (1, .ref h1), (2, .ref h2), (3, .ref h3), (4, .ref h4)]) hx hb dL_law_149 hl (by decide) rfl (fun ls hl => ?_)
  refine lawC hx hb hml hown hts hK hX0 hL hbl hbA ⟨Nat.le_of_ble_eq_true rfl, Nat.le_of_ble_eq_true rfl⟩ (fun r hr i hi => ?_) hP (fun ls hl => ?_) 3 0 (by decide) _ (lv_sub hl [0, 1, 2, 3, 4, 5, 6] rfl)
  · unfold thF
    rw [va_up_ne _ _ (by omega)]
  have hP := hP.sub (ws' := rg cO cI h3 g3 R3 (thF L xs) ++ (rg cO cI h4 g4 R4 (thF L xs) ++ (rg cO cI h1 g1 R1 (thF L xs) ++ (rg cO cI h2 g2 R2 (thF L xs) ++ [])))) [16, 17, 18, 19, 20, 21, 22, 23, 24, 25, 26, 27, 4, 5, 6, 7, 8, 9, 10, 11, 12, 13, 14, 15] rfl
  have hD := hD.sub (ws' := rg cO cI h3 g3 R3 (thF L xs) ++ (rg cO cI h4 g4 R4 (thF L xs) ++ (rg cO cI h1 g1 R1 (thF L xs) ++ (rg cO cI h2 g2 R2 (thF L xs) ++ [])))) [16, 17, 18, 19, 20, 21, 22, 23, 24, 25, 26, 27, 4, 5, 6, 7, 8, 9, 10, 11, 12, 13, 14, 15] (by decide) rfl
  refine lv_aload_n hx hb dL_law_201 rfl (lv_at hl 4 rfl) ?_
  refine lv_iconst (v := 0) hx hb dL_law_202 (by decide) ?_
  refine lv_iconst (v := 1) hx hb dL_law_203 (by decide) ?_
  refine k_add (w := rg cO cI h4 g4 R4 (thF L xs) ++ (rg cO cI h1 g1 R1 (thF L xs) ++ (rg cO cI h2 g2 R2 (thF L xs) ++ []))) ⟨hx, hb, hml, hown, hts⟩ ⟨Nat.le_of_ble_eq_true rfl, Nat.le_of_ble_eq_true rfl⟩ hK hP hD hS hA hl.1 (Nat.le_of_ble_eq_true rfl) (j := 0) (k := 1) (by decide) (by decide) (by decide) (by decide) dL_law_204 ⟨Nat.le_of_ble_eq_true rfl, Nat.le_of_ble_eq_true rfl⟩ (fun z H locs hP hD hS => ?_)
  obtain ⟨F3_1, eF⟩ : ∃ X, X = va_up (thF L xs) 0 (addI (thF L xs 0) (thF L xs 1)) := ⟨_, rfl⟩
  obtain ⟨R3_1, eR⟩ : ∃ X, X = va_up R3 0 z := ⟨_, rfl⟩
  rw [← eF, ← eR] at hP hD
  have f3_1_0 : F3_1 0 = addI (thF L xs 0) (thF L xs 1) := by rw [eF, va_up_self]
  have f3_1_1 : F3_1 1 = thF L xs 1 := by rw [eF, va_up_ne _ _ (by decide)]
  have f3_1_2 : F3_1 2 = thF L xs 2 := by rw [eF, va_up_ne _ _ (by decide)]
  have f3_1_3 : F3_1 3 = thF L xs 3 := by rw [eF, va_up_ne _ _ (by decide)]
  clear eF eR
  have hP := hP.sub (ws' := rg cO cI h4 g4 R4 (thF L xs) ++ (rg cO cI h3 g3 R3_1 F3_1 ++ (rg cO cI h1 g1 R1 (thF L xs) ++ (rg cO cI h2 g2 R2 (thF L xs) ++ [])))) [6, 7, 8, 9, 10, 11, 0, 1, 2, 3, 4, 5, 12, 13, 14, 15, 16, 17, 18, 19, 20, 21, 22, 23] rfl
  have hD := hD.sub (ws' := rg cO cI h4 g4 R4 (thF L xs) ++ (rg cO cI h3 g3 R3_1 F3_1 ++ (rg cO cI h1 g1 R1 (thF L xs) ++ (rg cO cI h2 g2 R2 (thF L xs) ++ [])))) [6, 7, 8, 9, 10, 11, 0, 1, 2, 3, 4, 5, 12, 13, 14, 15, 16, 17, 18, 19, 20, 21, 22, 23] (by decide) rfl
  refine lv_aload hx hb dL_law_207 (lv_at hl 5 rfl) ?_
  refine lv_iconst (v := 1) hx hb dL_law_209 (by decide) ?_
  refine lv_iconst (v := 0) hx hb dL_law_210 (by decide) ?_
  refine k_add (w := rg cO cI h3 g3 R3_1 F3_1 ++ (rg cO cI h1 g1 R1 (thF L xs) ++ (rg cO cI h2 g2 R2 (thF L xs) ++ []))) ⟨hx, hb, hml, hown, hts⟩ ⟨Nat.le_of_ble_eq_true rfl, Nat.le_of_ble_eq_true rfl⟩ hK hP hD hS hA hl.1 (Nat.le_of_ble_eq_true rfl) (j := 1) (k := 0) (by decide) (by decide) (by decide) (by decide) dL_law_211 ⟨Nat.le_of_ble_eq_true rfl, Nat.le_of_ble_eq_true rfl⟩ (fun z H locs hP hD hS => ?_)
  obtain ⟨F4_1, eF⟩ : ∃ X, X = va_up (thF L xs) 1 (addI (thF L xs 1) (thF L xs 0)) := ⟨_, rfl⟩
  obtain ⟨R4_1, eR⟩ : ∃ X, X = va_up R4 1 z := ⟨_, rfl⟩
  rw [← eF, ← eR] at hP hD
  have f4_1_0 : F4_1 0 = thF L xs 0 := by rw [eF, va_up_ne _ _ (by decide)]
  have f4_1_1 : F4_1 1 = addI (thF L xs 1) (thF L xs 0) := by rw [eF, va_up_self]
  have f4_1_2 : F4_1 2 = thF L xs 2 := by rw [eF, va_up_ne _ _ (by decide)]
  have f4_1_3 : F4_1 3 = thF L xs 3 := by rw [eF, va_up_ne _ _ (by decide)]
  clear eF eR
  refine lv_iconst (v := nI 0) hx hb dL_law_214 (by decide) ?_
  refine lv_istore (lv' := [(6, .int (nI 0)), (5, .ref q), (0, .ref b), (1, .ref h1), (2, .ref h2), (3, .ref h3), (4, .ref h4)]) hx hb dL_law_215 hl (by decide) rfl (fun ls hl => ?_)
  refine lawD hx hb hml hown hts hK hX0 hL hbl hbA ⟨Nat.le_of_ble_eq_true rfl, Nat.le_of_ble_eq_true rfl⟩ (fun i hi => ?_) (fun i hi => ?_) (hP.sub (ws' := rg cO cI h1 g1 R1 (thF L xs)) [12, 13, 14, 15, 16, 17] rfl) (hP.sub (ws' := rg cO cI h3 g3 R3_1 F3_1) [6, 7, 8, 9, 10, 11] rfl) (hP.sub (ws' := rg cO cI h4 g4 R4_1 F4_1) [0, 1, 2, 3, 4, 5] rfl) (fun ls hl => ?_) 256 0 (by decide) _ (lv_sub hl [0, 2, 3, 4, 5, 6] rfl)
  · rw [f3_1_0]
    exact law_sum (cT 0) (cT 1) i hi
  · rw [f4_1_1]
    exact law_sum2 (cT 0) (cT 1) i hi
  have hP := hP.sub (ws' := rg cO cI h1 g1 R1 (thF L xs) ++ (rg cO cI h2 g2 R2 (thF L xs) ++ [])) [12, 13, 14, 15, 16, 17, 18, 19, 20, 21, 22, 23] rfl
  have hD := hD.sub (ws' := rg cO cI h1 g1 R1 (thF L xs) ++ (rg cO cI h2 g2 R2 (thF L xs) ++ [])) [12, 13, 14, 15, 16, 17, 18, 19, 20, 21, 22, 23] (by decide) rfl
  refine lv_aload_n hx hb dL_law_278 rfl (lv_at hl 1 rfl) ?_
  refine lv_iconst (v := 3) hx hb dL_law_279 (by decide) ?_
  refine lv_iconst (v := 0) hx hb dL_law_280 (by decide) ?_
  refine lv_iconst (v := 1) hx hb dL_law_281 (by decide) ?_
  refine k_mul (w := rg cO cI h2 g2 R2 (thF L xs) ++ []) ⟨hx, hb, hml, hown, hts⟩ ⟨Nat.le_of_ble_eq_true rfl, Nat.le_of_ble_eq_true rfl⟩ hK hP hD hS hA hl.1 (Nat.le_of_ble_eq_true rfl) (j := 3) (jp := 0) (jq := 1) (by decide) (by decide) (by decide) (by decide) (by decide) (by decide) (hZ0.kept hS.2.1) dL_law_282 ⟨Nat.le_of_ble_eq_true rfl, Nat.le_of_ble_eq_true rfl⟩ (fun z H locs hP hD hS => ?_)
  obtain ⟨F1_1, eF⟩ : ∃ X, X = va_up (thF L xs) 3 (mulI ((thF L xs) 0) ((thF L xs) 1)) := ⟨_, rfl⟩
  obtain ⟨R1_1, eR⟩ : ∃ X, X = va_up R1 3 z := ⟨_, rfl⟩
  rw [← eF, ← eR] at hP hD
  have f1_1_0 : F1_1 0 = thF L xs 0 := by rw [eF, va_up_ne _ _ (by decide)]
  have f1_1_1 : F1_1 1 = thF L xs 1 := by rw [eF, va_up_ne _ _ (by decide)]
  have f1_1_2 : F1_1 2 = thF L xs 2 := by rw [eF, va_up_ne _ _ (by decide)]
  have f1_1_3 : F1_1 3 = mulI (thF L xs 0) (thF L xs 1) := by rw [eF, va_up_self]
  clear eF eR
  have hP := hP.sub (ws' := rg cO cI h2 g2 R2 (thF L xs) ++ (rg cO cI h1 g1 R1_1 F1_1 ++ [])) [6, 7, 8, 9, 10, 11, 0, 1, 2, 3, 4, 5] rfl
  have hD := hD.sub (ws' := rg cO cI h2 g2 R2 (thF L xs) ++ (rg cO cI h1 g1 R1_1 F1_1 ++ [])) [6, 7, 8, 9, 10, 11, 0, 1, 2, 3, 4, 5] (by decide) rfl
  refine lv_aload_n hx hb dL_law_285 rfl (lv_at hl 2 rfl) ?_
  refine lv_iconst (v := 3) hx hb dL_law_286 (by decide) ?_
  refine lv_iconst (v := 1) hx hb dL_law_287 (by decide) ?_
  refine lv_iconst (v := 0) hx hb dL_law_288 (by decide) ?_
  refine k_mul (w := rg cO cI h1 g1 R1_1 F1_1 ++ []) ⟨hx, hb, hml, hown, hts⟩ ⟨Nat.le_of_ble_eq_true rfl, Nat.le_of_ble_eq_true rfl⟩ hK hP hD hS hA hl.1 (Nat.le_of_ble_eq_true rfl) (j := 3) (jp := 1) (jq := 0) (by decide) (by decide) (by decide) (by decide) (by decide) (by decide) (hZ0.kept hS.2.1) dL_law_289 ⟨Nat.le_of_ble_eq_true rfl, Nat.le_of_ble_eq_true rfl⟩ (fun z H locs hP hD hS => ?_)
  obtain ⟨F2_1, eF⟩ : ∃ X, X = va_up (thF L xs) 3 (mulI ((thF L xs) 1) ((thF L xs) 0)) := ⟨_, rfl⟩
  obtain ⟨R2_1, eR⟩ : ∃ X, X = va_up R2 3 z := ⟨_, rfl⟩
  rw [← eF, ← eR] at hP hD
  have f2_1_0 : F2_1 0 = thF L xs 0 := by rw [eF, va_up_ne _ _ (by decide)]
  have f2_1_1 : F2_1 1 = thF L xs 1 := by rw [eF, va_up_ne _ _ (by decide)]
  have f2_1_2 : F2_1 2 = thF L xs 2 := by rw [eF, va_up_ne _ _ (by decide)]
  have f2_1_3 : F2_1 3 = mulI (thF L xs 1) (thF L xs 0) := by rw [eF, va_up_self]
  clear eF eR
  have hP := hP.sub (ws' := rg cO cI h1 g1 R1_1 F1_1 ++ (rg cO cI h2 g2 R2_1 F2_1 ++ [])) [6, 7, 8, 9, 10, 11, 0, 1, 2, 3, 4, 5] rfl
  have hD := hD.sub (ws' := rg cO cI h1 g1 R1_1 F1_1 ++ (rg cO cI h2 g2 R2_1 F2_1 ++ [])) [6, 7, 8, 9, 10, 11, 0, 1, 2, 3, 4, 5] (by decide) rfl
  refine lv_aload_n hx hb dL_law_292 rfl (lv_at hl 1 rfl) ?_
  refine lv_iconst (v := 3) hx hb dL_law_293 (by decide) ?_
  refine lv_aload_n hx hb dL_law_294 rfl (lv_at hl 2 rfl) ?_
  refine lv_iconst (v := 3) hx hb dL_law_295 (by decide) ?_
  refine k_same ⟨hx, hb, hml, hown, hts⟩ ⟨Nat.le_of_ble_eq_true rfl, Nat.le_of_ble_eq_true rfl⟩ hK (hP.sub (ws' := rg cO cI h1 g1 R1_1 F1_1) [0, 1, 2, 3, 4, 5] rfl) (hP.sub (ws' := rg cO cI h2 g2 R2_1 F2_1) [6, 7, 8, 9, 10, 11] rfl) (j1 := 3) (by decide) (by decide) (j2 := 3) (by decide) (by decide) (fun i hi => ?_) hl.1 (Nat.le_of_ble_eq_true rfl) dL_law_296 ⟨Nat.le_of_ble_eq_true rfl, Nat.le_of_ble_eq_true rfl⟩ ?_
  · rw [f1_1_3, f2_1_3]
    exact law_comm (cT 0) (cT 1) i hi
  refine lv_if_ne (tgt := 304) hx hb dL_law_299 (by decide) (fun _ => ?_) (fun c9 => absurd c9 (by decide))
  refine lv_aload_n hx hb dL_law_304 rfl (lv_at hl 1 rfl) ?_
  refine lv_iconst (v := 3) hx hb dL_law_305 (by decide) ?_
  refine lv_iconst (v := 3) hx hb dL_law_306 (by decide) ?_
  refine lv_iconst (v := 2) hx hb dL_law_307 (by decide) ?_
  refine k_mul (w := rg cO cI h2 g2 R2_1 F2_1 ++ []) ⟨hx, hb, hml, hown, hts⟩ ⟨Nat.le_of_ble_eq_true rfl, Nat.le_of_ble_eq_true rfl⟩ hK hP hD hS hA hl.1 (Nat.le_of_ble_eq_true rfl) (j := 3) (jp := 3) (jq := 2) (by decide) (by decide) (by decide) (by decide) (by decide) (by decide) (hZ0.kept hS.2.1) dL_law_308 ⟨Nat.le_of_ble_eq_true rfl, Nat.le_of_ble_eq_true rfl⟩ (fun z H locs hP hD hS => ?_)
  obtain ⟨F1_2, eF⟩ : ∃ X, X = va_up F1_1 3 (mulI (F1_1 3) (F1_1 2)) := ⟨_, rfl⟩
  obtain ⟨R1_2, eR⟩ : ∃ X, X = va_up R1_1 3 z := ⟨_, rfl⟩
  rw [← eF, ← eR] at hP hD
  have f1_2_0 : F1_2 0 = thF L xs 0 := by rw [eF, va_up_ne _ _ (by decide)]; exact f1_1_0
  have f1_2_1 : F1_2 1 = thF L xs 1 := by rw [eF, va_up_ne _ _ (by decide)]; exact f1_1_1
  have f1_2_2 : F1_2 2 = thF L xs 2 := by rw [eF, va_up_ne _ _ (by decide)]; exact f1_1_2
  have f1_2_3 : F1_2 3 = mulI (mulI (thF L xs 0) (thF L xs 1)) (thF L xs 2) := by rw [eF, va_up_self, f1_1_3, f1_1_2]
  clear eF eR
  have hP := hP.sub (ws' := rg cO cI h2 g2 R2_1 F2_1 ++ (rg cO cI h1 g1 R1_2 F1_2 ++ [])) [6, 7, 8, 9, 10, 11, 0, 1, 2, 3, 4, 5] rfl
  have hD := hD.sub (ws' := rg cO cI h2 g2 R2_1 F2_1 ++ (rg cO cI h1 g1 R1_2 F1_2 ++ [])) [6, 7, 8, 9, 10, 11, 0, 1, 2, 3, 4, 5] (by decide) rfl
  refine lv_aload_n hx hb dL_law_311 rfl (lv_at hl 2 rfl) ?_
  refine lv_iconst (v := 3) hx hb dL_law_312 (by decide) ?_
  refine lv_iconst (v := 1) hx hb dL_law_313 (by decide) ?_
  refine lv_iconst (v := 2) hx hb dL_law_314 (by decide) ?_
  refine k_mul (w := rg cO cI h1 g1 R1_2 F1_2 ++ []) ⟨hx, hb, hml, hown, hts⟩ ⟨Nat.le_of_ble_eq_true rfl, Nat.le_of_ble_eq_true rfl⟩ hK hP hD hS hA hl.1 (Nat.le_of_ble_eq_true rfl) (j := 3) (jp := 1) (jq := 2) (by decide) (by decide) (by decide) (by decide) (by decide) (by decide) (hZ0.kept hS.2.1) dL_law_315 ⟨Nat.le_of_ble_eq_true rfl, Nat.le_of_ble_eq_true rfl⟩ (fun z H locs hP hD hS => ?_)
  obtain ⟨F2_2, eF⟩ : ∃ X, X = va_up F2_1 3 (mulI (F2_1 1) (F2_1 2)) := ⟨_, rfl⟩
  obtain ⟨R2_2, eR⟩ : ∃ X, X = va_up R2_1 3 z := ⟨_, rfl⟩
  rw [← eF, ← eR] at hP hD
  have f2_2_0 : F2_2 0 = thF L xs 0 := by rw [eF, va_up_ne _ _ (by decide)]; exact f2_1_0
  have f2_2_1 : F2_2 1 = thF L xs 1 := by rw [eF, va_up_ne _ _ (by decide)]; exact f2_1_1
  have f2_2_2 : F2_2 2 = thF L xs 2 := by rw [eF, va_up_ne _ _ (by decide)]; exact f2_1_2
  have f2_2_3 : F2_2 3 = mulI (thF L xs 1) (thF L xs 2) := by rw [eF, va_up_self, f2_1_1, f2_1_2]
  clear eF eR
  refine lv_aload_n hx hb dL_law_318 rfl (lv_at hl 2 rfl) ?_
  refine lv_iconst (v := 3) hx hb dL_law_319 (by decide) ?_
  refine lv_iconst (v := 0) hx hb dL_law_320 (by decide) ?_
  refine lv_iconst (v := 3) hx hb dL_law_321 (by decide) ?_
  refine k_mul (w := rg cO cI h1 g1 R1_2 F1_2 ++ []) ⟨hx, hb, hml, hown, hts⟩ ⟨Nat.le_of_ble_eq_true rfl, Nat.le_of_ble_eq_true rfl⟩ hK hP hD hS hA hl.1 (Nat.le_of_ble_eq_true rfl) (j := 3) (jp := 0) (jq := 3) (by decide) (by decide) (by decide) (by decide) (by decide) (by decide) (hZ0.kept hS.2.1) dL_law_322 ⟨Nat.le_of_ble_eq_true rfl, Nat.le_of_ble_eq_true rfl⟩ (fun z H locs hP hD hS => ?_)
  obtain ⟨F2_3, eF⟩ : ∃ X, X = va_up F2_2 3 (mulI (F2_2 0) (F2_2 3)) := ⟨_, rfl⟩
  obtain ⟨R2_3, eR⟩ : ∃ X, X = va_up R2_2 3 z := ⟨_, rfl⟩
  rw [← eF, ← eR] at hP hD
  have f2_3_0 : F2_3 0 = thF L xs 0 := by rw [eF, va_up_ne _ _ (by decide)]; exact f2_2_0
  have f2_3_1 : F2_3 1 = thF L xs 1 := by rw [eF, va_up_ne _ _ (by decide)]; exact f2_2_1
  have f2_3_2 : F2_3 2 = thF L xs 2 := by rw [eF, va_up_ne _ _ (by decide)]; exact f2_2_2
  have f2_3_3 : F2_3 3 = mulI (thF L xs 0) (mulI (thF L xs 1) (thF L xs 2)) := by rw [eF, va_up_self, f2_2_0, f2_2_3]
  clear eF eR
  have hP := hP.sub (ws' := rg cO cI h1 g1 R1_2 F1_2 ++ (rg cO cI h2 g2 R2_3 F2_3 ++ [])) [6, 7, 8, 9, 10, 11, 0, 1, 2, 3, 4, 5] rfl
  have hD := hD.sub (ws' := rg cO cI h1 g1 R1_2 F1_2 ++ (rg cO cI h2 g2 R2_3 F2_3 ++ [])) [6, 7, 8, 9, 10, 11, 0, 1, 2, 3, 4, 5] (by decide) rfl
  refine lv_aload_n hx hb dL_law_325 rfl (lv_at hl 1 rfl) ?_
  refine lv_iconst (v := 3) hx hb dL_law_326 (by decide) ?_
  refine lv_aload_n hx hb dL_law_327 rfl (lv_at hl 2 rfl) ?_
  refine lv_iconst (v := 3) hx hb dL_law_328 (by decide) ?_
  refine k_same ⟨hx, hb, hml, hown, hts⟩ ⟨Nat.le_of_ble_eq_true rfl, Nat.le_of_ble_eq_true rfl⟩ hK (hP.sub (ws' := rg cO cI h1 g1 R1_2 F1_2) [0, 1, 2, 3, 4, 5] rfl) (hP.sub (ws' := rg cO cI h2 g2 R2_3 F2_3) [6, 7, 8, 9, 10, 11] rfl) (j1 := 3) (by decide) (by decide) (j2 := 3) (by decide) (by decide) (fun i hi => ?_) hl.1 (Nat.le_of_ble_eq_true rfl) dL_law_329 ⟨Nat.le_of_ble_eq_true rfl, Nat.le_of_ble_eq_true rfl⟩ ?_
  · rw [f1_2_3, f2_3_3]
    exact law_assoc (cT 0) (cT 1) (cT 2) i hi
  refine lv_if_ne (tgt := 337) hx hb dL_law_332 (by decide) (fun _ => ?_) (fun c9 => absurd c9 (by decide))
  refine lv_aload_n hx hb dL_law_337 rfl (lv_at hl 1 rfl) ?_
  refine lv_iconst (v := 3) hx hb dL_law_338 (by decide) ?_
  refine lv_iconst (v := 0) hx hb dL_law_339 (by decide) ?_
  refine lv_iconst (v := 0) hx hb dL_law_340 (by decide) ?_
  refine k_spread (w := rg cO cI h2 g2 R2_3 F2_3 ++ []) ⟨hx, hb, hml, hown, hts⟩ ⟨Nat.le_of_ble_eq_true rfl, Nat.le_of_ble_eq_true rfl⟩ hK hP hD hS hA hl.1 (Nat.le_of_ble_eq_true rfl) (j := 3) (by decide) (by decide) dL_law_341 ⟨Nat.le_of_ble_eq_true rfl, Nat.le_of_ble_eq_true rfl⟩ (fun H locs hP hD hS => ?_)
  obtain ⟨F1_3, eF⟩ : ∃ X, X = va_up F1_2 3 (spI 0 0) := ⟨_, rfl⟩
  rw [← eF] at hP hD
  have f1_3_0 : F1_3 0 = thF L xs 0 := by rw [eF, va_up_ne _ _ (by decide)]; exact f1_2_0
  have f1_3_1 : F1_3 1 = thF L xs 1 := by rw [eF, va_up_ne _ _ (by decide)]; exact f1_2_1
  have f1_3_2 : F1_3 2 = thF L xs 2 := by rw [eF, va_up_ne _ _ (by decide)]; exact f1_2_2
  have f1_3_3 : F1_3 3 = spI 0 0 := by rw [eF, va_up_self]
  clear eF
  refine lv_aload_n hx hb dL_law_344 rfl (lv_at hl 1 rfl) ?_
  refine lv_iconst (v := 3) hx hb dL_law_345 (by decide) ?_
  refine lv_iconst (v := 0) hx hb dL_law_346 (by decide) ?_
  refine lv_iconst (v := 1) hx hb dL_law_347 (by decide) ?_
  refine k_put (w := rg cO cI h2 g2 R2_3 F2_3 ++ []) ⟨hx, hb, hml, hown, hts⟩ ⟨Nat.le_of_ble_eq_true rfl, Nat.le_of_ble_eq_true rfl⟩ hK hP hD hS hA hl.1 (Nat.le_of_ble_eq_true rfl) (j := 3) (k := 0) (by decide) (by decide) (by decide) (by decide) dL_law_348 ⟨Nat.le_of_ble_eq_true rfl, Nat.le_of_ble_eq_true rfl⟩ (fun H locs hP hD hS => ?_)
  obtain ⟨F1_4, eF⟩ : ∃ X, X = va_up F1_3 3 (upd (F1_3 3) 0 (fairI 1)) := ⟨_, rfl⟩
  rw [← eF] at hP hD
  have f1_4_0 : F1_4 0 = thF L xs 0 := by rw [eF, va_up_ne _ _ (by decide)]; exact f1_3_0
  have f1_4_1 : F1_4 1 = thF L xs 1 := by rw [eF, va_up_ne _ _ (by decide)]; exact f1_3_1
  have f1_4_2 : F1_4 2 = thF L xs 2 := by rw [eF, va_up_ne _ _ (by decide)]; exact f1_3_2
  have f1_4_3 : F1_4 3 = un 0 := by rw [eF, va_up_self, f1_3_3, un_eq]
  clear eF
  refine lv_aload_n hx hb dL_law_351 rfl (lv_at hl 1 rfl) ?_
  refine lv_iconst (v := 3) hx hb dL_law_352 (by decide) ?_
  refine lv_iconst (v := 0) hx hb dL_law_353 (by decide) ?_
  refine lv_iconst (v := 3) hx hb dL_law_354 (by decide) ?_
  refine k_mul (w := rg cO cI h2 g2 R2_3 F2_3 ++ []) ⟨hx, hb, hml, hown, hts⟩ ⟨Nat.le_of_ble_eq_true rfl, Nat.le_of_ble_eq_true rfl⟩ hK hP hD hS hA hl.1 (Nat.le_of_ble_eq_true rfl) (j := 3) (jp := 0) (jq := 3) (by decide) (by decide) (by decide) (by decide) (by decide) (by decide) (hZ0.kept hS.2.1) dL_law_355 ⟨Nat.le_of_ble_eq_true rfl, Nat.le_of_ble_eq_true rfl⟩ (fun z H locs hP hD hS => ?_)
  obtain ⟨F1_5, eF⟩ : ∃ X, X = va_up F1_4 3 (mulI (F1_4 0) (F1_4 3)) := ⟨_, rfl⟩
  obtain ⟨R1_5, eR⟩ : ∃ X, X = va_up R1_2 3 z := ⟨_, rfl⟩
  rw [← eF, ← eR] at hP hD
  have f1_5_0 : F1_5 0 = thF L xs 0 := by rw [eF, va_up_ne _ _ (by decide)]; exact f1_4_0
  have f1_5_1 : F1_5 1 = thF L xs 1 := by rw [eF, va_up_ne _ _ (by decide)]; exact f1_4_1
  have f1_5_2 : F1_5 2 = thF L xs 2 := by rw [eF, va_up_ne _ _ (by decide)]; exact f1_4_2
  have f1_5_3 : F1_5 3 = mulI (thF L xs 0) (un 0) := by rw [eF, va_up_self, f1_4_0, f1_4_3]
  clear eF eR
  refine lv_aload_n hx hb dL_law_358 rfl (lv_at hl 1 rfl) ?_
  refine lv_iconst (v := 3) hx hb dL_law_359 (by decide) ?_
  refine lv_aload_n hx hb dL_law_360 rfl (lv_at hl 1 rfl) ?_
  refine lv_iconst (v := 0) hx hb dL_law_361 (by decide) ?_
  refine k_same ⟨hx, hb, hml, hown, hts⟩ ⟨Nat.le_of_ble_eq_true rfl, Nat.le_of_ble_eq_true rfl⟩ hK (hP.sub (ws' := rg cO cI h1 g1 R1_5 F1_5) [0, 1, 2, 3, 4, 5] rfl) (hP.sub (ws' := rg cO cI h1 g1 R1_5 F1_5) [0, 1, 2, 3, 4, 5] rfl) (j1 := 3) (by decide) (by decide) (j2 := 0) (by decide) (by decide) (fun i hi => ?_) hl.1 (Nat.le_of_ble_eq_true rfl) dL_law_362 ⟨Nat.le_of_ble_eq_true rfl, Nat.le_of_ble_eq_true rfl⟩ ?_
  · rw [f1_5_3, f1_5_0]
    exact law_one (cT 0) i hi
  refine lv_if_ne (tgt := 370) hx hb dL_law_365 (by decide) (fun _ => ?_) (fun c9 => absurd c9 (by decide))
  refine lv_aload_n hx hb dL_law_370 rfl (lv_at hl 1 rfl) ?_
  refine lv_iconst (v := 3) hx hb dL_law_371 (by decide) ?_
  refine lv_iconst (v := 0) hx hb dL_law_372 (by decide) ?_
  refine lv_iconst (v := 0) hx hb dL_law_373 (by decide) ?_
  refine k_spread (w := rg cO cI h2 g2 R2_3 F2_3 ++ []) ⟨hx, hb, hml, hown, hts⟩ ⟨Nat.le_of_ble_eq_true rfl, Nat.le_of_ble_eq_true rfl⟩ hK hP hD hS hA hl.1 (Nat.le_of_ble_eq_true rfl) (j := 3) (by decide) (by decide) dL_law_374 ⟨Nat.le_of_ble_eq_true rfl, Nat.le_of_ble_eq_true rfl⟩ (fun H locs hP hD hS => ?_)
  obtain ⟨F1_6, eF⟩ : ∃ X, X = va_up F1_5 3 (spI 0 0) := ⟨_, rfl⟩
  rw [← eF] at hP hD
  have f1_6_0 : F1_6 0 = thF L xs 0 := by rw [eF, va_up_ne _ _ (by decide)]; exact f1_5_0
  have f1_6_1 : F1_6 1 = thF L xs 1 := by rw [eF, va_up_ne _ _ (by decide)]; exact f1_5_1
  have f1_6_2 : F1_6 2 = thF L xs 2 := by rw [eF, va_up_ne _ _ (by decide)]; exact f1_5_2
  have f1_6_3 : F1_6 3 = spI 0 0 := by rw [eF, va_up_self]
  clear eF
  refine lv_aload_n hx hb dL_law_377 rfl (lv_at hl 1 rfl) ?_
  refine lv_iconst (v := 3) hx hb dL_law_378 (by decide) ?_
  refine lv_iconst (v := 1) hx hb dL_law_379 (by decide) ?_
  refine lv_iconst (v := 1) hx hb dL_law_380 (by decide) ?_
  refine k_put (w := rg cO cI h2 g2 R2_3 F2_3 ++ []) ⟨hx, hb, hml, hown, hts⟩ ⟨Nat.le_of_ble_eq_true rfl, Nat.le_of_ble_eq_true rfl⟩ hK hP hD hS hA hl.1 (Nat.le_of_ble_eq_true rfl) (j := 3) (k := 1) (by decide) (by decide) (by decide) (by decide) dL_law_381 ⟨Nat.le_of_ble_eq_true rfl, Nat.le_of_ble_eq_true rfl⟩ (fun H locs hP hD hS => ?_)
  obtain ⟨F1_7, eF⟩ : ∃ X, X = va_up F1_6 3 (upd (F1_6 3) 1 (fairI 1)) := ⟨_, rfl⟩
  rw [← eF] at hP hD
  have f1_7_0 : F1_7 0 = thF L xs 0 := by rw [eF, va_up_ne _ _ (by decide)]; exact f1_6_0
  have f1_7_1 : F1_7 1 = thF L xs 1 := by rw [eF, va_up_ne _ _ (by decide)]; exact f1_6_1
  have f1_7_2 : F1_7 2 = thF L xs 2 := by rw [eF, va_up_ne _ _ (by decide)]; exact f1_6_2
  have f1_7_3 : F1_7 3 = un 1 := by rw [eF, va_up_self, f1_6_3, un_eq]
  clear eF
  refine lv_aload_n hx hb dL_law_384 rfl (lv_at hl 1 rfl) ?_
  refine lv_iconst (v := 3) hx hb dL_law_385 (by decide) ?_
  refine lv_iconst (v := 0) hx hb dL_law_386 (by decide) ?_
  refine lv_iconst (v := 3) hx hb dL_law_387 (by decide) ?_
  refine k_mul (w := rg cO cI h2 g2 R2_3 F2_3 ++ []) ⟨hx, hb, hml, hown, hts⟩ ⟨Nat.le_of_ble_eq_true rfl, Nat.le_of_ble_eq_true rfl⟩ hK hP hD hS hA hl.1 (Nat.le_of_ble_eq_true rfl) (j := 3) (jp := 0) (jq := 3) (by decide) (by decide) (by decide) (by decide) (by decide) (by decide) (hZ0.kept hS.2.1) dL_law_388 ⟨Nat.le_of_ble_eq_true rfl, Nat.le_of_ble_eq_true rfl⟩ (fun z H locs hP hD hS => ?_)
  obtain ⟨F1_8, eF⟩ : ∃ X, X = va_up F1_7 3 (mulI (F1_7 0) (F1_7 3)) := ⟨_, rfl⟩
  obtain ⟨R1_8, eR⟩ : ∃ X, X = va_up R1_5 3 z := ⟨_, rfl⟩
  rw [← eF, ← eR] at hP hD
  have f1_8_0 : F1_8 0 = thF L xs 0 := by rw [eF, va_up_ne _ _ (by decide)]; exact f1_7_0
  have f1_8_1 : F1_8 1 = thF L xs 1 := by rw [eF, va_up_ne _ _ (by decide)]; exact f1_7_1
  have f1_8_2 : F1_8 2 = thF L xs 2 := by rw [eF, va_up_ne _ _ (by decide)]; exact f1_7_2
  have f1_8_3 : F1_8 3 = mulI (thF L xs 0) (un 1) := by rw [eF, va_up_self, f1_7_0, f1_7_3]
  clear eF eR
  refine lv_iconst (v := nI 0) hx hb dL_law_391 (by decide) ?_
  refine lv_istore (lv' := [(6, .int (nI 0)), (0, .ref b), (1, .ref h1), (2, .ref h2), (3, .ref h3), (4, .ref h4)]) hx hb dL_law_392 hl (by decide) rfl (fun ls hl => ?_)
  refine lawE hx hb hml hown hts hK hX0 hL hbl hbA ⟨Nat.le_of_ble_eq_true rfl, Nat.le_of_ble_eq_true rfl⟩ (fun i hi => ?_) (hP.sub (ws' := rg cO cI h1 g1 R1_8 F1_8) [0, 1, 2, 3, 4, 5] rfl) (fun ls hl => ?_) 255 0 (by decide) _ (lv_sub hl [0, 1, 2, 3] rfl)
  · rw [f1_8_3, f1_8_0]
    exact law_X1 (cT 0) i hi
  refine lv_aload_n hx hb dL_law_429 rfl (lv_at hl 1 rfl) ?_
  refine lv_iconst (v := 3) hx hb dL_law_430 (by decide) ?_
  refine lv_iconst (v := 0) hx hb dL_law_431 (by decide) ?_
  refine k_coef ⟨hx, hb, hml, hown, hts⟩ ⟨Nat.le_of_ble_eq_true rfl, Nat.le_of_ble_eq_true rfl⟩ hK (hP.sub (ws' := rg cO cI h1 g1 R1_8 F1_8) [0, 1, 2, 3, 4, 5] rfl) hl.1 (Nat.le_of_ble_eq_true rfl) (j := 3) (by decide) (by decide) (k := 0) (by decide) (by decide) dL_law_432 ⟨Nat.le_of_ble_eq_true rfl, Nat.le_of_ble_eq_true rfl⟩ ?_
  refine lv_aload_n hx hb dL_law_435 rfl (lv_at hl 1 rfl) ?_
  refine lv_iconst (v := 0) hx hb dL_law_436 (by decide) ?_
  refine lv_sipush (v := 255) hx hb dL_law_437 (by decide) ?_
  refine k_coef ⟨hx, hb, hml, hown, hts⟩ ⟨Nat.le_of_ble_eq_true rfl, Nat.le_of_ble_eq_true rfl⟩ hK (hP.sub (ws' := rg cO cI h1 g1 R1_8 F1_8) [0, 1, 2, 3, 4, 5] rfl) hl.1 (Nat.le_of_ble_eq_true rfl) (j := 0) (by decide) (by decide) (k := 255) (by decide) (by decide) dL_law_440 ⟨Nat.le_of_ble_eq_true rfl, Nat.le_of_ble_eq_true rfl⟩ ?_
  refine lv_iadd hx hb dL_law_443 ?_
  refine lv_ldc hx hb hown (hts _ q81) dL_law_444 ?_
  refine lv_irem hx hb dL_law_446 (by decide) ?_
  refine lv_if_eq (tgt := 452) hx hb dL_law_447 (by decide) (fun _ => ?_) (fun c9 => absurd (by rw [f1_8_3, f1_8_0]; exact law_X0 (cT 0)) c9)
  have hP := hP.sub (ws' := rg cO cI h2 g2 R2_3 F2_3 ++ (rg cO cI h1 g1 R1_8 F1_8 ++ [])) [6, 7, 8, 9, 10, 11, 0, 1, 2, 3, 4, 5] rfl
  have hD := hD.sub (ws' := rg cO cI h2 g2 R2_3 F2_3 ++ (rg cO cI h1 g1 R1_8 F1_8 ++ [])) [6, 7, 8, 9, 10, 11, 0, 1, 2, 3, 4, 5] (by decide) rfl
  refine lv_aload_n hx hb dL_law_452 rfl (lv_at hl 2 rfl) ?_
  refine lv_iconst (v := 3) hx hb dL_law_453 (by decide) ?_
  refine lv_iconst (v := 0) hx hb dL_law_454 (by decide) ?_
  refine lv_iconst (v := 2) hx hb dL_law_455 (by decide) ?_
  refine k_mul (w := rg cO cI h1 g1 R1_8 F1_8 ++ []) ⟨hx, hb, hml, hown, hts⟩ ⟨Nat.le_of_ble_eq_true rfl, Nat.le_of_ble_eq_true rfl⟩ hK hP hD hS hA hl.1 (Nat.le_of_ble_eq_true rfl) (j := 3) (jp := 0) (jq := 2) (by decide) (by decide) (by decide) (by decide) (by decide) (by decide) (hZ0.kept hS.2.1) dL_law_456 ⟨Nat.le_of_ble_eq_true rfl, Nat.le_of_ble_eq_true rfl⟩ (fun z H locs hP hD hS => ?_)
  obtain ⟨F2_4, eF⟩ : ∃ X, X = va_up F2_3 3 (mulI (F2_3 0) (F2_3 2)) := ⟨_, rfl⟩
  obtain ⟨R2_4, eR⟩ : ∃ X, X = va_up R2_3 3 z := ⟨_, rfl⟩
  rw [← eF, ← eR] at hP hD
  have f2_4_0 : F2_4 0 = thF L xs 0 := by rw [eF, va_up_ne _ _ (by decide)]; exact f2_3_0
  have f2_4_1 : F2_4 1 = thF L xs 1 := by rw [eF, va_up_ne _ _ (by decide)]; exact f2_3_1
  have f2_4_2 : F2_4 2 = thF L xs 2 := by rw [eF, va_up_ne _ _ (by decide)]; exact f2_3_2
  have f2_4_3 : F2_4 3 = mulI (thF L xs 0) (thF L xs 2) := by rw [eF, va_up_self, f2_3_0, f2_3_2]
  clear eF eR
  refine lv_aload_n hx hb dL_law_459 rfl (lv_at hl 2 rfl) ?_
  refine lv_iconst (v := 2) hx hb dL_law_460 (by decide) ?_
  refine lv_iconst (v := 1) hx hb dL_law_461 (by decide) ?_
  refine lv_iconst (v := 2) hx hb dL_law_462 (by decide) ?_
  refine k_mul (w := rg cO cI h1 g1 R1_8 F1_8 ++ []) ⟨hx, hb, hml, hown, hts⟩ ⟨Nat.le_of_ble_eq_true rfl, Nat.le_of_ble_eq_true rfl⟩ hK hP hD hS hA hl.1 (Nat.le_of_ble_eq_true rfl) (j := 2) (jp := 1) (jq := 2) (by decide) (by decide) (by decide) (by decide) (by decide) (by decide) (hZ0.kept hS.2.1) dL_law_463 ⟨Nat.le_of_ble_eq_true rfl, Nat.le_of_ble_eq_true rfl⟩ (fun z H locs hP hD hS => ?_)
  obtain ⟨F2_5, eF⟩ : ∃ X, X = va_up F2_4 2 (mulI (F2_4 1) (F2_4 2)) := ⟨_, rfl⟩
  obtain ⟨R2_5, eR⟩ : ∃ X, X = va_up R2_4 2 z := ⟨_, rfl⟩
  rw [← eF, ← eR] at hP hD
  have f2_5_0 : F2_5 0 = thF L xs 0 := by rw [eF, va_up_ne _ _ (by decide)]; exact f2_4_0
  have f2_5_1 : F2_5 1 = thF L xs 1 := by rw [eF, va_up_ne _ _ (by decide)]; exact f2_4_1
  have f2_5_2 : F2_5 2 = mulI (thF L xs 1) (thF L xs 2) := by rw [eF, va_up_self, f2_4_1, f2_4_2]
  have f2_5_3 : F2_5 3 = mulI (thF L xs 0) (thF L xs 2) := by rw [eF, va_up_ne _ _ (by decide)]; exact f2_4_3
  clear eF eR
  refine lv_aload_n hx hb dL_law_466 rfl (lv_at hl 2 rfl) ?_
  refine lv_iconst (v := 3) hx hb dL_law_467 (by decide) ?_
  refine lv_iconst (v := 2) hx hb dL_law_468 (by decide) ?_
  refine k_add (w := rg cO cI h1 g1 R1_8 F1_8 ++ []) ⟨hx, hb, hml, hown, hts⟩ ⟨Nat.le_of_ble_eq_true rfl, Nat.le_of_ble_eq_true rfl⟩ hK hP hD hS hA hl.1 (Nat.le_of_ble_eq_true rfl) (j := 3) (k := 2) (by decide) (by decide) (by decide) (by decide) dL_law_469 ⟨Nat.le_of_ble_eq_true rfl, Nat.le_of_ble_eq_true rfl⟩ (fun z H locs hP hD hS => ?_)
  obtain ⟨F2_6, eF⟩ : ∃ X, X = va_up F2_5 3 (addI (F2_5 3) (F2_5 2)) := ⟨_, rfl⟩
  obtain ⟨R2_6, eR⟩ : ∃ X, X = va_up R2_5 3 z := ⟨_, rfl⟩
  rw [← eF, ← eR] at hP hD
  have f2_6_0 : F2_6 0 = thF L xs 0 := by rw [eF, va_up_ne _ _ (by decide)]; exact f2_5_0
  have f2_6_1 : F2_6 1 = thF L xs 1 := by rw [eF, va_up_ne _ _ (by decide)]; exact f2_5_1
  have f2_6_2 : F2_6 2 = mulI (thF L xs 1) (thF L xs 2) := by rw [eF, va_up_ne _ _ (by decide)]; exact f2_5_2
  have f2_6_3 : F2_6 3 = addI (mulI (thF L xs 0) (thF L xs 2)) (mulI (thF L xs 1) (thF L xs 2)) := by rw [eF, va_up_self, f2_5_3, f2_5_2]
  clear eF eR
  have hP := hP.sub (ws' := rg cO cI h1 g1 R1_8 F1_8 ++ (rg cO cI h2 g2 R2_6 F2_6 ++ [])) [6, 7, 8, 9, 10, 11, 0, 1, 2, 3, 4, 5] rfl
  have hD := hD.sub (ws' := rg cO cI h1 g1 R1_8 F1_8 ++ (rg cO cI h2 g2 R2_6 F2_6 ++ [])) [6, 7, 8, 9, 10, 11, 0, 1, 2, 3, 4, 5] (by decide) rfl
  refine lv_aload_n hx hb dL_law_472 rfl (lv_at hl 1 rfl) ?_
  refine lv_iconst (v := 0) hx hb dL_law_473 (by decide) ?_
  refine lv_iconst (v := 1) hx hb dL_law_474 (by decide) ?_
  refine k_add (w := rg cO cI h2 g2 R2_6 F2_6 ++ []) ⟨hx, hb, hml, hown, hts⟩ ⟨Nat.le_of_ble_eq_true rfl, Nat.le_of_ble_eq_true rfl⟩ hK hP hD hS hA hl.1 (Nat.le_of_ble_eq_true rfl) (j := 0) (k := 1) (by decide) (by decide) (by decide) (by decide) dL_law_475 ⟨Nat.le_of_ble_eq_true rfl, Nat.le_of_ble_eq_true rfl⟩ (fun z H locs hP hD hS => ?_)
  obtain ⟨F1_9, eF⟩ : ∃ X, X = va_up F1_8 0 (addI (F1_8 0) (F1_8 1)) := ⟨_, rfl⟩
  obtain ⟨R1_9, eR⟩ : ∃ X, X = va_up R1_8 0 z := ⟨_, rfl⟩
  rw [← eF, ← eR] at hP hD
  have f1_9_0 : F1_9 0 = addI (thF L xs 0) (thF L xs 1) := by rw [eF, va_up_self, f1_8_0, f1_8_1]
  have f1_9_1 : F1_9 1 = thF L xs 1 := by rw [eF, va_up_ne _ _ (by decide)]; exact f1_8_1
  have f1_9_2 : F1_9 2 = thF L xs 2 := by rw [eF, va_up_ne _ _ (by decide)]; exact f1_8_2
  have f1_9_3 : F1_9 3 = mulI (thF L xs 0) (un 1) := by rw [eF, va_up_ne _ _ (by decide)]; exact f1_8_3
  clear eF eR
  refine lv_aload_n hx hb dL_law_478 rfl (lv_at hl 1 rfl) ?_
  refine lv_iconst (v := 3) hx hb dL_law_479 (by decide) ?_
  refine lv_iconst (v := 0) hx hb dL_law_480 (by decide) ?_
  refine lv_iconst (v := 2) hx hb dL_law_481 (by decide) ?_
  refine k_mul (w := rg cO cI h2 g2 R2_6 F2_6 ++ []) ⟨hx, hb, hml, hown, hts⟩ ⟨Nat.le_of_ble_eq_true rfl, Nat.le_of_ble_eq_true rfl⟩ hK hP hD hS hA hl.1 (Nat.le_of_ble_eq_true rfl) (j := 3) (jp := 0) (jq := 2) (by decide) (by decide) (by decide) (by decide) (by decide) (by decide) (hZ0.kept hS.2.1) dL_law_482 ⟨Nat.le_of_ble_eq_true rfl, Nat.le_of_ble_eq_true rfl⟩ (fun z H locs hP hD hS => ?_)
  obtain ⟨F1_10, eF⟩ : ∃ X, X = va_up F1_9 3 (mulI (F1_9 0) (F1_9 2)) := ⟨_, rfl⟩
  obtain ⟨R1_10, eR⟩ : ∃ X, X = va_up R1_9 3 z := ⟨_, rfl⟩
  rw [← eF, ← eR] at hP hD
  have f1_10_0 : F1_10 0 = addI (thF L xs 0) (thF L xs 1) := by rw [eF, va_up_ne _ _ (by decide)]; exact f1_9_0
  have f1_10_1 : F1_10 1 = thF L xs 1 := by rw [eF, va_up_ne _ _ (by decide)]; exact f1_9_1
  have f1_10_2 : F1_10 2 = thF L xs 2 := by rw [eF, va_up_ne _ _ (by decide)]; exact f1_9_2
  have f1_10_3 : F1_10 3 = mulI (addI (thF L xs 0) (thF L xs 1)) (thF L xs 2) := by rw [eF, va_up_self, f1_9_0, f1_9_2]
  clear eF eR
  refine lv_aload_n hx hb dL_law_485 rfl (lv_at hl 1 rfl) ?_
  refine lv_iconst (v := 3) hx hb dL_law_486 (by decide) ?_
  refine lv_aload_n hx hb dL_law_487 rfl (lv_at hl 2 rfl) ?_
  refine lv_iconst (v := 3) hx hb dL_law_488 (by decide) ?_
  refine k_same ⟨hx, hb, hml, hown, hts⟩ ⟨Nat.le_of_ble_eq_true rfl, Nat.le_of_ble_eq_true rfl⟩ hK (hP.sub (ws' := rg cO cI h1 g1 R1_10 F1_10) [0, 1, 2, 3, 4, 5] rfl) (hP.sub (ws' := rg cO cI h2 g2 R2_6 F2_6) [6, 7, 8, 9, 10, 11] rfl) (j1 := 3) (by decide) (by decide) (j2 := 3) (by decide) (by decide) (fun i hi => ?_) hl.1 (Nat.le_of_ble_eq_true rfl) dL_law_489 ⟨Nat.le_of_ble_eq_true rfl, Nat.le_of_ble_eq_true rfl⟩ ?_
  · rw [f1_10_3, f2_6_3]
    exact law_add (cT 0) (cT 1) (cT 2) i hi
  refine va_forget (fun q hq => hA2 _ (hS.2.2 q hq)) ?_
  refine W.widen (k := 600000) (n := 7302250) (Nat.le_of_ble_eq_true rfl) (Nat.le_of_ble_eq_true rfl) ?_
  exact lw_ret hx hb hr hlocks dL_law_492
end WHOLE
end
section
set_option maxHeartbeats 4000000 in
theorem lw_walk (l : Launch) (hflags : l.flags = flags0) (b : Addr) (xs : List Int32) : MetFree l x (headSpec (Jvm.Cond.code x code maxLocals ret :: tables_1) room_1) (lw_P b xs) (fun _ _ _ _ _ => True) lw_Q := by
  refine MetFree.of_bodyS (code := code) (maxLocals := maxLocals) (ret := ret) (by decide) ?_ ?_
  · intro args s m h hn
    obtain ⟨meth, c, h1, h2, h3, h4, h5, h6, -, -⟩ := Cond.code_spec hn (atoms_spec (ws := Jvm.Cond.code x code maxLocals ret :: tables_1) h _ List.mem_cons_self)
    exact ⟨meth, c, h1, h2, h3, h4, h5, h6⟩
  · intro p e s m args below meth c s₁ B hml0 hP _
    obtain ⟨rfl, hx, hbd, hgv⟩ := hP
    obtain ⟨scr, harrAt, hlist, hof, hsmall⟩ := hx
    obtain ⟨hcb, hkn, -, -⟩ := State.arrayAt?_spec harrAt
    have hown : s.vm.findClass R_law = some m.cls := findClass_of_methodNamed B.named
    have hts0 : ∀ c ∈ (Jvm.Cond.code x code maxLocals ret :: tables_1), c.before #[Value.ref b] s = true := atoms_spec (ws := Jvm.Cond.code x code maxLocals ret :: tables_1) B.pre
    have hts : ∀ w ∈ lw_tbl, w.before #[Value.ref b] s = true := k2_hts_sels lw_privs (fun w hw => hts0 w (List.mem_cons_of_mem _ hw)) lw_privs_ok
    have hml : c.maxLocals = 8 := B.maxLocals_eq (hts0 _ List.mem_cons_self)
    have X₀ : Stand p l e room_1 s m #[Value.ref b] below meth c s₁ [] 0 0 := Stand.of_body B
    have hh0 : s₁.heap = s.heap := by rw [B.state]; rfl
    have hsz : scr.slots.size = xs.length := by rw [← Array.length_toList, hlist, List.length_map]
    have hval : ∀ j : Nat, j < xs.length → scr.slots[j]? = some (.int (xs.getD j 0)) := fun j hj => by
      rw [← Array.getElem?_toList, hlist]
      simp [hj]
    have hbl : b < s.heap.size := (Array.getElem?_eq_some_iff.mp hcb).1
    have hX : va_X b xs.length (fun j => xs.getD j 0) s s.heap := ⟨scr, hcb, hof, hkn, hsz, hval⟩
    have K : W p l e room_1 s m #[Value.ref b] below meth c s₁.heap [] 0 0 (lw_Z below #[Value.ref b] s) (entryFrame m ([Value.ref b] : List Value).toArray 8) := by
      rw [hh0]
      exact whole_start l hflags hbd ⟨B.exec, B.bytes, B.returns, hml, hown, hts, hX, hbl, B.notSynchronized, hgv⟩
    obtain ⟨t, a1, o, b1, b2, b3⟩ := K s₁ rfl X₀
    exact ⟨t, o, a1, b1, b2, b3⟩
theorem lw_pre_spec {args : Array Value} {s : State} (h : (Jvm.Cond.and given_1 narrow_1).before args s = true) (hr : rest_1_c.before args s = true) : ∃ (b : Addr) (xs : List Int32), lw_P b xs args s := by
  have hs := flat_of_before _ h
  have hq := flat_of_before _ hr
  have hc : (Cond.count 1).before args s = true := hs _ (by decide +kernel)
  have harr : (Cond.arrayOf (.arg 0) .int).before args s = true := hs _ (by decide +kernel)
  have hle : (Cond.le (.length (.arg 0)) (.int 24)).before args s = true := hs _ (by decide +kernel)
  have hlen : (Cond.isInt (.length (.arg 0))).before args s = true := hq _ (by decide +kernel)
  have hall : (Cond.all (.arg 0) (.isInt (.elem (.arg 0) (.index 0)))).before args s = true := hq _ (by decide +kernel)
  obtain ⟨b, xs, hb, hx⟩ := State.ints_of_pre rfl harr hlen hall
  have hsm : xs.length < 2 ^ 31 := hx.choose_spec.2.2.2
  have hev : (Term.length (.arg 0)).eval args s none [] s = some (.int xs.length.toInt32) := hx.length_eval hb
  have hv := Cond.le_ints hev (show (Term.int 24).eval args s none [] s = some (.int 24) from rfl)
  have hd : xs.length.toInt32 ≤ 24 := by
    simpa [Cond.before, Cond.holds, hv] using hle
  have hN : xs.length ≤ 24 := (Int32.ofNat_le_ofNat hsm (by decide)).mp (show Int32.ofNat xs.length ≤ Int32.ofNat 24 from hd)
  exact ⟨b, xs, Cond.one_arg hc (show args[0]? = some (.ref b) from hb), hx, hN, h⟩
theorem lw_comes (l : Launch) (hflags : l.flags = flags0) : Comes l x (Jvm.Cond.code x code maxLocals ret :: tables_1) room_1 (fun tb e args s => Calls_1 tb e args s ∧ rest_1 tb e args s ∧ Pre_1 tb e args s)
    (fun _ _ args s o t => lw_Q args s o t) := by
  intro p e ha hc hk s m args below hf hfit hheap happ hpre
  obtain ⟨b, xs, hP⟩ := lw_pre_spec hpre.2.2 hpre.2.1
  obtain ⟨k, o, h1, h2, h3, hQ⟩ := lw_walk l hflags b xs p e ha hc hk s m args below hf ((Spec.applies_iff_loose hf).mp happ).1 hP trivial
  exact ⟨k, o, h1, h2, h3, hQ⟩
theorem lw_frame {s t : State} {o : Outcome} {args : Array Value} (h : Framed s o t [] 600000 7302250) :
    Framed s o t (fieldLocs frame_1_writes args s ++ arrayLocs frame_1_arrays args s ++ staticLocs frame_1_statics s) 600000 7302250 := h
theorem lw_limb (L : Cond) (hL : ∀ (args : Array Value) (s t : State), L.after args s (.returned (some (.int 1))) t = true) :
    ArmFor flags0 classFile x code maxLocals ret World_1 tables_1 room_1 Calls_1 rest_1 Pre_1
      (fun tb e a s o t => postC L tb e a s o t ∧ Framed s o t (fieldLocs frame_1_writes a s ++ arrayLocs frame_1_arrays a s ++ staticLocs frame_1_statics s) 600000 7302250) := by
  intro l hflags _ _ p e ha hc hk s m args below hf hfit hheap happ hpre
  obtain ⟨k, o, h1, h2, h3, rfl, hF⟩ := lw_comes l hflags p e ha hc hk s m args below hf hfit hheap happ hpre
  exact ⟨k, _, h1, h2, h3, hL args s _, lw_frame hF⟩
theorem i_vc : Claimed_1_1 ∧ Claimed_1_2 := ⟨lw_limb limb_1_1 (fun args s t => by simp [limb_1_1, Cond.after, Cond.holds, Cond.value]), lw_limb limb_1_2 (fun args s t => Cond.after_iff.mpr (by
  first | (rw [show limb_1_2 = Cond.eq .result (.int 1) from rfl, Cond.eq_ints (x := 1) (y := 1) rfl rfl]; simp; done) | (simp [limb_1_2, Cond.value, Term.eval]; done)))⟩
end
