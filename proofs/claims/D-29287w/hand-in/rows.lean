section
-- ===== PART A: goes FIRST, ahead of the names: the tables' words, and 'selects' of the private methods out of them =====
/-- a private method of a class that the tables say can be made, by its rows of tables_1 -/
def lw_okq (q : MethodName × Nat) : Prop := (q.1.cls ≠ "java/lang/invoke/MethodHandle" ∧ q.1.cls ≠ "java/lang/invoke/VarHandle") ∧ Cond.instantiable q.1.cls q.2 ∈ tables_1 ∧ Cond.privateMethod q.1 ∈ tables_1 ∧ Cond.instanceMethod q.1 ∈ tables_1
def lw_privs : List (MethodName × Nat) := []
def lw_tbl : List Cond := k2_sels lw_privs ++ tables_1
theorem lw_privs_ok : ∀ q ∈ lw_privs, lw_okq q := fun _ h => absurd h List.not_mem_nil
-- ===== ONE list of words for every method: the tables' words that hold all through a run =====
def lw_all : List Cond := lw_tbl.filter goodWord
/-- a word of the tables by its place: claim/WORDS.tsv -/
theorem lw_w {w : Cond} (i : Nat) (h : lw_tbl[i]? = some w) (g : goodWord w = true) : w ∈ lw_all := List.mem_filter.mpr ⟨List.mem_of_getElem? h, g⟩
theorem lw_all_tbl {w : Cond} (h : w ∈ lw_all) : w ∈ lw_tbl := (List.mem_filter.mp h).1
theorem lw_self : GoodIn lw_all lw_all := fun w h => ⟨h, good_of_word (List.mem_filter.mp h).2⟩
/-- a class's field words, by their places -/
theorem lw_in (ws : List Cond) (ps : List Nat) (hp : ws = ps.filterMap (fun i => lw_tbl[i]?)) (hg : ws.all goodWord = true) : ∀ w ∈ ws, w ∈ lw_all := by
  intro w h
  have h1 := List.all_eq_true.mp hg w h
  rw [hp] at h
  obtain ⟨i, -, hi⟩ := List.mem_filterMap.mp h
  exact lw_w i hi h1
/-- the words of a contract for the method y with code b, L locals, answer r -/
abbrev ws_ (y : MethodName) (b : ByteArray) (L : Nat) (r : Option FieldType) : List Cond := Cond.code y b L r :: lw_all
theorem lw_meth {y : MethodName} {b : ByteArray} {L : Nat} {r : Option FieldType} (h : Cond.code y b L r ∈ lw_all) : GoodIn lw_all (ws_ y b L r) := by
  intro w hw
  rcases List.mem_cons.mp hw with e | e
  · rw [e]
    exact lw_self _ h
  · exact lw_self _ e
theorem lw_app {a c : List Cond} (ha : ∀ w ∈ a, w ∈ lw_all) (hc : GoodIn lw_all c) : GoodIn lw_all (a ++ c) := by
  intro w hw
  rcases List.mem_append.mp hw with e | e
  · exact lw_self w (ha w e)
  · exact hc w e
/-- what a call through an object asks: cwV n hts (lw_V ..) -/
theorem lw_V {own : String} {idx : Nat} {C : String} {y : MethodName} {b : ByteArray} {L : Nat} {r : Option FieldType} (h1 : Cond.methodLink own idx y ∈ lw_all) (h2 : Cond.instanceMethod y ∈ lw_all) (h3 : Cond.selects C y y ∈ lw_all) (h4 : Cond.initialized C ∈ lw_all) (h5 : Cond.code y b L r ∈ lw_all) : GoodIn lw_all (wsV own idx C y (ws_ y b L r)) := by
  refine lw_app ?_ (lw_meth h5)
  intro w hw
  simp only [List.mem_cons, List.not_mem_nil, or_false] at hw
  rcases hw with e | e | e | e
  · rw [e]; exact h1
  · rw [e]; exact h2
  · rw [e]; exact h3
  · rw [e]; exact h4
/-- what a static call asks: va_cwS n hts (lw_S ..) -/
theorem lw_S {own : String} {idx : Nat} {y : MethodName} {b : ByteArray} {L : Nat} {r : Option FieldType} (h1 : Cond.methodLink own idx y ∈ lw_all) (h2 : Cond.static y ∈ lw_all) (h3 : Cond.initialized y.cls ∈ lw_all) (h4 : Cond.code y b L r ∈ lw_all) : GoodIn lw_all (va_wsS own idx y (ws_ y b L r)) := by
  refine lw_app ?_ (lw_meth h4)
  intro w hw
  simp only [List.mem_cons, List.not_mem_nil, or_false] at hw
  rcases hw with e | e | e
  · rw [e]; exact h1
  · rw [e]; exact h2
  · rw [e]; exact h3
/-- the words of a contract for a method WITH HANDLERS (hh: its table) -/
abbrev wsW_ (y : MethodName) (b : ByteArray) (L : Nat) (r : Option FieldType) (hh : List (Nat × Nat × Nat × Nat)) : List Cond := Cond.codeWith y b L r hh :: lw_all
theorem lw_methW {y : MethodName} {b : ByteArray} {L : Nat} {r : Option FieldType} {hh : List (Nat × Nat × Nat × Nat)} (h : Cond.codeWith y b L r hh ∈ lw_all) : GoodIn lw_all (wsW_ y b L r hh) := by
  intro w hw
  rcases List.mem_cons.mp hw with e | e
  · rw [e]
    exact lw_self _ h
  · exact lw_self _ e
/-- any list of words by their places (lw_in), good -/
theorem lw_good {ws : List Cond} (h : ∀ w ∈ ws, w ∈ lw_all) : GoodIn lw_all ws := fun w hw => lw_self w (h w hw)
/-- what a call of a method with handlers asks: vx_cwVW n hts (lw_VW ..), vx_cwSW n hts (lw_SW ..) -/
theorem lw_VW {own : String} {idx : Nat} {C : String} {y : MethodName} {b : ByteArray} {L : Nat} {r : Option FieldType} {hh : List (Nat × Nat × Nat × Nat)} (h1 : Cond.methodLink own idx y ∈ lw_all) (h2 : Cond.instanceMethod y ∈ lw_all) (h3 : Cond.selects C y y ∈ lw_all) (h4 : Cond.initialized C ∈ lw_all) (h5 : Cond.codeWith y b L r hh ∈ lw_all) : GoodIn lw_all (wsV own idx C y (wsW_ y b L r hh)) := by
  refine lw_app ?_ (lw_methW h5)
  intro w hw
  simp only [List.mem_cons, List.not_mem_nil, or_false] at hw
  rcases hw with e | e | e | e
  · rw [e]; exact h1
  · rw [e]; exact h2
  · rw [e]; exact h3
  · rw [e]; exact h4
theorem lw_SW {own : String} {idx : Nat} {y : MethodName} {b : ByteArray} {L : Nat} {r : Option FieldType} {hh : List (Nat × Nat × Nat × Nat)} (h1 : Cond.methodLink own idx y ∈ lw_all) (h2 : Cond.static y ∈ lw_all) (h3 : Cond.initialized y.cls ∈ lw_all) (h4 : Cond.codeWith y b L r hh ∈ lw_all) : GoodIn lw_all (va_wsS own idx y (wsW_ y b L r hh)) := by
  refine lw_app ?_ (lw_methW h4)
  intro w hw
  simp only [List.mem_cons, List.not_mem_nil, or_false] at hw
  rcases hw with e | e | e
  · rw [e]; exact h1
  · rw [e]; exact h2
  · rw [e]; exact h3
/-- a word by its place in its run of the tables -/
theorem lw_at {r : List Cond} (hr : ∀ w ∈ r, w ∈ lw_tbl) {w : Cond} (i : Nat) (h : r[i]? = some w) : w ∈ lw_tbl := hr w (List.mem_of_getElem? h)
theorem lw_g {w : Cond} (h : w ∈ lw_tbl) (g : goodWord w = true) : w ∈ lw_all := List.mem_filter.mpr ⟨h, g⟩
theorem lw_ms : ∀ w ∈ k2_sels lw_privs, w ∈ lw_tbl := fun w h => show w ∈ k2_sels lw_privs ++ tables_1 from List.mem_append_left _ h
theorem lw_m0 : ∀ w ∈ tables_1, w ∈ lw_tbl := fun w h => show w ∈ k2_sels lw_privs ++ tables_1 from List.mem_append_right (k2_sels lw_privs) h
set_option maxRecDepth 100000
/-! DECODE ROWS BY BYTES: one lemma an opcode; a method's code is cut into short pieces once, and a row reads its own piece alone. -/
/-- the code has just these bytes from pc on -/
def DkAt (code : ByteArray) (pc : Nat) (bs : List UInt8) : Prop := ∀ (j : Nat) (b : UInt8), bs[j]? = some b → code.data.toList[pc + j]? = some b
/-- the piece W has the bytes bs from its place j on -/
def dkIn (W : List UInt8) (j : Nat) (bs : List UInt8) : Bool := decide ((W.drop j).take bs.length = bs)
theorem dk_seg {l W T : List UInt8} {o o2 : Nat} (h : l.drop o = W ++ T) (n : Nat) (hn : W.length = n) (ho : o + n = o2) : l.drop o2 = T := by
  subst ho
  rw [← List.drop_drop, h, List.drop_left' hn]
theorem dk_at {code : ByteArray} {W T bs : List UInt8} {o pc : Nat} (h : code.data.toList.drop o = W ++ T) (j : Nat) (hp : o + j = pc) (hw : dkIn W j bs = true) : DkAt code pc bs := by
  subst hp
  intro i b e
  have h1 := of_decide_eq_true hw
  have h2 : i < bs.length := (List.getElem?_eq_some_iff.mp e).1
  have h3 : W[j + i]? = some b := by
    rw [← h1, List.getElem?_take, if_pos h2, List.getElem?_drop] at e
    exact e
  have h4 : j + i < W.length := (List.getElem?_eq_some_iff.mp h3).1
  have h5 : (code.data.toList.drop o)[j + i]? = some b := by
    rw [h, List.getElem?_append_left h4]
    exact h3
  rw [List.getElem?_drop, ← Nat.add_assoc] at h5
  exact h5
theorem dk_u1 {A : ByteArray} {p : Nat} {b : UInt8} (h : A.data.toList[p]? = some b) : (Reader.u1 : Reader DecodeError Nat) A p = .ok (b.toNat, p + 1) := by
  obtain ⟨h1, h2⟩ := List.getElem?_eq_some_iff.mp h
  have h3 : p < A.size := by simpa using h1
  have h4 : A[p]'h3 = b := h2
  have e : (Reader.u1 : Reader DecodeError Nat) A p = (if h : p < A.size then .ok (A[p].toNat, p + 1) else .error (HasTruncated.truncated p)) := by
    show (do if h : p < A.size then do set (p + 1); Pure.pure A[p].toNat else MonadExcept.throw (HasTruncated.truncated p) : Reader DecodeError Nat) A p = _
    by_cases hi : p < A.size
    · rw [dif_pos hi, dif_pos hi]; rfl
    · rw [dif_neg hi, dif_neg hi]; rfl
  rw [e, dif_pos h3, h4]
theorem dk_bind {α β : Type} {r : Reader DecodeError α} {f : α → Reader DecodeError β} {A : ByteArray} {p s : Nat} {a : α} (h : r A p = .ok (a, s)) : (r >>= f) A p = f a A s := by
  show (do let (a, s) ← r A p; f a A s : Except DecodeError (β × Nat)) = _
  rw [h]
  rfl
theorem dk_map {α β : Type} {r : Reader DecodeError α} {g : α → β} {A : ByteArray} {p s : Nat} {a : α} (h : r A p = .ok (a, s)) : (g <$> r) A p = .ok (g a, s) := by
  show (do let (a, s) ← r A p; .ok (g a, s) : Except DecodeError (β × Nat)) = _
  rw [h]
  rfl
theorem dk_u2 {A : ByteArray} {p : Nat} {a b : UInt8} (h : A.data.toList[p]? = some a) (h2 : A.data.toList[p + 1]? = some b) : (Reader.u2 : Reader DecodeError Nat) A p = .ok (a.toNat * 256 + b.toNat, p + 2) := by
  show (Reader.u1 >>= fun hi => Reader.u1 >>= fun lo => Pure.pure (hi * 256 + lo) : Reader DecodeError Nat) A p = _
  rw [dk_bind (dk_u1 h), dk_bind (dk_u1 h2)]
  rfl
theorem dk_of {code : ByteArray} {pc n : Nat} {i : Instr} (h : Decoder.instr pc code pc = .ok (i, pc + n)) : decode code pc = .ok (i, n) := by
  have e : decode code pc = (match Decoder.instr pc code pc with | .error x => .error x | .ok (j, s) => .ok (j, s - pc)) := by
    show (do let (j, s) ← Decoder.instr pc code pc; Pure.pure (j, s - pc) : Except DecodeError (Instr × Nat)) = _
    cases Decoder.instr pc code pc <;> rfl
  rw [e, h]
  show Except.ok (i, pc + n - pc) = _
  rw [Nat.add_sub_cancel_left]
theorem dk_3 {code : ByteArray} {pc : Nat} (h : DkAt code pc [3]) : decode code pc = .ok (.iconst 0, 1) := dk_of ((dk_bind (dk_u1 (h 0 _ rfl))).trans rfl)
theorem dk_4 {code : ByteArray} {pc : Nat} (h : DkAt code pc [4]) : decode code pc = .ok (.iconst 1, 1) := dk_of ((dk_bind (dk_u1 (h 0 _ rfl))).trans rfl)
theorem dk_5 {code : ByteArray} {pc : Nat} (h : DkAt code pc [5]) : decode code pc = .ok (.iconst 2, 1) := dk_of ((dk_bind (dk_u1 (h 0 _ rfl))).trans rfl)
theorem dk_6 {code : ByteArray} {pc : Nat} (h : DkAt code pc [6]) : decode code pc = .ok (.iconst 3, 1) := dk_of ((dk_bind (dk_u1 (h 0 _ rfl))).trans rfl)
theorem dk_7 {code : ByteArray} {pc : Nat} (h : DkAt code pc [7]) : decode code pc = .ok (.iconst 4, 1) := dk_of ((dk_bind (dk_u1 (h 0 _ rfl))).trans rfl)
theorem dk_9 {code : ByteArray} {pc : Nat} (h : DkAt code pc [9]) : decode code pc = .ok (.lconst 0, 1) := dk_of ((dk_bind (dk_u1 (h 0 _ rfl))).trans rfl)
theorem dk_10 {code : ByteArray} {pc : Nat} (h : DkAt code pc [10]) : decode code pc = .ok (.lconst 1, 1) := dk_of ((dk_bind (dk_u1 (h 0 _ rfl))).trans rfl)
theorem dk_16 {code : ByteArray} {pc : Nat} (a : UInt8) (h : DkAt code pc [16, a]) : decode code pc = .ok (.bipush (Reader.signed 8 a.toNat), 2) := dk_of ((dk_bind (dk_u1 (h 0 _ rfl))).trans ((dk_bind (dk_map (dk_u1 (h 1 _ rfl)))).trans rfl))
theorem dk_17 {code : ByteArray} {pc : Nat} (a b : UInt8) (h : DkAt code pc [17, a, b]) : decode code pc = .ok (.sipush (Reader.signed 16 (a.toNat * 256 + b.toNat)), 3) := dk_of ((dk_bind (dk_u1 (h 0 _ rfl))).trans ((dk_bind (dk_map (dk_u2 (h 1 _ rfl) (h 2 _ rfl)))).trans rfl))
theorem dk_18 {code : ByteArray} {pc : Nat} (a : UInt8) (h : DkAt code pc [18, a]) : decode code pc = .ok (.ldc a.toNat, 2) := dk_of ((dk_bind (dk_u1 (h 0 _ rfl))).trans ((dk_bind (dk_u1 (h 1 _ rfl))).trans rfl))
theorem dk_20 {code : ByteArray} {pc : Nat} (a b : UInt8) (h : DkAt code pc [20, a, b]) : decode code pc = .ok (.ldc2_w (a.toNat * 256 + b.toNat), 3) := dk_of ((dk_bind (dk_u1 (h 0 _ rfl))).trans ((dk_bind (dk_u2 (h 1 _ rfl) (h 2 _ rfl))).trans rfl))
theorem dk_21 {code : ByteArray} {pc : Nat} (a : UInt8) (h : DkAt code pc [21, a]) : decode code pc = .ok (.iload a.toNat, 2) := dk_of ((dk_bind (dk_u1 (h 0 _ rfl))).trans ((dk_bind (dk_u1 (h 1 _ rfl))).trans rfl))
theorem dk_22 {code : ByteArray} {pc : Nat} (a : UInt8) (h : DkAt code pc [22, a]) : decode code pc = .ok (.lload a.toNat, 2) := dk_of ((dk_bind (dk_u1 (h 0 _ rfl))).trans ((dk_bind (dk_u1 (h 1 _ rfl))).trans rfl))
theorem dk_25 {code : ByteArray} {pc : Nat} (a : UInt8) (h : DkAt code pc [25, a]) : decode code pc = .ok (.aload a.toNat, 2) := dk_of ((dk_bind (dk_u1 (h 0 _ rfl))).trans ((dk_bind (dk_u1 (h 1 _ rfl))).trans rfl))
theorem dk_26 {code : ByteArray} {pc : Nat} (h : DkAt code pc [26]) : decode code pc = .ok (.iload_n 0, 1) := dk_of ((dk_bind (dk_u1 (h 0 _ rfl))).trans rfl)
theorem dk_27 {code : ByteArray} {pc : Nat} (h : DkAt code pc [27]) : decode code pc = .ok (.iload_n 1, 1) := dk_of ((dk_bind (dk_u1 (h 0 _ rfl))).trans rfl)
theorem dk_28 {code : ByteArray} {pc : Nat} (h : DkAt code pc [28]) : decode code pc = .ok (.iload_n 2, 1) := dk_of ((dk_bind (dk_u1 (h 0 _ rfl))).trans rfl)
theorem dk_29 {code : ByteArray} {pc : Nat} (h : DkAt code pc [29]) : decode code pc = .ok (.iload_n 3, 1) := dk_of ((dk_bind (dk_u1 (h 0 _ rfl))).trans rfl)
theorem dk_30 {code : ByteArray} {pc : Nat} (h : DkAt code pc [30]) : decode code pc = .ok (.lload_n 0, 1) := dk_of ((dk_bind (dk_u1 (h 0 _ rfl))).trans rfl)
theorem dk_31 {code : ByteArray} {pc : Nat} (h : DkAt code pc [31]) : decode code pc = .ok (.lload_n 1, 1) := dk_of ((dk_bind (dk_u1 (h 0 _ rfl))).trans rfl)
theorem dk_32 {code : ByteArray} {pc : Nat} (h : DkAt code pc [32]) : decode code pc = .ok (.lload_n 2, 1) := dk_of ((dk_bind (dk_u1 (h 0 _ rfl))).trans rfl)
theorem dk_42 {code : ByteArray} {pc : Nat} (h : DkAt code pc [42]) : decode code pc = .ok (.aload_n 0, 1) := dk_of ((dk_bind (dk_u1 (h 0 _ rfl))).trans rfl)
theorem dk_43 {code : ByteArray} {pc : Nat} (h : DkAt code pc [43]) : decode code pc = .ok (.aload_n 1, 1) := dk_of ((dk_bind (dk_u1 (h 0 _ rfl))).trans rfl)
theorem dk_44 {code : ByteArray} {pc : Nat} (h : DkAt code pc [44]) : decode code pc = .ok (.aload_n 2, 1) := dk_of ((dk_bind (dk_u1 (h 0 _ rfl))).trans rfl)
theorem dk_46 {code : ByteArray} {pc : Nat} (h : DkAt code pc [46]) : decode code pc = .ok (.iaload, 1) := dk_of ((dk_bind (dk_u1 (h 0 _ rfl))).trans rfl)
theorem dk_47 {code : ByteArray} {pc : Nat} (h : DkAt code pc [47]) : decode code pc = .ok (.laload, 1) := dk_of ((dk_bind (dk_u1 (h 0 _ rfl))).trans rfl)
theorem dk_54 {code : ByteArray} {pc : Nat} (a : UInt8) (h : DkAt code pc [54, a]) : decode code pc = .ok (.istore a.toNat, 2) := dk_of ((dk_bind (dk_u1 (h 0 _ rfl))).trans ((dk_bind (dk_u1 (h 1 _ rfl))).trans rfl))
theorem dk_55 {code : ByteArray} {pc : Nat} (a : UInt8) (h : DkAt code pc [55, a]) : decode code pc = .ok (.lstore a.toNat, 2) := dk_of ((dk_bind (dk_u1 (h 0 _ rfl))).trans ((dk_bind (dk_u1 (h 1 _ rfl))).trans rfl))
theorem dk_58 {code : ByteArray} {pc : Nat} (a : UInt8) (h : DkAt code pc [58, a]) : decode code pc = .ok (.astore a.toNat, 2) := dk_of ((dk_bind (dk_u1 (h 0 _ rfl))).trans ((dk_bind (dk_u1 (h 1 _ rfl))).trans rfl))
theorem dk_61 {code : ByteArray} {pc : Nat} (h : DkAt code pc [61]) : decode code pc = .ok (.istore_n 2, 1) := dk_of ((dk_bind (dk_u1 (h 0 _ rfl))).trans rfl)
theorem dk_62 {code : ByteArray} {pc : Nat} (h : DkAt code pc [62]) : decode code pc = .ok (.istore_n 3, 1) := dk_of ((dk_bind (dk_u1 (h 0 _ rfl))).trans rfl)
theorem dk_63 {code : ByteArray} {pc : Nat} (h : DkAt code pc [63]) : decode code pc = .ok (.lstore_n 0, 1) := dk_of ((dk_bind (dk_u1 (h 0 _ rfl))).trans rfl)
theorem dk_65 {code : ByteArray} {pc : Nat} (h : DkAt code pc [65]) : decode code pc = .ok (.lstore_n 2, 1) := dk_of ((dk_bind (dk_u1 (h 0 _ rfl))).trans rfl)
theorem dk_76 {code : ByteArray} {pc : Nat} (h : DkAt code pc [76]) : decode code pc = .ok (.astore_n 1, 1) := dk_of ((dk_bind (dk_u1 (h 0 _ rfl))).trans rfl)
theorem dk_77 {code : ByteArray} {pc : Nat} (h : DkAt code pc [77]) : decode code pc = .ok (.astore_n 2, 1) := dk_of ((dk_bind (dk_u1 (h 0 _ rfl))).trans rfl)
theorem dk_79 {code : ByteArray} {pc : Nat} (h : DkAt code pc [79]) : decode code pc = .ok (.iastore, 1) := dk_of ((dk_bind (dk_u1 (h 0 _ rfl))).trans rfl)
theorem dk_80 {code : ByteArray} {pc : Nat} (h : DkAt code pc [80]) : decode code pc = .ok (.lastore, 1) := dk_of ((dk_bind (dk_u1 (h 0 _ rfl))).trans rfl)
theorem dk_89 {code : ByteArray} {pc : Nat} (h : DkAt code pc [89]) : decode code pc = .ok (.dup, 1) := dk_of ((dk_bind (dk_u1 (h 0 _ rfl))).trans rfl)
theorem dk_92 {code : ByteArray} {pc : Nat} (h : DkAt code pc [92]) : decode code pc = .ok (.dup2, 1) := dk_of ((dk_bind (dk_u1 (h 0 _ rfl))).trans rfl)
theorem dk_96 {code : ByteArray} {pc : Nat} (h : DkAt code pc [96]) : decode code pc = .ok (.iadd, 1) := dk_of ((dk_bind (dk_u1 (h 0 _ rfl))).trans rfl)
theorem dk_97 {code : ByteArray} {pc : Nat} (h : DkAt code pc [97]) : decode code pc = .ok (.ladd, 1) := dk_of ((dk_bind (dk_u1 (h 0 _ rfl))).trans rfl)
theorem dk_100 {code : ByteArray} {pc : Nat} (h : DkAt code pc [100]) : decode code pc = .ok (.isub, 1) := dk_of ((dk_bind (dk_u1 (h 0 _ rfl))).trans rfl)
theorem dk_104 {code : ByteArray} {pc : Nat} (h : DkAt code pc [104]) : decode code pc = .ok (.imul, 1) := dk_of ((dk_bind (dk_u1 (h 0 _ rfl))).trans rfl)
theorem dk_105 {code : ByteArray} {pc : Nat} (h : DkAt code pc [105]) : decode code pc = .ok (.lmul, 1) := dk_of ((dk_bind (dk_u1 (h 0 _ rfl))).trans rfl)
theorem dk_112 {code : ByteArray} {pc : Nat} (h : DkAt code pc [112]) : decode code pc = .ok (.irem, 1) := dk_of ((dk_bind (dk_u1 (h 0 _ rfl))).trans rfl)
theorem dk_116 {code : ByteArray} {pc : Nat} (h : DkAt code pc [116]) : decode code pc = .ok (.ineg, 1) := dk_of ((dk_bind (dk_u1 (h 0 _ rfl))).trans rfl)
theorem dk_117 {code : ByteArray} {pc : Nat} (h : DkAt code pc [117]) : decode code pc = .ok (.lneg, 1) := dk_of ((dk_bind (dk_u1 (h 0 _ rfl))).trans rfl)
theorem dk_120 {code : ByteArray} {pc : Nat} (h : DkAt code pc [120]) : decode code pc = .ok (.ishl, 1) := dk_of ((dk_bind (dk_u1 (h 0 _ rfl))).trans rfl)
theorem dk_121 {code : ByteArray} {pc : Nat} (h : DkAt code pc [121]) : decode code pc = .ok (.lshl, 1) := dk_of ((dk_bind (dk_u1 (h 0 _ rfl))).trans rfl)
theorem dk_122 {code : ByteArray} {pc : Nat} (h : DkAt code pc [122]) : decode code pc = .ok (.ishr, 1) := dk_of ((dk_bind (dk_u1 (h 0 _ rfl))).trans rfl)
theorem dk_125 {code : ByteArray} {pc : Nat} (h : DkAt code pc [125]) : decode code pc = .ok (.lushr, 1) := dk_of ((dk_bind (dk_u1 (h 0 _ rfl))).trans rfl)
theorem dk_126 {code : ByteArray} {pc : Nat} (h : DkAt code pc [126]) : decode code pc = .ok (.iand, 1) := dk_of ((dk_bind (dk_u1 (h 0 _ rfl))).trans rfl)
theorem dk_127 {code : ByteArray} {pc : Nat} (h : DkAt code pc [127]) : decode code pc = .ok (.land, 1) := dk_of ((dk_bind (dk_u1 (h 0 _ rfl))).trans rfl)
theorem dk_129 {code : ByteArray} {pc : Nat} (h : DkAt code pc [129]) : decode code pc = .ok (.lor, 1) := dk_of ((dk_bind (dk_u1 (h 0 _ rfl))).trans rfl)
theorem dk_130 {code : ByteArray} {pc : Nat} (h : DkAt code pc [130]) : decode code pc = .ok (.ixor, 1) := dk_of ((dk_bind (dk_u1 (h 0 _ rfl))).trans rfl)
theorem dk_131 {code : ByteArray} {pc : Nat} (h : DkAt code pc [131]) : decode code pc = .ok (.lxor, 1) := dk_of ((dk_bind (dk_u1 (h 0 _ rfl))).trans rfl)
theorem dk_132 {code : ByteArray} {pc : Nat} (a b : UInt8) (h : DkAt code pc [132, a, b]) : decode code pc = .ok (.iinc a.toNat (Reader.signed 8 b.toNat), 3) := dk_of ((dk_bind (dk_u1 (h 0 _ rfl))).trans ((dk_bind (dk_u1 (h 1 _ rfl))).trans ((dk_bind (dk_map (dk_u1 (h 2 _ rfl)))).trans rfl)))
theorem dk_133 {code : ByteArray} {pc : Nat} (h : DkAt code pc [133]) : decode code pc = .ok (.i2l, 1) := dk_of ((dk_bind (dk_u1 (h 0 _ rfl))).trans rfl)
theorem dk_136 {code : ByteArray} {pc : Nat} (h : DkAt code pc [136]) : decode code pc = .ok (.l2i, 1) := dk_of ((dk_bind (dk_u1 (h 0 _ rfl))).trans rfl)
theorem dk_145 {code : ByteArray} {pc : Nat} (h : DkAt code pc [145]) : decode code pc = .ok (.i2b, 1) := dk_of ((dk_bind (dk_u1 (h 0 _ rfl))).trans rfl)
theorem dk_148 {code : ByteArray} {pc : Nat} (h : DkAt code pc [148]) : decode code pc = .ok (.lcmp, 1) := dk_of ((dk_bind (dk_u1 (h 0 _ rfl))).trans rfl)
theorem dk_153 {code : ByteArray} {pc : Nat} (a b : UInt8) (h : DkAt code pc [153, a, b]) : decode code pc = .ok (.ifCond .eq (Reader.signed 16 (a.toNat * 256 + b.toNat)), 3) := dk_of ((dk_bind (dk_u1 (h 0 _ rfl))).trans ((dk_bind (dk_map (dk_u2 (h 1 _ rfl) (h 2 _ rfl)))).trans rfl))
theorem dk_155 {code : ByteArray} {pc : Nat} (a b : UInt8) (h : DkAt code pc [155, a, b]) : decode code pc = .ok (.ifCond .lt (Reader.signed 16 (a.toNat * 256 + b.toNat)), 3) := dk_of ((dk_bind (dk_u1 (h 0 _ rfl))).trans ((dk_bind (dk_map (dk_u2 (h 1 _ rfl) (h 2 _ rfl)))).trans rfl))
theorem dk_159 {code : ByteArray} {pc : Nat} (a b : UInt8) (h : DkAt code pc [159, a, b]) : decode code pc = .ok (.if_icmp .eq (Reader.signed 16 (a.toNat * 256 + b.toNat)), 3) := dk_of ((dk_bind (dk_u1 (h 0 _ rfl))).trans ((dk_bind (dk_map (dk_u2 (h 1 _ rfl) (h 2 _ rfl)))).trans rfl))
theorem dk_160 {code : ByteArray} {pc : Nat} (a b : UInt8) (h : DkAt code pc [160, a, b]) : decode code pc = .ok (.if_icmp .ne (Reader.signed 16 (a.toNat * 256 + b.toNat)), 3) := dk_of ((dk_bind (dk_u1 (h 0 _ rfl))).trans ((dk_bind (dk_map (dk_u2 (h 1 _ rfl) (h 2 _ rfl)))).trans rfl))
theorem dk_162 {code : ByteArray} {pc : Nat} (a b : UInt8) (h : DkAt code pc [162, a, b]) : decode code pc = .ok (.if_icmp .ge (Reader.signed 16 (a.toNat * 256 + b.toNat)), 3) := dk_of ((dk_bind (dk_u1 (h 0 _ rfl))).trans ((dk_bind (dk_map (dk_u2 (h 1 _ rfl) (h 2 _ rfl)))).trans rfl))
theorem dk_163 {code : ByteArray} {pc : Nat} (a b : UInt8) (h : DkAt code pc [163, a, b]) : decode code pc = .ok (.if_icmp .gt (Reader.signed 16 (a.toNat * 256 + b.toNat)), 3) := dk_of ((dk_bind (dk_u1 (h 0 _ rfl))).trans ((dk_bind (dk_map (dk_u2 (h 1 _ rfl) (h 2 _ rfl)))).trans rfl))
theorem dk_164 {code : ByteArray} {pc : Nat} (a b : UInt8) (h : DkAt code pc [164, a, b]) : decode code pc = .ok (.if_icmp .le (Reader.signed 16 (a.toNat * 256 + b.toNat)), 3) := dk_of ((dk_bind (dk_u1 (h 0 _ rfl))).trans ((dk_bind (dk_map (dk_u2 (h 1 _ rfl) (h 2 _ rfl)))).trans rfl))
theorem dk_167 {code : ByteArray} {pc : Nat} (a b : UInt8) (h : DkAt code pc [167, a, b]) : decode code pc = .ok (.goto (Reader.signed 16 (a.toNat * 256 + b.toNat)), 3) := dk_of ((dk_bind (dk_u1 (h 0 _ rfl))).trans ((dk_bind (dk_map (dk_u2 (h 1 _ rfl) (h 2 _ rfl)))).trans rfl))
theorem dk_172 {code : ByteArray} {pc : Nat} (h : DkAt code pc [172]) : decode code pc = .ok (.ireturn, 1) := dk_of ((dk_bind (dk_u1 (h 0 _ rfl))).trans rfl)
theorem dk_173 {code : ByteArray} {pc : Nat} (h : DkAt code pc [173]) : decode code pc = .ok (.lreturn, 1) := dk_of ((dk_bind (dk_u1 (h 0 _ rfl))).trans rfl)
theorem dk_177 {code : ByteArray} {pc : Nat} (h : DkAt code pc [177]) : decode code pc = .ok (.return_, 1) := dk_of ((dk_bind (dk_u1 (h 0 _ rfl))).trans rfl)
theorem dk_180 {code : ByteArray} {pc : Nat} (a b : UInt8) (h : DkAt code pc [180, a, b]) : decode code pc = .ok (.getfield (a.toNat * 256 + b.toNat), 3) := dk_of ((dk_bind (dk_u1 (h 0 _ rfl))).trans ((dk_bind (dk_u2 (h 1 _ rfl) (h 2 _ rfl))).trans rfl))
theorem dk_181 {code : ByteArray} {pc : Nat} (a b : UInt8) (h : DkAt code pc [181, a, b]) : decode code pc = .ok (.putfield (a.toNat * 256 + b.toNat), 3) := dk_of ((dk_bind (dk_u1 (h 0 _ rfl))).trans ((dk_bind (dk_u2 (h 1 _ rfl) (h 2 _ rfl))).trans rfl))
theorem dk_182 {code : ByteArray} {pc : Nat} (a b : UInt8) (h : DkAt code pc [182, a, b]) : decode code pc = .ok (.invokevirtual (a.toNat * 256 + b.toNat), 3) := dk_of ((dk_bind (dk_u1 (h 0 _ rfl))).trans ((dk_bind (dk_u2 (h 1 _ rfl) (h 2 _ rfl))).trans rfl))
theorem dk_183 {code : ByteArray} {pc : Nat} (a b : UInt8) (h : DkAt code pc [183, a, b]) : decode code pc = .ok (.invokespecial (a.toNat * 256 + b.toNat), 3) := dk_of ((dk_bind (dk_u1 (h 0 _ rfl))).trans ((dk_bind (dk_u2 (h 1 _ rfl) (h 2 _ rfl))).trans rfl))
theorem dk_184 {code : ByteArray} {pc : Nat} (a b : UInt8) (h : DkAt code pc [184, a, b]) : decode code pc = .ok (.invokestatic (a.toNat * 256 + b.toNat), 3) := dk_of ((dk_bind (dk_u1 (h 0 _ rfl))).trans ((dk_bind (dk_u2 (h 1 _ rfl) (h 2 _ rfl))).trans rfl))
theorem dk_187 {code : ByteArray} {pc : Nat} (a b : UInt8) (h : DkAt code pc [187, a, b]) : decode code pc = .ok (.new (a.toNat * 256 + b.toNat), 3) := dk_of ((dk_bind (dk_u1 (h 0 _ rfl))).trans ((dk_bind (dk_u2 (h 1 _ rfl) (h 2 _ rfl))).trans rfl))
theorem dk_188_10 {code : ByteArray} {pc : Nat} (h : DkAt code pc [188, 10]) : decode code pc = .ok (.newarray .int, 2) := dk_of ((dk_bind (dk_u1 (h 0 _ rfl))).trans ((dk_bind (dk_u1 (h 1 _ rfl))).trans rfl))
theorem dk_188_11 {code : ByteArray} {pc : Nat} (h : DkAt code pc [188, 11]) : decode code pc = .ok (.newarray .long, 2) := dk_of ((dk_bind (dk_u1 (h 0 _ rfl))).trans ((dk_bind (dk_u1 (h 1 _ rfl))).trans rfl))
theorem dk_190 {code : ByteArray} {pc : Nat} (h : DkAt code pc [190]) : decode code pc = .ok (.arraylength, 1) := dk_of ((dk_bind (dk_u1 (h 0 _ rfl))).trans rfl)
/-! java/lang/Object -/
def RJ0 : String := "java/lang/Object"
abbrev cJ0_init : ByteArray := object_method_1_code
def yJ0_init : MethodName := ⟨RJ0, "<init>", "()V"⟩
theorem dJ0_init_0 : decode cJ0_init 0 = .ok (.return_, 1) := by decide +kernel
theorem q11 : (Jvm.Cond.instanceMethod ({ cls := "java/lang/Object", name := "<init>", desc := "()V" } : Jvm.MethodName)) ∈ lw_all := lw_g (lw_at lw_m0 11 rfl) rfl
theorem q12 : (Jvm.Cond.code ({ cls := "java/lang/Object", name := "<init>", desc := "()V" } : Jvm.MethodName) object_method_1_code (1 : Nat) (Option.none : Option Jvm.ClassFile.FieldType)) ∈ lw_all := lw_g (lw_at lw_m0 12 rfl) rfl
/-! GF16 -/
def RX3 : String := "GF16"
abbrev cX3_mulAddStep16 : ByteArray := prog_1_method_2_code
def yX3_mulAddStep16 : MethodName := ⟨RX3, "mulAddStep16", "(JJJJJ)J"⟩
def dkwX3_mulAddStep16_4 : List UInt8 := [121, 97, 131, 63, 22, 10, 30, 22, 8, 127, 131, 55, 10, 22, 10, 173]
abbrev dktX3_mulAddStep16_4 : List UInt8 := dkwX3_mulAddStep16_4 ++ []
def dkwX3_mulAddStep16_3 : List UInt8 := [131, 55, 10, 30, 20, 0, 9, 127, 6, 125, 55, 12, 30, 20, 0, 11, 127, 4, 121, 22, 12, 22, 12, 4]
abbrev dktX3_mulAddStep16_3 : List UInt8 := dkwX3_mulAddStep16_3 ++ dktX3_mulAddStep16_4
def dkwX3_mulAddStep16_2 : List UInt8 := [55, 12, 30, 20, 0, 11, 127, 4, 121, 22, 12, 22, 12, 4, 121, 97, 131, 63, 22, 10, 30, 22, 6, 127]
abbrev dktX3_mulAddStep16_2 : List UInt8 := dkwX3_mulAddStep16_2 ++ dktX3_mulAddStep16_3
def dkwX3_mulAddStep16_1 : List UInt8 := [22, 12, 4, 121, 97, 131, 63, 22, 10, 30, 22, 4, 127, 131, 55, 10, 30, 20, 0, 9, 127, 6, 125]
abbrev dktX3_mulAddStep16_1 : List UInt8 := dkwX3_mulAddStep16_1 ++ dktX3_mulAddStep16_2
def dkwX3_mulAddStep16_0 : List UInt8 := [30, 32, 127, 55, 10, 30, 20, 0, 9, 127, 6, 125, 55, 12, 30, 20, 0, 11, 127, 4, 121, 22, 12]
abbrev dktX3_mulAddStep16_0 : List UInt8 := dkwX3_mulAddStep16_0 ++ dktX3_mulAddStep16_1
theorem dksX3_mulAddStep16_0 : cX3_mulAddStep16.data.toList.drop 0 = dktX3_mulAddStep16_0 := by decide +kernel
theorem dksX3_mulAddStep16_1 : cX3_mulAddStep16.data.toList.drop 23 = dktX3_mulAddStep16_1 := dk_seg dksX3_mulAddStep16_0 23 rfl rfl
theorem dksX3_mulAddStep16_2 : cX3_mulAddStep16.data.toList.drop 46 = dktX3_mulAddStep16_2 := dk_seg dksX3_mulAddStep16_1 23 rfl rfl
theorem dksX3_mulAddStep16_3 : cX3_mulAddStep16.data.toList.drop 70 = dktX3_mulAddStep16_3 := dk_seg dksX3_mulAddStep16_2 24 rfl rfl
theorem dksX3_mulAddStep16_4 : cX3_mulAddStep16.data.toList.drop 94 = dktX3_mulAddStep16_4 := dk_seg dksX3_mulAddStep16_3 24 rfl rfl
theorem dX3_mulAddStep16_0 : decode cX3_mulAddStep16 0 = .ok (.lload_n 0, 1) := dk_30 (dk_at dksX3_mulAddStep16_0 0 rfl rfl)
theorem dX3_mulAddStep16_1 : decode cX3_mulAddStep16 1 = .ok (.lload_n 2, 1) := dk_32 (dk_at dksX3_mulAddStep16_0 1 rfl rfl)
theorem dX3_mulAddStep16_2 : decode cX3_mulAddStep16 2 = .ok (.land, 1) := dk_127 (dk_at dksX3_mulAddStep16_0 2 rfl rfl)
theorem dX3_mulAddStep16_3 : decode cX3_mulAddStep16 3 = .ok (.lstore 10, 2) := dk_55 10 (dk_at dksX3_mulAddStep16_0 3 rfl rfl)
theorem dX3_mulAddStep16_5 : decode cX3_mulAddStep16 5 = .ok (.lload_n 0, 1) := dk_30 (dk_at dksX3_mulAddStep16_0 5 rfl rfl)
theorem dX3_mulAddStep16_6 : decode cX3_mulAddStep16 6 = .ok (.ldc2_w 9, 3) := dk_20 0 9 (dk_at dksX3_mulAddStep16_0 6 rfl rfl)
theorem dX3_mulAddStep16_9 : decode cX3_mulAddStep16 9 = .ok (.land, 1) := dk_127 (dk_at dksX3_mulAddStep16_0 9 rfl rfl)
theorem dX3_mulAddStep16_10 : decode cX3_mulAddStep16 10 = .ok (.iconst 3, 1) := dk_6 (dk_at dksX3_mulAddStep16_0 10 rfl rfl)
theorem dX3_mulAddStep16_11 : decode cX3_mulAddStep16 11 = .ok (.lushr, 1) := dk_125 (dk_at dksX3_mulAddStep16_0 11 rfl rfl)
theorem dX3_mulAddStep16_12 : decode cX3_mulAddStep16 12 = .ok (.lstore 12, 2) := dk_55 12 (dk_at dksX3_mulAddStep16_0 12 rfl rfl)
theorem dX3_mulAddStep16_14 : decode cX3_mulAddStep16 14 = .ok (.lload_n 0, 1) := dk_30 (dk_at dksX3_mulAddStep16_0 14 rfl rfl)
theorem dX3_mulAddStep16_15 : decode cX3_mulAddStep16 15 = .ok (.ldc2_w 11, 3) := dk_20 0 11 (dk_at dksX3_mulAddStep16_0 15 rfl rfl)
theorem dX3_mulAddStep16_18 : decode cX3_mulAddStep16 18 = .ok (.land, 1) := dk_127 (dk_at dksX3_mulAddStep16_0 18 rfl rfl)
theorem dX3_mulAddStep16_19 : decode cX3_mulAddStep16 19 = .ok (.iconst 1, 1) := dk_4 (dk_at dksX3_mulAddStep16_0 19 rfl rfl)
theorem dX3_mulAddStep16_20 : decode cX3_mulAddStep16 20 = .ok (.lshl, 1) := dk_121 (dk_at dksX3_mulAddStep16_0 20 rfl rfl)
theorem dX3_mulAddStep16_21 : decode cX3_mulAddStep16 21 = .ok (.lload 12, 2) := dk_22 12 (dk_at dksX3_mulAddStep16_0 21 rfl rfl)
theorem dX3_mulAddStep16_23 : decode cX3_mulAddStep16 23 = .ok (.lload 12, 2) := dk_22 12 (dk_at dksX3_mulAddStep16_1 0 rfl rfl)
theorem dX3_mulAddStep16_25 : decode cX3_mulAddStep16 25 = .ok (.iconst 1, 1) := dk_4 (dk_at dksX3_mulAddStep16_1 2 rfl rfl)
theorem dX3_mulAddStep16_26 : decode cX3_mulAddStep16 26 = .ok (.lshl, 1) := dk_121 (dk_at dksX3_mulAddStep16_1 3 rfl rfl)
theorem dX3_mulAddStep16_27 : decode cX3_mulAddStep16 27 = .ok (.ladd, 1) := dk_97 (dk_at dksX3_mulAddStep16_1 4 rfl rfl)
theorem dX3_mulAddStep16_28 : decode cX3_mulAddStep16 28 = .ok (.lxor, 1) := dk_131 (dk_at dksX3_mulAddStep16_1 5 rfl rfl)
theorem dX3_mulAddStep16_29 : decode cX3_mulAddStep16 29 = .ok (.lstore_n 0, 1) := dk_63 (dk_at dksX3_mulAddStep16_1 6 rfl rfl)
theorem dX3_mulAddStep16_30 : decode cX3_mulAddStep16 30 = .ok (.lload 10, 2) := dk_22 10 (dk_at dksX3_mulAddStep16_1 7 rfl rfl)
theorem dX3_mulAddStep16_32 : decode cX3_mulAddStep16 32 = .ok (.lload_n 0, 1) := dk_30 (dk_at dksX3_mulAddStep16_1 9 rfl rfl)
theorem dX3_mulAddStep16_33 : decode cX3_mulAddStep16 33 = .ok (.lload 4, 2) := dk_22 4 (dk_at dksX3_mulAddStep16_1 10 rfl rfl)
theorem dX3_mulAddStep16_35 : decode cX3_mulAddStep16 35 = .ok (.land, 1) := dk_127 (dk_at dksX3_mulAddStep16_1 12 rfl rfl)
theorem dX3_mulAddStep16_36 : decode cX3_mulAddStep16 36 = .ok (.lxor, 1) := dk_131 (dk_at dksX3_mulAddStep16_1 13 rfl rfl)
theorem dX3_mulAddStep16_37 : decode cX3_mulAddStep16 37 = .ok (.lstore 10, 2) := dk_55 10 (dk_at dksX3_mulAddStep16_1 14 rfl rfl)
theorem dX3_mulAddStep16_39 : decode cX3_mulAddStep16 39 = .ok (.lload_n 0, 1) := dk_30 (dk_at dksX3_mulAddStep16_1 16 rfl rfl)
theorem dX3_mulAddStep16_40 : decode cX3_mulAddStep16 40 = .ok (.ldc2_w 9, 3) := dk_20 0 9 (dk_at dksX3_mulAddStep16_1 17 rfl rfl)
theorem dX3_mulAddStep16_43 : decode cX3_mulAddStep16 43 = .ok (.land, 1) := dk_127 (dk_at dksX3_mulAddStep16_1 20 rfl rfl)
theorem dX3_mulAddStep16_44 : decode cX3_mulAddStep16 44 = .ok (.iconst 3, 1) := dk_6 (dk_at dksX3_mulAddStep16_1 21 rfl rfl)
theorem dX3_mulAddStep16_45 : decode cX3_mulAddStep16 45 = .ok (.lushr, 1) := dk_125 (dk_at dksX3_mulAddStep16_1 22 rfl rfl)
theorem dX3_mulAddStep16_46 : decode cX3_mulAddStep16 46 = .ok (.lstore 12, 2) := dk_55 12 (dk_at dksX3_mulAddStep16_2 0 rfl rfl)
theorem dX3_mulAddStep16_48 : decode cX3_mulAddStep16 48 = .ok (.lload_n 0, 1) := dk_30 (dk_at dksX3_mulAddStep16_2 2 rfl rfl)
theorem dX3_mulAddStep16_49 : decode cX3_mulAddStep16 49 = .ok (.ldc2_w 11, 3) := dk_20 0 11 (dk_at dksX3_mulAddStep16_2 3 rfl rfl)
theorem dX3_mulAddStep16_52 : decode cX3_mulAddStep16 52 = .ok (.land, 1) := dk_127 (dk_at dksX3_mulAddStep16_2 6 rfl rfl)
theorem dX3_mulAddStep16_53 : decode cX3_mulAddStep16 53 = .ok (.iconst 1, 1) := dk_4 (dk_at dksX3_mulAddStep16_2 7 rfl rfl)
theorem dX3_mulAddStep16_54 : decode cX3_mulAddStep16 54 = .ok (.lshl, 1) := dk_121 (dk_at dksX3_mulAddStep16_2 8 rfl rfl)
theorem dX3_mulAddStep16_55 : decode cX3_mulAddStep16 55 = .ok (.lload 12, 2) := dk_22 12 (dk_at dksX3_mulAddStep16_2 9 rfl rfl)
theorem dX3_mulAddStep16_57 : decode cX3_mulAddStep16 57 = .ok (.lload 12, 2) := dk_22 12 (dk_at dksX3_mulAddStep16_2 11 rfl rfl)
theorem dX3_mulAddStep16_59 : decode cX3_mulAddStep16 59 = .ok (.iconst 1, 1) := dk_4 (dk_at dksX3_mulAddStep16_2 13 rfl rfl)
theorem dX3_mulAddStep16_60 : decode cX3_mulAddStep16 60 = .ok (.lshl, 1) := dk_121 (dk_at dksX3_mulAddStep16_2 14 rfl rfl)
theorem dX3_mulAddStep16_61 : decode cX3_mulAddStep16 61 = .ok (.ladd, 1) := dk_97 (dk_at dksX3_mulAddStep16_2 15 rfl rfl)
theorem dX3_mulAddStep16_62 : decode cX3_mulAddStep16 62 = .ok (.lxor, 1) := dk_131 (dk_at dksX3_mulAddStep16_2 16 rfl rfl)
theorem dX3_mulAddStep16_63 : decode cX3_mulAddStep16 63 = .ok (.lstore_n 0, 1) := dk_63 (dk_at dksX3_mulAddStep16_2 17 rfl rfl)
theorem dX3_mulAddStep16_64 : decode cX3_mulAddStep16 64 = .ok (.lload 10, 2) := dk_22 10 (dk_at dksX3_mulAddStep16_2 18 rfl rfl)
theorem dX3_mulAddStep16_66 : decode cX3_mulAddStep16 66 = .ok (.lload_n 0, 1) := dk_30 (dk_at dksX3_mulAddStep16_2 20 rfl rfl)
theorem dX3_mulAddStep16_67 : decode cX3_mulAddStep16 67 = .ok (.lload 6, 2) := dk_22 6 (dk_at dksX3_mulAddStep16_2 21 rfl rfl)
theorem dX3_mulAddStep16_69 : decode cX3_mulAddStep16 69 = .ok (.land, 1) := dk_127 (dk_at dksX3_mulAddStep16_2 23 rfl rfl)
theorem dX3_mulAddStep16_70 : decode cX3_mulAddStep16 70 = .ok (.lxor, 1) := dk_131 (dk_at dksX3_mulAddStep16_3 0 rfl rfl)
theorem dX3_mulAddStep16_71 : decode cX3_mulAddStep16 71 = .ok (.lstore 10, 2) := dk_55 10 (dk_at dksX3_mulAddStep16_3 1 rfl rfl)
theorem dX3_mulAddStep16_73 : decode cX3_mulAddStep16 73 = .ok (.lload_n 0, 1) := dk_30 (dk_at dksX3_mulAddStep16_3 3 rfl rfl)
theorem dX3_mulAddStep16_74 : decode cX3_mulAddStep16 74 = .ok (.ldc2_w 9, 3) := dk_20 0 9 (dk_at dksX3_mulAddStep16_3 4 rfl rfl)
theorem dX3_mulAddStep16_77 : decode cX3_mulAddStep16 77 = .ok (.land, 1) := dk_127 (dk_at dksX3_mulAddStep16_3 7 rfl rfl)
theorem dX3_mulAddStep16_78 : decode cX3_mulAddStep16 78 = .ok (.iconst 3, 1) := dk_6 (dk_at dksX3_mulAddStep16_3 8 rfl rfl)
theorem dX3_mulAddStep16_79 : decode cX3_mulAddStep16 79 = .ok (.lushr, 1) := dk_125 (dk_at dksX3_mulAddStep16_3 9 rfl rfl)
theorem dX3_mulAddStep16_80 : decode cX3_mulAddStep16 80 = .ok (.lstore 12, 2) := dk_55 12 (dk_at dksX3_mulAddStep16_3 10 rfl rfl)
theorem dX3_mulAddStep16_82 : decode cX3_mulAddStep16 82 = .ok (.lload_n 0, 1) := dk_30 (dk_at dksX3_mulAddStep16_3 12 rfl rfl)
theorem dX3_mulAddStep16_83 : decode cX3_mulAddStep16 83 = .ok (.ldc2_w 11, 3) := dk_20 0 11 (dk_at dksX3_mulAddStep16_3 13 rfl rfl)
theorem dX3_mulAddStep16_86 : decode cX3_mulAddStep16 86 = .ok (.land, 1) := dk_127 (dk_at dksX3_mulAddStep16_3 16 rfl rfl)
theorem dX3_mulAddStep16_87 : decode cX3_mulAddStep16 87 = .ok (.iconst 1, 1) := dk_4 (dk_at dksX3_mulAddStep16_3 17 rfl rfl)
theorem dX3_mulAddStep16_88 : decode cX3_mulAddStep16 88 = .ok (.lshl, 1) := dk_121 (dk_at dksX3_mulAddStep16_3 18 rfl rfl)
theorem dX3_mulAddStep16_89 : decode cX3_mulAddStep16 89 = .ok (.lload 12, 2) := dk_22 12 (dk_at dksX3_mulAddStep16_3 19 rfl rfl)
theorem dX3_mulAddStep16_91 : decode cX3_mulAddStep16 91 = .ok (.lload 12, 2) := dk_22 12 (dk_at dksX3_mulAddStep16_3 21 rfl rfl)
theorem dX3_mulAddStep16_93 : decode cX3_mulAddStep16 93 = .ok (.iconst 1, 1) := dk_4 (dk_at dksX3_mulAddStep16_3 23 rfl rfl)
theorem dX3_mulAddStep16_94 : decode cX3_mulAddStep16 94 = .ok (.lshl, 1) := dk_121 (dk_at dksX3_mulAddStep16_4 0 rfl rfl)
theorem dX3_mulAddStep16_95 : decode cX3_mulAddStep16 95 = .ok (.ladd, 1) := dk_97 (dk_at dksX3_mulAddStep16_4 1 rfl rfl)
theorem dX3_mulAddStep16_96 : decode cX3_mulAddStep16 96 = .ok (.lxor, 1) := dk_131 (dk_at dksX3_mulAddStep16_4 2 rfl rfl)
theorem dX3_mulAddStep16_97 : decode cX3_mulAddStep16 97 = .ok (.lstore_n 0, 1) := dk_63 (dk_at dksX3_mulAddStep16_4 3 rfl rfl)
theorem dX3_mulAddStep16_98 : decode cX3_mulAddStep16 98 = .ok (.lload 10, 2) := dk_22 10 (dk_at dksX3_mulAddStep16_4 4 rfl rfl)
theorem dX3_mulAddStep16_100 : decode cX3_mulAddStep16 100 = .ok (.lload_n 0, 1) := dk_30 (dk_at dksX3_mulAddStep16_4 6 rfl rfl)
theorem dX3_mulAddStep16_101 : decode cX3_mulAddStep16 101 = .ok (.lload 8, 2) := dk_22 8 (dk_at dksX3_mulAddStep16_4 7 rfl rfl)
theorem dX3_mulAddStep16_103 : decode cX3_mulAddStep16 103 = .ok (.land, 1) := dk_127 (dk_at dksX3_mulAddStep16_4 9 rfl rfl)
theorem dX3_mulAddStep16_104 : decode cX3_mulAddStep16 104 = .ok (.lxor, 1) := dk_131 (dk_at dksX3_mulAddStep16_4 10 rfl rfl)
theorem dX3_mulAddStep16_105 : decode cX3_mulAddStep16 105 = .ok (.lstore 10, 2) := dk_55 10 (dk_at dksX3_mulAddStep16_4 11 rfl rfl)
theorem dX3_mulAddStep16_107 : decode cX3_mulAddStep16 107 = .ok (.lload 10, 2) := dk_22 10 (dk_at dksX3_mulAddStep16_4 13 rfl rfl)
theorem dX3_mulAddStep16_109 : decode cX3_mulAddStep16 109 = .ok (.lreturn, 1) := dk_173 (dk_at dksX3_mulAddStep16_4 15 rfl rfl)
theorem q4 : (Jvm.Cond.initialized "GF16") ∈ lw_all := lw_g (lw_at lw_m0 4 rfl) rfl
theorem q46 : (Jvm.Cond.static ({ cls := "GF16", name := "mulAddStep16", desc := "(JJJJJ)J" } : Jvm.MethodName)) ∈ lw_all := lw_g (lw_at lw_m0 46 rfl) rfl
theorem q47 : (Jvm.Cond.code ({ cls := "GF16", name := "mulAddStep16", desc := "(JJJJJ)J" } : Jvm.MethodName) prog_1_method_2_code (14 : Nat) (Option.some Jvm.ClassFile.FieldType.long)) ∈ lw_all := lw_g (lw_at lw_m0 47 rfl) rfl
theorem q48 : (Jvm.Cond.constantLong "GF16" (9 : Nat) (-8608480567731124088 : Int64)) ∈ lw_all := lw_g (lw_at lw_m0 48 rfl) rfl
theorem q49 : (Jvm.Cond.constantLong "GF16" (11 : Nat) (8608480567731124087 : Int64)) ∈ lw_all := lw_g (lw_at lw_m0 49 rfl) rfl
/-! GF16Utils -/
def RX2 : String := "GF16Utils"
abbrev cX2_mulFx8 : ByteArray := prog_2_method_3_code
def yX2_mulFx8 : MethodName := ⟨RX2, "mulFx8", "(BJ)J"⟩
def dkwX2_mulFx8_3 : List UInt8 := [20, 0, 17, 127, 173]
abbrev dktX2_mulFx8_3 : List UInt8 := dkwX2_mulFx8_3 ++ []
def dkwX2_mulFx8_2 : List UInt8 := [131, 55, 4, 22, 4, 20, 0, 15, 127, 55, 6, 22, 4, 22, 6, 7, 125, 131, 22, 6, 6, 125, 131]
abbrev dktX2_mulFx8_2 : List UInt8 := dkwX2_mulFx8_2 ++ dktX2_mulFx8_3
def dkwX2_mulFx8_1 : List UInt8 := [131, 29, 5, 122, 4, 126, 116, 133, 31, 5, 121, 127, 131, 29, 6, 122, 4, 126, 116, 133, 31, 6, 121, 127]
abbrev dktX2_mulFx8_1 : List UInt8 := dkwX2_mulFx8_1 ++ dktX2_mulFx8_2
def dkwX2_mulFx8_0 : List UInt8 := [26, 17, 0, 255, 126, 62, 29, 4, 126, 116, 133, 31, 127, 29, 4, 122, 4, 126, 116, 133, 31, 4, 121, 127]
abbrev dktX2_mulFx8_0 : List UInt8 := dkwX2_mulFx8_0 ++ dktX2_mulFx8_1
theorem dksX2_mulFx8_0 : cX2_mulFx8.data.toList.drop 0 = dktX2_mulFx8_0 := by decide +kernel
theorem dksX2_mulFx8_1 : cX2_mulFx8.data.toList.drop 24 = dktX2_mulFx8_1 := dk_seg dksX2_mulFx8_0 24 rfl rfl
theorem dksX2_mulFx8_2 : cX2_mulFx8.data.toList.drop 48 = dktX2_mulFx8_2 := dk_seg dksX2_mulFx8_1 24 rfl rfl
theorem dksX2_mulFx8_3 : cX2_mulFx8.data.toList.drop 71 = dktX2_mulFx8_3 := dk_seg dksX2_mulFx8_2 23 rfl rfl
theorem dX2_mulFx8_0 : decode cX2_mulFx8 0 = .ok (.iload_n 0, 1) := dk_26 (dk_at dksX2_mulFx8_0 0 rfl rfl)
theorem dX2_mulFx8_1 : decode cX2_mulFx8 1 = .ok (.sipush 255, 3) := dk_17 0 255 (dk_at dksX2_mulFx8_0 1 rfl rfl)
theorem dX2_mulFx8_4 : decode cX2_mulFx8 4 = .ok (.iand, 1) := dk_126 (dk_at dksX2_mulFx8_0 4 rfl rfl)
theorem dX2_mulFx8_5 : decode cX2_mulFx8 5 = .ok (.istore_n 3, 1) := dk_62 (dk_at dksX2_mulFx8_0 5 rfl rfl)
theorem dX2_mulFx8_6 : decode cX2_mulFx8 6 = .ok (.iload_n 3, 1) := dk_29 (dk_at dksX2_mulFx8_0 6 rfl rfl)
theorem dX2_mulFx8_7 : decode cX2_mulFx8 7 = .ok (.iconst 1, 1) := dk_4 (dk_at dksX2_mulFx8_0 7 rfl rfl)
theorem dX2_mulFx8_8 : decode cX2_mulFx8 8 = .ok (.iand, 1) := dk_126 (dk_at dksX2_mulFx8_0 8 rfl rfl)
theorem dX2_mulFx8_9 : decode cX2_mulFx8 9 = .ok (.ineg, 1) := dk_116 (dk_at dksX2_mulFx8_0 9 rfl rfl)
theorem dX2_mulFx8_10 : decode cX2_mulFx8 10 = .ok (.i2l, 1) := dk_133 (dk_at dksX2_mulFx8_0 10 rfl rfl)
theorem dX2_mulFx8_11 : decode cX2_mulFx8 11 = .ok (.lload_n 1, 1) := dk_31 (dk_at dksX2_mulFx8_0 11 rfl rfl)
theorem dX2_mulFx8_12 : decode cX2_mulFx8 12 = .ok (.land, 1) := dk_127 (dk_at dksX2_mulFx8_0 12 rfl rfl)
theorem dX2_mulFx8_13 : decode cX2_mulFx8 13 = .ok (.iload_n 3, 1) := dk_29 (dk_at dksX2_mulFx8_0 13 rfl rfl)
theorem dX2_mulFx8_14 : decode cX2_mulFx8 14 = .ok (.iconst 1, 1) := dk_4 (dk_at dksX2_mulFx8_0 14 rfl rfl)
theorem dX2_mulFx8_15 : decode cX2_mulFx8 15 = .ok (.ishr, 1) := dk_122 (dk_at dksX2_mulFx8_0 15 rfl rfl)
theorem dX2_mulFx8_16 : decode cX2_mulFx8 16 = .ok (.iconst 1, 1) := dk_4 (dk_at dksX2_mulFx8_0 16 rfl rfl)
theorem dX2_mulFx8_17 : decode cX2_mulFx8 17 = .ok (.iand, 1) := dk_126 (dk_at dksX2_mulFx8_0 17 rfl rfl)
theorem dX2_mulFx8_18 : decode cX2_mulFx8 18 = .ok (.ineg, 1) := dk_116 (dk_at dksX2_mulFx8_0 18 rfl rfl)
theorem dX2_mulFx8_19 : decode cX2_mulFx8 19 = .ok (.i2l, 1) := dk_133 (dk_at dksX2_mulFx8_0 19 rfl rfl)
theorem dX2_mulFx8_20 : decode cX2_mulFx8 20 = .ok (.lload_n 1, 1) := dk_31 (dk_at dksX2_mulFx8_0 20 rfl rfl)
theorem dX2_mulFx8_21 : decode cX2_mulFx8 21 = .ok (.iconst 1, 1) := dk_4 (dk_at dksX2_mulFx8_0 21 rfl rfl)
theorem dX2_mulFx8_22 : decode cX2_mulFx8 22 = .ok (.lshl, 1) := dk_121 (dk_at dksX2_mulFx8_0 22 rfl rfl)
theorem dX2_mulFx8_23 : decode cX2_mulFx8 23 = .ok (.land, 1) := dk_127 (dk_at dksX2_mulFx8_0 23 rfl rfl)
theorem dX2_mulFx8_24 : decode cX2_mulFx8 24 = .ok (.lxor, 1) := dk_131 (dk_at dksX2_mulFx8_1 0 rfl rfl)
theorem dX2_mulFx8_25 : decode cX2_mulFx8 25 = .ok (.iload_n 3, 1) := dk_29 (dk_at dksX2_mulFx8_1 1 rfl rfl)
theorem dX2_mulFx8_26 : decode cX2_mulFx8 26 = .ok (.iconst 2, 1) := dk_5 (dk_at dksX2_mulFx8_1 2 rfl rfl)
theorem dX2_mulFx8_27 : decode cX2_mulFx8 27 = .ok (.ishr, 1) := dk_122 (dk_at dksX2_mulFx8_1 3 rfl rfl)
theorem dX2_mulFx8_28 : decode cX2_mulFx8 28 = .ok (.iconst 1, 1) := dk_4 (dk_at dksX2_mulFx8_1 4 rfl rfl)
theorem dX2_mulFx8_29 : decode cX2_mulFx8 29 = .ok (.iand, 1) := dk_126 (dk_at dksX2_mulFx8_1 5 rfl rfl)
theorem dX2_mulFx8_30 : decode cX2_mulFx8 30 = .ok (.ineg, 1) := dk_116 (dk_at dksX2_mulFx8_1 6 rfl rfl)
theorem dX2_mulFx8_31 : decode cX2_mulFx8 31 = .ok (.i2l, 1) := dk_133 (dk_at dksX2_mulFx8_1 7 rfl rfl)
theorem dX2_mulFx8_32 : decode cX2_mulFx8 32 = .ok (.lload_n 1, 1) := dk_31 (dk_at dksX2_mulFx8_1 8 rfl rfl)
theorem dX2_mulFx8_33 : decode cX2_mulFx8 33 = .ok (.iconst 2, 1) := dk_5 (dk_at dksX2_mulFx8_1 9 rfl rfl)
theorem dX2_mulFx8_34 : decode cX2_mulFx8 34 = .ok (.lshl, 1) := dk_121 (dk_at dksX2_mulFx8_1 10 rfl rfl)
theorem dX2_mulFx8_35 : decode cX2_mulFx8 35 = .ok (.land, 1) := dk_127 (dk_at dksX2_mulFx8_1 11 rfl rfl)
theorem dX2_mulFx8_36 : decode cX2_mulFx8 36 = .ok (.lxor, 1) := dk_131 (dk_at dksX2_mulFx8_1 12 rfl rfl)
theorem dX2_mulFx8_37 : decode cX2_mulFx8 37 = .ok (.iload_n 3, 1) := dk_29 (dk_at dksX2_mulFx8_1 13 rfl rfl)
theorem dX2_mulFx8_38 : decode cX2_mulFx8 38 = .ok (.iconst 3, 1) := dk_6 (dk_at dksX2_mulFx8_1 14 rfl rfl)
theorem dX2_mulFx8_39 : decode cX2_mulFx8 39 = .ok (.ishr, 1) := dk_122 (dk_at dksX2_mulFx8_1 15 rfl rfl)
theorem dX2_mulFx8_40 : decode cX2_mulFx8 40 = .ok (.iconst 1, 1) := dk_4 (dk_at dksX2_mulFx8_1 16 rfl rfl)
theorem dX2_mulFx8_41 : decode cX2_mulFx8 41 = .ok (.iand, 1) := dk_126 (dk_at dksX2_mulFx8_1 17 rfl rfl)
theorem dX2_mulFx8_42 : decode cX2_mulFx8 42 = .ok (.ineg, 1) := dk_116 (dk_at dksX2_mulFx8_1 18 rfl rfl)
theorem dX2_mulFx8_43 : decode cX2_mulFx8 43 = .ok (.i2l, 1) := dk_133 (dk_at dksX2_mulFx8_1 19 rfl rfl)
theorem dX2_mulFx8_44 : decode cX2_mulFx8 44 = .ok (.lload_n 1, 1) := dk_31 (dk_at dksX2_mulFx8_1 20 rfl rfl)
theorem dX2_mulFx8_45 : decode cX2_mulFx8 45 = .ok (.iconst 3, 1) := dk_6 (dk_at dksX2_mulFx8_1 21 rfl rfl)
theorem dX2_mulFx8_46 : decode cX2_mulFx8 46 = .ok (.lshl, 1) := dk_121 (dk_at dksX2_mulFx8_1 22 rfl rfl)
theorem dX2_mulFx8_47 : decode cX2_mulFx8 47 = .ok (.land, 1) := dk_127 (dk_at dksX2_mulFx8_1 23 rfl rfl)
theorem dX2_mulFx8_48 : decode cX2_mulFx8 48 = .ok (.lxor, 1) := dk_131 (dk_at dksX2_mulFx8_2 0 rfl rfl)
theorem dX2_mulFx8_49 : decode cX2_mulFx8 49 = .ok (.lstore 4, 2) := dk_55 4 (dk_at dksX2_mulFx8_2 1 rfl rfl)
theorem dX2_mulFx8_51 : decode cX2_mulFx8 51 = .ok (.lload 4, 2) := dk_22 4 (dk_at dksX2_mulFx8_2 3 rfl rfl)
theorem dX2_mulFx8_53 : decode cX2_mulFx8 53 = .ok (.ldc2_w 15, 3) := dk_20 0 15 (dk_at dksX2_mulFx8_2 5 rfl rfl)
theorem dX2_mulFx8_56 : decode cX2_mulFx8 56 = .ok (.land, 1) := dk_127 (dk_at dksX2_mulFx8_2 8 rfl rfl)
theorem dX2_mulFx8_57 : decode cX2_mulFx8 57 = .ok (.lstore 6, 2) := dk_55 6 (dk_at dksX2_mulFx8_2 9 rfl rfl)
theorem dX2_mulFx8_59 : decode cX2_mulFx8 59 = .ok (.lload 4, 2) := dk_22 4 (dk_at dksX2_mulFx8_2 11 rfl rfl)
theorem dX2_mulFx8_61 : decode cX2_mulFx8 61 = .ok (.lload 6, 2) := dk_22 6 (dk_at dksX2_mulFx8_2 13 rfl rfl)
theorem dX2_mulFx8_63 : decode cX2_mulFx8 63 = .ok (.iconst 4, 1) := dk_7 (dk_at dksX2_mulFx8_2 15 rfl rfl)
theorem dX2_mulFx8_64 : decode cX2_mulFx8 64 = .ok (.lushr, 1) := dk_125 (dk_at dksX2_mulFx8_2 16 rfl rfl)
theorem dX2_mulFx8_65 : decode cX2_mulFx8 65 = .ok (.lxor, 1) := dk_131 (dk_at dksX2_mulFx8_2 17 rfl rfl)
theorem dX2_mulFx8_66 : decode cX2_mulFx8 66 = .ok (.lload 6, 2) := dk_22 6 (dk_at dksX2_mulFx8_2 18 rfl rfl)
theorem dX2_mulFx8_68 : decode cX2_mulFx8 68 = .ok (.iconst 3, 1) := dk_6 (dk_at dksX2_mulFx8_2 20 rfl rfl)
theorem dX2_mulFx8_69 : decode cX2_mulFx8 69 = .ok (.lushr, 1) := dk_125 (dk_at dksX2_mulFx8_2 21 rfl rfl)
theorem dX2_mulFx8_70 : decode cX2_mulFx8 70 = .ok (.lxor, 1) := dk_131 (dk_at dksX2_mulFx8_2 22 rfl rfl)
theorem dX2_mulFx8_71 : decode cX2_mulFx8 71 = .ok (.ldc2_w 17, 3) := dk_20 0 17 (dk_at dksX2_mulFx8_3 0 rfl rfl)
theorem dX2_mulFx8_74 : decode cX2_mulFx8 74 = .ok (.land, 1) := dk_127 (dk_at dksX2_mulFx8_3 3 rfl rfl)
theorem dX2_mulFx8_75 : decode cX2_mulFx8 75 = .ok (.lreturn, 1) := dk_173 (dk_at dksX2_mulFx8_3 4 rfl rfl)
abbrev cX2_mVecMulAdd : ByteArray := prog_2_method_2_code
def yX2_mVecMulAdd : MethodName := ⟨RX2, "mVecMulAdd", "(I[JII[JI)V"⟩
def dkwX2_mVecMulAdd_3 : List UInt8 := [22, 14, 184, 0, 9, 131, 80, 132, 16, 1, 167, 255, 219, 177]
abbrev dktX2_mVecMulAdd_3 : List UInt8 := dkwX2_mVecMulAdd_3 ++ []
def dkwX2_mVecMulAdd_2 : List UInt8 := [162, 0, 37, 25, 4, 21, 5, 132, 5, 1, 92, 47, 43, 28, 132, 2, 1, 47, 22, 8, 22, 10, 22, 12]
abbrev dktX2_mVecMulAdd_2 : List UInt8 := dkwX2_mVecMulAdd_2 ++ dktX2_mVecMulAdd_3
def dkwX2_mVecMulAdd_1 : List UInt8 := [22, 6, 5, 125, 10, 127, 117, 55, 12, 22, 6, 6, 125, 10, 127, 117, 55, 14, 3, 54, 16, 21, 16, 26]
abbrev dktX2_mVecMulAdd_1 : List UInt8 := dkwX2_mVecMulAdd_1 ++ dktX2_mVecMulAdd_2
def dkwX2_mVecMulAdd_0 : List UInt8 := [29, 133, 20, 0, 7, 127, 55, 6, 22, 6, 10, 127, 117, 55, 8, 22, 6, 4, 125, 10, 127, 117, 55, 10]
abbrev dktX2_mVecMulAdd_0 : List UInt8 := dkwX2_mVecMulAdd_0 ++ dktX2_mVecMulAdd_1
theorem dksX2_mVecMulAdd_0 : cX2_mVecMulAdd.data.toList.drop 0 = dktX2_mVecMulAdd_0 := by decide +kernel
theorem dksX2_mVecMulAdd_1 : cX2_mVecMulAdd.data.toList.drop 24 = dktX2_mVecMulAdd_1 := dk_seg dksX2_mVecMulAdd_0 24 rfl rfl
theorem dksX2_mVecMulAdd_2 : cX2_mVecMulAdd.data.toList.drop 48 = dktX2_mVecMulAdd_2 := dk_seg dksX2_mVecMulAdd_1 24 rfl rfl
theorem dksX2_mVecMulAdd_3 : cX2_mVecMulAdd.data.toList.drop 72 = dktX2_mVecMulAdd_3 := dk_seg dksX2_mVecMulAdd_2 24 rfl rfl
theorem dX2_mVecMulAdd_0 : decode cX2_mVecMulAdd 0 = .ok (.iload_n 3, 1) := dk_29 (dk_at dksX2_mVecMulAdd_0 0 rfl rfl)
theorem dX2_mVecMulAdd_1 : decode cX2_mVecMulAdd 1 = .ok (.i2l, 1) := dk_133 (dk_at dksX2_mVecMulAdd_0 1 rfl rfl)
theorem dX2_mVecMulAdd_2 : decode cX2_mVecMulAdd 2 = .ok (.ldc2_w 7, 3) := dk_20 0 7 (dk_at dksX2_mVecMulAdd_0 2 rfl rfl)
theorem dX2_mVecMulAdd_5 : decode cX2_mVecMulAdd 5 = .ok (.land, 1) := dk_127 (dk_at dksX2_mVecMulAdd_0 5 rfl rfl)
theorem dX2_mVecMulAdd_6 : decode cX2_mVecMulAdd 6 = .ok (.lstore 6, 2) := dk_55 6 (dk_at dksX2_mVecMulAdd_0 6 rfl rfl)
theorem dX2_mVecMulAdd_8 : decode cX2_mVecMulAdd 8 = .ok (.lload 6, 2) := dk_22 6 (dk_at dksX2_mVecMulAdd_0 8 rfl rfl)
theorem dX2_mVecMulAdd_10 : decode cX2_mVecMulAdd 10 = .ok (.lconst 1, 1) := dk_10 (dk_at dksX2_mVecMulAdd_0 10 rfl rfl)
theorem dX2_mVecMulAdd_11 : decode cX2_mVecMulAdd 11 = .ok (.land, 1) := dk_127 (dk_at dksX2_mVecMulAdd_0 11 rfl rfl)
theorem dX2_mVecMulAdd_12 : decode cX2_mVecMulAdd 12 = .ok (.lneg, 1) := dk_117 (dk_at dksX2_mVecMulAdd_0 12 rfl rfl)
theorem dX2_mVecMulAdd_13 : decode cX2_mVecMulAdd 13 = .ok (.lstore 8, 2) := dk_55 8 (dk_at dksX2_mVecMulAdd_0 13 rfl rfl)
theorem dX2_mVecMulAdd_15 : decode cX2_mVecMulAdd 15 = .ok (.lload 6, 2) := dk_22 6 (dk_at dksX2_mVecMulAdd_0 15 rfl rfl)
theorem dX2_mVecMulAdd_17 : decode cX2_mVecMulAdd 17 = .ok (.iconst 1, 1) := dk_4 (dk_at dksX2_mVecMulAdd_0 17 rfl rfl)
theorem dX2_mVecMulAdd_18 : decode cX2_mVecMulAdd 18 = .ok (.lushr, 1) := dk_125 (dk_at dksX2_mVecMulAdd_0 18 rfl rfl)
theorem dX2_mVecMulAdd_19 : decode cX2_mVecMulAdd 19 = .ok (.lconst 1, 1) := dk_10 (dk_at dksX2_mVecMulAdd_0 19 rfl rfl)
theorem dX2_mVecMulAdd_20 : decode cX2_mVecMulAdd 20 = .ok (.land, 1) := dk_127 (dk_at dksX2_mVecMulAdd_0 20 rfl rfl)
theorem dX2_mVecMulAdd_21 : decode cX2_mVecMulAdd 21 = .ok (.lneg, 1) := dk_117 (dk_at dksX2_mVecMulAdd_0 21 rfl rfl)
theorem dX2_mVecMulAdd_22 : decode cX2_mVecMulAdd 22 = .ok (.lstore 10, 2) := dk_55 10 (dk_at dksX2_mVecMulAdd_0 22 rfl rfl)
theorem dX2_mVecMulAdd_24 : decode cX2_mVecMulAdd 24 = .ok (.lload 6, 2) := dk_22 6 (dk_at dksX2_mVecMulAdd_1 0 rfl rfl)
theorem dX2_mVecMulAdd_26 : decode cX2_mVecMulAdd 26 = .ok (.iconst 2, 1) := dk_5 (dk_at dksX2_mVecMulAdd_1 2 rfl rfl)
theorem dX2_mVecMulAdd_27 : decode cX2_mVecMulAdd 27 = .ok (.lushr, 1) := dk_125 (dk_at dksX2_mVecMulAdd_1 3 rfl rfl)
theorem dX2_mVecMulAdd_28 : decode cX2_mVecMulAdd 28 = .ok (.lconst 1, 1) := dk_10 (dk_at dksX2_mVecMulAdd_1 4 rfl rfl)
theorem dX2_mVecMulAdd_29 : decode cX2_mVecMulAdd 29 = .ok (.land, 1) := dk_127 (dk_at dksX2_mVecMulAdd_1 5 rfl rfl)
theorem dX2_mVecMulAdd_30 : decode cX2_mVecMulAdd 30 = .ok (.lneg, 1) := dk_117 (dk_at dksX2_mVecMulAdd_1 6 rfl rfl)
theorem dX2_mVecMulAdd_31 : decode cX2_mVecMulAdd 31 = .ok (.lstore 12, 2) := dk_55 12 (dk_at dksX2_mVecMulAdd_1 7 rfl rfl)
theorem dX2_mVecMulAdd_33 : decode cX2_mVecMulAdd 33 = .ok (.lload 6, 2) := dk_22 6 (dk_at dksX2_mVecMulAdd_1 9 rfl rfl)
theorem dX2_mVecMulAdd_35 : decode cX2_mVecMulAdd 35 = .ok (.iconst 3, 1) := dk_6 (dk_at dksX2_mVecMulAdd_1 11 rfl rfl)
theorem dX2_mVecMulAdd_36 : decode cX2_mVecMulAdd 36 = .ok (.lushr, 1) := dk_125 (dk_at dksX2_mVecMulAdd_1 12 rfl rfl)
theorem dX2_mVecMulAdd_37 : decode cX2_mVecMulAdd 37 = .ok (.lconst 1, 1) := dk_10 (dk_at dksX2_mVecMulAdd_1 13 rfl rfl)
theorem dX2_mVecMulAdd_38 : decode cX2_mVecMulAdd 38 = .ok (.land, 1) := dk_127 (dk_at dksX2_mVecMulAdd_1 14 rfl rfl)
theorem dX2_mVecMulAdd_39 : decode cX2_mVecMulAdd 39 = .ok (.lneg, 1) := dk_117 (dk_at dksX2_mVecMulAdd_1 15 rfl rfl)
theorem dX2_mVecMulAdd_40 : decode cX2_mVecMulAdd 40 = .ok (.lstore 14, 2) := dk_55 14 (dk_at dksX2_mVecMulAdd_1 16 rfl rfl)
theorem dX2_mVecMulAdd_42 : decode cX2_mVecMulAdd 42 = .ok (.iconst 0, 1) := dk_3 (dk_at dksX2_mVecMulAdd_1 18 rfl rfl)
theorem dX2_mVecMulAdd_43 : decode cX2_mVecMulAdd 43 = .ok (.istore 16, 2) := dk_54 16 (dk_at dksX2_mVecMulAdd_1 19 rfl rfl)
theorem dX2_mVecMulAdd_45 : decode cX2_mVecMulAdd 45 = .ok (.iload 16, 2) := dk_21 16 (dk_at dksX2_mVecMulAdd_1 21 rfl rfl)
theorem dX2_mVecMulAdd_47 : decode cX2_mVecMulAdd 47 = .ok (.iload_n 0, 1) := dk_26 (dk_at dksX2_mVecMulAdd_1 23 rfl rfl)
theorem dX2_mVecMulAdd_48 : decode cX2_mVecMulAdd 48 = .ok (.if_icmp .ge 37, 3) := dk_162 0 37 (dk_at dksX2_mVecMulAdd_2 0 rfl rfl)
theorem dX2_mVecMulAdd_51 : decode cX2_mVecMulAdd 51 = .ok (.aload 4, 2) := dk_25 4 (dk_at dksX2_mVecMulAdd_2 3 rfl rfl)
theorem dX2_mVecMulAdd_53 : decode cX2_mVecMulAdd 53 = .ok (.iload 5, 2) := dk_21 5 (dk_at dksX2_mVecMulAdd_2 5 rfl rfl)
theorem dX2_mVecMulAdd_55 : decode cX2_mVecMulAdd 55 = .ok (.iinc 5 1, 3) := dk_132 5 1 (dk_at dksX2_mVecMulAdd_2 7 rfl rfl)
theorem dX2_mVecMulAdd_58 : decode cX2_mVecMulAdd 58 = .ok (.dup2, 1) := dk_92 (dk_at dksX2_mVecMulAdd_2 10 rfl rfl)
theorem dX2_mVecMulAdd_59 : decode cX2_mVecMulAdd 59 = .ok (.laload, 1) := dk_47 (dk_at dksX2_mVecMulAdd_2 11 rfl rfl)
theorem dX2_mVecMulAdd_60 : decode cX2_mVecMulAdd 60 = .ok (.aload_n 1, 1) := dk_43 (dk_at dksX2_mVecMulAdd_2 12 rfl rfl)
theorem dX2_mVecMulAdd_61 : decode cX2_mVecMulAdd 61 = .ok (.iload_n 2, 1) := dk_28 (dk_at dksX2_mVecMulAdd_2 13 rfl rfl)
theorem dX2_mVecMulAdd_62 : decode cX2_mVecMulAdd 62 = .ok (.iinc 2 1, 3) := dk_132 2 1 (dk_at dksX2_mVecMulAdd_2 14 rfl rfl)
theorem dX2_mVecMulAdd_65 : decode cX2_mVecMulAdd 65 = .ok (.laload, 1) := dk_47 (dk_at dksX2_mVecMulAdd_2 17 rfl rfl)
theorem dX2_mVecMulAdd_66 : decode cX2_mVecMulAdd 66 = .ok (.lload 8, 2) := dk_22 8 (dk_at dksX2_mVecMulAdd_2 18 rfl rfl)
theorem dX2_mVecMulAdd_68 : decode cX2_mVecMulAdd 68 = .ok (.lload 10, 2) := dk_22 10 (dk_at dksX2_mVecMulAdd_2 20 rfl rfl)
theorem dX2_mVecMulAdd_70 : decode cX2_mVecMulAdd 70 = .ok (.lload 12, 2) := dk_22 12 (dk_at dksX2_mVecMulAdd_2 22 rfl rfl)
theorem dX2_mVecMulAdd_72 : decode cX2_mVecMulAdd 72 = .ok (.lload 14, 2) := dk_22 14 (dk_at dksX2_mVecMulAdd_3 0 rfl rfl)
theorem dX2_mVecMulAdd_74 : decode cX2_mVecMulAdd 74 = .ok (.invokestatic 9, 3) := dk_184 0 9 (dk_at dksX2_mVecMulAdd_3 2 rfl rfl)
theorem dX2_mVecMulAdd_77 : decode cX2_mVecMulAdd 77 = .ok (.lxor, 1) := dk_131 (dk_at dksX2_mVecMulAdd_3 5 rfl rfl)
theorem dX2_mVecMulAdd_78 : decode cX2_mVecMulAdd 78 = .ok (.lastore, 1) := dk_80 (dk_at dksX2_mVecMulAdd_3 6 rfl rfl)
theorem dX2_mVecMulAdd_79 : decode cX2_mVecMulAdd 79 = .ok (.iinc 16 1, 3) := dk_132 16 1 (dk_at dksX2_mVecMulAdd_3 7 rfl rfl)
theorem dX2_mVecMulAdd_82 : decode cX2_mVecMulAdd 82 = .ok (.goto (-37), 3) := dk_167 255 219 (dk_at dksX2_mVecMulAdd_3 10 rfl rfl)
theorem dX2_mVecMulAdd_85 : decode cX2_mVecMulAdd 85 = .ok (.return_, 1) := dk_177 (dk_at dksX2_mVecMulAdd_3 13 rfl rfl)
theorem q3 : (Jvm.Cond.initialized "GF16Utils") ∈ lw_all := lw_g (lw_at lw_m0 3 rfl) rfl
theorem q28 : (Jvm.Cond.static ({ cls := "GF16Utils", name := "mulFx8", desc := "(BJ)J" } : Jvm.MethodName)) ∈ lw_all := lw_g (lw_at lw_m0 28 rfl) rfl
theorem q29 : (Jvm.Cond.code ({ cls := "GF16Utils", name := "mulFx8", desc := "(BJ)J" } : Jvm.MethodName) prog_2_method_3_code (8 : Nat) (Option.some Jvm.ClassFile.FieldType.long)) ∈ lw_all := lw_g (lw_at lw_m0 29 rfl) rfl
theorem q30 : (Jvm.Cond.constantLong "GF16Utils" (15 : Nat) (-1085102592571150096 : Int64)) ∈ lw_all := lw_g (lw_at lw_m0 30 rfl) rfl
theorem q31 : (Jvm.Cond.constantLong "GF16Utils" (17 : Nat) (1085102592571150095 : Int64)) ∈ lw_all := lw_g (lw_at lw_m0 31 rfl) rfl
theorem q42 : (Jvm.Cond.static ({ cls := "GF16Utils", name := "mVecMulAdd", desc := "(I[JII[JI)V" } : Jvm.MethodName)) ∈ lw_all := lw_g (lw_at lw_m0 42 rfl) rfl
theorem q43 : (Jvm.Cond.code ({ cls := "GF16Utils", name := "mVecMulAdd", desc := "(I[JII[JI)V" } : Jvm.MethodName) prog_2_method_2_code (17 : Nat) (Option.none : Option Jvm.ClassFile.FieldType)) ∈ lw_all := lw_g (lw_at lw_m0 43 rfl) rfl
theorem q44 : (Jvm.Cond.constantLong "GF16Utils" (7 : Nat) (4294967295 : Int64)) ∈ lw_all := lw_g (lw_at lw_m0 44 rfl) rfl
theorem q45 : (Jvm.Cond.methodLink "GF16Utils" (9 : Nat) ({ cls := "GF16", name := "mulAddStep16", desc := "(JJJJJ)J" } : Jvm.MethodName)) ∈ lw_all := lw_g (lw_at lw_m0 45 rfl) rfl
/-! NibbleField -/
def RX0 : String := "NibbleField"
def TX0 : u_T := fun k => match k with
  | _ => ("NibbleField", "row", "[J", true)
def tyX0 : Nat → FieldType := fun k => match k with
  | _ => .array .long
abbrev wsX00 : List Cond := u_ws RX0 TX0 1
theorem nmX0 : ∀ a, a < 1 → ∀ b, b < 1 → a ≠ b → (TX0 a).2.1 ≠ (TX0 b).2.1 := by decide +kernel
theorem tyX0_ok : ∀ k, k < 1 → parseFieldDescriptor (TX0 k).2.2.1 = some (tyX0 k) := by decide +kernel
abbrev cX0_init : ByteArray := prog_3_method_1_code
def yX0_init : MethodName := ⟨RX0, "<init>", "()V"⟩
def dkwX0_init_0 : List UInt8 := [42, 183, 0, 1, 42, 16, 8, 188, 11, 181, 0, 7, 177]
abbrev dktX0_init_0 : List UInt8 := dkwX0_init_0 ++ []
theorem dksX0_init_0 : cX0_init.data.toList.drop 0 = dktX0_init_0 := by decide +kernel
theorem dX0_init_0 : decode cX0_init 0 = .ok (.aload_n 0, 1) := dk_42 (dk_at dksX0_init_0 0 rfl rfl)
theorem dX0_init_1 : decode cX0_init 1 = .ok (.invokespecial 1, 3) := dk_183 0 1 (dk_at dksX0_init_0 1 rfl rfl)
theorem dX0_init_4 : decode cX0_init 4 = .ok (.aload_n 0, 1) := dk_42 (dk_at dksX0_init_0 4 rfl rfl)
theorem dX0_init_5 : decode cX0_init 5 = .ok (.bipush 8, 2) := dk_16 8 (dk_at dksX0_init_0 5 rfl rfl)
theorem dX0_init_7 : decode cX0_init 7 = .ok (.newarray .long, 2) := dk_188_11 (dk_at dksX0_init_0 7 rfl rfl)
theorem dX0_init_9 : decode cX0_init 9 = .ok (.putfield 7, 3) := dk_181 0 7 (dk_at dksX0_init_0 9 rfl rfl)
theorem dX0_init_12 : decode cX0_init 12 = .ok (.return_, 1) := dk_177 (dk_at dksX0_init_0 12 rfl rfl)
abbrev cX0_eight : ByteArray := prog_3_method_3_code
def yX0_eight : MethodName := ⟨RX0, "eight", "(III)J"⟩
def dkwX0_eight_0 : List UInt8 := [27, 16, 15, 126, 145, 28, 29, 184, 0, 15, 20, 0, 19, 127, 184, 0, 21, 173]
abbrev dktX0_eight_0 : List UInt8 := dkwX0_eight_0 ++ []
theorem dksX0_eight_0 : cX0_eight.data.toList.drop 0 = dktX0_eight_0 := by decide +kernel
theorem dX0_eight_0 : decode cX0_eight 0 = .ok (.iload_n 1, 1) := dk_27 (dk_at dksX0_eight_0 0 rfl rfl)
theorem dX0_eight_1 : decode cX0_eight 1 = .ok (.bipush 15, 2) := dk_16 15 (dk_at dksX0_eight_0 1 rfl rfl)
theorem dX0_eight_3 : decode cX0_eight 3 = .ok (.iand, 1) := dk_126 (dk_at dksX0_eight_0 3 rfl rfl)
theorem dX0_eight_4 : decode cX0_eight 4 = .ok (.i2b, 1) := dk_145 (dk_at dksX0_eight_0 4 rfl rfl)
theorem dX0_eight_5 : decode cX0_eight 5 = .ok (.iload_n 2, 1) := dk_28 (dk_at dksX0_eight_0 5 rfl rfl)
theorem dX0_eight_6 : decode cX0_eight 6 = .ok (.iload_n 3, 1) := dk_29 (dk_at dksX0_eight_0 6 rfl rfl)
theorem dX0_eight_7 : decode cX0_eight 7 = .ok (.invokestatic 15, 3) := dk_184 0 15 (dk_at dksX0_eight_0 7 rfl rfl)
theorem dX0_eight_10 : decode cX0_eight 10 = .ok (.ldc2_w 19, 3) := dk_20 0 19 (dk_at dksX0_eight_0 10 rfl rfl)
theorem dX0_eight_13 : decode cX0_eight 13 = .ok (.land, 1) := dk_127 (dk_at dksX0_eight_0 13 rfl rfl)
theorem dX0_eight_14 : decode cX0_eight 14 = .ok (.invokestatic 21, 3) := dk_184 0 21 (dk_at dksX0_eight_0 14 rfl rfl)
theorem dX0_eight_17 : decode cX0_eight 17 = .ok (.lreturn, 1) := dk_173 (dk_at dksX0_eight_0 17 rfl rfl)
abbrev cX0_of : ByteArray := prog_3_method_2_code
def yX0_of : MethodName := ⟨RX0, "of", "(II)J"⟩
def dkwX0_of_0 : List UInt8 := [26, 133, 16, 32, 121, 27, 133, 20, 0, 13, 127, 129, 173]
abbrev dktX0_of_0 : List UInt8 := dkwX0_of_0 ++ []
theorem dksX0_of_0 : cX0_of.data.toList.drop 0 = dktX0_of_0 := by decide +kernel
theorem dX0_of_0 : decode cX0_of 0 = .ok (.iload_n 0, 1) := dk_26 (dk_at dksX0_of_0 0 rfl rfl)
theorem dX0_of_1 : decode cX0_of 1 = .ok (.i2l, 1) := dk_133 (dk_at dksX0_of_0 1 rfl rfl)
theorem dX0_of_2 : decode cX0_of 2 = .ok (.bipush 32, 2) := dk_16 32 (dk_at dksX0_of_0 2 rfl rfl)
theorem dX0_of_4 : decode cX0_of 4 = .ok (.lshl, 1) := dk_121 (dk_at dksX0_of_0 4 rfl rfl)
theorem dX0_of_5 : decode cX0_of 5 = .ok (.iload_n 1, 1) := dk_27 (dk_at dksX0_of_0 5 rfl rfl)
theorem dX0_of_6 : decode cX0_of 6 = .ok (.i2l, 1) := dk_133 (dk_at dksX0_of_0 6 rfl rfl)
theorem dX0_of_7 : decode cX0_of 7 = .ok (.ldc2_w 13, 3) := dk_20 0 13 (dk_at dksX0_of_0 7 rfl rfl)
theorem dX0_of_10 : decode cX0_of 10 = .ok (.land, 1) := dk_127 (dk_at dksX0_of_0 10 rfl rfl)
theorem dX0_of_11 : decode cX0_of 11 = .ok (.lor, 1) := dk_129 (dk_at dksX0_of_0 11 rfl rfl)
theorem dX0_of_12 : decode cX0_of 12 = .ok (.lreturn, 1) := dk_173 (dk_at dksX0_of_0 12 rfl rfl)
abbrev cX0_set : ByteArray := prog_3_method_4_code
def yX0_set : MethodName := ⟨RX0, "set", "(III)V"⟩
def dkwX0_set_0 : List UInt8 := [42, 180, 0, 7, 27, 16, 7, 126, 28, 29, 184, 0, 15, 80, 177]
abbrev dktX0_set_0 : List UInt8 := dkwX0_set_0 ++ []
theorem dksX0_set_0 : cX0_set.data.toList.drop 0 = dktX0_set_0 := by decide +kernel
theorem dX0_set_0 : decode cX0_set 0 = .ok (.aload_n 0, 1) := dk_42 (dk_at dksX0_set_0 0 rfl rfl)
theorem dX0_set_1 : decode cX0_set 1 = .ok (.getfield 7, 3) := dk_180 0 7 (dk_at dksX0_set_0 1 rfl rfl)
theorem dX0_set_4 : decode cX0_set 4 = .ok (.iload_n 1, 1) := dk_27 (dk_at dksX0_set_0 4 rfl rfl)
theorem dX0_set_5 : decode cX0_set 5 = .ok (.bipush 7, 2) := dk_16 7 (dk_at dksX0_set_0 5 rfl rfl)
theorem dX0_set_7 : decode cX0_set 7 = .ok (.iand, 1) := dk_126 (dk_at dksX0_set_0 7 rfl rfl)
theorem dX0_set_8 : decode cX0_set 8 = .ok (.iload_n 2, 1) := dk_28 (dk_at dksX0_set_0 8 rfl rfl)
theorem dX0_set_9 : decode cX0_set 9 = .ok (.iload_n 3, 1) := dk_29 (dk_at dksX0_set_0 9 rfl rfl)
theorem dX0_set_10 : decode cX0_set 10 = .ok (.invokestatic 15, 3) := dk_184 0 15 (dk_at dksX0_set_0 10 rfl rfl)
theorem dX0_set_13 : decode cX0_set 13 = .ok (.lastore, 1) := dk_80 (dk_at dksX0_set_0 13 rfl rfl)
theorem dX0_set_14 : decode cX0_set 14 = .ok (.return_, 1) := dk_177 (dk_at dksX0_set_0 14 rfl rfl)
abbrev cX0_add : ByteArray := prog_3_method_5_code
def yX0_add : MethodName := ⟨RX0, "add", "(IIII)V"⟩
def dkwX0_add_3 : List UInt8 := [25, 8, 3, 21, 4, 16, 15, 126, 42, 180, 0, 7, 21, 7, 184, 0, 28, 177]
abbrev dktX0_add_3 : List UInt8 := dkwX0_add_3 ++ []
def dkwX0_add_2 : List UInt8 := [25, 8, 21, 9, 42, 180, 0, 7, 21, 6, 21, 9, 96, 47, 80, 132, 9, 1, 167, 255, 231, 21, 5]
abbrev dktX0_add_2 : List UInt8 := dkwX0_add_2 ++ dktX0_add_3
def dkwX0_add_1 : List UInt8 := [16, 9, 21, 5, 100, 112, 54, 7, 21, 5, 188, 11, 58, 8, 3, 54, 9, 21, 9, 21, 5, 162, 0, 24]
abbrev dktX0_add_1 : List UInt8 := dkwX0_add_1 ++ dktX0_add_2
def dkwX0_add_0 : List UInt8 := [4, 29, 6, 126, 96, 54, 5, 27, 18, 27, 126, 16, 9, 21, 5, 100, 112, 54, 6, 28, 18, 27, 126]
abbrev dktX0_add_0 : List UInt8 := dkwX0_add_0 ++ dktX0_add_1
theorem dksX0_add_0 : cX0_add.data.toList.drop 0 = dktX0_add_0 := by decide +kernel
theorem dksX0_add_1 : cX0_add.data.toList.drop 23 = dktX0_add_1 := dk_seg dksX0_add_0 23 rfl rfl
theorem dksX0_add_2 : cX0_add.data.toList.drop 47 = dktX0_add_2 := dk_seg dksX0_add_1 24 rfl rfl
theorem dksX0_add_3 : cX0_add.data.toList.drop 70 = dktX0_add_3 := dk_seg dksX0_add_2 23 rfl rfl
theorem dX0_add_0 : decode cX0_add 0 = .ok (.iconst 1, 1) := dk_4 (dk_at dksX0_add_0 0 rfl rfl)
theorem dX0_add_1 : decode cX0_add 1 = .ok (.iload_n 3, 1) := dk_29 (dk_at dksX0_add_0 1 rfl rfl)
theorem dX0_add_2 : decode cX0_add 2 = .ok (.iconst 3, 1) := dk_6 (dk_at dksX0_add_0 2 rfl rfl)
theorem dX0_add_3 : decode cX0_add 3 = .ok (.iand, 1) := dk_126 (dk_at dksX0_add_0 3 rfl rfl)
theorem dX0_add_4 : decode cX0_add 4 = .ok (.iadd, 1) := dk_96 (dk_at dksX0_add_0 4 rfl rfl)
theorem dX0_add_5 : decode cX0_add 5 = .ok (.istore 5, 2) := dk_54 5 (dk_at dksX0_add_0 5 rfl rfl)
theorem dX0_add_7 : decode cX0_add 7 = .ok (.iload_n 1, 1) := dk_27 (dk_at dksX0_add_0 7 rfl rfl)
theorem dX0_add_8 : decode cX0_add 8 = .ok (.ldc 27, 2) := dk_18 27 (dk_at dksX0_add_0 8 rfl rfl)
theorem dX0_add_10 : decode cX0_add 10 = .ok (.iand, 1) := dk_126 (dk_at dksX0_add_0 10 rfl rfl)
theorem dX0_add_11 : decode cX0_add 11 = .ok (.bipush 9, 2) := dk_16 9 (dk_at dksX0_add_0 11 rfl rfl)
theorem dX0_add_13 : decode cX0_add 13 = .ok (.iload 5, 2) := dk_21 5 (dk_at dksX0_add_0 13 rfl rfl)
theorem dX0_add_15 : decode cX0_add 15 = .ok (.isub, 1) := dk_100 (dk_at dksX0_add_0 15 rfl rfl)
theorem dX0_add_16 : decode cX0_add 16 = .ok (.irem, 1) := dk_112 (dk_at dksX0_add_0 16 rfl rfl)
theorem dX0_add_17 : decode cX0_add 17 = .ok (.istore 6, 2) := dk_54 6 (dk_at dksX0_add_0 17 rfl rfl)
theorem dX0_add_19 : decode cX0_add 19 = .ok (.iload_n 2, 1) := dk_28 (dk_at dksX0_add_0 19 rfl rfl)
theorem dX0_add_20 : decode cX0_add 20 = .ok (.ldc 27, 2) := dk_18 27 (dk_at dksX0_add_0 20 rfl rfl)
theorem dX0_add_22 : decode cX0_add 22 = .ok (.iand, 1) := dk_126 (dk_at dksX0_add_0 22 rfl rfl)
theorem dX0_add_23 : decode cX0_add 23 = .ok (.bipush 9, 2) := dk_16 9 (dk_at dksX0_add_1 0 rfl rfl)
theorem dX0_add_25 : decode cX0_add 25 = .ok (.iload 5, 2) := dk_21 5 (dk_at dksX0_add_1 2 rfl rfl)
theorem dX0_add_27 : decode cX0_add 27 = .ok (.isub, 1) := dk_100 (dk_at dksX0_add_1 4 rfl rfl)
theorem dX0_add_28 : decode cX0_add 28 = .ok (.irem, 1) := dk_112 (dk_at dksX0_add_1 5 rfl rfl)
theorem dX0_add_29 : decode cX0_add 29 = .ok (.istore 7, 2) := dk_54 7 (dk_at dksX0_add_1 6 rfl rfl)
theorem dX0_add_31 : decode cX0_add 31 = .ok (.iload 5, 2) := dk_21 5 (dk_at dksX0_add_1 8 rfl rfl)
theorem dX0_add_33 : decode cX0_add 33 = .ok (.newarray .long, 2) := dk_188_11 (dk_at dksX0_add_1 10 rfl rfl)
theorem dX0_add_35 : decode cX0_add 35 = .ok (.astore 8, 2) := dk_58 8 (dk_at dksX0_add_1 12 rfl rfl)
theorem dX0_add_37 : decode cX0_add 37 = .ok (.iconst 0, 1) := dk_3 (dk_at dksX0_add_1 14 rfl rfl)
theorem dX0_add_38 : decode cX0_add 38 = .ok (.istore 9, 2) := dk_54 9 (dk_at dksX0_add_1 15 rfl rfl)
theorem dX0_add_40 : decode cX0_add 40 = .ok (.iload 9, 2) := dk_21 9 (dk_at dksX0_add_1 17 rfl rfl)
theorem dX0_add_42 : decode cX0_add 42 = .ok (.iload 5, 2) := dk_21 5 (dk_at dksX0_add_1 19 rfl rfl)
theorem dX0_add_44 : decode cX0_add 44 = .ok (.if_icmp .ge 24, 3) := dk_162 0 24 (dk_at dksX0_add_1 21 rfl rfl)
theorem dX0_add_47 : decode cX0_add 47 = .ok (.aload 8, 2) := dk_25 8 (dk_at dksX0_add_2 0 rfl rfl)
theorem dX0_add_49 : decode cX0_add 49 = .ok (.iload 9, 2) := dk_21 9 (dk_at dksX0_add_2 2 rfl rfl)
theorem dX0_add_51 : decode cX0_add 51 = .ok (.aload_n 0, 1) := dk_42 (dk_at dksX0_add_2 4 rfl rfl)
theorem dX0_add_52 : decode cX0_add 52 = .ok (.getfield 7, 3) := dk_180 0 7 (dk_at dksX0_add_2 5 rfl rfl)
theorem dX0_add_55 : decode cX0_add 55 = .ok (.iload 6, 2) := dk_21 6 (dk_at dksX0_add_2 8 rfl rfl)
theorem dX0_add_57 : decode cX0_add 57 = .ok (.iload 9, 2) := dk_21 9 (dk_at dksX0_add_2 10 rfl rfl)
theorem dX0_add_59 : decode cX0_add 59 = .ok (.iadd, 1) := dk_96 (dk_at dksX0_add_2 12 rfl rfl)
theorem dX0_add_60 : decode cX0_add 60 = .ok (.laload, 1) := dk_47 (dk_at dksX0_add_2 13 rfl rfl)
theorem dX0_add_61 : decode cX0_add 61 = .ok (.lastore, 1) := dk_80 (dk_at dksX0_add_2 14 rfl rfl)
theorem dX0_add_62 : decode cX0_add 62 = .ok (.iinc 9 1, 3) := dk_132 9 1 (dk_at dksX0_add_2 15 rfl rfl)
theorem dX0_add_65 : decode cX0_add 65 = .ok (.goto (-25), 3) := dk_167 255 231 (dk_at dksX0_add_2 18 rfl rfl)
theorem dX0_add_68 : decode cX0_add 68 = .ok (.iload 5, 2) := dk_21 5 (dk_at dksX0_add_2 21 rfl rfl)
theorem dX0_add_70 : decode cX0_add 70 = .ok (.aload 8, 2) := dk_25 8 (dk_at dksX0_add_3 0 rfl rfl)
theorem dX0_add_72 : decode cX0_add 72 = .ok (.iconst 0, 1) := dk_3 (dk_at dksX0_add_3 2 rfl rfl)
theorem dX0_add_73 : decode cX0_add 73 = .ok (.iload 4, 2) := dk_21 4 (dk_at dksX0_add_3 3 rfl rfl)
theorem dX0_add_75 : decode cX0_add 75 = .ok (.bipush 15, 2) := dk_16 15 (dk_at dksX0_add_3 5 rfl rfl)
theorem dX0_add_77 : decode cX0_add 77 = .ok (.iand, 1) := dk_126 (dk_at dksX0_add_3 7 rfl rfl)
theorem dX0_add_78 : decode cX0_add 78 = .ok (.aload_n 0, 1) := dk_42 (dk_at dksX0_add_3 8 rfl rfl)
theorem dX0_add_79 : decode cX0_add 79 = .ok (.getfield 7, 3) := dk_180 0 7 (dk_at dksX0_add_3 9 rfl rfl)
theorem dX0_add_82 : decode cX0_add 82 = .ok (.iload 7, 2) := dk_21 7 (dk_at dksX0_add_3 12 rfl rfl)
theorem dX0_add_84 : decode cX0_add 84 = .ok (.invokestatic 28, 3) := dk_184 0 28 (dk_at dksX0_add_3 14 rfl rfl)
theorem dX0_add_87 : decode cX0_add 87 = .ok (.return_, 1) := dk_177 (dk_at dksX0_add_3 17 rfl rfl)
abbrev cX0_get : ByteArray := prog_3_method_6_code
def yX0_get : MethodName := ⟨RX0, "get", "(I)J"⟩
def dkwX0_get_0 : List UInt8 := [42, 180, 0, 7, 27, 16, 7, 126, 47, 173]
abbrev dktX0_get_0 : List UInt8 := dkwX0_get_0 ++ []
theorem dksX0_get_0 : cX0_get.data.toList.drop 0 = dktX0_get_0 := by decide +kernel
theorem dX0_get_0 : decode cX0_get 0 = .ok (.aload_n 0, 1) := dk_42 (dk_at dksX0_get_0 0 rfl rfl)
theorem dX0_get_1 : decode cX0_get 1 = .ok (.getfield 7, 3) := dk_180 0 7 (dk_at dksX0_get_0 1 rfl rfl)
theorem dX0_get_4 : decode cX0_get 4 = .ok (.iload_n 1, 1) := dk_27 (dk_at dksX0_get_0 4 rfl rfl)
theorem dX0_get_5 : decode cX0_get 5 = .ok (.bipush 7, 2) := dk_16 7 (dk_at dksX0_get_0 5 rfl rfl)
theorem dX0_get_7 : decode cX0_get 7 = .ok (.iand, 1) := dk_126 (dk_at dksX0_get_0 7 rfl rfl)
theorem dX0_get_8 : decode cX0_get 8 = .ok (.laload, 1) := dk_47 (dk_at dksX0_get_0 8 rfl rfl)
theorem dX0_get_9 : decode cX0_get 9 = .ok (.lreturn, 1) := dk_173 (dk_at dksX0_get_0 9 rfl rfl)
abbrev cX0_one : ByteArray := prog_3_method_7_code
def yX0_one : MethodName := ⟨RX0, "one", "(II)I"⟩
def dkwX0_one_0 : List UInt8 := [42, 180, 0, 7, 27, 16, 7, 126, 47, 7, 28, 16, 15, 126, 104, 125, 136, 16, 15, 126, 172]
abbrev dktX0_one_0 : List UInt8 := dkwX0_one_0 ++ []
theorem dksX0_one_0 : cX0_one.data.toList.drop 0 = dktX0_one_0 := by decide +kernel
theorem dX0_one_0 : decode cX0_one 0 = .ok (.aload_n 0, 1) := dk_42 (dk_at dksX0_one_0 0 rfl rfl)
theorem dX0_one_1 : decode cX0_one 1 = .ok (.getfield 7, 3) := dk_180 0 7 (dk_at dksX0_one_0 1 rfl rfl)
theorem dX0_one_4 : decode cX0_one 4 = .ok (.iload_n 1, 1) := dk_27 (dk_at dksX0_one_0 4 rfl rfl)
theorem dX0_one_5 : decode cX0_one 5 = .ok (.bipush 7, 2) := dk_16 7 (dk_at dksX0_one_0 5 rfl rfl)
theorem dX0_one_7 : decode cX0_one 7 = .ok (.iand, 1) := dk_126 (dk_at dksX0_one_0 7 rfl rfl)
theorem dX0_one_8 : decode cX0_one 8 = .ok (.laload, 1) := dk_47 (dk_at dksX0_one_0 8 rfl rfl)
theorem dX0_one_9 : decode cX0_one 9 = .ok (.iconst 4, 1) := dk_7 (dk_at dksX0_one_0 9 rfl rfl)
theorem dX0_one_10 : decode cX0_one 10 = .ok (.iload_n 2, 1) := dk_28 (dk_at dksX0_one_0 10 rfl rfl)
theorem dX0_one_11 : decode cX0_one 11 = .ok (.bipush 15, 2) := dk_16 15 (dk_at dksX0_one_0 11 rfl rfl)
theorem dX0_one_13 : decode cX0_one 13 = .ok (.iand, 1) := dk_126 (dk_at dksX0_one_0 13 rfl rfl)
theorem dX0_one_14 : decode cX0_one 14 = .ok (.imul, 1) := dk_104 (dk_at dksX0_one_0 14 rfl rfl)
theorem dX0_one_15 : decode cX0_one 15 = .ok (.lushr, 1) := dk_125 (dk_at dksX0_one_0 15 rfl rfl)
theorem dX0_one_16 : decode cX0_one 16 = .ok (.l2i, 1) := dk_136 (dk_at dksX0_one_0 16 rfl rfl)
theorem dX0_one_17 : decode cX0_one 17 = .ok (.bipush 15, 2) := dk_16 15 (dk_at dksX0_one_0 17 rfl rfl)
theorem dX0_one_19 : decode cX0_one 19 = .ok (.iand, 1) := dk_126 (dk_at dksX0_one_0 19 rfl rfl)
theorem dX0_one_20 : decode cX0_one 20 = .ok (.ireturn, 1) := dk_172 (dk_at dksX0_one_0 20 rfl rfl)
theorem q1 : (Jvm.Cond.initialized "NibbleField") ∈ lw_all := lw_g (lw_at lw_m0 1 rfl) rfl
theorem q6 : (Jvm.Cond.instantiable "NibbleField" (1 : Nat)) ∈ lw_all := lw_g (lw_at lw_m0 6 rfl) rfl
theorem q8 : (Jvm.Cond.instanceMethod ({ cls := "NibbleField", name := "<init>", desc := "()V" } : Jvm.MethodName)) ∈ lw_all := lw_g (lw_at lw_m0 8 rfl) rfl
theorem q9 : (Jvm.Cond.code ({ cls := "NibbleField", name := "<init>", desc := "()V" } : Jvm.MethodName) prog_3_method_1_code (1 : Nat) (Option.none : Option Jvm.ClassFile.FieldType)) ∈ lw_all := lw_g (lw_at lw_m0 9 rfl) rfl
theorem q10 : (Jvm.Cond.methodLink "NibbleField" (1 : Nat) ({ cls := "java/lang/Object", name := "<init>", desc := "()V" } : Jvm.MethodName)) ∈ lw_all := lw_g (lw_at lw_m0 10 rfl) rfl
theorem q13 : (Jvm.Cond.fieldLink "NibbleField" (7 : Nat) "NibbleField" "row" "[J") ∈ lw_all := lw_g (lw_at lw_m0 13 rfl) rfl
theorem q14 : (Jvm.Cond.laysFinal "NibbleField" "NibbleField" "row" "[J") ∈ lw_all := lw_g (lw_at lw_m0 14 rfl) rfl
theorem q15 : (Jvm.Cond.soleField "NibbleField" "row") ∈ lw_all := lw_g (lw_at lw_m0 15 rfl) rfl
theorem q16 : (Jvm.Cond.superclass "NibbleField" "java/lang/Object") ∈ lw_all := lw_g (lw_at lw_m0 16 rfl) rfl
theorem q19 : (Jvm.Cond.instanceMethod ({ cls := "NibbleField", name := "eight", desc := "(III)J" } : Jvm.MethodName)) ∈ lw_all := lw_g (lw_at lw_m0 19 rfl) rfl
theorem q20 : (Jvm.Cond.selects "NibbleField" ({ cls := "NibbleField", name := "eight", desc := "(III)J" } : Jvm.MethodName) ({ cls := "NibbleField", name := "eight", desc := "(III)J" } : Jvm.MethodName)) ∈ lw_all := lw_g (lw_at lw_m0 20 rfl) rfl
theorem q21 : (Jvm.Cond.code ({ cls := "NibbleField", name := "eight", desc := "(III)J" } : Jvm.MethodName) prog_3_method_3_code (4 : Nat) (Option.some Jvm.ClassFile.FieldType.long)) ∈ lw_all := lw_g (lw_at lw_m0 21 rfl) rfl
theorem q22 : (Jvm.Cond.methodLink "NibbleField" (15 : Nat) ({ cls := "NibbleField", name := "of", desc := "(II)J" } : Jvm.MethodName)) ∈ lw_all := lw_g (lw_at lw_m0 22 rfl) rfl
theorem q23 : (Jvm.Cond.static ({ cls := "NibbleField", name := "of", desc := "(II)J" } : Jvm.MethodName)) ∈ lw_all := lw_g (lw_at lw_m0 23 rfl) rfl
theorem q24 : (Jvm.Cond.code ({ cls := "NibbleField", name := "of", desc := "(II)J" } : Jvm.MethodName) prog_3_method_2_code (2 : Nat) (Option.some Jvm.ClassFile.FieldType.long)) ∈ lw_all := lw_g (lw_at lw_m0 24 rfl) rfl
theorem q25 : (Jvm.Cond.constantLong "NibbleField" (13 : Nat) (4294967295 : Int64)) ∈ lw_all := lw_g (lw_at lw_m0 25 rfl) rfl
theorem q26 : (Jvm.Cond.constantLong "NibbleField" (19 : Nat) (1085102592571150095 : Int64)) ∈ lw_all := lw_g (lw_at lw_m0 26 rfl) rfl
theorem q27 : (Jvm.Cond.methodLink "NibbleField" (21 : Nat) ({ cls := "GF16Utils", name := "mulFx8", desc := "(BJ)J" } : Jvm.MethodName)) ∈ lw_all := lw_g (lw_at lw_m0 27 rfl) rfl
theorem q33 : (Jvm.Cond.instanceMethod ({ cls := "NibbleField", name := "set", desc := "(III)V" } : Jvm.MethodName)) ∈ lw_all := lw_g (lw_at lw_m0 33 rfl) rfl
theorem q34 : (Jvm.Cond.selects "NibbleField" ({ cls := "NibbleField", name := "set", desc := "(III)V" } : Jvm.MethodName) ({ cls := "NibbleField", name := "set", desc := "(III)V" } : Jvm.MethodName)) ∈ lw_all := lw_g (lw_at lw_m0 34 rfl) rfl
theorem q35 : (Jvm.Cond.code ({ cls := "NibbleField", name := "set", desc := "(III)V" } : Jvm.MethodName) prog_3_method_4_code (4 : Nat) (Option.none : Option Jvm.ClassFile.FieldType)) ∈ lw_all := lw_g (lw_at lw_m0 35 rfl) rfl
theorem q37 : (Jvm.Cond.instanceMethod ({ cls := "NibbleField", name := "add", desc := "(IIII)V" } : Jvm.MethodName)) ∈ lw_all := lw_g (lw_at lw_m0 37 rfl) rfl
theorem q38 : (Jvm.Cond.selects "NibbleField" ({ cls := "NibbleField", name := "add", desc := "(IIII)V" } : Jvm.MethodName) ({ cls := "NibbleField", name := "add", desc := "(IIII)V" } : Jvm.MethodName)) ∈ lw_all := lw_g (lw_at lw_m0 38 rfl) rfl
theorem q39 : (Jvm.Cond.code ({ cls := "NibbleField", name := "add", desc := "(IIII)V" } : Jvm.MethodName) prog_3_method_5_code (10 : Nat) (Option.none : Option Jvm.ClassFile.FieldType)) ∈ lw_all := lw_g (lw_at lw_m0 39 rfl) rfl
theorem q40 : (Jvm.Cond.constant "NibbleField" (27 : Nat) (2147483647 : Int32)) ∈ lw_all := lw_g (lw_at lw_m0 40 rfl) rfl
theorem q41 : (Jvm.Cond.methodLink "NibbleField" (28 : Nat) ({ cls := "GF16Utils", name := "mVecMulAdd", desc := "(I[JII[JI)V" } : Jvm.MethodName)) ∈ lw_all := lw_g (lw_at lw_m0 41 rfl) rfl
theorem q51 : (Jvm.Cond.instanceMethod ({ cls := "NibbleField", name := "get", desc := "(I)J" } : Jvm.MethodName)) ∈ lw_all := lw_g (lw_at lw_m0 51 rfl) rfl
theorem q52 : (Jvm.Cond.selects "NibbleField" ({ cls := "NibbleField", name := "get", desc := "(I)J" } : Jvm.MethodName) ({ cls := "NibbleField", name := "get", desc := "(I)J" } : Jvm.MethodName)) ∈ lw_all := lw_g (lw_at lw_m0 52 rfl) rfl
theorem q53 : (Jvm.Cond.code ({ cls := "NibbleField", name := "get", desc := "(I)J" } : Jvm.MethodName) prog_3_method_6_code (2 : Nat) (Option.some Jvm.ClassFile.FieldType.long)) ∈ lw_all := lw_g (lw_at lw_m0 53 rfl) rfl
theorem q55 : (Jvm.Cond.instanceMethod ({ cls := "NibbleField", name := "one", desc := "(II)I" } : Jvm.MethodName)) ∈ lw_all := lw_g (lw_at lw_m0 55 rfl) rfl
theorem q56 : (Jvm.Cond.selects "NibbleField" ({ cls := "NibbleField", name := "one", desc := "(II)I" } : Jvm.MethodName) ({ cls := "NibbleField", name := "one", desc := "(II)I" } : Jvm.MethodName)) ∈ lw_all := lw_g (lw_at lw_m0 56 rfl) rfl
theorem q57 : (Jvm.Cond.code ({ cls := "NibbleField", name := "one", desc := "(II)I" } : Jvm.MethodName) prog_3_method_7_code (3 : Nat) (Option.some Jvm.ClassFile.FieldType.int)) ∈ lw_all := lw_g (lw_at lw_m0 57 rfl) rfl
theorem in_X0 : ∀ w ∈ wsX00, w ∈ lw_all := lw_in wsX00 [14] (by decide +kernel) (by decide +kernel)
/-! NibbleFieldModel -/
def RX1 : String := "NibbleFieldModel"
def TX1 : u_T := fun k => match k with
  | _ => ("NibbleFieldModel", "element", "[I", true)
def tyX1 : Nat → FieldType := fun k => match k with
  | _ => .array .int
abbrev wsX10 : List Cond := u_ws RX1 TX1 1
theorem nmX1 : ∀ a, a < 1 → ∀ b, b < 1 → a ≠ b → (TX1 a).2.1 ≠ (TX1 b).2.1 := by decide +kernel
theorem tyX1_ok : ∀ k, k < 1 → parseFieldDescriptor (TX1 k).2.2.1 = some (tyX1 k) := by decide +kernel
abbrev cX1_init : ByteArray := prog_5_method_1_code
def yX1_init : MethodName := ⟨RX1, "<init>", "()V"⟩
def dkwX1_init_0 : List UInt8 := [42, 183, 0, 1, 42, 17, 0, 128, 188, 10, 181, 0, 7, 177]
abbrev dktX1_init_0 : List UInt8 := dkwX1_init_0 ++ []
theorem dksX1_init_0 : cX1_init.data.toList.drop 0 = dktX1_init_0 := by decide +kernel
theorem dX1_init_0 : decode cX1_init 0 = .ok (.aload_n 0, 1) := dk_42 (dk_at dksX1_init_0 0 rfl rfl)
theorem dX1_init_1 : decode cX1_init 1 = .ok (.invokespecial 1, 3) := dk_183 0 1 (dk_at dksX1_init_0 1 rfl rfl)
theorem dX1_init_4 : decode cX1_init 4 = .ok (.aload_n 0, 1) := dk_42 (dk_at dksX1_init_0 4 rfl rfl)
theorem dX1_init_5 : decode cX1_init 5 = .ok (.sipush 128, 3) := dk_17 0 128 (dk_at dksX1_init_0 5 rfl rfl)
theorem dX1_init_8 : decode cX1_init 8 = .ok (.newarray .int, 2) := dk_188_10 (dk_at dksX1_init_0 8 rfl rfl)
theorem dX1_init_10 : decode cX1_init 10 = .ok (.putfield 7, 3) := dk_181 0 7 (dk_at dksX1_init_0 10 rfl rfl)
theorem dX1_init_13 : decode cX1_init 13 = .ok (.return_, 1) := dk_177 (dk_at dksX1_init_0 13 rfl rfl)
abbrev cX1_eight : ByteArray := prog_5_method_5_code
def yX1_eight : MethodName := ⟨RX1, "eight", "(III)J"⟩
def dkwX1_eight_1 : List UInt8 := [21, 6, 184, 0, 15, 184, 0, 19, 133, 97, 55, 4, 132, 6, 254, 167, 255, 224, 22, 4, 173]
abbrev dktX1_eight_1 : List UInt8 := dkwX1_eight_1 ++ []
def dkwX1_eight_0 : List UInt8 := [9, 55, 4, 16, 14, 54, 6, 21, 6, 155, 0, 33, 20, 0, 13, 22, 4, 105, 27, 16, 15, 126, 28, 29]
abbrev dktX1_eight_0 : List UInt8 := dkwX1_eight_0 ++ dktX1_eight_1
theorem dksX1_eight_0 : cX1_eight.data.toList.drop 0 = dktX1_eight_0 := by decide +kernel
theorem dksX1_eight_1 : cX1_eight.data.toList.drop 24 = dktX1_eight_1 := dk_seg dksX1_eight_0 24 rfl rfl
theorem dX1_eight_0 : decode cX1_eight 0 = .ok (.lconst 0, 1) := dk_9 (dk_at dksX1_eight_0 0 rfl rfl)
theorem dX1_eight_1 : decode cX1_eight 1 = .ok (.lstore 4, 2) := dk_55 4 (dk_at dksX1_eight_0 1 rfl rfl)
theorem dX1_eight_3 : decode cX1_eight 3 = .ok (.bipush 14, 2) := dk_16 14 (dk_at dksX1_eight_0 3 rfl rfl)
theorem dX1_eight_5 : decode cX1_eight 5 = .ok (.istore 6, 2) := dk_54 6 (dk_at dksX1_eight_0 5 rfl rfl)
theorem dX1_eight_7 : decode cX1_eight 7 = .ok (.iload 6, 2) := dk_21 6 (dk_at dksX1_eight_0 7 rfl rfl)
theorem dX1_eight_9 : decode cX1_eight 9 = .ok (.ifCond .lt 33, 3) := dk_155 0 33 (dk_at dksX1_eight_0 9 rfl rfl)
theorem dX1_eight_12 : decode cX1_eight 12 = .ok (.ldc2_w 13, 3) := dk_20 0 13 (dk_at dksX1_eight_0 12 rfl rfl)
theorem dX1_eight_15 : decode cX1_eight 15 = .ok (.lload 4, 2) := dk_22 4 (dk_at dksX1_eight_0 15 rfl rfl)
theorem dX1_eight_17 : decode cX1_eight 17 = .ok (.lmul, 1) := dk_105 (dk_at dksX1_eight_0 17 rfl rfl)
theorem dX1_eight_18 : decode cX1_eight 18 = .ok (.iload_n 1, 1) := dk_27 (dk_at dksX1_eight_0 18 rfl rfl)
theorem dX1_eight_19 : decode cX1_eight 19 = .ok (.bipush 15, 2) := dk_16 15 (dk_at dksX1_eight_0 19 rfl rfl)
theorem dX1_eight_21 : decode cX1_eight 21 = .ok (.iand, 1) := dk_126 (dk_at dksX1_eight_0 21 rfl rfl)
theorem dX1_eight_22 : decode cX1_eight 22 = .ok (.iload_n 2, 1) := dk_28 (dk_at dksX1_eight_0 22 rfl rfl)
theorem dX1_eight_23 : decode cX1_eight 23 = .ok (.iload_n 3, 1) := dk_29 (dk_at dksX1_eight_0 23 rfl rfl)
theorem dX1_eight_24 : decode cX1_eight 24 = .ok (.iload 6, 2) := dk_21 6 (dk_at dksX1_eight_1 0 rfl rfl)
theorem dX1_eight_26 : decode cX1_eight 26 = .ok (.invokestatic 15, 3) := dk_184 0 15 (dk_at dksX1_eight_1 2 rfl rfl)
theorem dX1_eight_29 : decode cX1_eight 29 = .ok (.invokestatic 19, 3) := dk_184 0 19 (dk_at dksX1_eight_1 5 rfl rfl)
theorem dX1_eight_32 : decode cX1_eight 32 = .ok (.i2l, 1) := dk_133 (dk_at dksX1_eight_1 8 rfl rfl)
theorem dX1_eight_33 : decode cX1_eight 33 = .ok (.ladd, 1) := dk_97 (dk_at dksX1_eight_1 9 rfl rfl)
theorem dX1_eight_34 : decode cX1_eight 34 = .ok (.lstore 4, 2) := dk_55 4 (dk_at dksX1_eight_1 10 rfl rfl)
theorem dX1_eight_36 : decode cX1_eight 36 = .ok (.iinc 6 (-2), 3) := dk_132 6 254 (dk_at dksX1_eight_1 12 rfl rfl)
theorem dX1_eight_39 : decode cX1_eight 39 = .ok (.goto (-32), 3) := dk_167 255 224 (dk_at dksX1_eight_1 15 rfl rfl)
theorem dX1_eight_42 : decode cX1_eight 42 = .ok (.lload 4, 2) := dk_22 4 (dk_at dksX1_eight_1 18 rfl rfl)
theorem dX1_eight_44 : decode cX1_eight 44 = .ok (.lreturn, 1) := dk_173 (dk_at dksX1_eight_1 20 rfl rfl)
abbrev cX1_part : ByteArray := prog_5_method_4_code
def yX1_part : MethodName := ⟨RX1, "part", "(III)I"⟩
def dkwX1_part_1 : List UInt8 := [126, 172]
abbrev dktX1_part_1 : List UInt8 := dkwX1_part_1 ++ []
def dkwX1_part_0 : List UInt8 := [28, 16, 8, 162, 0, 11, 27, 7, 28, 104, 122, 167, 0, 11, 26, 7, 28, 16, 8, 100, 104, 122, 16, 15]
abbrev dktX1_part_0 : List UInt8 := dkwX1_part_0 ++ dktX1_part_1
theorem dksX1_part_0 : cX1_part.data.toList.drop 0 = dktX1_part_0 := by decide +kernel
theorem dksX1_part_1 : cX1_part.data.toList.drop 24 = dktX1_part_1 := dk_seg dksX1_part_0 24 rfl rfl
theorem dX1_part_0 : decode cX1_part 0 = .ok (.iload_n 2, 1) := dk_28 (dk_at dksX1_part_0 0 rfl rfl)
theorem dX1_part_1 : decode cX1_part 1 = .ok (.bipush 8, 2) := dk_16 8 (dk_at dksX1_part_0 1 rfl rfl)
theorem dX1_part_3 : decode cX1_part 3 = .ok (.if_icmp .ge 11, 3) := dk_162 0 11 (dk_at dksX1_part_0 3 rfl rfl)
theorem dX1_part_6 : decode cX1_part 6 = .ok (.iload_n 1, 1) := dk_27 (dk_at dksX1_part_0 6 rfl rfl)
theorem dX1_part_7 : decode cX1_part 7 = .ok (.iconst 4, 1) := dk_7 (dk_at dksX1_part_0 7 rfl rfl)
theorem dX1_part_8 : decode cX1_part 8 = .ok (.iload_n 2, 1) := dk_28 (dk_at dksX1_part_0 8 rfl rfl)
theorem dX1_part_9 : decode cX1_part 9 = .ok (.imul, 1) := dk_104 (dk_at dksX1_part_0 9 rfl rfl)
theorem dX1_part_10 : decode cX1_part 10 = .ok (.ishr, 1) := dk_122 (dk_at dksX1_part_0 10 rfl rfl)
theorem dX1_part_11 : decode cX1_part 11 = .ok (.goto 11, 3) := dk_167 0 11 (dk_at dksX1_part_0 11 rfl rfl)
theorem dX1_part_14 : decode cX1_part 14 = .ok (.iload_n 0, 1) := dk_26 (dk_at dksX1_part_0 14 rfl rfl)
theorem dX1_part_15 : decode cX1_part 15 = .ok (.iconst 4, 1) := dk_7 (dk_at dksX1_part_0 15 rfl rfl)
theorem dX1_part_16 : decode cX1_part 16 = .ok (.iload_n 2, 1) := dk_28 (dk_at dksX1_part_0 16 rfl rfl)
theorem dX1_part_17 : decode cX1_part 17 = .ok (.bipush 8, 2) := dk_16 8 (dk_at dksX1_part_0 17 rfl rfl)
theorem dX1_part_19 : decode cX1_part 19 = .ok (.isub, 1) := dk_100 (dk_at dksX1_part_0 19 rfl rfl)
theorem dX1_part_20 : decode cX1_part 20 = .ok (.imul, 1) := dk_104 (dk_at dksX1_part_0 20 rfl rfl)
theorem dX1_part_21 : decode cX1_part 21 = .ok (.ishr, 1) := dk_122 (dk_at dksX1_part_0 21 rfl rfl)
theorem dX1_part_22 : decode cX1_part 22 = .ok (.bipush 15, 2) := dk_16 15 (dk_at dksX1_part_0 22 rfl rfl)
theorem dX1_part_24 : decode cX1_part 24 = .ok (.iand, 1) := dk_126 (dk_at dksX1_part_1 0 rfl rfl)
theorem dX1_part_25 : decode cX1_part 25 = .ok (.ireturn, 1) := dk_172 (dk_at dksX1_part_1 1 rfl rfl)
abbrev cX1_product : ByteArray := prog_5_method_2_code
def yX1_product : MethodName := ⟨RX1, "product", "(II)I"⟩
def dkwX1_product_3 : List UInt8 := [167, 0, 4, 28, 61, 132, 3, 255, 167, 255, 217, 28, 172]
abbrev dktX1_product_3 : List UInt8 := dkwX1_product_3 ++ []
def dkwX1_product_2 : List UInt8 := [126, 4, 160, 0, 23, 28, 4, 29, 120, 130, 4, 29, 6, 100, 120, 130, 4, 29, 7, 100, 120, 130]
abbrev dktX1_product_2 : List UInt8 := dkwX1_product_2 ++ dktX1_product_3
def dkwX1_product_1 : List UInt8 := [167, 0, 4, 3, 130, 61, 132, 3, 1, 167, 255, 229, 16, 6, 62, 29, 6, 164, 0, 40, 28, 29, 122, 4]
abbrev dktX1_product_1 : List UInt8 := dkwX1_product_1 ++ dktX1_product_2
def dkwX1_product_0 : List UInt8 := [3, 61, 3, 62, 29, 7, 162, 0, 28, 28, 26, 29, 122, 4, 126, 4, 160, 0, 9, 27, 29, 120]
abbrev dktX1_product_0 : List UInt8 := dkwX1_product_0 ++ dktX1_product_1
theorem dksX1_product_0 : cX1_product.data.toList.drop 0 = dktX1_product_0 := by decide +kernel
theorem dksX1_product_1 : cX1_product.data.toList.drop 22 = dktX1_product_1 := dk_seg dksX1_product_0 22 rfl rfl
theorem dksX1_product_2 : cX1_product.data.toList.drop 46 = dktX1_product_2 := dk_seg dksX1_product_1 24 rfl rfl
theorem dksX1_product_3 : cX1_product.data.toList.drop 68 = dktX1_product_3 := dk_seg dksX1_product_2 22 rfl rfl
theorem dX1_product_0 : decode cX1_product 0 = .ok (.iconst 0, 1) := dk_3 (dk_at dksX1_product_0 0 rfl rfl)
theorem dX1_product_1 : decode cX1_product 1 = .ok (.istore_n 2, 1) := dk_61 (dk_at dksX1_product_0 1 rfl rfl)
theorem dX1_product_2 : decode cX1_product 2 = .ok (.iconst 0, 1) := dk_3 (dk_at dksX1_product_0 2 rfl rfl)
theorem dX1_product_3 : decode cX1_product 3 = .ok (.istore_n 3, 1) := dk_62 (dk_at dksX1_product_0 3 rfl rfl)
theorem dX1_product_4 : decode cX1_product 4 = .ok (.iload_n 3, 1) := dk_29 (dk_at dksX1_product_0 4 rfl rfl)
theorem dX1_product_5 : decode cX1_product 5 = .ok (.iconst 4, 1) := dk_7 (dk_at dksX1_product_0 5 rfl rfl)
theorem dX1_product_6 : decode cX1_product 6 = .ok (.if_icmp .ge 28, 3) := dk_162 0 28 (dk_at dksX1_product_0 6 rfl rfl)
theorem dX1_product_9 : decode cX1_product 9 = .ok (.iload_n 2, 1) := dk_28 (dk_at dksX1_product_0 9 rfl rfl)
theorem dX1_product_10 : decode cX1_product 10 = .ok (.iload_n 0, 1) := dk_26 (dk_at dksX1_product_0 10 rfl rfl)
theorem dX1_product_11 : decode cX1_product 11 = .ok (.iload_n 3, 1) := dk_29 (dk_at dksX1_product_0 11 rfl rfl)
theorem dX1_product_12 : decode cX1_product 12 = .ok (.ishr, 1) := dk_122 (dk_at dksX1_product_0 12 rfl rfl)
theorem dX1_product_13 : decode cX1_product 13 = .ok (.iconst 1, 1) := dk_4 (dk_at dksX1_product_0 13 rfl rfl)
theorem dX1_product_14 : decode cX1_product 14 = .ok (.iand, 1) := dk_126 (dk_at dksX1_product_0 14 rfl rfl)
theorem dX1_product_15 : decode cX1_product 15 = .ok (.iconst 1, 1) := dk_4 (dk_at dksX1_product_0 15 rfl rfl)
theorem dX1_product_16 : decode cX1_product 16 = .ok (.if_icmp .ne 9, 3) := dk_160 0 9 (dk_at dksX1_product_0 16 rfl rfl)
theorem dX1_product_19 : decode cX1_product 19 = .ok (.iload_n 1, 1) := dk_27 (dk_at dksX1_product_0 19 rfl rfl)
theorem dX1_product_20 : decode cX1_product 20 = .ok (.iload_n 3, 1) := dk_29 (dk_at dksX1_product_0 20 rfl rfl)
theorem dX1_product_21 : decode cX1_product 21 = .ok (.ishl, 1) := dk_120 (dk_at dksX1_product_0 21 rfl rfl)
theorem dX1_product_22 : decode cX1_product 22 = .ok (.goto 4, 3) := dk_167 0 4 (dk_at dksX1_product_1 0 rfl rfl)
theorem dX1_product_25 : decode cX1_product 25 = .ok (.iconst 0, 1) := dk_3 (dk_at dksX1_product_1 3 rfl rfl)
theorem dX1_product_26 : decode cX1_product 26 = .ok (.ixor, 1) := dk_130 (dk_at dksX1_product_1 4 rfl rfl)
theorem dX1_product_27 : decode cX1_product 27 = .ok (.istore_n 2, 1) := dk_61 (dk_at dksX1_product_1 5 rfl rfl)
theorem dX1_product_28 : decode cX1_product 28 = .ok (.iinc 3 1, 3) := dk_132 3 1 (dk_at dksX1_product_1 6 rfl rfl)
theorem dX1_product_31 : decode cX1_product 31 = .ok (.goto (-27), 3) := dk_167 255 229 (dk_at dksX1_product_1 9 rfl rfl)
theorem dX1_product_34 : decode cX1_product 34 = .ok (.bipush 6, 2) := dk_16 6 (dk_at dksX1_product_1 12 rfl rfl)
theorem dX1_product_36 : decode cX1_product 36 = .ok (.istore_n 3, 1) := dk_62 (dk_at dksX1_product_1 14 rfl rfl)
theorem dX1_product_37 : decode cX1_product 37 = .ok (.iload_n 3, 1) := dk_29 (dk_at dksX1_product_1 15 rfl rfl)
theorem dX1_product_38 : decode cX1_product 38 = .ok (.iconst 3, 1) := dk_6 (dk_at dksX1_product_1 16 rfl rfl)
theorem dX1_product_39 : decode cX1_product 39 = .ok (.if_icmp .le 40, 3) := dk_164 0 40 (dk_at dksX1_product_1 17 rfl rfl)
theorem dX1_product_42 : decode cX1_product 42 = .ok (.iload_n 2, 1) := dk_28 (dk_at dksX1_product_1 20 rfl rfl)
theorem dX1_product_43 : decode cX1_product 43 = .ok (.iload_n 3, 1) := dk_29 (dk_at dksX1_product_1 21 rfl rfl)
theorem dX1_product_44 : decode cX1_product 44 = .ok (.ishr, 1) := dk_122 (dk_at dksX1_product_1 22 rfl rfl)
theorem dX1_product_45 : decode cX1_product 45 = .ok (.iconst 1, 1) := dk_4 (dk_at dksX1_product_1 23 rfl rfl)
theorem dX1_product_46 : decode cX1_product 46 = .ok (.iand, 1) := dk_126 (dk_at dksX1_product_2 0 rfl rfl)
theorem dX1_product_47 : decode cX1_product 47 = .ok (.iconst 1, 1) := dk_4 (dk_at dksX1_product_2 1 rfl rfl)
theorem dX1_product_48 : decode cX1_product 48 = .ok (.if_icmp .ne 23, 3) := dk_160 0 23 (dk_at dksX1_product_2 2 rfl rfl)
theorem dX1_product_51 : decode cX1_product 51 = .ok (.iload_n 2, 1) := dk_28 (dk_at dksX1_product_2 5 rfl rfl)
theorem dX1_product_52 : decode cX1_product 52 = .ok (.iconst 1, 1) := dk_4 (dk_at dksX1_product_2 6 rfl rfl)
theorem dX1_product_53 : decode cX1_product 53 = .ok (.iload_n 3, 1) := dk_29 (dk_at dksX1_product_2 7 rfl rfl)
theorem dX1_product_54 : decode cX1_product 54 = .ok (.ishl, 1) := dk_120 (dk_at dksX1_product_2 8 rfl rfl)
theorem dX1_product_55 : decode cX1_product 55 = .ok (.ixor, 1) := dk_130 (dk_at dksX1_product_2 9 rfl rfl)
theorem dX1_product_56 : decode cX1_product 56 = .ok (.iconst 1, 1) := dk_4 (dk_at dksX1_product_2 10 rfl rfl)
theorem dX1_product_57 : decode cX1_product 57 = .ok (.iload_n 3, 1) := dk_29 (dk_at dksX1_product_2 11 rfl rfl)
theorem dX1_product_58 : decode cX1_product 58 = .ok (.iconst 3, 1) := dk_6 (dk_at dksX1_product_2 12 rfl rfl)
theorem dX1_product_59 : decode cX1_product 59 = .ok (.isub, 1) := dk_100 (dk_at dksX1_product_2 13 rfl rfl)
theorem dX1_product_60 : decode cX1_product 60 = .ok (.ishl, 1) := dk_120 (dk_at dksX1_product_2 14 rfl rfl)
theorem dX1_product_61 : decode cX1_product 61 = .ok (.ixor, 1) := dk_130 (dk_at dksX1_product_2 15 rfl rfl)
theorem dX1_product_62 : decode cX1_product 62 = .ok (.iconst 1, 1) := dk_4 (dk_at dksX1_product_2 16 rfl rfl)
theorem dX1_product_63 : decode cX1_product 63 = .ok (.iload_n 3, 1) := dk_29 (dk_at dksX1_product_2 17 rfl rfl)
theorem dX1_product_64 : decode cX1_product 64 = .ok (.iconst 4, 1) := dk_7 (dk_at dksX1_product_2 18 rfl rfl)
theorem dX1_product_65 : decode cX1_product 65 = .ok (.isub, 1) := dk_100 (dk_at dksX1_product_2 19 rfl rfl)
theorem dX1_product_66 : decode cX1_product 66 = .ok (.ishl, 1) := dk_120 (dk_at dksX1_product_2 20 rfl rfl)
theorem dX1_product_67 : decode cX1_product 67 = .ok (.ixor, 1) := dk_130 (dk_at dksX1_product_2 21 rfl rfl)
theorem dX1_product_68 : decode cX1_product 68 = .ok (.goto 4, 3) := dk_167 0 4 (dk_at dksX1_product_3 0 rfl rfl)
theorem dX1_product_71 : decode cX1_product 71 = .ok (.iload_n 2, 1) := dk_28 (dk_at dksX1_product_3 3 rfl rfl)
theorem dX1_product_72 : decode cX1_product 72 = .ok (.istore_n 2, 1) := dk_61 (dk_at dksX1_product_3 4 rfl rfl)
theorem dX1_product_73 : decode cX1_product 73 = .ok (.iinc 3 (-1), 3) := dk_132 3 255 (dk_at dksX1_product_3 5 rfl rfl)
theorem dX1_product_76 : decode cX1_product 76 = .ok (.goto (-39), 3) := dk_167 255 217 (dk_at dksX1_product_3 8 rfl rfl)
theorem dX1_product_79 : decode cX1_product 79 = .ok (.iload_n 2, 1) := dk_28 (dk_at dksX1_product_3 11 rfl rfl)
theorem dX1_product_80 : decode cX1_product 80 = .ok (.ireturn, 1) := dk_172 (dk_at dksX1_product_3 12 rfl rfl)
abbrev cX1_set : ByteArray := prog_5_method_6_code
def yX1_set : MethodName := ⟨RX1, "set", "(III)V"⟩
def dkwX1_set_1 : List UInt8 := [21, 4, 184, 0, 15, 79, 132, 4, 1, 167, 255, 227, 177]
abbrev dktX1_set_1 : List UInt8 := dkwX1_set_1 ++ []
def dkwX1_set_0 : List UInt8 := [3, 54, 4, 21, 4, 16, 16, 162, 0, 28, 42, 180, 0, 7, 27, 184, 0, 23, 21, 4, 96, 28, 29]
abbrev dktX1_set_0 : List UInt8 := dkwX1_set_0 ++ dktX1_set_1
theorem dksX1_set_0 : cX1_set.data.toList.drop 0 = dktX1_set_0 := by decide +kernel
theorem dksX1_set_1 : cX1_set.data.toList.drop 23 = dktX1_set_1 := dk_seg dksX1_set_0 23 rfl rfl
theorem dX1_set_0 : decode cX1_set 0 = .ok (.iconst 0, 1) := dk_3 (dk_at dksX1_set_0 0 rfl rfl)
theorem dX1_set_1 : decode cX1_set 1 = .ok (.istore 4, 2) := dk_54 4 (dk_at dksX1_set_0 1 rfl rfl)
theorem dX1_set_3 : decode cX1_set 3 = .ok (.iload 4, 2) := dk_21 4 (dk_at dksX1_set_0 3 rfl rfl)
theorem dX1_set_5 : decode cX1_set 5 = .ok (.bipush 16, 2) := dk_16 16 (dk_at dksX1_set_0 5 rfl rfl)
theorem dX1_set_7 : decode cX1_set 7 = .ok (.if_icmp .ge 28, 3) := dk_162 0 28 (dk_at dksX1_set_0 7 rfl rfl)
theorem dX1_set_10 : decode cX1_set 10 = .ok (.aload_n 0, 1) := dk_42 (dk_at dksX1_set_0 10 rfl rfl)
theorem dX1_set_11 : decode cX1_set 11 = .ok (.getfield 7, 3) := dk_180 0 7 (dk_at dksX1_set_0 11 rfl rfl)
theorem dX1_set_14 : decode cX1_set 14 = .ok (.iload_n 1, 1) := dk_27 (dk_at dksX1_set_0 14 rfl rfl)
theorem dX1_set_15 : decode cX1_set 15 = .ok (.invokestatic 23, 3) := dk_184 0 23 (dk_at dksX1_set_0 15 rfl rfl)
theorem dX1_set_18 : decode cX1_set 18 = .ok (.iload 4, 2) := dk_21 4 (dk_at dksX1_set_0 18 rfl rfl)
theorem dX1_set_20 : decode cX1_set 20 = .ok (.iadd, 1) := dk_96 (dk_at dksX1_set_0 20 rfl rfl)
theorem dX1_set_21 : decode cX1_set 21 = .ok (.iload_n 2, 1) := dk_28 (dk_at dksX1_set_0 21 rfl rfl)
theorem dX1_set_22 : decode cX1_set 22 = .ok (.iload_n 3, 1) := dk_29 (dk_at dksX1_set_0 22 rfl rfl)
theorem dX1_set_23 : decode cX1_set 23 = .ok (.iload 4, 2) := dk_21 4 (dk_at dksX1_set_1 0 rfl rfl)
theorem dX1_set_25 : decode cX1_set 25 = .ok (.invokestatic 15, 3) := dk_184 0 15 (dk_at dksX1_set_1 2 rfl rfl)
theorem dX1_set_28 : decode cX1_set 28 = .ok (.iastore, 1) := dk_79 (dk_at dksX1_set_1 5 rfl rfl)
theorem dX1_set_29 : decode cX1_set 29 = .ok (.iinc 4 1, 3) := dk_132 4 1 (dk_at dksX1_set_1 6 rfl rfl)
theorem dX1_set_32 : decode cX1_set 32 = .ok (.goto (-29), 3) := dk_167 255 227 (dk_at dksX1_set_1 9 rfl rfl)
theorem dX1_set_35 : decode cX1_set 35 = .ok (.return_, 1) := dk_177 (dk_at dksX1_set_1 12 rfl rfl)
abbrev cX1_row : ByteArray := prog_5_method_3_code
def yX1_row : MethodName := ⟨RX1, "row", "(I)I"⟩
def dkwX1_row_0 : List UInt8 := [16, 16, 26, 16, 7, 126, 104, 172]
abbrev dktX1_row_0 : List UInt8 := dkwX1_row_0 ++ []
theorem dksX1_row_0 : cX1_row.data.toList.drop 0 = dktX1_row_0 := by decide +kernel
theorem dX1_row_0 : decode cX1_row 0 = .ok (.bipush 16, 2) := dk_16 16 (dk_at dksX1_row_0 0 rfl rfl)
theorem dX1_row_2 : decode cX1_row 2 = .ok (.iload_n 0, 1) := dk_26 (dk_at dksX1_row_0 2 rfl rfl)
theorem dX1_row_3 : decode cX1_row 3 = .ok (.bipush 7, 2) := dk_16 7 (dk_at dksX1_row_0 3 rfl rfl)
theorem dX1_row_5 : decode cX1_row 5 = .ok (.iand, 1) := dk_126 (dk_at dksX1_row_0 5 rfl rfl)
theorem dX1_row_6 : decode cX1_row 6 = .ok (.imul, 1) := dk_104 (dk_at dksX1_row_0 6 rfl rfl)
theorem dX1_row_7 : decode cX1_row 7 = .ok (.ireturn, 1) := dk_172 (dk_at dksX1_row_0 7 rfl rfl)
abbrev cX1_add : ByteArray := prog_5_method_8_code
def yX1_add : MethodName := ⟨RX1, "add", "(IIII)V"⟩
def dkwX1_add_5 : List UInt8 := [167, 255, 219, 177]
abbrev dktX1_add_5 : List UInt8 := dkwX1_add_5 ++ []
def dkwX1_add_4 : List UInt8 := [21, 9, 96, 92, 46, 21, 4, 16, 15, 126, 25, 8, 21, 9, 46, 184, 0, 19, 130, 79, 132, 9, 1]
abbrev dktX1_add_4 : List UInt8 := dkwX1_add_4 ++ dktX1_add_5
def dkwX1_add_3 : List UInt8 := [132, 9, 1, 167, 255, 230, 3, 54, 9, 21, 9, 25, 8, 190, 162, 0, 35, 42, 180, 0, 7, 21, 7]
abbrev dktX1_add_3 : List UInt8 := dkwX1_add_3 ++ dktX1_add_4
def dkwX1_add_2 : List UInt8 := [21, 9, 25, 8, 190, 162, 0, 24, 25, 8, 21, 9, 42, 180, 0, 7, 21, 6, 21, 9, 96, 46, 79]
abbrev dktX1_add_2 : List UInt8 := dkwX1_add_2 ++ dktX1_add_3
def dkwX1_add_1 : List UInt8 := [16, 9, 21, 5, 100, 184, 0, 28, 104, 54, 7, 16, 16, 21, 5, 104, 188, 10, 58, 8, 3, 54, 9]
abbrev dktX1_add_1 : List UInt8 := dkwX1_add_1 ++ dktX1_add_2
def dkwX1_add_0 : List UInt8 := [4, 29, 6, 126, 96, 54, 5, 16, 16, 27, 16, 9, 21, 5, 100, 184, 0, 28, 104, 54, 6, 16, 16, 28]
abbrev dktX1_add_0 : List UInt8 := dkwX1_add_0 ++ dktX1_add_1
theorem dksX1_add_0 : cX1_add.data.toList.drop 0 = dktX1_add_0 := by decide +kernel
theorem dksX1_add_1 : cX1_add.data.toList.drop 24 = dktX1_add_1 := dk_seg dksX1_add_0 24 rfl rfl
theorem dksX1_add_2 : cX1_add.data.toList.drop 47 = dktX1_add_2 := dk_seg dksX1_add_1 23 rfl rfl
theorem dksX1_add_3 : cX1_add.data.toList.drop 70 = dktX1_add_3 := dk_seg dksX1_add_2 23 rfl rfl
theorem dksX1_add_4 : cX1_add.data.toList.drop 93 = dktX1_add_4 := dk_seg dksX1_add_3 23 rfl rfl
theorem dksX1_add_5 : cX1_add.data.toList.drop 116 = dktX1_add_5 := dk_seg dksX1_add_4 23 rfl rfl
theorem dX1_add_0 : decode cX1_add 0 = .ok (.iconst 1, 1) := dk_4 (dk_at dksX1_add_0 0 rfl rfl)
theorem dX1_add_1 : decode cX1_add 1 = .ok (.iload_n 3, 1) := dk_29 (dk_at dksX1_add_0 1 rfl rfl)
theorem dX1_add_2 : decode cX1_add 2 = .ok (.iconst 3, 1) := dk_6 (dk_at dksX1_add_0 2 rfl rfl)
theorem dX1_add_3 : decode cX1_add 3 = .ok (.iand, 1) := dk_126 (dk_at dksX1_add_0 3 rfl rfl)
theorem dX1_add_4 : decode cX1_add 4 = .ok (.iadd, 1) := dk_96 (dk_at dksX1_add_0 4 rfl rfl)
theorem dX1_add_5 : decode cX1_add 5 = .ok (.istore 5, 2) := dk_54 5 (dk_at dksX1_add_0 5 rfl rfl)
theorem dX1_add_7 : decode cX1_add 7 = .ok (.bipush 16, 2) := dk_16 16 (dk_at dksX1_add_0 7 rfl rfl)
theorem dX1_add_9 : decode cX1_add 9 = .ok (.iload_n 1, 1) := dk_27 (dk_at dksX1_add_0 9 rfl rfl)
theorem dX1_add_10 : decode cX1_add 10 = .ok (.bipush 9, 2) := dk_16 9 (dk_at dksX1_add_0 10 rfl rfl)
theorem dX1_add_12 : decode cX1_add 12 = .ok (.iload 5, 2) := dk_21 5 (dk_at dksX1_add_0 12 rfl rfl)
theorem dX1_add_14 : decode cX1_add 14 = .ok (.isub, 1) := dk_100 (dk_at dksX1_add_0 14 rfl rfl)
theorem dX1_add_15 : decode cX1_add 15 = .ok (.invokestatic 28, 3) := dk_184 0 28 (dk_at dksX1_add_0 15 rfl rfl)
theorem dX1_add_18 : decode cX1_add 18 = .ok (.imul, 1) := dk_104 (dk_at dksX1_add_0 18 rfl rfl)
theorem dX1_add_19 : decode cX1_add 19 = .ok (.istore 6, 2) := dk_54 6 (dk_at dksX1_add_0 19 rfl rfl)
theorem dX1_add_21 : decode cX1_add 21 = .ok (.bipush 16, 2) := dk_16 16 (dk_at dksX1_add_0 21 rfl rfl)
theorem dX1_add_23 : decode cX1_add 23 = .ok (.iload_n 2, 1) := dk_28 (dk_at dksX1_add_0 23 rfl rfl)
theorem dX1_add_24 : decode cX1_add 24 = .ok (.bipush 9, 2) := dk_16 9 (dk_at dksX1_add_1 0 rfl rfl)
theorem dX1_add_26 : decode cX1_add 26 = .ok (.iload 5, 2) := dk_21 5 (dk_at dksX1_add_1 2 rfl rfl)
theorem dX1_add_28 : decode cX1_add 28 = .ok (.isub, 1) := dk_100 (dk_at dksX1_add_1 4 rfl rfl)
theorem dX1_add_29 : decode cX1_add 29 = .ok (.invokestatic 28, 3) := dk_184 0 28 (dk_at dksX1_add_1 5 rfl rfl)
theorem dX1_add_32 : decode cX1_add 32 = .ok (.imul, 1) := dk_104 (dk_at dksX1_add_1 8 rfl rfl)
theorem dX1_add_33 : decode cX1_add 33 = .ok (.istore 7, 2) := dk_54 7 (dk_at dksX1_add_1 9 rfl rfl)
theorem dX1_add_35 : decode cX1_add 35 = .ok (.bipush 16, 2) := dk_16 16 (dk_at dksX1_add_1 11 rfl rfl)
theorem dX1_add_37 : decode cX1_add 37 = .ok (.iload 5, 2) := dk_21 5 (dk_at dksX1_add_1 13 rfl rfl)
theorem dX1_add_39 : decode cX1_add 39 = .ok (.imul, 1) := dk_104 (dk_at dksX1_add_1 15 rfl rfl)
theorem dX1_add_40 : decode cX1_add 40 = .ok (.newarray .int, 2) := dk_188_10 (dk_at dksX1_add_1 16 rfl rfl)
theorem dX1_add_42 : decode cX1_add 42 = .ok (.astore 8, 2) := dk_58 8 (dk_at dksX1_add_1 18 rfl rfl)
theorem dX1_add_44 : decode cX1_add 44 = .ok (.iconst 0, 1) := dk_3 (dk_at dksX1_add_1 20 rfl rfl)
theorem dX1_add_45 : decode cX1_add 45 = .ok (.istore 9, 2) := dk_54 9 (dk_at dksX1_add_1 21 rfl rfl)
theorem dX1_add_47 : decode cX1_add 47 = .ok (.iload 9, 2) := dk_21 9 (dk_at dksX1_add_2 0 rfl rfl)
theorem dX1_add_49 : decode cX1_add 49 = .ok (.aload 8, 2) := dk_25 8 (dk_at dksX1_add_2 2 rfl rfl)
theorem dX1_add_51 : decode cX1_add 51 = .ok (.arraylength, 1) := dk_190 (dk_at dksX1_add_2 4 rfl rfl)
theorem dX1_add_52 : decode cX1_add 52 = .ok (.if_icmp .ge 24, 3) := dk_162 0 24 (dk_at dksX1_add_2 5 rfl rfl)
theorem dX1_add_55 : decode cX1_add 55 = .ok (.aload 8, 2) := dk_25 8 (dk_at dksX1_add_2 8 rfl rfl)
theorem dX1_add_57 : decode cX1_add 57 = .ok (.iload 9, 2) := dk_21 9 (dk_at dksX1_add_2 10 rfl rfl)
theorem dX1_add_59 : decode cX1_add 59 = .ok (.aload_n 0, 1) := dk_42 (dk_at dksX1_add_2 12 rfl rfl)
theorem dX1_add_60 : decode cX1_add 60 = .ok (.getfield 7, 3) := dk_180 0 7 (dk_at dksX1_add_2 13 rfl rfl)
theorem dX1_add_63 : decode cX1_add 63 = .ok (.iload 6, 2) := dk_21 6 (dk_at dksX1_add_2 16 rfl rfl)
theorem dX1_add_65 : decode cX1_add 65 = .ok (.iload 9, 2) := dk_21 9 (dk_at dksX1_add_2 18 rfl rfl)
theorem dX1_add_67 : decode cX1_add 67 = .ok (.iadd, 1) := dk_96 (dk_at dksX1_add_2 20 rfl rfl)
theorem dX1_add_68 : decode cX1_add 68 = .ok (.iaload, 1) := dk_46 (dk_at dksX1_add_2 21 rfl rfl)
theorem dX1_add_69 : decode cX1_add 69 = .ok (.iastore, 1) := dk_79 (dk_at dksX1_add_2 22 rfl rfl)
theorem dX1_add_70 : decode cX1_add 70 = .ok (.iinc 9 1, 3) := dk_132 9 1 (dk_at dksX1_add_3 0 rfl rfl)
theorem dX1_add_73 : decode cX1_add 73 = .ok (.goto (-26), 3) := dk_167 255 230 (dk_at dksX1_add_3 3 rfl rfl)
theorem dX1_add_76 : decode cX1_add 76 = .ok (.iconst 0, 1) := dk_3 (dk_at dksX1_add_3 6 rfl rfl)
theorem dX1_add_77 : decode cX1_add 77 = .ok (.istore 9, 2) := dk_54 9 (dk_at dksX1_add_3 7 rfl rfl)
theorem dX1_add_79 : decode cX1_add 79 = .ok (.iload 9, 2) := dk_21 9 (dk_at dksX1_add_3 9 rfl rfl)
theorem dX1_add_81 : decode cX1_add 81 = .ok (.aload 8, 2) := dk_25 8 (dk_at dksX1_add_3 11 rfl rfl)
theorem dX1_add_83 : decode cX1_add 83 = .ok (.arraylength, 1) := dk_190 (dk_at dksX1_add_3 13 rfl rfl)
theorem dX1_add_84 : decode cX1_add 84 = .ok (.if_icmp .ge 35, 3) := dk_162 0 35 (dk_at dksX1_add_3 14 rfl rfl)
theorem dX1_add_87 : decode cX1_add 87 = .ok (.aload_n 0, 1) := dk_42 (dk_at dksX1_add_3 17 rfl rfl)
theorem dX1_add_88 : decode cX1_add 88 = .ok (.getfield 7, 3) := dk_180 0 7 (dk_at dksX1_add_3 18 rfl rfl)
theorem dX1_add_91 : decode cX1_add 91 = .ok (.iload 7, 2) := dk_21 7 (dk_at dksX1_add_3 21 rfl rfl)
theorem dX1_add_93 : decode cX1_add 93 = .ok (.iload 9, 2) := dk_21 9 (dk_at dksX1_add_4 0 rfl rfl)
theorem dX1_add_95 : decode cX1_add 95 = .ok (.iadd, 1) := dk_96 (dk_at dksX1_add_4 2 rfl rfl)
theorem dX1_add_96 : decode cX1_add 96 = .ok (.dup2, 1) := dk_92 (dk_at dksX1_add_4 3 rfl rfl)
theorem dX1_add_97 : decode cX1_add 97 = .ok (.iaload, 1) := dk_46 (dk_at dksX1_add_4 4 rfl rfl)
theorem dX1_add_98 : decode cX1_add 98 = .ok (.iload 4, 2) := dk_21 4 (dk_at dksX1_add_4 5 rfl rfl)
theorem dX1_add_100 : decode cX1_add 100 = .ok (.bipush 15, 2) := dk_16 15 (dk_at dksX1_add_4 7 rfl rfl)
theorem dX1_add_102 : decode cX1_add 102 = .ok (.iand, 1) := dk_126 (dk_at dksX1_add_4 9 rfl rfl)
theorem dX1_add_103 : decode cX1_add 103 = .ok (.aload 8, 2) := dk_25 8 (dk_at dksX1_add_4 10 rfl rfl)
theorem dX1_add_105 : decode cX1_add 105 = .ok (.iload 9, 2) := dk_21 9 (dk_at dksX1_add_4 12 rfl rfl)
theorem dX1_add_107 : decode cX1_add 107 = .ok (.iaload, 1) := dk_46 (dk_at dksX1_add_4 14 rfl rfl)
theorem dX1_add_108 : decode cX1_add 108 = .ok (.invokestatic 19, 3) := dk_184 0 19 (dk_at dksX1_add_4 15 rfl rfl)
theorem dX1_add_111 : decode cX1_add 111 = .ok (.ixor, 1) := dk_130 (dk_at dksX1_add_4 18 rfl rfl)
theorem dX1_add_112 : decode cX1_add 112 = .ok (.iastore, 1) := dk_79 (dk_at dksX1_add_4 19 rfl rfl)
theorem dX1_add_113 : decode cX1_add 113 = .ok (.iinc 9 1, 3) := dk_132 9 1 (dk_at dksX1_add_4 20 rfl rfl)
theorem dX1_add_116 : decode cX1_add 116 = .ok (.goto (-37), 3) := dk_167 255 219 (dk_at dksX1_add_5 0 rfl rfl)
theorem dX1_add_119 : decode cX1_add 119 = .ok (.return_, 1) := dk_177 (dk_at dksX1_add_5 3 rfl rfl)
abbrev cX1_rest : ByteArray := prog_5_method_7_code
def yX1_rest : MethodName := ⟨RX1, "rest", "(II)I"⟩
def dkwX1_rest_0 : List UInt8 := [26, 18, 27, 126, 27, 112, 172]
abbrev dktX1_rest_0 : List UInt8 := dkwX1_rest_0 ++ []
theorem dksX1_rest_0 : cX1_rest.data.toList.drop 0 = dktX1_rest_0 := by decide +kernel
theorem dX1_rest_0 : decode cX1_rest 0 = .ok (.iload_n 0, 1) := dk_26 (dk_at dksX1_rest_0 0 rfl rfl)
theorem dX1_rest_1 : decode cX1_rest 1 = .ok (.ldc 27, 2) := dk_18 27 (dk_at dksX1_rest_0 1 rfl rfl)
theorem dX1_rest_3 : decode cX1_rest 3 = .ok (.iand, 1) := dk_126 (dk_at dksX1_rest_0 3 rfl rfl)
theorem dX1_rest_4 : decode cX1_rest 4 = .ok (.iload_n 1, 1) := dk_27 (dk_at dksX1_rest_0 4 rfl rfl)
theorem dX1_rest_5 : decode cX1_rest 5 = .ok (.irem, 1) := dk_112 (dk_at dksX1_rest_0 5 rfl rfl)
theorem dX1_rest_6 : decode cX1_rest 6 = .ok (.ireturn, 1) := dk_172 (dk_at dksX1_rest_0 6 rfl rfl)
abbrev cX1_get : ByteArray := prog_5_method_9_code
def yX1_get : MethodName := ⟨RX1, "get", "(I)J"⟩
def dkwX1_get_1 : List UInt8 := [96, 46, 133, 129, 65, 132, 4, 255, 167, 255, 230, 32, 173]
abbrev dktX1_get_1 : List UInt8 := dkwX1_get_1 ++ []
def dkwX1_get_0 : List UInt8 := [9, 65, 16, 15, 54, 4, 21, 4, 155, 0, 27, 32, 7, 121, 42, 180, 0, 7, 27, 184, 0, 23, 21, 4]
abbrev dktX1_get_0 : List UInt8 := dkwX1_get_0 ++ dktX1_get_1
theorem dksX1_get_0 : cX1_get.data.toList.drop 0 = dktX1_get_0 := by decide +kernel
theorem dksX1_get_1 : cX1_get.data.toList.drop 24 = dktX1_get_1 := dk_seg dksX1_get_0 24 rfl rfl
theorem dX1_get_0 : decode cX1_get 0 = .ok (.lconst 0, 1) := dk_9 (dk_at dksX1_get_0 0 rfl rfl)
theorem dX1_get_1 : decode cX1_get 1 = .ok (.lstore_n 2, 1) := dk_65 (dk_at dksX1_get_0 1 rfl rfl)
theorem dX1_get_2 : decode cX1_get 2 = .ok (.bipush 15, 2) := dk_16 15 (dk_at dksX1_get_0 2 rfl rfl)
theorem dX1_get_4 : decode cX1_get 4 = .ok (.istore 4, 2) := dk_54 4 (dk_at dksX1_get_0 4 rfl rfl)
theorem dX1_get_6 : decode cX1_get 6 = .ok (.iload 4, 2) := dk_21 4 (dk_at dksX1_get_0 6 rfl rfl)
theorem dX1_get_8 : decode cX1_get 8 = .ok (.ifCond .lt 27, 3) := dk_155 0 27 (dk_at dksX1_get_0 8 rfl rfl)
theorem dX1_get_11 : decode cX1_get 11 = .ok (.lload_n 2, 1) := dk_32 (dk_at dksX1_get_0 11 rfl rfl)
theorem dX1_get_12 : decode cX1_get 12 = .ok (.iconst 4, 1) := dk_7 (dk_at dksX1_get_0 12 rfl rfl)
theorem dX1_get_13 : decode cX1_get 13 = .ok (.lshl, 1) := dk_121 (dk_at dksX1_get_0 13 rfl rfl)
theorem dX1_get_14 : decode cX1_get 14 = .ok (.aload_n 0, 1) := dk_42 (dk_at dksX1_get_0 14 rfl rfl)
theorem dX1_get_15 : decode cX1_get 15 = .ok (.getfield 7, 3) := dk_180 0 7 (dk_at dksX1_get_0 15 rfl rfl)
theorem dX1_get_18 : decode cX1_get 18 = .ok (.iload_n 1, 1) := dk_27 (dk_at dksX1_get_0 18 rfl rfl)
theorem dX1_get_19 : decode cX1_get 19 = .ok (.invokestatic 23, 3) := dk_184 0 23 (dk_at dksX1_get_0 19 rfl rfl)
theorem dX1_get_22 : decode cX1_get 22 = .ok (.iload 4, 2) := dk_21 4 (dk_at dksX1_get_0 22 rfl rfl)
theorem dX1_get_24 : decode cX1_get 24 = .ok (.iadd, 1) := dk_96 (dk_at dksX1_get_1 0 rfl rfl)
theorem dX1_get_25 : decode cX1_get 25 = .ok (.iaload, 1) := dk_46 (dk_at dksX1_get_1 1 rfl rfl)
theorem dX1_get_26 : decode cX1_get 26 = .ok (.i2l, 1) := dk_133 (dk_at dksX1_get_1 2 rfl rfl)
theorem dX1_get_27 : decode cX1_get 27 = .ok (.lor, 1) := dk_129 (dk_at dksX1_get_1 3 rfl rfl)
theorem dX1_get_28 : decode cX1_get 28 = .ok (.lstore_n 2, 1) := dk_65 (dk_at dksX1_get_1 4 rfl rfl)
theorem dX1_get_29 : decode cX1_get 29 = .ok (.iinc 4 (-1), 3) := dk_132 4 255 (dk_at dksX1_get_1 5 rfl rfl)
theorem dX1_get_32 : decode cX1_get 32 = .ok (.goto (-26), 3) := dk_167 255 230 (dk_at dksX1_get_1 8 rfl rfl)
theorem dX1_get_35 : decode cX1_get 35 = .ok (.lload_n 2, 1) := dk_32 (dk_at dksX1_get_1 11 rfl rfl)
theorem dX1_get_36 : decode cX1_get 36 = .ok (.lreturn, 1) := dk_173 (dk_at dksX1_get_1 12 rfl rfl)
abbrev cX1_one : ByteArray := prog_5_method_10_code
def yX1_one : MethodName := ⟨RX1, "one", "(II)I"⟩
def dkwX1_one_0 : List UInt8 := [42, 180, 0, 7, 27, 184, 0, 23, 28, 16, 15, 126, 96, 46, 172]
abbrev dktX1_one_0 : List UInt8 := dkwX1_one_0 ++ []
theorem dksX1_one_0 : cX1_one.data.toList.drop 0 = dktX1_one_0 := by decide +kernel
theorem dX1_one_0 : decode cX1_one 0 = .ok (.aload_n 0, 1) := dk_42 (dk_at dksX1_one_0 0 rfl rfl)
theorem dX1_one_1 : decode cX1_one 1 = .ok (.getfield 7, 3) := dk_180 0 7 (dk_at dksX1_one_0 1 rfl rfl)
theorem dX1_one_4 : decode cX1_one 4 = .ok (.iload_n 1, 1) := dk_27 (dk_at dksX1_one_0 4 rfl rfl)
theorem dX1_one_5 : decode cX1_one 5 = .ok (.invokestatic 23, 3) := dk_184 0 23 (dk_at dksX1_one_0 5 rfl rfl)
theorem dX1_one_8 : decode cX1_one 8 = .ok (.iload_n 2, 1) := dk_28 (dk_at dksX1_one_0 8 rfl rfl)
theorem dX1_one_9 : decode cX1_one 9 = .ok (.bipush 15, 2) := dk_16 15 (dk_at dksX1_one_0 9 rfl rfl)
theorem dX1_one_11 : decode cX1_one 11 = .ok (.iand, 1) := dk_126 (dk_at dksX1_one_0 11 rfl rfl)
theorem dX1_one_12 : decode cX1_one 12 = .ok (.iadd, 1) := dk_96 (dk_at dksX1_one_0 12 rfl rfl)
theorem dX1_one_13 : decode cX1_one 13 = .ok (.iaload, 1) := dk_46 (dk_at dksX1_one_0 13 rfl rfl)
theorem dX1_one_14 : decode cX1_one 14 = .ok (.ireturn, 1) := dk_172 (dk_at dksX1_one_0 14 rfl rfl)
theorem q2 : (Jvm.Cond.initialized "NibbleFieldModel") ∈ lw_all := lw_g (lw_at lw_m0 2 rfl) rfl
theorem q59 : (Jvm.Cond.instantiable "NibbleFieldModel" (1 : Nat)) ∈ lw_all := lw_g (lw_at lw_m0 59 rfl) rfl
theorem q61 : (Jvm.Cond.instanceMethod ({ cls := "NibbleFieldModel", name := "<init>", desc := "()V" } : Jvm.MethodName)) ∈ lw_all := lw_g (lw_at lw_m0 61 rfl) rfl
theorem q62 : (Jvm.Cond.code ({ cls := "NibbleFieldModel", name := "<init>", desc := "()V" } : Jvm.MethodName) prog_5_method_1_code (1 : Nat) (Option.none : Option Jvm.ClassFile.FieldType)) ∈ lw_all := lw_g (lw_at lw_m0 62 rfl) rfl
theorem q63 : (Jvm.Cond.methodLink "NibbleFieldModel" (1 : Nat) ({ cls := "java/lang/Object", name := "<init>", desc := "()V" } : Jvm.MethodName)) ∈ lw_all := lw_g (lw_at lw_m0 63 rfl) rfl
theorem q64 : (Jvm.Cond.fieldLink "NibbleFieldModel" (7 : Nat) "NibbleFieldModel" "element" "[I") ∈ lw_all := lw_g (lw_at lw_m0 64 rfl) rfl
theorem q65 : (Jvm.Cond.laysFinal "NibbleFieldModel" "NibbleFieldModel" "element" "[I") ∈ lw_all := lw_g (lw_at lw_m0 65 rfl) rfl
theorem q66 : (Jvm.Cond.soleField "NibbleFieldModel" "element") ∈ lw_all := lw_g (lw_at lw_m0 66 rfl) rfl
theorem q67 : (Jvm.Cond.superclass "NibbleFieldModel" "java/lang/Object") ∈ lw_all := lw_g (lw_at lw_m0 67 rfl) rfl
theorem q70 : (Jvm.Cond.instanceMethod ({ cls := "NibbleFieldModel", name := "eight", desc := "(III)J" } : Jvm.MethodName)) ∈ lw_all := lw_g (lw_at lw_m0 70 rfl) rfl
theorem q71 : (Jvm.Cond.selects "NibbleFieldModel" ({ cls := "NibbleFieldModel", name := "eight", desc := "(III)J" } : Jvm.MethodName) ({ cls := "NibbleFieldModel", name := "eight", desc := "(III)J" } : Jvm.MethodName)) ∈ lw_all := lw_g (lw_at lw_m0 71 rfl) rfl
theorem q72 : (Jvm.Cond.code ({ cls := "NibbleFieldModel", name := "eight", desc := "(III)J" } : Jvm.MethodName) prog_5_method_5_code (7 : Nat) (Option.some Jvm.ClassFile.FieldType.long)) ∈ lw_all := lw_g (lw_at lw_m0 72 rfl) rfl
theorem q73 : (Jvm.Cond.constantLong "NibbleFieldModel" (13 : Nat) (256 : Int64)) ∈ lw_all := lw_g (lw_at lw_m0 73 rfl) rfl
theorem q74 : (Jvm.Cond.methodLink "NibbleFieldModel" (15 : Nat) ({ cls := "NibbleFieldModel", name := "part", desc := "(III)I" } : Jvm.MethodName)) ∈ lw_all := lw_g (lw_at lw_m0 74 rfl) rfl
theorem q75 : (Jvm.Cond.static ({ cls := "NibbleFieldModel", name := "part", desc := "(III)I" } : Jvm.MethodName)) ∈ lw_all := lw_g (lw_at lw_m0 75 rfl) rfl
theorem q76 : (Jvm.Cond.code ({ cls := "NibbleFieldModel", name := "part", desc := "(III)I" } : Jvm.MethodName) prog_5_method_4_code (3 : Nat) (Option.some Jvm.ClassFile.FieldType.int)) ∈ lw_all := lw_g (lw_at lw_m0 76 rfl) rfl
theorem q77 : (Jvm.Cond.methodLink "NibbleFieldModel" (19 : Nat) ({ cls := "NibbleFieldModel", name := "product", desc := "(II)I" } : Jvm.MethodName)) ∈ lw_all := lw_g (lw_at lw_m0 77 rfl) rfl
theorem q78 : (Jvm.Cond.static ({ cls := "NibbleFieldModel", name := "product", desc := "(II)I" } : Jvm.MethodName)) ∈ lw_all := lw_g (lw_at lw_m0 78 rfl) rfl
theorem q79 : (Jvm.Cond.code ({ cls := "NibbleFieldModel", name := "product", desc := "(II)I" } : Jvm.MethodName) prog_5_method_2_code (4 : Nat) (Option.some Jvm.ClassFile.FieldType.int)) ∈ lw_all := lw_g (lw_at lw_m0 79 rfl) rfl
theorem q81 : (Jvm.Cond.instanceMethod ({ cls := "NibbleFieldModel", name := "set", desc := "(III)V" } : Jvm.MethodName)) ∈ lw_all := lw_g (lw_at lw_m0 81 rfl) rfl
theorem q82 : (Jvm.Cond.selects "NibbleFieldModel" ({ cls := "NibbleFieldModel", name := "set", desc := "(III)V" } : Jvm.MethodName) ({ cls := "NibbleFieldModel", name := "set", desc := "(III)V" } : Jvm.MethodName)) ∈ lw_all := lw_g (lw_at lw_m0 82 rfl) rfl
theorem q83 : (Jvm.Cond.code ({ cls := "NibbleFieldModel", name := "set", desc := "(III)V" } : Jvm.MethodName) prog_5_method_6_code (5 : Nat) (Option.none : Option Jvm.ClassFile.FieldType)) ∈ lw_all := lw_g (lw_at lw_m0 83 rfl) rfl
theorem q84 : (Jvm.Cond.methodLink "NibbleFieldModel" (23 : Nat) ({ cls := "NibbleFieldModel", name := "row", desc := "(I)I" } : Jvm.MethodName)) ∈ lw_all := lw_g (lw_at lw_m0 84 rfl) rfl
theorem q85 : (Jvm.Cond.static ({ cls := "NibbleFieldModel", name := "row", desc := "(I)I" } : Jvm.MethodName)) ∈ lw_all := lw_g (lw_at lw_m0 85 rfl) rfl
theorem q86 : (Jvm.Cond.code ({ cls := "NibbleFieldModel", name := "row", desc := "(I)I" } : Jvm.MethodName) prog_5_method_3_code (1 : Nat) (Option.some Jvm.ClassFile.FieldType.int)) ∈ lw_all := lw_g (lw_at lw_m0 86 rfl) rfl
theorem q88 : (Jvm.Cond.instanceMethod ({ cls := "NibbleFieldModel", name := "add", desc := "(IIII)V" } : Jvm.MethodName)) ∈ lw_all := lw_g (lw_at lw_m0 88 rfl) rfl
theorem q89 : (Jvm.Cond.selects "NibbleFieldModel" ({ cls := "NibbleFieldModel", name := "add", desc := "(IIII)V" } : Jvm.MethodName) ({ cls := "NibbleFieldModel", name := "add", desc := "(IIII)V" } : Jvm.MethodName)) ∈ lw_all := lw_g (lw_at lw_m0 89 rfl) rfl
theorem q90 : (Jvm.Cond.code ({ cls := "NibbleFieldModel", name := "add", desc := "(IIII)V" } : Jvm.MethodName) prog_5_method_8_code (10 : Nat) (Option.none : Option Jvm.ClassFile.FieldType)) ∈ lw_all := lw_g (lw_at lw_m0 90 rfl) rfl
theorem q91 : (Jvm.Cond.methodLink "NibbleFieldModel" (28 : Nat) ({ cls := "NibbleFieldModel", name := "rest", desc := "(II)I" } : Jvm.MethodName)) ∈ lw_all := lw_g (lw_at lw_m0 91 rfl) rfl
theorem q92 : (Jvm.Cond.static ({ cls := "NibbleFieldModel", name := "rest", desc := "(II)I" } : Jvm.MethodName)) ∈ lw_all := lw_g (lw_at lw_m0 92 rfl) rfl
theorem q93 : (Jvm.Cond.code ({ cls := "NibbleFieldModel", name := "rest", desc := "(II)I" } : Jvm.MethodName) prog_5_method_7_code (2 : Nat) (Option.some Jvm.ClassFile.FieldType.int)) ∈ lw_all := lw_g (lw_at lw_m0 93 rfl) rfl
theorem q94 : (Jvm.Cond.constant "NibbleFieldModel" (27 : Nat) (2147483647 : Int32)) ∈ lw_all := lw_g (lw_at lw_m0 94 rfl) rfl
theorem q96 : (Jvm.Cond.instanceMethod ({ cls := "NibbleFieldModel", name := "get", desc := "(I)J" } : Jvm.MethodName)) ∈ lw_all := lw_g (lw_at lw_m0 96 rfl) rfl
theorem q97 : (Jvm.Cond.selects "NibbleFieldModel" ({ cls := "NibbleFieldModel", name := "get", desc := "(I)J" } : Jvm.MethodName) ({ cls := "NibbleFieldModel", name := "get", desc := "(I)J" } : Jvm.MethodName)) ∈ lw_all := lw_g (lw_at lw_m0 97 rfl) rfl
theorem q98 : (Jvm.Cond.code ({ cls := "NibbleFieldModel", name := "get", desc := "(I)J" } : Jvm.MethodName) prog_5_method_9_code (5 : Nat) (Option.some Jvm.ClassFile.FieldType.long)) ∈ lw_all := lw_g (lw_at lw_m0 98 rfl) rfl
theorem q100 : (Jvm.Cond.instanceMethod ({ cls := "NibbleFieldModel", name := "one", desc := "(II)I" } : Jvm.MethodName)) ∈ lw_all := lw_g (lw_at lw_m0 100 rfl) rfl
theorem q101 : (Jvm.Cond.selects "NibbleFieldModel" ({ cls := "NibbleFieldModel", name := "one", desc := "(II)I" } : Jvm.MethodName) ({ cls := "NibbleFieldModel", name := "one", desc := "(II)I" } : Jvm.MethodName)) ∈ lw_all := lw_g (lw_at lw_m0 101 rfl) rfl
theorem q102 : (Jvm.Cond.code ({ cls := "NibbleFieldModel", name := "one", desc := "(II)I" } : Jvm.MethodName) prog_5_method_10_code (3 : Nat) (Option.some Jvm.ClassFile.FieldType.int)) ∈ lw_all := lw_g (lw_at lw_m0 102 rfl) rfl
theorem in_X1 : ∀ w ∈ wsX10, w ∈ lw_all := lw_in wsX10 [65] (by decide +kernel) (by decide +kernel)
/-! the law's own entry -/
abbrev cL_law : ByteArray := code
def dkwL_law_11 : List UInt8 := [159, 0, 5, 3, 172, 132, 3, 6, 167, 255, 10, 4, 172]
abbrev dktL_law_11 : List UInt8 := dkwL_law_11 ++ []
def dkwL_law_10 : List UInt8 := [42, 29, 5, 96, 46, 182, 0, 33, 44, 42, 29, 4, 96, 46, 42, 29, 5, 96, 46, 182, 0, 37]
abbrev dktL_law_10 : List UInt8 := dkwL_law_10 ++ dktL_law_11
def dkwL_law_9 : List UInt8 := [182, 0, 28, 44, 42, 29, 4, 96, 46, 182, 0, 32, 148, 153, 0, 38, 3, 172, 43, 42, 29, 4, 96, 46]
abbrev dktL_law_9 : List UInt8 := dkwL_law_9 ++ dktL_law_10
def dkwL_law_8 : List UInt8 := [42, 29, 6, 96, 46, 42, 29, 7, 96, 46, 182, 0, 27, 167, 0, 60, 43, 42, 29, 4, 96, 46]
abbrev dktL_law_8 : List UInt8 := dkwL_law_8 ++ dktL_law_9
def dkwL_law_7 : List UInt8 := [42, 29, 6, 96, 46, 42, 29, 7, 96, 46, 182, 0, 23, 44, 42, 29, 4, 96, 46, 42, 29, 5, 96, 46]
abbrev dktL_law_7 : List UInt8 := dkwL_law_7 ++ dktL_law_8
def dkwL_law_6 : List UInt8 := [96, 46, 42, 29, 6, 96, 46, 182, 0, 22, 167, 0, 111, 43, 42, 29, 4, 96, 46, 42, 29, 5, 96, 46]
abbrev dktL_law_6 : List UInt8 := dkwL_law_6 ++ dktL_law_7
def dkwL_law_5 : List UInt8 := [96, 46, 42, 29, 5, 96, 46, 42, 29, 6, 96, 46, 182, 0, 18, 44, 42, 29, 4, 96, 46, 42, 29, 5]
abbrev dktL_law_5 : List UInt8 := dkwL_law_5 ++ dktL_law_6
def dkwL_law_4 : List UInt8 := [46, 42, 29, 5, 96, 46, 42, 29, 6, 96, 46, 182, 0, 17, 148, 153, 0, 154, 3, 172, 43, 42, 29, 4]
abbrev dktL_law_4 : List UInt8 := dkwL_law_4 ++ dktL_law_5
def dkwL_law_3 : List UInt8 := [43, 42, 29, 4, 96, 46, 42, 29, 5, 96, 46, 42, 29, 6, 96, 46, 182, 0, 13, 44, 42, 29, 4, 96]
abbrev dktL_law_3 : List UInt8 := dkwL_law_3 ++ dktL_law_4
def dkwL_law_2 : List UInt8 := [170, 0, 0, 0, 0, 0, 228, 0, 0, 0, 0, 0, 0, 0, 4, 0, 0, 0, 35, 0, 0, 0, 79, 0, 0, 0, 120, 0, 0, 0, 171, 0, 0, 0, 195]
abbrev dktL_law_2 : List UInt8 := dkwL_law_2 ++ dktL_law_3
def dkwL_law_1 : List UInt8 := [163, 0, 243, 42, 29, 46, 16, 7, 126]
abbrev dktL_law_1 : List UInt8 := dkwL_law_1 ++ dktL_law_2
def dkwL_law_0 : List UInt8 := [187, 0, 7, 89, 183, 0, 9, 76, 187, 0, 10, 89, 183, 0, 12, 77, 3, 62, 29, 42, 190, 16, 6, 100]
abbrev dktL_law_0 : List UInt8 := dkwL_law_0 ++ dktL_law_1
theorem dksL_law_0 : cL_law.data.toList.drop 0 = dktL_law_0 := by decide +kernel
theorem dksL_law_1 : cL_law.data.toList.drop 24 = dktL_law_1 := dk_seg dksL_law_0 24 rfl rfl
theorem dksL_law_2 : cL_law.data.toList.drop 33 = dktL_law_2 := dk_seg dksL_law_1 9 rfl rfl
theorem dksL_law_3 : cL_law.data.toList.drop 68 = dktL_law_3 := dk_seg dksL_law_2 35 rfl rfl
theorem dksL_law_4 : cL_law.data.toList.drop 92 = dktL_law_4 := dk_seg dksL_law_3 24 rfl rfl
theorem dksL_law_5 : cL_law.data.toList.drop 116 = dktL_law_5 := dk_seg dksL_law_4 24 rfl rfl
theorem dksL_law_6 : cL_law.data.toList.drop 140 = dktL_law_6 := dk_seg dksL_law_5 24 rfl rfl
theorem dksL_law_7 : cL_law.data.toList.drop 164 = dktL_law_7 := dk_seg dksL_law_6 24 rfl rfl
theorem dksL_law_8 : cL_law.data.toList.drop 188 = dktL_law_8 := dk_seg dksL_law_7 24 rfl rfl
theorem dksL_law_9 : cL_law.data.toList.drop 210 = dktL_law_9 := dk_seg dksL_law_8 22 rfl rfl
theorem dksL_law_10 : cL_law.data.toList.drop 234 = dktL_law_10 := dk_seg dksL_law_9 24 rfl rfl
theorem dksL_law_11 : cL_law.data.toList.drop 256 = dktL_law_11 := dk_seg dksL_law_10 22 rfl rfl
theorem dL_law_0 : decode cL_law 0 = .ok (.new 7, 3) := dk_187 0 7 (dk_at dksL_law_0 0 rfl rfl)
theorem dL_law_3 : decode cL_law 3 = .ok (.dup, 1) := dk_89 (dk_at dksL_law_0 3 rfl rfl)
theorem dL_law_4 : decode cL_law 4 = .ok (.invokespecial 9, 3) := dk_183 0 9 (dk_at dksL_law_0 4 rfl rfl)
theorem dL_law_7 : decode cL_law 7 = .ok (.astore_n 1, 1) := dk_76 (dk_at dksL_law_0 7 rfl rfl)
theorem dL_law_8 : decode cL_law 8 = .ok (.new 10, 3) := dk_187 0 10 (dk_at dksL_law_0 8 rfl rfl)
theorem dL_law_11 : decode cL_law 11 = .ok (.dup, 1) := dk_89 (dk_at dksL_law_0 11 rfl rfl)
theorem dL_law_12 : decode cL_law 12 = .ok (.invokespecial 12, 3) := dk_183 0 12 (dk_at dksL_law_0 12 rfl rfl)
theorem dL_law_15 : decode cL_law 15 = .ok (.astore_n 2, 1) := dk_77 (dk_at dksL_law_0 15 rfl rfl)
theorem dL_law_16 : decode cL_law 16 = .ok (.iconst 0, 1) := dk_3 (dk_at dksL_law_0 16 rfl rfl)
theorem dL_law_17 : decode cL_law 17 = .ok (.istore_n 3, 1) := dk_62 (dk_at dksL_law_0 17 rfl rfl)
theorem dL_law_18 : decode cL_law 18 = .ok (.iload_n 3, 1) := dk_29 (dk_at dksL_law_0 18 rfl rfl)
theorem dL_law_19 : decode cL_law 19 = .ok (.aload_n 0, 1) := dk_42 (dk_at dksL_law_0 19 rfl rfl)
theorem dL_law_20 : decode cL_law 20 = .ok (.arraylength, 1) := dk_190 (dk_at dksL_law_0 20 rfl rfl)
theorem dL_law_21 : decode cL_law 21 = .ok (.bipush 6, 2) := dk_16 6 (dk_at dksL_law_0 21 rfl rfl)
theorem dL_law_23 : decode cL_law 23 = .ok (.isub, 1) := dk_100 (dk_at dksL_law_0 23 rfl rfl)
theorem dL_law_24 : decode cL_law 24 = .ok (.if_icmp .gt 243, 3) := dk_163 0 243 (dk_at dksL_law_1 0 rfl rfl)
theorem dL_law_27 : decode cL_law 27 = .ok (.aload_n 0, 1) := dk_42 (dk_at dksL_law_1 3 rfl rfl)
theorem dL_law_28 : decode cL_law 28 = .ok (.iload_n 3, 1) := dk_29 (dk_at dksL_law_1 4 rfl rfl)
theorem dL_law_29 : decode cL_law 29 = .ok (.iaload, 1) := dk_46 (dk_at dksL_law_1 5 rfl rfl)
theorem dL_law_30 : decode cL_law 30 = .ok (.bipush 7, 2) := dk_16 7 (dk_at dksL_law_1 6 rfl rfl)
theorem dL_law_32 : decode cL_law 32 = .ok (.iand, 1) := dk_126 (dk_at dksL_law_1 8 rfl rfl)
theorem dL_law_33 : decode cL_law 33 = .ok (.tableswitch 228 0 4 #[35, 79, 120, 171, 195], 35) := by decide +kernel
theorem dL_law_68 : decode cL_law 68 = .ok (.aload_n 1, 1) := dk_43 (dk_at dksL_law_3 0 rfl rfl)
theorem dL_law_69 : decode cL_law 69 = .ok (.aload_n 0, 1) := dk_42 (dk_at dksL_law_3 1 rfl rfl)
theorem dL_law_70 : decode cL_law 70 = .ok (.iload_n 3, 1) := dk_29 (dk_at dksL_law_3 2 rfl rfl)
theorem dL_law_71 : decode cL_law 71 = .ok (.iconst 1, 1) := dk_4 (dk_at dksL_law_3 3 rfl rfl)
theorem dL_law_72 : decode cL_law 72 = .ok (.iadd, 1) := dk_96 (dk_at dksL_law_3 4 rfl rfl)
theorem dL_law_73 : decode cL_law 73 = .ok (.iaload, 1) := dk_46 (dk_at dksL_law_3 5 rfl rfl)
theorem dL_law_74 : decode cL_law 74 = .ok (.aload_n 0, 1) := dk_42 (dk_at dksL_law_3 6 rfl rfl)
theorem dL_law_75 : decode cL_law 75 = .ok (.iload_n 3, 1) := dk_29 (dk_at dksL_law_3 7 rfl rfl)
theorem dL_law_76 : decode cL_law 76 = .ok (.iconst 2, 1) := dk_5 (dk_at dksL_law_3 8 rfl rfl)
theorem dL_law_77 : decode cL_law 77 = .ok (.iadd, 1) := dk_96 (dk_at dksL_law_3 9 rfl rfl)
theorem dL_law_78 : decode cL_law 78 = .ok (.iaload, 1) := dk_46 (dk_at dksL_law_3 10 rfl rfl)
theorem dL_law_79 : decode cL_law 79 = .ok (.aload_n 0, 1) := dk_42 (dk_at dksL_law_3 11 rfl rfl)
theorem dL_law_80 : decode cL_law 80 = .ok (.iload_n 3, 1) := dk_29 (dk_at dksL_law_3 12 rfl rfl)
theorem dL_law_81 : decode cL_law 81 = .ok (.iconst 3, 1) := dk_6 (dk_at dksL_law_3 13 rfl rfl)
theorem dL_law_82 : decode cL_law 82 = .ok (.iadd, 1) := dk_96 (dk_at dksL_law_3 14 rfl rfl)
theorem dL_law_83 : decode cL_law 83 = .ok (.iaload, 1) := dk_46 (dk_at dksL_law_3 15 rfl rfl)
theorem dL_law_84 : decode cL_law 84 = .ok (.invokevirtual 13, 3) := dk_182 0 13 (dk_at dksL_law_3 16 rfl rfl)
theorem dL_law_87 : decode cL_law 87 = .ok (.aload_n 2, 1) := dk_44 (dk_at dksL_law_3 19 rfl rfl)
theorem dL_law_88 : decode cL_law 88 = .ok (.aload_n 0, 1) := dk_42 (dk_at dksL_law_3 20 rfl rfl)
theorem dL_law_89 : decode cL_law 89 = .ok (.iload_n 3, 1) := dk_29 (dk_at dksL_law_3 21 rfl rfl)
theorem dL_law_90 : decode cL_law 90 = .ok (.iconst 1, 1) := dk_4 (dk_at dksL_law_3 22 rfl rfl)
theorem dL_law_91 : decode cL_law 91 = .ok (.iadd, 1) := dk_96 (dk_at dksL_law_3 23 rfl rfl)
theorem dL_law_92 : decode cL_law 92 = .ok (.iaload, 1) := dk_46 (dk_at dksL_law_4 0 rfl rfl)
theorem dL_law_93 : decode cL_law 93 = .ok (.aload_n 0, 1) := dk_42 (dk_at dksL_law_4 1 rfl rfl)
theorem dL_law_94 : decode cL_law 94 = .ok (.iload_n 3, 1) := dk_29 (dk_at dksL_law_4 2 rfl rfl)
theorem dL_law_95 : decode cL_law 95 = .ok (.iconst 2, 1) := dk_5 (dk_at dksL_law_4 3 rfl rfl)
theorem dL_law_96 : decode cL_law 96 = .ok (.iadd, 1) := dk_96 (dk_at dksL_law_4 4 rfl rfl)
theorem dL_law_97 : decode cL_law 97 = .ok (.iaload, 1) := dk_46 (dk_at dksL_law_4 5 rfl rfl)
theorem dL_law_98 : decode cL_law 98 = .ok (.aload_n 0, 1) := dk_42 (dk_at dksL_law_4 6 rfl rfl)
theorem dL_law_99 : decode cL_law 99 = .ok (.iload_n 3, 1) := dk_29 (dk_at dksL_law_4 7 rfl rfl)
theorem dL_law_100 : decode cL_law 100 = .ok (.iconst 3, 1) := dk_6 (dk_at dksL_law_4 8 rfl rfl)
theorem dL_law_101 : decode cL_law 101 = .ok (.iadd, 1) := dk_96 (dk_at dksL_law_4 9 rfl rfl)
theorem dL_law_102 : decode cL_law 102 = .ok (.iaload, 1) := dk_46 (dk_at dksL_law_4 10 rfl rfl)
theorem dL_law_103 : decode cL_law 103 = .ok (.invokevirtual 17, 3) := dk_182 0 17 (dk_at dksL_law_4 11 rfl rfl)
theorem dL_law_106 : decode cL_law 106 = .ok (.lcmp, 1) := dk_148 (dk_at dksL_law_4 14 rfl rfl)
theorem dL_law_107 : decode cL_law 107 = .ok (.ifCond .eq 154, 3) := dk_153 0 154 (dk_at dksL_law_4 15 rfl rfl)
theorem dL_law_110 : decode cL_law 110 = .ok (.iconst 0, 1) := dk_3 (dk_at dksL_law_4 18 rfl rfl)
theorem dL_law_111 : decode cL_law 111 = .ok (.ireturn, 1) := dk_172 (dk_at dksL_law_4 19 rfl rfl)
theorem dL_law_112 : decode cL_law 112 = .ok (.aload_n 1, 1) := dk_43 (dk_at dksL_law_4 20 rfl rfl)
theorem dL_law_113 : decode cL_law 113 = .ok (.aload_n 0, 1) := dk_42 (dk_at dksL_law_4 21 rfl rfl)
theorem dL_law_114 : decode cL_law 114 = .ok (.iload_n 3, 1) := dk_29 (dk_at dksL_law_4 22 rfl rfl)
theorem dL_law_115 : decode cL_law 115 = .ok (.iconst 1, 1) := dk_4 (dk_at dksL_law_4 23 rfl rfl)
theorem dL_law_116 : decode cL_law 116 = .ok (.iadd, 1) := dk_96 (dk_at dksL_law_5 0 rfl rfl)
theorem dL_law_117 : decode cL_law 117 = .ok (.iaload, 1) := dk_46 (dk_at dksL_law_5 1 rfl rfl)
theorem dL_law_118 : decode cL_law 118 = .ok (.aload_n 0, 1) := dk_42 (dk_at dksL_law_5 2 rfl rfl)
theorem dL_law_119 : decode cL_law 119 = .ok (.iload_n 3, 1) := dk_29 (dk_at dksL_law_5 3 rfl rfl)
theorem dL_law_120 : decode cL_law 120 = .ok (.iconst 2, 1) := dk_5 (dk_at dksL_law_5 4 rfl rfl)
theorem dL_law_121 : decode cL_law 121 = .ok (.iadd, 1) := dk_96 (dk_at dksL_law_5 5 rfl rfl)
theorem dL_law_122 : decode cL_law 122 = .ok (.iaload, 1) := dk_46 (dk_at dksL_law_5 6 rfl rfl)
theorem dL_law_123 : decode cL_law 123 = .ok (.aload_n 0, 1) := dk_42 (dk_at dksL_law_5 7 rfl rfl)
theorem dL_law_124 : decode cL_law 124 = .ok (.iload_n 3, 1) := dk_29 (dk_at dksL_law_5 8 rfl rfl)
theorem dL_law_125 : decode cL_law 125 = .ok (.iconst 3, 1) := dk_6 (dk_at dksL_law_5 9 rfl rfl)
theorem dL_law_126 : decode cL_law 126 = .ok (.iadd, 1) := dk_96 (dk_at dksL_law_5 10 rfl rfl)
theorem dL_law_127 : decode cL_law 127 = .ok (.iaload, 1) := dk_46 (dk_at dksL_law_5 11 rfl rfl)
theorem dL_law_128 : decode cL_law 128 = .ok (.invokevirtual 18, 3) := dk_182 0 18 (dk_at dksL_law_5 12 rfl rfl)
theorem dL_law_131 : decode cL_law 131 = .ok (.aload_n 2, 1) := dk_44 (dk_at dksL_law_5 15 rfl rfl)
theorem dL_law_132 : decode cL_law 132 = .ok (.aload_n 0, 1) := dk_42 (dk_at dksL_law_5 16 rfl rfl)
theorem dL_law_133 : decode cL_law 133 = .ok (.iload_n 3, 1) := dk_29 (dk_at dksL_law_5 17 rfl rfl)
theorem dL_law_134 : decode cL_law 134 = .ok (.iconst 1, 1) := dk_4 (dk_at dksL_law_5 18 rfl rfl)
theorem dL_law_135 : decode cL_law 135 = .ok (.iadd, 1) := dk_96 (dk_at dksL_law_5 19 rfl rfl)
theorem dL_law_136 : decode cL_law 136 = .ok (.iaload, 1) := dk_46 (dk_at dksL_law_5 20 rfl rfl)
theorem dL_law_137 : decode cL_law 137 = .ok (.aload_n 0, 1) := dk_42 (dk_at dksL_law_5 21 rfl rfl)
theorem dL_law_138 : decode cL_law 138 = .ok (.iload_n 3, 1) := dk_29 (dk_at dksL_law_5 22 rfl rfl)
theorem dL_law_139 : decode cL_law 139 = .ok (.iconst 2, 1) := dk_5 (dk_at dksL_law_5 23 rfl rfl)
theorem dL_law_140 : decode cL_law 140 = .ok (.iadd, 1) := dk_96 (dk_at dksL_law_6 0 rfl rfl)
theorem dL_law_141 : decode cL_law 141 = .ok (.iaload, 1) := dk_46 (dk_at dksL_law_6 1 rfl rfl)
theorem dL_law_142 : decode cL_law 142 = .ok (.aload_n 0, 1) := dk_42 (dk_at dksL_law_6 2 rfl rfl)
theorem dL_law_143 : decode cL_law 143 = .ok (.iload_n 3, 1) := dk_29 (dk_at dksL_law_6 3 rfl rfl)
theorem dL_law_144 : decode cL_law 144 = .ok (.iconst 3, 1) := dk_6 (dk_at dksL_law_6 4 rfl rfl)
theorem dL_law_145 : decode cL_law 145 = .ok (.iadd, 1) := dk_96 (dk_at dksL_law_6 5 rfl rfl)
theorem dL_law_146 : decode cL_law 146 = .ok (.iaload, 1) := dk_46 (dk_at dksL_law_6 6 rfl rfl)
theorem dL_law_147 : decode cL_law 147 = .ok (.invokevirtual 22, 3) := dk_182 0 22 (dk_at dksL_law_6 7 rfl rfl)
theorem dL_law_150 : decode cL_law 150 = .ok (.goto 111, 3) := dk_167 0 111 (dk_at dksL_law_6 10 rfl rfl)
theorem dL_law_153 : decode cL_law 153 = .ok (.aload_n 1, 1) := dk_43 (dk_at dksL_law_6 13 rfl rfl)
theorem dL_law_154 : decode cL_law 154 = .ok (.aload_n 0, 1) := dk_42 (dk_at dksL_law_6 14 rfl rfl)
theorem dL_law_155 : decode cL_law 155 = .ok (.iload_n 3, 1) := dk_29 (dk_at dksL_law_6 15 rfl rfl)
theorem dL_law_156 : decode cL_law 156 = .ok (.iconst 1, 1) := dk_4 (dk_at dksL_law_6 16 rfl rfl)
theorem dL_law_157 : decode cL_law 157 = .ok (.iadd, 1) := dk_96 (dk_at dksL_law_6 17 rfl rfl)
theorem dL_law_158 : decode cL_law 158 = .ok (.iaload, 1) := dk_46 (dk_at dksL_law_6 18 rfl rfl)
theorem dL_law_159 : decode cL_law 159 = .ok (.aload_n 0, 1) := dk_42 (dk_at dksL_law_6 19 rfl rfl)
theorem dL_law_160 : decode cL_law 160 = .ok (.iload_n 3, 1) := dk_29 (dk_at dksL_law_6 20 rfl rfl)
theorem dL_law_161 : decode cL_law 161 = .ok (.iconst 2, 1) := dk_5 (dk_at dksL_law_6 21 rfl rfl)
theorem dL_law_162 : decode cL_law 162 = .ok (.iadd, 1) := dk_96 (dk_at dksL_law_6 22 rfl rfl)
theorem dL_law_163 : decode cL_law 163 = .ok (.iaload, 1) := dk_46 (dk_at dksL_law_6 23 rfl rfl)
theorem dL_law_164 : decode cL_law 164 = .ok (.aload_n 0, 1) := dk_42 (dk_at dksL_law_7 0 rfl rfl)
theorem dL_law_165 : decode cL_law 165 = .ok (.iload_n 3, 1) := dk_29 (dk_at dksL_law_7 1 rfl rfl)
theorem dL_law_166 : decode cL_law 166 = .ok (.iconst 3, 1) := dk_6 (dk_at dksL_law_7 2 rfl rfl)
theorem dL_law_167 : decode cL_law 167 = .ok (.iadd, 1) := dk_96 (dk_at dksL_law_7 3 rfl rfl)
theorem dL_law_168 : decode cL_law 168 = .ok (.iaload, 1) := dk_46 (dk_at dksL_law_7 4 rfl rfl)
theorem dL_law_169 : decode cL_law 169 = .ok (.aload_n 0, 1) := dk_42 (dk_at dksL_law_7 5 rfl rfl)
theorem dL_law_170 : decode cL_law 170 = .ok (.iload_n 3, 1) := dk_29 (dk_at dksL_law_7 6 rfl rfl)
theorem dL_law_171 : decode cL_law 171 = .ok (.iconst 4, 1) := dk_7 (dk_at dksL_law_7 7 rfl rfl)
theorem dL_law_172 : decode cL_law 172 = .ok (.iadd, 1) := dk_96 (dk_at dksL_law_7 8 rfl rfl)
theorem dL_law_173 : decode cL_law 173 = .ok (.iaload, 1) := dk_46 (dk_at dksL_law_7 9 rfl rfl)
theorem dL_law_174 : decode cL_law 174 = .ok (.invokevirtual 23, 3) := dk_182 0 23 (dk_at dksL_law_7 10 rfl rfl)
theorem dL_law_177 : decode cL_law 177 = .ok (.aload_n 2, 1) := dk_44 (dk_at dksL_law_7 13 rfl rfl)
theorem dL_law_178 : decode cL_law 178 = .ok (.aload_n 0, 1) := dk_42 (dk_at dksL_law_7 14 rfl rfl)
theorem dL_law_179 : decode cL_law 179 = .ok (.iload_n 3, 1) := dk_29 (dk_at dksL_law_7 15 rfl rfl)
theorem dL_law_180 : decode cL_law 180 = .ok (.iconst 1, 1) := dk_4 (dk_at dksL_law_7 16 rfl rfl)
theorem dL_law_181 : decode cL_law 181 = .ok (.iadd, 1) := dk_96 (dk_at dksL_law_7 17 rfl rfl)
theorem dL_law_182 : decode cL_law 182 = .ok (.iaload, 1) := dk_46 (dk_at dksL_law_7 18 rfl rfl)
theorem dL_law_183 : decode cL_law 183 = .ok (.aload_n 0, 1) := dk_42 (dk_at dksL_law_7 19 rfl rfl)
theorem dL_law_184 : decode cL_law 184 = .ok (.iload_n 3, 1) := dk_29 (dk_at dksL_law_7 20 rfl rfl)
theorem dL_law_185 : decode cL_law 185 = .ok (.iconst 2, 1) := dk_5 (dk_at dksL_law_7 21 rfl rfl)
theorem dL_law_186 : decode cL_law 186 = .ok (.iadd, 1) := dk_96 (dk_at dksL_law_7 22 rfl rfl)
theorem dL_law_187 : decode cL_law 187 = .ok (.iaload, 1) := dk_46 (dk_at dksL_law_7 23 rfl rfl)
theorem dL_law_188 : decode cL_law 188 = .ok (.aload_n 0, 1) := dk_42 (dk_at dksL_law_8 0 rfl rfl)
theorem dL_law_189 : decode cL_law 189 = .ok (.iload_n 3, 1) := dk_29 (dk_at dksL_law_8 1 rfl rfl)
theorem dL_law_190 : decode cL_law 190 = .ok (.iconst 3, 1) := dk_6 (dk_at dksL_law_8 2 rfl rfl)
theorem dL_law_191 : decode cL_law 191 = .ok (.iadd, 1) := dk_96 (dk_at dksL_law_8 3 rfl rfl)
theorem dL_law_192 : decode cL_law 192 = .ok (.iaload, 1) := dk_46 (dk_at dksL_law_8 4 rfl rfl)
theorem dL_law_193 : decode cL_law 193 = .ok (.aload_n 0, 1) := dk_42 (dk_at dksL_law_8 5 rfl rfl)
theorem dL_law_194 : decode cL_law 194 = .ok (.iload_n 3, 1) := dk_29 (dk_at dksL_law_8 6 rfl rfl)
theorem dL_law_195 : decode cL_law 195 = .ok (.iconst 4, 1) := dk_7 (dk_at dksL_law_8 7 rfl rfl)
theorem dL_law_196 : decode cL_law 196 = .ok (.iadd, 1) := dk_96 (dk_at dksL_law_8 8 rfl rfl)
theorem dL_law_197 : decode cL_law 197 = .ok (.iaload, 1) := dk_46 (dk_at dksL_law_8 9 rfl rfl)
theorem dL_law_198 : decode cL_law 198 = .ok (.invokevirtual 27, 3) := dk_182 0 27 (dk_at dksL_law_8 10 rfl rfl)
theorem dL_law_201 : decode cL_law 201 = .ok (.goto 60, 3) := dk_167 0 60 (dk_at dksL_law_8 13 rfl rfl)
theorem dL_law_204 : decode cL_law 204 = .ok (.aload_n 1, 1) := dk_43 (dk_at dksL_law_8 16 rfl rfl)
theorem dL_law_205 : decode cL_law 205 = .ok (.aload_n 0, 1) := dk_42 (dk_at dksL_law_8 17 rfl rfl)
theorem dL_law_206 : decode cL_law 206 = .ok (.iload_n 3, 1) := dk_29 (dk_at dksL_law_8 18 rfl rfl)
theorem dL_law_207 : decode cL_law 207 = .ok (.iconst 1, 1) := dk_4 (dk_at dksL_law_8 19 rfl rfl)
theorem dL_law_208 : decode cL_law 208 = .ok (.iadd, 1) := dk_96 (dk_at dksL_law_8 20 rfl rfl)
theorem dL_law_209 : decode cL_law 209 = .ok (.iaload, 1) := dk_46 (dk_at dksL_law_8 21 rfl rfl)
theorem dL_law_210 : decode cL_law 210 = .ok (.invokevirtual 28, 3) := dk_182 0 28 (dk_at dksL_law_9 0 rfl rfl)
theorem dL_law_213 : decode cL_law 213 = .ok (.aload_n 2, 1) := dk_44 (dk_at dksL_law_9 3 rfl rfl)
theorem dL_law_214 : decode cL_law 214 = .ok (.aload_n 0, 1) := dk_42 (dk_at dksL_law_9 4 rfl rfl)
theorem dL_law_215 : decode cL_law 215 = .ok (.iload_n 3, 1) := dk_29 (dk_at dksL_law_9 5 rfl rfl)
theorem dL_law_216 : decode cL_law 216 = .ok (.iconst 1, 1) := dk_4 (dk_at dksL_law_9 6 rfl rfl)
theorem dL_law_217 : decode cL_law 217 = .ok (.iadd, 1) := dk_96 (dk_at dksL_law_9 7 rfl rfl)
theorem dL_law_218 : decode cL_law 218 = .ok (.iaload, 1) := dk_46 (dk_at dksL_law_9 8 rfl rfl)
theorem dL_law_219 : decode cL_law 219 = .ok (.invokevirtual 32, 3) := dk_182 0 32 (dk_at dksL_law_9 9 rfl rfl)
theorem dL_law_222 : decode cL_law 222 = .ok (.lcmp, 1) := dk_148 (dk_at dksL_law_9 12 rfl rfl)
theorem dL_law_223 : decode cL_law 223 = .ok (.ifCond .eq 38, 3) := dk_153 0 38 (dk_at dksL_law_9 13 rfl rfl)
theorem dL_law_226 : decode cL_law 226 = .ok (.iconst 0, 1) := dk_3 (dk_at dksL_law_9 16 rfl rfl)
theorem dL_law_227 : decode cL_law 227 = .ok (.ireturn, 1) := dk_172 (dk_at dksL_law_9 17 rfl rfl)
theorem dL_law_228 : decode cL_law 228 = .ok (.aload_n 1, 1) := dk_43 (dk_at dksL_law_9 18 rfl rfl)
theorem dL_law_229 : decode cL_law 229 = .ok (.aload_n 0, 1) := dk_42 (dk_at dksL_law_9 19 rfl rfl)
theorem dL_law_230 : decode cL_law 230 = .ok (.iload_n 3, 1) := dk_29 (dk_at dksL_law_9 20 rfl rfl)
theorem dL_law_231 : decode cL_law 231 = .ok (.iconst 1, 1) := dk_4 (dk_at dksL_law_9 21 rfl rfl)
theorem dL_law_232 : decode cL_law 232 = .ok (.iadd, 1) := dk_96 (dk_at dksL_law_9 22 rfl rfl)
theorem dL_law_233 : decode cL_law 233 = .ok (.iaload, 1) := dk_46 (dk_at dksL_law_9 23 rfl rfl)
theorem dL_law_234 : decode cL_law 234 = .ok (.aload_n 0, 1) := dk_42 (dk_at dksL_law_10 0 rfl rfl)
theorem dL_law_235 : decode cL_law 235 = .ok (.iload_n 3, 1) := dk_29 (dk_at dksL_law_10 1 rfl rfl)
theorem dL_law_236 : decode cL_law 236 = .ok (.iconst 2, 1) := dk_5 (dk_at dksL_law_10 2 rfl rfl)
theorem dL_law_237 : decode cL_law 237 = .ok (.iadd, 1) := dk_96 (dk_at dksL_law_10 3 rfl rfl)
theorem dL_law_238 : decode cL_law 238 = .ok (.iaload, 1) := dk_46 (dk_at dksL_law_10 4 rfl rfl)
theorem dL_law_239 : decode cL_law 239 = .ok (.invokevirtual 33, 3) := dk_182 0 33 (dk_at dksL_law_10 5 rfl rfl)
theorem dL_law_242 : decode cL_law 242 = .ok (.aload_n 2, 1) := dk_44 (dk_at dksL_law_10 8 rfl rfl)
theorem dL_law_243 : decode cL_law 243 = .ok (.aload_n 0, 1) := dk_42 (dk_at dksL_law_10 9 rfl rfl)
theorem dL_law_244 : decode cL_law 244 = .ok (.iload_n 3, 1) := dk_29 (dk_at dksL_law_10 10 rfl rfl)
theorem dL_law_245 : decode cL_law 245 = .ok (.iconst 1, 1) := dk_4 (dk_at dksL_law_10 11 rfl rfl)
theorem dL_law_246 : decode cL_law 246 = .ok (.iadd, 1) := dk_96 (dk_at dksL_law_10 12 rfl rfl)
theorem dL_law_247 : decode cL_law 247 = .ok (.iaload, 1) := dk_46 (dk_at dksL_law_10 13 rfl rfl)
theorem dL_law_248 : decode cL_law 248 = .ok (.aload_n 0, 1) := dk_42 (dk_at dksL_law_10 14 rfl rfl)
theorem dL_law_249 : decode cL_law 249 = .ok (.iload_n 3, 1) := dk_29 (dk_at dksL_law_10 15 rfl rfl)
theorem dL_law_250 : decode cL_law 250 = .ok (.iconst 2, 1) := dk_5 (dk_at dksL_law_10 16 rfl rfl)
theorem dL_law_251 : decode cL_law 251 = .ok (.iadd, 1) := dk_96 (dk_at dksL_law_10 17 rfl rfl)
theorem dL_law_252 : decode cL_law 252 = .ok (.iaload, 1) := dk_46 (dk_at dksL_law_10 18 rfl rfl)
theorem dL_law_253 : decode cL_law 253 = .ok (.invokevirtual 37, 3) := dk_182 0 37 (dk_at dksL_law_10 19 rfl rfl)
theorem dL_law_256 : decode cL_law 256 = .ok (.if_icmp .eq 5, 3) := dk_159 0 5 (dk_at dksL_law_11 0 rfl rfl)
theorem dL_law_259 : decode cL_law 259 = .ok (.iconst 0, 1) := dk_3 (dk_at dksL_law_11 3 rfl rfl)
theorem dL_law_260 : decode cL_law 260 = .ok (.ireturn, 1) := dk_172 (dk_at dksL_law_11 4 rfl rfl)
theorem dL_law_261 : decode cL_law 261 = .ok (.iinc 3 6, 3) := dk_132 3 6 (dk_at dksL_law_11 5 rfl rfl)
theorem dL_law_264 : decode cL_law 264 = .ok (.goto (-246), 3) := dk_167 255 10 (dk_at dksL_law_11 8 rfl rfl)
theorem dL_law_267 : decode cL_law 267 = .ok (.iconst 1, 1) := dk_4 (dk_at dksL_law_11 11 rfl rfl)
theorem dL_law_268 : decode cL_law 268 = .ok (.ireturn, 1) := dk_172 (dk_at dksL_law_11 12 rfl rfl)
theorem q0 : (Jvm.Cond.initialized "NibbleFieldLaw") ∈ lw_all := lw_g (lw_at lw_m0 0 rfl) rfl
theorem q5 : (Jvm.Cond.classLink "NibbleFieldLaw" (7 : Nat) "NibbleField") ∈ lw_all := lw_g (lw_at lw_m0 5 rfl) rfl
theorem q7 : (Jvm.Cond.methodLink "NibbleFieldLaw" (9 : Nat) ({ cls := "NibbleField", name := "<init>", desc := "()V" } : Jvm.MethodName)) ∈ lw_all := lw_g (lw_at lw_m0 7 rfl) rfl
theorem q18 : (Jvm.Cond.methodLink "NibbleFieldLaw" (13 : Nat) ({ cls := "NibbleField", name := "eight", desc := "(III)J" } : Jvm.MethodName)) ∈ lw_all := lw_g (lw_at lw_m0 18 rfl) rfl
theorem q32 : (Jvm.Cond.methodLink "NibbleFieldLaw" (18 : Nat) ({ cls := "NibbleField", name := "set", desc := "(III)V" } : Jvm.MethodName)) ∈ lw_all := lw_g (lw_at lw_m0 32 rfl) rfl
theorem q36 : (Jvm.Cond.methodLink "NibbleFieldLaw" (23 : Nat) ({ cls := "NibbleField", name := "add", desc := "(IIII)V" } : Jvm.MethodName)) ∈ lw_all := lw_g (lw_at lw_m0 36 rfl) rfl
theorem q50 : (Jvm.Cond.methodLink "NibbleFieldLaw" (28 : Nat) ({ cls := "NibbleField", name := "get", desc := "(I)J" } : Jvm.MethodName)) ∈ lw_all := lw_g (lw_at lw_m0 50 rfl) rfl
theorem q54 : (Jvm.Cond.methodLink "NibbleFieldLaw" (33 : Nat) ({ cls := "NibbleField", name := "one", desc := "(II)I" } : Jvm.MethodName)) ∈ lw_all := lw_g (lw_at lw_m0 54 rfl) rfl
theorem q58 : (Jvm.Cond.classLink "NibbleFieldLaw" (10 : Nat) "NibbleFieldModel") ∈ lw_all := lw_g (lw_at lw_m0 58 rfl) rfl
theorem q60 : (Jvm.Cond.methodLink "NibbleFieldLaw" (12 : Nat) ({ cls := "NibbleFieldModel", name := "<init>", desc := "()V" } : Jvm.MethodName)) ∈ lw_all := lw_g (lw_at lw_m0 60 rfl) rfl
theorem q69 : (Jvm.Cond.methodLink "NibbleFieldLaw" (17 : Nat) ({ cls := "NibbleFieldModel", name := "eight", desc := "(III)J" } : Jvm.MethodName)) ∈ lw_all := lw_g (lw_at lw_m0 69 rfl) rfl
theorem q80 : (Jvm.Cond.methodLink "NibbleFieldLaw" (22 : Nat) ({ cls := "NibbleFieldModel", name := "set", desc := "(III)V" } : Jvm.MethodName)) ∈ lw_all := lw_g (lw_at lw_m0 80 rfl) rfl
theorem q87 : (Jvm.Cond.methodLink "NibbleFieldLaw" (27 : Nat) ({ cls := "NibbleFieldModel", name := "add", desc := "(IIII)V" } : Jvm.MethodName)) ∈ lw_all := lw_g (lw_at lw_m0 87 rfl) rfl
theorem q95 : (Jvm.Cond.methodLink "NibbleFieldLaw" (32 : Nat) ({ cls := "NibbleFieldModel", name := "get", desc := "(I)J" } : Jvm.MethodName)) ∈ lw_all := lw_g (lw_at lw_m0 95 rfl) rfl
theorem q99 : (Jvm.Cond.methodLink "NibbleFieldLaw" (37 : Nat) ({ cls := "NibbleFieldModel", name := "one", desc := "(II)I" } : Jvm.MethodName)) ∈ lw_all := lw_g (lw_at lw_m0 99 rfl) rfl
theorem q17 : (Jvm.Cond.arrayClass Jvm.ClassFile.FieldType.long) ∈ lw_all := lw_g (lw_at lw_m0 17 rfl) rfl
theorem q68 : (Jvm.Cond.arrayClass Jvm.ClassFile.FieldType.int) ∈ lw_all := lw_g (lw_at lw_m0 68 rfl) rfl
abbrev vwCl : List vw_C := [(RX0, TX0, 1), (RX1, TX1, 1)]
abbrev wsX3_mulAddStep16 : List Cond := ws_ yX3_mulAddStep16 cX3_mulAddStep16 14 (some .long)
abbrev wsX2_mulFx8 : List Cond := ws_ yX2_mulFx8 cX2_mulFx8 8 (some .long)
abbrev wsX2_mVecMulAdd : List Cond := ws_ yX2_mVecMulAdd cX2_mVecMulAdd 17 none
abbrev wsX0_init : List Cond := ws_ yX0_init cX0_init 1 none
abbrev wsX0_of : List Cond := ws_ yX0_of cX0_of 2 (some .long)
abbrev wsX0_eight : List Cond := ws_ yX0_eight cX0_eight 4 (some .long)
abbrev wsX0_set : List Cond := ws_ yX0_set cX0_set 4 none
abbrev wsX0_add : List Cond := ws_ yX0_add cX0_add 10 none
abbrev wsX0_get : List Cond := ws_ yX0_get cX0_get 2 (some .long)
abbrev wsX0_one : List Cond := ws_ yX0_one cX0_one 3 (some .int)
abbrev wsX1_init : List Cond := ws_ yX1_init cX1_init 1 none
abbrev wsX1_product : List Cond := ws_ yX1_product cX1_product 4 (some .int)
abbrev wsX1_row : List Cond := ws_ yX1_row cX1_row 1 (some .int)
abbrev wsX1_part : List Cond := ws_ yX1_part cX1_part 3 (some .int)
abbrev wsX1_eight : List Cond := ws_ yX1_eight cX1_eight 7 (some .long)
abbrev wsX1_set : List Cond := ws_ yX1_set cX1_set 5 none
abbrev wsX1_rest : List Cond := ws_ yX1_rest cX1_rest 2 (some .int)
abbrev wsX1_add : List Cond := ws_ yX1_add cX1_add 10 none
abbrev wsX1_get : List Cond := ws_ yX1_get cX1_get 5 (some .long)
abbrev wsX1_one : List Cond := ws_ yX1_one cX1_one 3 (some .int)
end
section
/-! WHAT THE METHODS ANSWER, in the machine's own words -/
/-- the machine's shifts of a long -/
def ng_shl (x : Int64) (y : Int32) : Int64 := x <<< (y.toInt64 &&& 63)
def ng_ush (x : Int64) (y : Int32) : Int64 := (x.toUInt64 >>> (y.toInt64.toUInt64 &&& Int64.toUInt64 63)).toInt64
/-- GF16: the top bits of the nibbles, at their feet -/
def ng_m (v : Int64) : Int64 := ng_ush (v &&& (-8608480567731124088)) 3
/-- GF16: every nibble times x -/
def ng_x (v : Int64) : Int64 := ng_shl (v &&& 8608480567731124087) 1 ^^^ (ng_m v + ng_shl (ng_m v) 1)
/-- GF16.mulAddStep16 -/
def ng_S (v m0 m1 m2 m3 : Int64) : Int64 := (((v &&& m0) ^^^ (ng_x v &&& m1)) ^^^ (ng_x (ng_x v) &&& m2)) ^^^ (ng_x (ng_x (ng_x v)) &&& m3)
/-- GF16Utils.mVecMulAdd: the masks of b -/
def ng_w (b : Int32) : Int64 := b.toInt64 &&& 4294967295
def ng_T (b : Int32) (v : Int64) : Int64 := ng_S v (-(ng_w b &&& 1)) (-(ng_ush (ng_w b) 1 &&& 1)) (-(ng_ush (ng_w b) 2 &&& 1)) (-(ng_ush (ng_w b) 3 &&& 1))
/-- GF16Utils.mVecMulAdd: the accumulator behind n limbs -/
def ng_V (n t : Nat) (b : Int32) (f g : Nat → Int64) : Nat → Int64 := fun j => if t ≤ j ∧ j < t + n then g j ^^^ ng_T b (f (j - t)) else g j
/-- GF16Utils.mulFx8 -/
def ng_p (c : Int32) (b : Int64) : Int64 := ((((-(c &&& 1)).toInt64 &&& b) ^^^ ((-((c >>> (1 &&& 31)) &&& 1)).toInt64 &&& ng_shl b 1)) ^^^ ((-((c >>> (2 &&& 31)) &&& 1)).toInt64 &&& ng_shl b 2)) ^^^ ((-((c >>> (3 &&& 31)) &&& 1)).toInt64 &&& ng_shl b 3)
def ng_g (p : Int64) : Int64 := ((p ^^^ ng_ush (p &&& (-1085102592571150096)) 4) ^^^ ng_ush (p &&& (-1085102592571150096)) 3) &&& 1085102592571150095
def ng_F (a : Int32) (b : Int64) : Int64 := ng_g (ng_p (a &&& 255) b)
/-- NibbleField.of -/
def ng_of (h l : Int32) : Int64 := ng_shl h.toInt64 32 ||| (l.toInt64 &&& 4294967295)
/-- how many rows an addition takes, and where it begins -/
def ng_c (n : Int32) : Nat := 1 + n.toBitVec.toNat % 4
def ng_r (v n : Int32) : Nat := (v.toBitVec.toNat % 2147483648) % (9 - ng_c n)
/-- NibbleFieldModel.product -/
def ng_ps (md a b k : Int32) : Int32 := md ^^^ (if (a >>> (k &&& 31)) &&& 1 = 1 then b <<< (k &&& 31) else 0)
def ng_pq (md k : Int32) : Int32 := if (md >>> (k &&& 31)) &&& 1 = 1 then ((md ^^^ ((1 : Int32) <<< (k &&& 31))) ^^^ ((1 : Int32) <<< ((k - 3) &&& 31))) ^^^ ((1 : Int32) <<< ((k - 4) &&& 31)) else md
def ng_P (a b : Int32) : Int32 := ng_pq (ng_pq (ng_pq (ng_ps (ng_ps (ng_ps (ng_ps 0 a b 0) a b 1) a b 2) a b 3) 6) 5) 4
/-- NibbleFieldModel.part -/
def ng_pt (h l k : Int32) : Int32 := (if (8 : Int32) ≤ k then h >>> ((4 * (k - 8)) &&& 31) else l >>> ((4 * k) &&& 31)) &&& 15
/-- NibbleFieldModel.eight -/
def ng_e (md : Int64) (a h l k : Int32) : Int64 := 256 * md + (ng_P (a &&& 15) (ng_pt h l k)).toInt64
def ng_E (a h l : Int32) : Int64 := ng_e (ng_e (ng_e (ng_e (ng_e (ng_e (ng_e (ng_e 0 a h l 14) a h l 12) a h l 10) a h l 8) a h l 6) a h l 4) a h l 2) a h l 0
/-- NibbleFieldModel.row, its place -/
def ng_i (i : Int32) : Nat := i.toBitVec.toNat % 8
def ng_at (i : Int32) : Nat := i.toBitVec.toNat % 16
/-- NibbleFieldModel.set -/
def ng_M (n : Nat) (i h l : Int32) (f : Nat → Int32) : Nat → Int32 := fun j => if 16 * ng_i i ≤ j ∧ j < 16 * ng_i i + n then ng_pt h l (nI (j - 16 * ng_i i)) else f j
/-- NibbleFieldModel.add -/
def ng_A (n a t : Nat) (by' : Int32) (f : Nat → Int32) : Nat → Int32 := fun j => if t ≤ j ∧ j < t + n then f j ^^^ ng_P (by' &&& 15) (f (a + (j - t))) else f j
/-- NibbleFieldModel.get: from the place 15 down -/
def ng_G (f : Nat → Int32) : Nat → Int64
  | 0 => 0
  | n + 1 => ng_shl (ng_G f n) 4 ||| (f (15 - n)).toInt64
/-! HELPERS -/
theorem ng_keep {D : va_G} {cl : List vw_C} {ws : va_W} {H H1 : Heap} (hP : va_P D cl ws H) (hk : ∀ q : Nat, q < H.size → ¬ va_A [] H.size q → H1[q]? = H[q]?) : va_P D cl ws H1 :=
  hP.kept (fun k q hq => hk q.1 (hP k q hq).lt (by
    intro h
    rcases h with ⟨i, e, h⟩ | h
    · simp at h
    · exact absurd h (Nat.not_le.mpr (hP k q hq).lt)))
theorem ng_free {A : Nat → Prop} {H0 H : Heap} {locs : List Loc} (hS : va_S A H0 H locs) (hA : ∀ q, H0.size ≤ q → A q) : ∀ q, va_A [] H.size q → A q := by
  intro q h
  rcases h with ⟨i, e, h⟩ | h
  · simp at h
  · exact hA q (Nat.le_trans hS.1 h)
theorem ng_c_le (n : Int32) : 1 ≤ ng_c n ∧ ng_c n ≤ 4 := by unfold ng_c; omega
theorem ng_r_lt (v n : Int32) : ng_r v n < 9 - ng_c n := Nat.mod_lt _ (by have := ng_c_le n; omega)
theorem ng_c_I (n : Int32) : 1 + (n &&& 3) = nI (ng_c n) := by
  rw [pk_and n (m := 3) 2 rfl]
  exact nI_add 1 _
theorem ng_9 (n : Int32) : 9 - nI (ng_c n) = nI (9 - ng_c n) := pk_sub (a := 9) (by have := ng_c_le n; omega)
theorem ng_r_I (v n : Int32) : (v &&& 2147483647) - (v &&& 2147483647) / nI (9 - ng_c n) * nI (9 - ng_c n) = nI (ng_r v n) := by
  rw [pk_and v (m := 2147483647) 31 rfl]
  have := ng_c_le n
  exact pk_rem (Nat.mod_lt _ (by decide)) (by omega) (by omega)
theorem ng_16 (n : Nat) : (16 : Int32) * nI n = nI (16 * n) := pk_mul 16 n
theorem ng_9ne (n : Int32) : ¬ nI (9 - ng_c n) = 0 := nI_ne0 (by have := ng_c_le n; omega) (by omega)
theorem ng_i_I (i : Int32) : i &&& 7 = nI (ng_i i) := pk_and i (m := 7) 3 rfl
theorem ng_i_lt (i : Int32) : ng_i i < 8 := Nat.mod_lt _ (by decide)
theorem ng_at_I (i : Int32) : i &&& 15 = nI (ng_at i) := pk_and i (m := 15) 4 rfl
theorem ng_at_lt (i : Int32) : ng_at i < 16 := Nat.mod_lt _ (by decide)
theorem ng_V_0 (t : Nat) (b : Int32) (f g : Nat → Int64) : ng_V 0 t b f g = g := by
  funext j
  unfold ng_V
  rw [if_neg (by omega)]
theorem ng_V_s (n t : Nat) (b : Int32) (f g : Nat → Int64) : vp_updL (ng_V n t b f g) (t + n) (ng_V n t b f g (t + n) ^^^ ng_T b (f n)) = ng_V (n + 1) t b f g := by
  funext j
  unfold vp_updL ng_V
  by_cases h : j = t + n
  · subst h
    rw [if_pos rfl, if_neg (by omega), if_pos (by omega), show t + n - t = n by omega]
  · rw [if_neg h]
    by_cases h2 : t ≤ j ∧ j < t + n
    · rw [if_pos h2, if_pos (by omega)]
    · rw [if_neg h2, if_neg (by omega)]
theorem ng_M_0 (i h l : Int32) (f : Nat → Int32) : ng_M 0 i h l f = f := by
  funext j
  unfold ng_M
  rw [if_neg (by omega)]
theorem ng_M_s (n : Nat) (i h l : Int32) (f : Nat → Int32) : upd (ng_M n i h l f) (16 * ng_i i + n) (ng_pt h l (nI n)) = ng_M (n + 1) i h l f := by
  funext j
  unfold upd ng_M
  by_cases e : j = 16 * ng_i i + n
  · subst e
    rw [if_pos rfl, if_pos (by omega), show 16 * ng_i i + n - 16 * ng_i i = n by omega]
  · rw [if_neg e]
    by_cases h2 : 16 * ng_i i ≤ j ∧ j < 16 * ng_i i + n
    · rw [if_pos h2, if_pos (by omega)]
    · rw [if_neg h2, if_neg (by omega)]
theorem ng_A_0 (a t : Nat) (b : Int32) (f : Nat → Int32) : ng_A 0 a t b f = f := by
  funext j
  unfold ng_A
  rw [if_neg (by omega)]
theorem ng_A_s (n a t : Nat) (b : Int32) (f : Nat → Int32) : upd (ng_A n a t b f) (t + n) (ng_A n a t b f (t + n) ^^^ ng_P (b &&& 15) (f (a + n))) = ng_A (n + 1) a t b f := by
  funext j
  unfold upd ng_A
  by_cases e : j = t + n
  · subst e
    rw [if_pos rfl, if_neg (by omega), if_pos (by omega), show t + n - t = n by omega]
  · rw [if_neg e]
    by_cases h2 : t ≤ j ∧ j < t + n
    · rw [if_pos h2, if_pos (by omega)]
    · rw [if_neg h2, if_neg (by omega)]
/-- a copy, n places of it made -/
def ng_cp {α : Type} (n a : Nat) (z : α) (f : Nat → α) : Nat → α := fun j => if j < n then f (a + j) else z
theorem ng_cpL (n a : Nat) (f : Nat → Int64) : vp_updL (ng_cp n a 0 f) n (f (a + n)) = ng_cp (n + 1) a 0 f := by
  funext j
  unfold vp_updL ng_cp
  by_cases h : j = n
  · subst h
    rw [if_pos rfl, if_pos (by omega)]
  · rw [if_neg h]
    by_cases h2 : j < n
    · rw [if_pos h2, if_pos (by omega)]
    · rw [if_neg h2, if_neg (by omega)]
theorem ng_cpI (n a : Nat) (f : Nat → Int32) : upd (ng_cp n a 0 f) n (f (a + n)) = ng_cp (n + 1) a 0 f := by
  funext j
  unfold upd ng_cp
  by_cases h : j = n
  · subst h
    rw [if_pos rfl, if_pos (by omega)]
  · rw [if_neg h]
    by_cases h2 : j < n
    · rw [if_pos h2, if_pos (by omega)]
    · rw [if_neg h2, if_neg (by omega)]
end
section
set_option maxHeartbeats 4000000 in
set_option maxRecDepth 100000 in
/-- GF16.mulAddStep16 -/
theorem metX3_mulAddStep16 (l : Launch) (dC : Nat → ClassId) (dI : Nat → Nat → Nat) (sz : Nat) (v m0 m1 m2 m3 : Int64) : Met l yX3_mulAddStep16 wsX3_mulAddStep16 (({ frames := 0, cells := 0, slots := 0, locals := 0 })) (va_Pc [.long v, .long m0, .long m1, .long m2, .long m3] (fun U => U.heap.size = sz)) (va_Ql (fun (r : Int64) (_ : Unit) => r = ng_S v m0 m1 m2 m3) (fun _ _ => True) (va_A [] sz)) 0 0 (va_A [] sz) := by
  refine Met.ofW (cc := cX3_mulAddStep16) (maxL := 14) (ret := (some .long)) (by decide) rfl ?_
  intro p e s m args below meth c s₁ B hml hv
  obtain ⟨rfl, hsz⟩ := hv
  have hx := B.exec
  have hb := B.bytes
  have hr := B.returns
  have hts := atoms_spec (ws := wsX3_mulAddStep16) B.pre
  have hts : ∀ w ∈ lw_all, w.before _ s = true := fun w h => hts w (List.mem_cons_of_mem _ h)
  have hown : s.vm.findClass RX3 = some m.cls := findClass_of_methodNamed B.named
  have hlocks := B.notSynchronized
  subst hsz
  generalize hAe : va_A [] s.heap.size = A
  have hA : ∀ q : Nat, s.heap.size ≤ q → A q := fun q h => by rw [← hAe]; exact Or.inr h
  have hS : va_S A s.heap s.heap [] := va_S.rf
  have hl := lv_entry ([.long v, .long m0, .long m1, .long m2, .long m3]) (n := 14) (Nat.le_of_ble_eq_true rfl)
  rw [lg_entry_eq]
  generalize (lg_sl ([.long v, .long m0, .long m1, .long m2, .long m3]) ++ List.replicate (14 - (lg_sl ([.long v, .long m0, .long m1, .long m2, .long m3])).length) Slot.unset).toArray = ls at hl ⊢
  have hl : lv_has ls 14 [(0, .long v), (2, .long m0), (4, .long m1), (6, .long m2), (8, .long m3)] := hl
  refine lv_lload_n hx hb dX3_mulAddStep16_0 rfl (lv_at hl 0 rfl) ?_
  refine lv_lload_n hx hb dX3_mulAddStep16_1 rfl (lv_at hl 1 rfl) ?_
  refine lv_land hx hb dX3_mulAddStep16_2 ?_
  refine lv_topl (fun v3 ev3 => ?_)
  refine lv_lstore (lv' := [(10, .long v3), (0, .long v), (2, .long m0), (4, .long m1), (6, .long m2), (8, .long m3)]) hx hb dX3_mulAddStep16_3 hl (by decide) rfl (fun ls hl => ?_)
  refine lv_lload_n hx hb dX3_mulAddStep16_5 rfl (lv_at hl 1 rfl) ?_
  refine lv_ldc2 (v := (-8608480567731124088)) hx hb hown (hts _ q48) dX3_mulAddStep16_6 ?_
  refine lv_land hx hb dX3_mulAddStep16_9 ?_
  refine lv_iconst (v := 3) hx hb dX3_mulAddStep16_10 (by decide) ?_
  refine lv_lushr (v := ng_ush (v &&& (-8608480567731124088)) 3) hx hb dX3_mulAddStep16_11 rfl ?_
  refine lv_topl (fun v12 ev12 => ?_)
  refine lv_lstore (lv' := [(12, .long v12), (10, .long v3), (0, .long v), (2, .long m0), (4, .long m1), (6, .long m2), (8, .long m3)]) hx hb dX3_mulAddStep16_12 hl (by decide) rfl (fun ls hl => ?_)
  refine lv_lload_n hx hb dX3_mulAddStep16_14 rfl (lv_at hl 2 rfl) ?_
  refine lv_ldc2 (v := 8608480567731124087) hx hb hown (hts _ q49) dX3_mulAddStep16_15 ?_
  refine lv_land hx hb dX3_mulAddStep16_18 ?_
  refine lv_iconst (v := 1) hx hb dX3_mulAddStep16_19 (by decide) ?_
  refine lv_lshl (v := ng_shl (v &&& 8608480567731124087) 1) hx hb dX3_mulAddStep16_20 rfl ?_
  refine lv_lload hx hb dX3_mulAddStep16_21 (lv_at hl 0 rfl) ?_
  refine lv_lload hx hb dX3_mulAddStep16_23 (lv_at hl 0 rfl) ?_
  refine lv_iconst (v := 1) hx hb dX3_mulAddStep16_25 (by decide) ?_
  refine lv_lshl (v := ng_shl v12 1) hx hb dX3_mulAddStep16_26 rfl ?_
  refine lv_ladd hx hb dX3_mulAddStep16_27 ?_
  refine lv_lxor hx hb dX3_mulAddStep16_28 ?_
  refine lv_topl (fun v29 ev29 => ?_)
  refine lv_lstore_n (lv' := [(0, .long v29), (12, .long v12), (10, .long v3), (2, .long m0), (4, .long m1), (6, .long m2), (8, .long m3)]) hx hb dX3_mulAddStep16_29 rfl hl (by decide) rfl (fun ls hl => ?_)
  refine lv_lload hx hb dX3_mulAddStep16_30 (lv_at hl 2 rfl) ?_
  refine lv_lload_n hx hb dX3_mulAddStep16_32 rfl (lv_at hl 0 rfl) ?_
  refine lv_lload hx hb dX3_mulAddStep16_33 (lv_at hl 4 rfl) ?_
  refine lv_land hx hb dX3_mulAddStep16_35 ?_
  refine lv_lxor hx hb dX3_mulAddStep16_36 ?_
  refine lv_topl (fun v37 ev37 => ?_)
  refine lv_lstore (lv' := [(10, .long v37), (0, .long v29), (12, .long v12), (2, .long m0), (4, .long m1), (6, .long m2), (8, .long m3)]) hx hb dX3_mulAddStep16_37 hl (by decide) rfl (fun ls hl => ?_)
  refine lv_lload_n hx hb dX3_mulAddStep16_39 rfl (lv_at hl 1 rfl) ?_
  refine lv_ldc2 (v := (-8608480567731124088)) hx hb hown (hts _ q48) dX3_mulAddStep16_40 ?_
  refine lv_land hx hb dX3_mulAddStep16_43 ?_
  refine lv_iconst (v := 3) hx hb dX3_mulAddStep16_44 (by decide) ?_
  refine lv_lushr (v := ng_ush (v29 &&& (-8608480567731124088)) 3) hx hb dX3_mulAddStep16_45 rfl ?_
  refine lv_topl (fun v46 ev46 => ?_)
  refine lv_lstore (lv' := [(12, .long v46), (10, .long v37), (0, .long v29), (2, .long m0), (4, .long m1), (6, .long m2), (8, .long m3)]) hx hb dX3_mulAddStep16_46 hl (by decide) rfl (fun ls hl => ?_)
  refine lv_lload_n hx hb dX3_mulAddStep16_48 rfl (lv_at hl 2 rfl) ?_
  refine lv_ldc2 (v := 8608480567731124087) hx hb hown (hts _ q49) dX3_mulAddStep16_49 ?_
  refine lv_land hx hb dX3_mulAddStep16_52 ?_
  refine lv_iconst (v := 1) hx hb dX3_mulAddStep16_53 (by decide) ?_
  refine lv_lshl (v := ng_shl (v29 &&& 8608480567731124087) 1) hx hb dX3_mulAddStep16_54 rfl ?_
  refine lv_lload hx hb dX3_mulAddStep16_55 (lv_at hl 0 rfl) ?_
  refine lv_lload hx hb dX3_mulAddStep16_57 (lv_at hl 0 rfl) ?_
  refine lv_iconst (v := 1) hx hb dX3_mulAddStep16_59 (by decide) ?_
  refine lv_lshl (v := ng_shl v46 1) hx hb dX3_mulAddStep16_60 rfl ?_
  refine lv_ladd hx hb dX3_mulAddStep16_61 ?_
  refine lv_lxor hx hb dX3_mulAddStep16_62 ?_
  refine lv_topl (fun v63 ev63 => ?_)
  refine lv_lstore_n (lv' := [(0, .long v63), (12, .long v46), (10, .long v37), (2, .long m0), (4, .long m1), (6, .long m2), (8, .long m3)]) hx hb dX3_mulAddStep16_63 rfl hl (by decide) rfl (fun ls hl => ?_)
  refine lv_lload hx hb dX3_mulAddStep16_64 (lv_at hl 2 rfl) ?_
  refine lv_lload_n hx hb dX3_mulAddStep16_66 rfl (lv_at hl 0 rfl) ?_
  refine lv_lload hx hb dX3_mulAddStep16_67 (lv_at hl 5 rfl) ?_
  refine lv_land hx hb dX3_mulAddStep16_69 ?_
  refine lv_lxor hx hb dX3_mulAddStep16_70 ?_
  refine lv_topl (fun v71 ev71 => ?_)
  refine lv_lstore (lv' := [(10, .long v71), (0, .long v63), (12, .long v46), (2, .long m0), (4, .long m1), (6, .long m2), (8, .long m3)]) hx hb dX3_mulAddStep16_71 hl (by decide) rfl (fun ls hl => ?_)
  refine lv_lload_n hx hb dX3_mulAddStep16_73 rfl (lv_at hl 1 rfl) ?_
  refine lv_ldc2 (v := (-8608480567731124088)) hx hb hown (hts _ q48) dX3_mulAddStep16_74 ?_
  refine lv_land hx hb dX3_mulAddStep16_77 ?_
  refine lv_iconst (v := 3) hx hb dX3_mulAddStep16_78 (by decide) ?_
  refine lv_lushr (v := ng_ush (v63 &&& (-8608480567731124088)) 3) hx hb dX3_mulAddStep16_79 rfl ?_
  refine lv_topl (fun v80 ev80 => ?_)
  refine lv_lstore (lv' := [(12, .long v80), (10, .long v71), (0, .long v63), (2, .long m0), (4, .long m1), (6, .long m2), (8, .long m3)]) hx hb dX3_mulAddStep16_80 hl (by decide) rfl (fun ls hl => ?_)
  refine lv_lload_n hx hb dX3_mulAddStep16_82 rfl (lv_at hl 2 rfl) ?_
  refine lv_ldc2 (v := 8608480567731124087) hx hb hown (hts _ q49) dX3_mulAddStep16_83 ?_
  refine lv_land hx hb dX3_mulAddStep16_86 ?_
  refine lv_iconst (v := 1) hx hb dX3_mulAddStep16_87 (by decide) ?_
  refine lv_lshl (v := ng_shl (v63 &&& 8608480567731124087) 1) hx hb dX3_mulAddStep16_88 rfl ?_
  refine lv_lload hx hb dX3_mulAddStep16_89 (lv_at hl 0 rfl) ?_
  refine lv_lload hx hb dX3_mulAddStep16_91 (lv_at hl 0 rfl) ?_
  refine lv_iconst (v := 1) hx hb dX3_mulAddStep16_93 (by decide) ?_
  refine lv_lshl (v := ng_shl v80 1) hx hb dX3_mulAddStep16_94 rfl ?_
  refine lv_ladd hx hb dX3_mulAddStep16_95 ?_
  refine lv_lxor hx hb dX3_mulAddStep16_96 ?_
  refine lv_topl (fun v97 ev97 => ?_)
  refine lv_lstore_n (lv' := [(0, .long v97), (12, .long v80), (10, .long v71), (2, .long m0), (4, .long m1), (6, .long m2), (8, .long m3)]) hx hb dX3_mulAddStep16_97 rfl hl (by decide) rfl (fun ls hl => ?_)
  refine lv_lload hx hb dX3_mulAddStep16_98 (lv_at hl 2 rfl) ?_
  refine lv_lload_n hx hb dX3_mulAddStep16_100 rfl (lv_at hl 0 rfl) ?_
  refine lv_lload hx hb dX3_mulAddStep16_101 (lv_at hl 6 rfl) ?_
  refine lv_land hx hb dX3_mulAddStep16_103 ?_
  refine lv_lxor hx hb dX3_mulAddStep16_104 ?_
  refine lv_topl (fun v105 ev105 => ?_)
  refine lv_lstore (lv' := [(10, .long v105), (0, .long v97), (12, .long v80), (2, .long m0), (4, .long m1), (6, .long m2), (8, .long m3)]) hx hb dX3_mulAddStep16_105 hl (by decide) rfl (fun ls hl => ?_)
  refine lv_lload hx hb dX3_mulAddStep16_107 (lv_at hl 0 rfl) ?_
  exact W.lret (v := v105) hx hb hr (fun t ht hW => ⟨⟨v105, (), rfl, by subst_vars; rfl, trivial⟩, hS.F ht⟩) hS.2.2 dX3_mulAddStep16_109
set_option maxHeartbeats 4000000 in
set_option maxRecDepth 100000 in
/-- GF16Utils.mulFx8 -/
theorem metX2_mulFx8 (l : Launch) (dC : Nat → ClassId) (dI : Nat → Nat → Nat) (sz : Nat) (a : Int32) (b : Int64) : Met l yX2_mulFx8 wsX2_mulFx8 (({ frames := 0, cells := 0, slots := 0, locals := 0 })) (va_Pc [.int a, .long b] (fun U => U.heap.size = sz)) (va_Ql (fun (r : Int64) (_ : Unit) => r = ng_F a b) (fun _ _ => True) (va_A [] sz)) 0 0 (va_A [] sz) := by
  refine Met.ofW (cc := cX2_mulFx8) (maxL := 8) (ret := (some .long)) (by decide) rfl ?_
  intro p e s m args below meth c s₁ B hml hv
  obtain ⟨rfl, hsz⟩ := hv
  have hx := B.exec
  have hb := B.bytes
  have hr := B.returns
  have hts := atoms_spec (ws := wsX2_mulFx8) B.pre
  have hts : ∀ w ∈ lw_all, w.before _ s = true := fun w h => hts w (List.mem_cons_of_mem _ h)
  have hown : s.vm.findClass RX2 = some m.cls := findClass_of_methodNamed B.named
  have hlocks := B.notSynchronized
  subst hsz
  generalize hAe : va_A [] s.heap.size = A
  have hA : ∀ q : Nat, s.heap.size ≤ q → A q := fun q h => by rw [← hAe]; exact Or.inr h
  have hS : va_S A s.heap s.heap [] := va_S.rf
  have hl := lv_entry ([.int a, .long b]) (n := 8) (Nat.le_of_ble_eq_true rfl)
  rw [lg_entry_eq]
  generalize (lg_sl ([.int a, .long b]) ++ List.replicate (8 - (lg_sl ([.int a, .long b])).length) Slot.unset).toArray = ls at hl ⊢
  have hl : lv_has ls 8 [(0, .int a), (1, .long b)] := hl
  refine lv_iload_n hx hb dX2_mulFx8_0 rfl (lv_at hl 0 rfl) ?_
  refine lv_sipush (v := 255) hx hb dX2_mulFx8_1 (by decide) ?_
  refine lv_iand hx hb dX2_mulFx8_4 ?_
  refine lv_topi (fun v5 ev5 => ?_)
  refine lv_istore_n (lv' := [(3, .int v5), (0, .int a), (1, .long b)]) hx hb dX2_mulFx8_5 rfl hl (by decide) rfl (fun ls hl => ?_)
  refine lv_iload_n hx hb dX2_mulFx8_6 rfl (lv_at hl 0 rfl) ?_
  refine lv_iconst (v := 1) hx hb dX2_mulFx8_7 (by decide) ?_
  refine lv_iand hx hb dX2_mulFx8_8 ?_
  refine lv_ineg hx hb dX2_mulFx8_9 ?_
  refine lv_i2l (v := (-(v5 &&& 1)).toInt64) hx hb dX2_mulFx8_10 rfl ?_
  refine lv_lload_n hx hb dX2_mulFx8_11 rfl (lv_at hl 2 rfl) ?_
  refine lv_land hx hb dX2_mulFx8_12 ?_
  refine lv_iload_n hx hb dX2_mulFx8_13 rfl (lv_at hl 0 rfl) ?_
  refine lv_iconst (v := 1) hx hb dX2_mulFx8_14 (by decide) ?_
  refine lv_ishr hx hb dX2_mulFx8_15 ?_
  refine lv_iconst (v := 1) hx hb dX2_mulFx8_16 (by decide) ?_
  refine lv_iand hx hb dX2_mulFx8_17 ?_
  refine lv_ineg hx hb dX2_mulFx8_18 ?_
  refine lv_i2l (v := (-((v5 >>> (1 &&& 31)) &&& 1)).toInt64) hx hb dX2_mulFx8_19 rfl ?_
  refine lv_lload_n hx hb dX2_mulFx8_20 rfl (lv_at hl 2 rfl) ?_
  refine lv_iconst (v := 1) hx hb dX2_mulFx8_21 (by decide) ?_
  refine lv_lshl (v := ng_shl b 1) hx hb dX2_mulFx8_22 rfl ?_
  refine lv_land hx hb dX2_mulFx8_23 ?_
  refine lv_lxor hx hb dX2_mulFx8_24 ?_
  refine lv_iload_n hx hb dX2_mulFx8_25 rfl (lv_at hl 0 rfl) ?_
  refine lv_iconst (v := 2) hx hb dX2_mulFx8_26 (by decide) ?_
  refine lv_ishr hx hb dX2_mulFx8_27 ?_
  refine lv_iconst (v := 1) hx hb dX2_mulFx8_28 (by decide) ?_
  refine lv_iand hx hb dX2_mulFx8_29 ?_
  refine lv_ineg hx hb dX2_mulFx8_30 ?_
  refine lv_i2l (v := (-((v5 >>> (2 &&& 31)) &&& 1)).toInt64) hx hb dX2_mulFx8_31 rfl ?_
  refine lv_lload_n hx hb dX2_mulFx8_32 rfl (lv_at hl 2 rfl) ?_
  refine lv_iconst (v := 2) hx hb dX2_mulFx8_33 (by decide) ?_
  refine lv_lshl (v := ng_shl b 2) hx hb dX2_mulFx8_34 rfl ?_
  refine lv_land hx hb dX2_mulFx8_35 ?_
  refine lv_lxor hx hb dX2_mulFx8_36 ?_
  refine lv_iload_n hx hb dX2_mulFx8_37 rfl (lv_at hl 0 rfl) ?_
  refine lv_iconst (v := 3) hx hb dX2_mulFx8_38 (by decide) ?_
  refine lv_ishr hx hb dX2_mulFx8_39 ?_
  refine lv_iconst (v := 1) hx hb dX2_mulFx8_40 (by decide) ?_
  refine lv_iand hx hb dX2_mulFx8_41 ?_
  refine lv_ineg hx hb dX2_mulFx8_42 ?_
  refine lv_i2l (v := (-((v5 >>> (3 &&& 31)) &&& 1)).toInt64) hx hb dX2_mulFx8_43 rfl ?_
  refine lv_lload_n hx hb dX2_mulFx8_44 rfl (lv_at hl 2 rfl) ?_
  refine lv_iconst (v := 3) hx hb dX2_mulFx8_45 (by decide) ?_
  refine lv_lshl (v := ng_shl b 3) hx hb dX2_mulFx8_46 rfl ?_
  refine lv_land hx hb dX2_mulFx8_47 ?_
  refine lv_lxor hx hb dX2_mulFx8_48 ?_
  refine lv_topl (fun v49 ev49 => ?_)
  refine lv_lstore (lv' := [(4, .long v49), (3, .int v5), (0, .int a), (1, .long b)]) hx hb dX2_mulFx8_49 hl (by decide) rfl (fun ls hl => ?_)
  refine lv_lload hx hb dX2_mulFx8_51 (lv_at hl 0 rfl) ?_
  refine lv_ldc2 (v := (-1085102592571150096)) hx hb hown (hts _ q30) dX2_mulFx8_53 ?_
  refine lv_land hx hb dX2_mulFx8_56 ?_
  refine lv_topl (fun v57 ev57 => ?_)
  refine lv_lstore (lv' := [(6, .long v57), (4, .long v49), (3, .int v5), (0, .int a), (1, .long b)]) hx hb dX2_mulFx8_57 hl (by decide) rfl (fun ls hl => ?_)
  refine lv_lload hx hb dX2_mulFx8_59 (lv_at hl 1 rfl) ?_
  refine lv_lload hx hb dX2_mulFx8_61 (lv_at hl 0 rfl) ?_
  refine lv_iconst (v := 4) hx hb dX2_mulFx8_63 (by decide) ?_
  refine lv_lushr (v := ng_ush v57 4) hx hb dX2_mulFx8_64 rfl ?_
  refine lv_lxor hx hb dX2_mulFx8_65 ?_
  refine lv_lload hx hb dX2_mulFx8_66 (lv_at hl 0 rfl) ?_
  refine lv_iconst (v := 3) hx hb dX2_mulFx8_68 (by decide) ?_
  refine lv_lushr (v := ng_ush v57 3) hx hb dX2_mulFx8_69 rfl ?_
  refine lv_lxor hx hb dX2_mulFx8_70 ?_
  refine lv_ldc2 (v := 1085102592571150095) hx hb hown (hts _ q31) dX2_mulFx8_71 ?_
  refine lv_land hx hb dX2_mulFx8_74 ?_
  exact W.lret (v := (((v49 ^^^ (ng_ush v57 4)) ^^^ (ng_ush v57 3)) &&& 1085102592571150095)) hx hb hr (fun t ht hW => ⟨⟨(((v49 ^^^ (ng_ush v57 4)) ^^^ (ng_ush v57 3)) &&& 1085102592571150095), (), rfl, by subst_vars; rfl, trivial⟩, hS.F ht⟩) hS.2.2 dX2_mulFx8_75
set_option maxHeartbeats 4000000 in
set_option maxRecDepth 100000 in
/-- GF16Utils.mVecMulAdd, from the place 0 of the one array -/
theorem metX2_mVecMulAdd (l : Launch) (dC : Nat → ClassId) (dI : Nat → Nat → Nat) (sz : Nat) (a1 a2 : Nat) (d1 d2 : ClassId) (n1 n2 n tt : Nat) (b : Int32) (f g : Nat → Int64) (hn1 : n ≤ n1) (hn2 : tt + n ≤ n2) (hn3 : n1 < 1000) (hn4 : n2 < 1000) : Met l yX2_mVecMulAdd wsX2_mVecMulAdd (({ frames := 1, cells := 0, slots := 0, locals := 33 })) (va_Pc [.int (nI n), .ref a1, .int 0, .int b, .ref a2, .int (nI tt)] (fun U => U.heap.size = sz ∧ va_P (dC, dI) vwCl [(a1, .inl (d1, n1, .inr (.inl f))), (a2, .inl (d2, n2, .inr (.inl g)))] U.heap ∧ va_K (dC, dI) vwCl [(d1, .long), (d2, .long)] U ∧ va_D (fun _ => True) [(a1, .inl (d1, n1, .inr (.inl f))), (a2, .inl (d2, n2, .inr (.inl g)))])) (va_Qv (fun (u : Nat → Int64) => u = ng_V n tt b f g) (fun u t => va_P (dC, dI) vwCl [(a1, .inl (d1, n1, .inr (.inl f))), (a2, .inl (d2, n2, .inr (.inl u)))] t.heap ∧ va_K (dC, dI) vwCl [(d1, .long), (d2, .long)] t ∧ va_D (va_A [(a1, .inl (d1, n1, .inr (.inl f))), (a2, .inl (d2, n2, .inr (.inl g)))] sz) [(a1, .inl (d1, n1, .inr (.inl f))), (a2, .inl (d2, n2, .inr (.inl u)))]) (va_A [(a1, .inl (d1, n1, .inr (.inl f))), (a2, .inl (d2, n2, .inr (.inl g)))] sz)) 0 0 (va_A [(a1, .inl (d1, n1, .inr (.inl f))), (a2, .inl (d2, n2, .inr (.inl g)))] sz) := by
  refine Met.ofW (cc := cX2_mVecMulAdd) (maxL := 17) (ret := none) (by decide) rfl ?_
  intro p e s m args below meth c s₁ B hml hv
  obtain ⟨rfl, hsz, hP, hK, hD0⟩ := hv
  have hx := B.exec
  have hb := B.bytes
  have hr := B.returns
  have hts := atoms_spec (ws := wsX2_mVecMulAdd) B.pre
  have hts : ∀ w ∈ lw_all, w.before _ s = true := fun w h => hts w (List.mem_cons_of_mem _ h)
  have hown : s.vm.findClass RX2 = some m.cls := findClass_of_methodNamed B.named
  have hlocks := B.notSynchronized
  subst hsz
  have hD := hD0.self (sz := s.heap.size)
  generalize hAe : va_A [(a1, .inl (d1, n1, .inr (.inl f))), (a2, .inl (d2, n2, .inr (.inl g)))] s.heap.size = A at hD ⊢
  have hA : ∀ q : Nat, s.heap.size ≤ q → A q := fun q h => by rw [← hAe]; exact Or.inr h
  have hS : va_S A s.heap s.heap [] := va_S.rf
  have hP : va_P (dC, dI) vwCl [(a1, .inl (d1, n1, .inr (.inl f))), (a2, .inl (d2, n2, .inr (.inl g)))] s.heap := hP
  have hl := lv_entry ([.int (nI n), .ref a1, .int 0, .int b, .ref a2, .int (nI tt)]) (n := 17) (Nat.le_of_ble_eq_true rfl)
  rw [lg_entry_eq]
  generalize (lg_sl ([.int (nI n), .ref a1, .int 0, .int b, .ref a2, .int (nI tt)]) ++ List.replicate (17 - (lg_sl ([.int (nI n), .ref a1, .int 0, .int b, .ref a2, .int (nI tt)])).length) Slot.unset).toArray = ls at hl ⊢
  have hl : lv_has ls 17 [(0, .int (nI n)), (1, .ref a1), (2, .int 0), (3, .int b), (4, .ref a2), (5, .int (nI tt))] := hl
  refine lv_iload_n hx hb dX2_mVecMulAdd_0 rfl (lv_at hl 3 rfl) ?_
  refine lv_i2l (v := b.toInt64) hx hb dX2_mVecMulAdd_1 rfl ?_
  refine lv_ldc2 (v := 4294967295) hx hb hown (hts _ q44) dX2_mVecMulAdd_2 ?_
  refine lv_land hx hb dX2_mVecMulAdd_5 ?_
  refine lv_topl (fun bw ebw => ?_)
  refine lv_lstore (lv' := [(6, .long bw), (0, .int (nI n)), (1, .ref a1), (2, .int 0), (3, .int b), (4, .ref a2), (5, .int (nI tt))]) hx hb dX2_mVecMulAdd_6 hl (by decide) rfl (fun ls hl => ?_)
  refine lv_lload hx hb dX2_mVecMulAdd_8 (lv_at hl 0 rfl) ?_
  refine lv_lconst (v := 1) hx hb dX2_mVecMulAdd_10 (by decide) ?_
  refine lv_land hx hb dX2_mVecMulAdd_11 ?_
  refine lv_lneg hx hb dX2_mVecMulAdd_12 ?_
  refine lv_topl (fun k0 ek0 => ?_)
  refine lv_lstore (lv' := [(8, .long k0), (6, .long bw), (0, .int (nI n)), (1, .ref a1), (2, .int 0), (3, .int b), (4, .ref a2), (5, .int (nI tt))]) hx hb dX2_mVecMulAdd_13 hl (by decide) rfl (fun ls hl => ?_)
  refine lv_lload hx hb dX2_mVecMulAdd_15 (lv_at hl 1 rfl) ?_
  refine lv_iconst (v := 1) hx hb dX2_mVecMulAdd_17 (by decide) ?_
  refine lv_lushr (v := ng_ush bw 1) hx hb dX2_mVecMulAdd_18 rfl ?_
  refine lv_lconst (v := 1) hx hb dX2_mVecMulAdd_19 (by decide) ?_
  refine lv_land hx hb dX2_mVecMulAdd_20 ?_
  refine lv_lneg hx hb dX2_mVecMulAdd_21 ?_
  refine lv_topl (fun k1 ek1 => ?_)
  refine lv_lstore (lv' := [(10, .long k1), (8, .long k0), (6, .long bw), (0, .int (nI n)), (1, .ref a1), (2, .int 0), (3, .int b), (4, .ref a2), (5, .int (nI tt))]) hx hb dX2_mVecMulAdd_22 hl (by decide) rfl (fun ls hl => ?_)
  refine lv_lload hx hb dX2_mVecMulAdd_24 (lv_at hl 2 rfl) ?_
  refine lv_iconst (v := 2) hx hb dX2_mVecMulAdd_26 (by decide) ?_
  refine lv_lushr (v := ng_ush bw 2) hx hb dX2_mVecMulAdd_27 rfl ?_
  refine lv_lconst (v := 1) hx hb dX2_mVecMulAdd_28 (by decide) ?_
  refine lv_land hx hb dX2_mVecMulAdd_29 ?_
  refine lv_lneg hx hb dX2_mVecMulAdd_30 ?_
  refine lv_topl (fun k2 ek2 => ?_)
  refine lv_lstore (lv' := [(12, .long k2), (10, .long k1), (8, .long k0), (6, .long bw), (0, .int (nI n)), (1, .ref a1), (2, .int 0), (3, .int b), (4, .ref a2), (5, .int (nI tt))]) hx hb dX2_mVecMulAdd_31 hl (by decide) rfl (fun ls hl => ?_)
  refine lv_lload hx hb dX2_mVecMulAdd_33 (lv_at hl 3 rfl) ?_
  refine lv_iconst (v := 3) hx hb dX2_mVecMulAdd_35 (by decide) ?_
  refine lv_lushr (v := ng_ush bw 3) hx hb dX2_mVecMulAdd_36 rfl ?_
  refine lv_lconst (v := 1) hx hb dX2_mVecMulAdd_37 (by decide) ?_
  refine lv_land hx hb dX2_mVecMulAdd_38 ?_
  refine lv_lneg hx hb dX2_mVecMulAdd_39 ?_
  refine lv_topl (fun k3 ek3 => ?_)
  refine lv_lstore (lv' := [(14, .long k3), (12, .long k2), (10, .long k1), (8, .long k0), (6, .long bw), (0, .int (nI n)), (1, .ref a1), (2, .int 0), (3, .int b), (4, .ref a2), (5, .int (nI tt))]) hx hb dX2_mVecMulAdd_40 hl (by decide) rfl (fun ls hl => ?_)
  refine lv_iconst (v := 0) hx hb dX2_mVecMulAdd_42 (by decide) ?_
  refine lv_istore (lv' := [(16, .int 0), (14, .long k3), (12, .long k2), (10, .long k1), (8, .long k0), (6, .long bw), (0, .int (nI n)), (1, .ref a1), (2, .int 0), (3, .int b), (4, .ref a2), (5, .int (nI tt))]) hx hb dX2_mVecMulAdd_43 hl (by decide) rfl (fun ls hl => ?_)
  have loop : ∀ (N i : Nat) (x16 x2 x5 : Int32) (g1 : Nat → Int64), i ≤ n → n + 1 ≤ i + N → x16 = nI i → x2 = nI i → x5 = nI (tt + i) → g1 = ng_V i tt b f g → ∀ (H : Heap) (locs : List Loc), va_P (dC, dI) vwCl [(a1, .inl (d1, n1, .inr (.inl f))), (a2, .inl (d2, n2, .inr (.inl g1)))] H → va_D A [(a1, .inl (d1, n1, .inr (.inl f))), (a2, .inl (d2, n2, .inr (.inl g1)))] → va_S A s.heap H locs → ∀ (ls : Array Slot), lv_has ls 17 [(16, .int x16), (14, .long k3), (12, .long k2), (10, .long k1), (8, .long k0), (0, .int (nI n)), (1, .ref a1), (2, .int x2), (4, .ref a2), (5, .int x5)] → W p l e (headSpec wsX2_mVecMulAdd (({ frames := 1, cells := 0, slots := 0, locals := 33 }))).room s m ([.int (nI n), .ref a1, .int 0, .int b, .ref a2, .int (nI tt)] : List Value).toArray below meth c H locs 0 0 (MQ below (va_Qv (fun (u : Nat → Int64) => u = ng_V n tt b f g) (fun u t => va_P (dC, dI) vwCl [(a1, .inl (d1, n1, .inr (.inl f))), (a2, .inl (d2, n2, .inr (.inl u)))] t.heap ∧ va_K (dC, dI) vwCl [(d1, .long), (d2, .long)] t ∧ va_D A [(a1, .inl (d1, n1, .inr (.inl f))), (a2, .inl (d2, n2, .inr (.inl u)))]) A) ([.int (nI n), .ref a1, .int 0, .int b, .ref a2, .int (nI tt)] : List Value).toArray s 0 0 A) (F0 m 45 ls []) := by
    intro N
    induction N with
    | zero =>
      intro i x16 x2 x5 g1 h1 h2
      exact absurd h2 (by omega)
    | succ N ih =>
      intro i x16 x2 x5 g1 hi hin e16 e2 e5 eg H locs hP hD hS ls hl
      refine lv_iload hx hb dX2_mVecMulAdd_45 (lv_at hl 0 rfl) ?_
      refine lv_iload_n hx hb dX2_mVecMulAdd_47 rfl (lv_at hl 5 rfl) ?_
      refine lv_icmp_ge (tgt := 85) hx hb dX2_mVecMulAdd_48 (by decide) (fun c48 => ?_) (fun c48 => ?_)
      · skip
        have hin2 : i = n := by
          rcases Nat.lt_or_ge i n with q | q
          · exact absurd (show nI n ≤ nI i by rw [← e16]; exact c48) (nI_ge q (by omega))
          · omega
        have hP9 := hP.sub (ws' := [(a1, .inl (d1, n1, .inr (.inl f))), (a2, .inl (d2, n2, .inr (.inl g1)))]) [0, 1] rfl
        have hD9 := hD.sub (ws' := [(a1, .inl (d1, n1, .inr (.inl f))), (a2, .inl (d2, n2, .inr (.inl g1)))]) [0, 1] (by decide) rfl
        exact W.vret hx hb hr (fun t ht hW => ⟨⟨g1, rfl, (by rw [eg, hin2]), (by rw [ht]; exact hP9), va_K.moved hW.alike hK, hD9⟩, hS.F ht⟩) hS.2.2 dX2_mVecMulAdd_85
      · skip
        have hlt : i < n := by
          rcases Nat.lt_or_ge i n with q | q
          · exact q
          · exact absurd (show nI n ≤ x16 by rw [e16]; exact nI_le q (by omega)) c48
        have hi5 : vp_in x5 n2 := by rw [e5]; exact vp_in_nI (by omega) (by omega)
        have hi2 : vp_in x2 n1 := by rw [e2]; exact vp_in_nI (by omega) (by omega)
        refine lv_aload hx hb dX2_mVecMulAdd_51 (lv_at hl 8 rfl) ?_
        refine lv_iload hx hb dX2_mVecMulAdd_53 (lv_at hl 9 rfl) ?_
        obtain ⟨y5, ey5⟩ : ∃ y : Int32, y = x5 + 1 := ⟨_, rfl⟩
        refine lv_iinc (v := y5) (lv' := [(5, .int y5), (16, .int x16), (14, .long k3), (12, .long k2), (10, .long k1), (8, .long k0), (0, .int (nI n)), (1, .ref a1), (2, .int x2), (4, .ref a2)]) hx hb dX2_mVecMulAdd_55 hl (k := 9) rfl (by rw [ey5]; rfl) (by decide) rfl (fun ls hl => ?_)
        refine lv_dup2_11 hx hb dX2_mVecMulAdd_58 rfl rfl ?_
        refine va_lald hx hb hK hP 1 1 rfl rfl hi5 dX2_mVecMulAdd_59 ?_
        refine lv_topl (fun y59 ey59 => ?_)
        refine lv_aload_n hx hb dX2_mVecMulAdd_60 rfl (lv_at hl 7 rfl) ?_
        refine lv_iload_n hx hb dX2_mVecMulAdd_61 rfl (lv_at hl 8 rfl) ?_
        obtain ⟨y2, ey2⟩ : ∃ y : Int32, y = x2 + 1 := ⟨_, rfl⟩
        refine lv_iinc (v := y2) (lv' := [(2, .int y2), (5, .int y5), (16, .int x16), (14, .long k3), (12, .long k2), (10, .long k1), (8, .long k0), (0, .int (nI n)), (1, .ref a1), (4, .ref a2)]) hx hb dX2_mVecMulAdd_62 hl (k := 8) rfl (by rw [ey2]; rfl) (by decide) rfl (fun ls hl => ?_)
        refine va_lald hx hb hK hP 0 0 rfl rfl hi2 dX2_mVecMulAdd_65 ?_
        refine lv_topl (fun y65 ey65 => ?_)
        refine lv_lload hx hb dX2_mVecMulAdd_66 (lv_at hl 6 rfl) ?_
        refine lv_lload hx hb dX2_mVecMulAdd_68 (lv_at hl 5 rfl) ?_
        refine lv_lload hx hb dX2_mVecMulAdd_70 (lv_at hl 4 rfl) ?_
        refine lv_lload hx hb dX2_mVecMulAdd_72 (lv_at hl 3 rfl) ?_
        have hFc := ng_free hS hA
        refine va_calll (va_runS (As := [.long y65, .long k0, .long k1, .long k2, .long k3]) (rest := [.long y59, .int x5, .ref a2]) ⟨hx, hb, hml, hown, hts⟩ (metX3_mulAddStep16 l dC dI H.size y65 k0 k1 k2 k3) (va_cwS 5 hts (lw_S q45 q46 q4 q47) rfl rfl rfl (by decide +kernel) ⟨Nat.le_of_ble_eq_true rfl, Nat.le_of_ble_eq_true rfl⟩) ⟨fun a U g mk q => q, fun U hU hW => ⟨rfl, congrArg Array.size hU⟩⟩ rfl rfl hl.1 rfl (lv_room (Nat.le_of_ble_eq_true rfl)) dX2_mVecMulAdd_74 ⟨Nat.le_of_ble_eq_true rfl, Nat.le_of_ble_eq_true rfl⟩) hS (fun q _ h => hFc q h) hFc (fun r74 u t H1 locs ht hvm hw74 hB hz1 hk1 hS => ?_)
        have hP := ng_keep hP hk1
        generalize H1 = H at hP hS ⊢
        refine lv_lxor hx hb dX2_mVecMulAdd_77 ?_
        refine lv_topl (fun z78 ez78 => ?_)
        refine va_last hx hb hK hP hD hS 1 1 rfl rfl hi5 dX2_mVecMulAdd_78 (fun H locs hP hD hS => ?_)
        have eg2 : vp_updL g1 x5.toNatClampNeg z78 = ng_V (i + 1) tt b f g := by
          have t5 : x5.toNatClampNeg = tt + i := by rw [e5]; exact nI_clamp (by omega)
          have t2 : x2.toNatClampNeg = i := by rw [e2]; exact nI_clamp (by omega)
          rw [ez78, hw74, ey59, ey65, t5, t2, eg, ← ng_V_s, ek0, ek1, ek2, ek3, ebw]
          rfl
        generalize vp_updL g1 x5.toNatClampNeg z78 = g2 at hP hD eg2
        have hP : va_P (dC, dI) vwCl [(a1, .inl (d1, n1, .inr (.inl f))), (a2, .inl (d2, n2, .inr (.inl g2)))] H := hP
        have hD : va_D A [(a1, .inl (d1, n1, .inr (.inl f))), (a2, .inl (d2, n2, .inr (.inl g2)))] := hD
        obtain ⟨v79, ev79⟩ : ∃ y : Int32, y = x16 + 1 := ⟨_, rfl⟩
        refine lv_iinc (v := v79) (lv' := [(16, .int v79), (2, .int y2), (5, .int y5), (14, .long k3), (12, .long k2), (10, .long k1), (8, .long k0), (0, .int (nI n)), (1, .ref a1), (4, .ref a2)]) hx hb dX2_mVecMulAdd_79 hl (k := 2) rfl (by rw [ev79]; rfl) (by decide) rfl (fun ls hl => ?_)
        refine lv_goto (tgt := 45) hx hb dX2_mVecMulAdd_82 (by decide) ?_
        exact ih (i + 1) v79 y2 y5 g2 hlt (by omega) (by rw [ev79, e16]; exact nI_1 i) (by rw [ey2, e2]; exact nI_1 i) (by rw [ey5, e5]; exact nI_1 (tt + i)) eg2 H locs hP hD hS ls (lv_sub hl [0, 3, 4, 5, 6, 7, 8, 1, 9, 2] rfl)
  exact loop (n + 1) 0 0 0 (nI tt) g (Nat.zero_le _) (by omega) nI_0.symm nI_0.symm (by rw [Nat.add_zero]) (ng_V_0 tt b f g).symm _ _ hP hD hS ls (lv_sub hl [0, 1, 2, 3, 4, 6, 7, 8, 10, 11] rfl)
end
section
set_option maxHeartbeats 4000000 in
set_option maxRecDepth 100000 in
/-- NibbleField(): eight rows of zeros -/
theorem metX0_init (l : Launch) (dC : Nat → ClassId) (dI : Nat → Nat → Nat) (sz : Nat) (h0 : Nat) : Met l yX0_init wsX0_init (({ frames := 1, cells := 1, slots := 8, locals := 12 })) (va_Pc [.ref h0] (fun U => U.heap.size = sz ∧ va_P (dC, dI) vwCl [(h0, .inr (0, [.null]))] U.heap ∧ va_K (dC, dI) vwCl [] U ∧ va_D (fun _ => True) [(h0, .inr (0, [.null]))])) (va_Qv (fun (_ : Unit) => True) (fun _ t => ∃ (q1 : Nat) (cA : ClassId), va_P (dC, dI) vwCl [(h0, .inr (0, [.ref q1])), (q1, .inl (cA, 8, .inr (.inl (fun _ => 0))))] t.heap ∧ va_K (dC, dI) vwCl [(cA, .long)] t ∧ va_D (va_A [(h0, .inr (0, [.null]))] sz) [(h0, .inr (0, [.ref q1])), (q1, .inl (cA, 8, .inr (.inl (fun _ => 0))))]) (va_A [(h0, .inr (0, [.null]))] sz)) 1 8 (va_A [(h0, .inr (0, [.null]))] sz) := by
  refine Met.ofW (cc := cX0_init) (maxL := 1) (ret := none) (by decide) rfl ?_
  intro p e s m args below meth c s₁ B hml hv
  obtain ⟨rfl, hsz, hP, hK, hD0⟩ := hv
  have hx := B.exec
  have hb := B.bytes
  have hr := B.returns
  have hts := atoms_spec (ws := wsX0_init) B.pre
  have hts : ∀ w ∈ lw_all, w.before _ s = true := fun w h => hts w (List.mem_cons_of_mem _ h)
  have hown : s.vm.findClass RX0 = some m.cls := findClass_of_methodNamed B.named
  have hlocks := B.notSynchronized
  have hin : meth.name = "<init>" := (name_of_methodNamed B.named B.method).1
  subst hsz
  have hD := hD0.self (sz := s.heap.size)
  generalize hAe : va_A [(h0, .inr (0, [.null]))] s.heap.size = A at hD ⊢
  have hA : ∀ q : Nat, s.heap.size ≤ q → A q := fun q h => by rw [← hAe]; exact Or.inr h
  have hS : va_S A s.heap s.heap [] := va_S.rf
  have hP : va_P (dC, dI) vwCl [(h0, .inr (0, [.null]))] s.heap := hP
  have hl := lv_entry ([.ref h0]) (n := 1) (Nat.le_of_ble_eq_true rfl)
  rw [lg_entry_eq]
  generalize (lg_sl ([.ref h0]) ++ List.replicate (1 - (lg_sl ([.ref h0])).length) Slot.unset).toArray = ls at hl ⊢
  have hl : lv_has ls 1 [(0, .ref h0)] := hl
  refine lv_aload_n hx hb dX0_init_0 rfl (lv_at hl 0 rfl) ?_
  refine W.objInit hx hb hown (hts _ q10) (hts _ q11) (hts _ q12) rfl (by rw [hml]; exact hl.1) rfl dX0_init_1 (Nat.le_of_ble_eq_true rfl) (Nat.le_of_ble_eq_true rfl) ?_
  refine W.eq (g2 := F0 m 4 ls []) rfl ?_
  refine lv_aload_n hx hb dX0_init_4 rfl (lv_at hl 0 rfl) ?_
  refine lv_bipush (v := 8) hx hb dX0_init_5 (by decide) ?_
  refine va_newa (atype := .long) (ty := .long) (N' := 8) (a0 := (8, .inr (.inl (fun _ => 0)))) hx hb (hts _ q17) rfl hK hP hD hS hA (fun _ => rfl) (by decide) rfl (Nat.le_of_ble_eq_true rfl) (Nat.le_of_ble_eq_true rfl) (Nat.le_of_ble_eq_true rfl) dX0_init_7 (fun q1 cA H hK hP hD hS => ?_)
  have hP : va_P (dC, dI) vwCl [(h0, .inr (0, [.null])), (q1, .inl (cA, 8, .inr (.inl (fun _ => 0))))] H := hP
  have hD : va_D A [(h0, .inr (0, [.null])), (q1, .inl (cA, 8, .inr (.inl (fun _ => 0))))] := hD
  have hK : va_K (dC, dI) vwCl [(cA, .long)] s := hK
  refine W.widen (k := 1) (n := 8) (by omega) (by omega) ?_
  refine va_putF (D := (dC, dI)) (ci := 0) (v := .ref q1) (ty := .array .long) (C := RX0) (T := TX0) (N := 1) hx hb hts in_X0 tyX0 tyX0_ok nmX0 hown hK hP hD hS 0 rfl rfl 0 (by decide) (hts _ q13) (fun _ h9 => h9) rfl hin rfl (by decide +kernel) rfl rfl (Nat.le_of_ble_eq_true rfl) dX0_init_9 (fun H locs hP hD hS => ?_)
  have hP : va_P (dC, dI) vwCl [(h0, .inr (0, [.ref q1])), (q1, .inl (cA, 8, .inr (.inl (fun _ => 0))))] H := hP
  have hD : va_D A [(h0, .inr (0, [.ref q1])), (q1, .inl (cA, 8, .inr (.inl (fun _ => 0))))] := hD
  exact W.vret hx hb hr (fun t ht hW => ⟨⟨(), rfl, trivial, q1, cA, by rw [ht]; exact hP, va_K.moved hW.alike hK, hD⟩, hS.F ht⟩) hS.2.2 dX0_init_12
set_option maxHeartbeats 4000000 in
set_option maxRecDepth 100000 in
/-- NibbleField.of -/
theorem metX0_of (l : Launch) (dC : Nat → ClassId) (dI : Nat → Nat → Nat) (sz : Nat) (a b : Int32) : Met l yX0_of wsX0_of (({ frames := 0, cells := 0, slots := 0, locals := 0 })) (va_Pc [.int a, .int b] (fun U => U.heap.size = sz)) (va_Ql (fun (r : Int64) (_ : Unit) => r = ng_of a b) (fun _ _ => True) (va_A [] sz)) 0 0 (va_A [] sz) := by
  refine Met.ofW (cc := cX0_of) (maxL := 2) (ret := (some .long)) (by decide) rfl ?_
  intro p e s m args below meth c s₁ B hml hv
  obtain ⟨rfl, hsz⟩ := hv
  have hx := B.exec
  have hb := B.bytes
  have hr := B.returns
  have hts := atoms_spec (ws := wsX0_of) B.pre
  have hts : ∀ w ∈ lw_all, w.before _ s = true := fun w h => hts w (List.mem_cons_of_mem _ h)
  have hown : s.vm.findClass RX0 = some m.cls := findClass_of_methodNamed B.named
  have hlocks := B.notSynchronized
  subst hsz
  generalize hAe : va_A [] s.heap.size = A
  have hA : ∀ q : Nat, s.heap.size ≤ q → A q := fun q h => by rw [← hAe]; exact Or.inr h
  have hS : va_S A s.heap s.heap [] := va_S.rf
  have hl := lv_entry ([.int a, .int b]) (n := 2) (Nat.le_of_ble_eq_true rfl)
  rw [lg_entry_eq]
  generalize (lg_sl ([.int a, .int b]) ++ List.replicate (2 - (lg_sl ([.int a, .int b])).length) Slot.unset).toArray = ls at hl ⊢
  have hl : lv_has ls 2 [(0, .int a), (1, .int b)] := hl
  refine lv_iload_n hx hb dX0_of_0 rfl (lv_at hl 0 rfl) ?_
  refine lv_i2l (v := a.toInt64) hx hb dX0_of_1 rfl ?_
  refine lv_bipush (v := 32) hx hb dX0_of_2 (by decide) ?_
  refine lv_lshl (v := ng_shl a.toInt64 32) hx hb dX0_of_4 rfl ?_
  refine lv_iload_n hx hb dX0_of_5 rfl (lv_at hl 1 rfl) ?_
  refine lv_i2l (v := b.toInt64) hx hb dX0_of_6 rfl ?_
  refine lv_ldc2 (v := 4294967295) hx hb hown (hts _ q25) dX0_of_7 ?_
  refine lv_land hx hb dX0_of_10 ?_
  refine lv_lor hx hb dX0_of_11 ?_
  exact W.lret (v := ((ng_shl a.toInt64 32) ||| (b.toInt64 &&& 4294967295))) hx hb hr (fun t ht hW => ⟨⟨((ng_shl a.toInt64 32) ||| (b.toInt64 &&& 4294967295)), (), rfl, by subst_vars; rfl, trivial⟩, hS.F ht⟩) hS.2.2 dX0_of_12
set_option maxHeartbeats 4000000 in
set_option maxRecDepth 100000 in
/-- NibbleField.eight -/
theorem metX0_eight (l : Launch) (dC : Nat → ClassId) (dI : Nat → Nat → Nat) (sz : Nat) (h0 : Nat) (a b d : Int32) : Met l yX0_eight wsX0_eight (({ frames := 1, cells := 0, slots := 0, locals := 27 })) (va_Pc [.ref h0, .int a, .int b, .int d] (fun U => U.heap.size = sz)) (va_Ql (fun (r : Int64) (_ : Unit) => r = ng_F ((a &&& 15).toInt8.toInt32) (ng_of b d &&& 1085102592571150095)) (fun _ _ => True) (va_A [] sz)) 0 0 (va_A [] sz) := by
  refine Met.ofW (cc := cX0_eight) (maxL := 4) (ret := (some .long)) (by decide) rfl ?_
  intro p e s m args below meth c s₁ B hml hv
  obtain ⟨rfl, hsz⟩ := hv
  have hx := B.exec
  have hb := B.bytes
  have hr := B.returns
  have hts := atoms_spec (ws := wsX0_eight) B.pre
  have hts : ∀ w ∈ lw_all, w.before _ s = true := fun w h => hts w (List.mem_cons_of_mem _ h)
  have hown : s.vm.findClass RX0 = some m.cls := findClass_of_methodNamed B.named
  have hlocks := B.notSynchronized
  subst hsz
  generalize hAe : va_A [] s.heap.size = A
  have hA : ∀ q : Nat, s.heap.size ≤ q → A q := fun q h => by rw [← hAe]; exact Or.inr h
  have hS : va_S A s.heap s.heap [] := va_S.rf
  have hl := lv_entry ([.ref h0, .int a, .int b, .int d]) (n := 4) (Nat.le_of_ble_eq_true rfl)
  rw [lg_entry_eq]
  generalize (lg_sl ([.ref h0, .int a, .int b, .int d]) ++ List.replicate (4 - (lg_sl ([.ref h0, .int a, .int b, .int d])).length) Slot.unset).toArray = ls at hl ⊢
  have hl : lv_has ls 4 [(0, .ref h0), (1, .int a), (2, .int b), (3, .int d)] := hl
  refine lv_iload_n hx hb dX0_eight_0 rfl (lv_at hl 1 rfl) ?_
  refine lv_bipush (v := 15) hx hb dX0_eight_1 (by decide) ?_
  refine lv_iand hx hb dX0_eight_3 ?_
  refine lv_i2b (v := (a &&& 15).toInt8.toInt32) hx hb dX0_eight_4 rfl ?_
  refine lv_iload_n hx hb dX0_eight_5 rfl (lv_at hl 2 rfl) ?_
  refine lv_iload_n hx hb dX0_eight_6 rfl (lv_at hl 3 rfl) ?_
  have hFc := ng_free hS hA
  refine va_calll (va_runS (As := [.int b, .int d]) (rest := [.int ((a &&& 15).toInt8.toInt32)]) ⟨hx, hb, hml, hown, hts⟩ (metX0_of l dC dI s.heap.size b d) (va_cwS 2 hts (lw_S q22 q23 q1 q24) rfl rfl rfl (by decide +kernel) ⟨Nat.le_of_ble_eq_true rfl, Nat.le_of_ble_eq_true rfl⟩) ⟨fun a U g mk q => q, fun U hU hW => ⟨rfl, congrArg Array.size hU⟩⟩ rfl rfl hl.1 rfl (lv_room (Nat.le_of_ble_eq_true rfl)) dX0_eight_7 ⟨Nat.le_of_ble_eq_true rfl, Nat.le_of_ble_eq_true rfl⟩) hS (fun q _ h => hFc q h) hFc (fun r7 u t H1 locs ht hvm hw7 hB hz1 hk1 hS => ?_)
  generalize H1 = H at hS ⊢
  refine lv_ldc2 (v := 1085102592571150095) hx hb hown (hts _ q26) dX0_eight_10 ?_
  refine lv_land hx hb dX0_eight_13 ?_
  have hFc := ng_free hS hA
  refine va_calll (va_runS (As := [.int ((a &&& 15).toInt8.toInt32), .long (r7 &&& 1085102592571150095)]) (rest := []) ⟨hx, hb, hml, hown, hts⟩ (metX2_mulFx8 l dC dI H.size ((a &&& 15).toInt8.toInt32) (r7 &&& 1085102592571150095)) (va_cwS 2 hts (lw_S q27 q28 q3 q29) rfl rfl rfl (by decide +kernel) ⟨Nat.le_of_ble_eq_true rfl, Nat.le_of_ble_eq_true rfl⟩) ⟨fun a U g mk q => q, fun U hU hW => ⟨rfl, congrArg Array.size hU⟩⟩ rfl rfl hl.1 rfl (lv_room (Nat.le_of_ble_eq_true rfl)) dX0_eight_14 ⟨Nat.le_of_ble_eq_true rfl, Nat.le_of_ble_eq_true rfl⟩) hS (fun q _ h => hFc q h) hFc (fun r14 u t H1 locs ht hvm hw14 hB hz1 hk1 hS => ?_)
  generalize H1 = H at hS ⊢
  exact W.lret (v := r14) hx hb hr (fun t ht hW => ⟨⟨r14, (), rfl, (by rw [hw14, hw7]), trivial⟩, hS.F ht⟩) hS.2.2 dX0_eight_17
set_option maxHeartbeats 4000000 in
set_option maxRecDepth 100000 in
/-- NibbleField.set -/
theorem metX0_set (l : Launch) (dC : Nat → ClassId) (dI : Nat → Nat → Nat) (sz : Nat) (h0 a0 : Nat) (d0 : ClassId) (f : Nat → Int64) (i b d : Int32) : Met l yX0_set wsX0_set (({ frames := 1, cells := 0, slots := 0, locals := 21 })) (va_Pc [.ref h0, .int i, .int b, .int d] (fun U => U.heap.size = sz ∧ va_P (dC, dI) vwCl [(h0, .inr (0, [.ref a0])), (a0, .inl (d0, 8, .inr (.inl f)))] U.heap ∧ va_K (dC, dI) vwCl [(d0, .long)] U ∧ va_D (fun _ => True) [(h0, .inr (0, [.ref a0])), (a0, .inl (d0, 8, .inr (.inl f)))])) (va_Qv (fun (u : Nat → Int64) => u = vp_updL f (ng_i i) (ng_of b d)) (fun u t => va_P (dC, dI) vwCl [(h0, .inr (0, [.ref a0])), (a0, .inl (d0, 8, .inr (.inl u)))] t.heap ∧ va_K (dC, dI) vwCl [(d0, .long)] t ∧ va_D (va_A [(h0, .inr (0, [.ref a0])), (a0, .inl (d0, 8, .inr (.inl f)))] sz) [(h0, .inr (0, [.ref a0])), (a0, .inl (d0, 8, .inr (.inl u)))]) (va_A [(h0, .inr (0, [.ref a0])), (a0, .inl (d0, 8, .inr (.inl f)))] sz)) 0 0 (va_A [(h0, .inr (0, [.ref a0])), (a0, .inl (d0, 8, .inr (.inl f)))] sz) := by
  refine Met.ofW (cc := cX0_set) (maxL := 4) (ret := none) (by decide) rfl ?_
  intro p e s m args below meth c s₁ B hml hv
  obtain ⟨rfl, hsz, hP, hK, hD0⟩ := hv
  have hx := B.exec
  have hb := B.bytes
  have hr := B.returns
  have hts := atoms_spec (ws := wsX0_set) B.pre
  have hts : ∀ w ∈ lw_all, w.before _ s = true := fun w h => hts w (List.mem_cons_of_mem _ h)
  have hown : s.vm.findClass RX0 = some m.cls := findClass_of_methodNamed B.named
  have hlocks := B.notSynchronized
  subst hsz
  have hD := hD0.self (sz := s.heap.size)
  generalize hAe : va_A [(h0, .inr (0, [.ref a0])), (a0, .inl (d0, 8, .inr (.inl f)))] s.heap.size = A at hD ⊢
  have hA : ∀ q : Nat, s.heap.size ≤ q → A q := fun q h => by rw [← hAe]; exact Or.inr h
  have hS : va_S A s.heap s.heap [] := va_S.rf
  have hP : va_P (dC, dI) vwCl [(h0, .inr (0, [.ref a0])), (a0, .inl (d0, 8, .inr (.inl f)))] s.heap := hP
  have hl := lv_entry ([.ref h0, .int i, .int b, .int d]) (n := 4) (Nat.le_of_ble_eq_true rfl)
  rw [lg_entry_eq]
  generalize (lg_sl ([.ref h0, .int i, .int b, .int d]) ++ List.replicate (4 - (lg_sl ([.ref h0, .int i, .int b, .int d])).length) Slot.unset).toArray = ls at hl ⊢
  have hl : lv_has ls 4 [(0, .ref h0), (1, .int i), (2, .int b), (3, .int d)] := hl
  refine lv_aload_n hx hb dX0_set_0 rfl (lv_at hl 0 rfl) ?_
  refine va_get (D := (dC, dI)) (ci := 0) (v := .ref a0) (C := RX0) (T := TX0) (N := 1) hx hb hts in_X0 hown hK hP 0 rfl rfl 0 (by decide) (hts _ q13) (fun _ h9 => h9) rfl dX0_set_1 ?_
  refine lv_iload_n hx hb dX0_set_4 rfl (lv_at hl 1 rfl) ?_
  refine lv_bipush (v := 7) hx hb dX0_set_5 (by decide) ?_
  refine lv_iand hx hb dX0_set_7 ?_
  refine lv_iload_n hx hb dX0_set_8 rfl (lv_at hl 2 rfl) ?_
  refine lv_iload_n hx hb dX0_set_9 rfl (lv_at hl 3 rfl) ?_
  have hFc := ng_free hS hA
  refine va_calll (va_runS (As := [.int b, .int d]) (rest := [.int (i &&& 7), .ref a0]) ⟨hx, hb, hml, hown, hts⟩ (metX0_of l dC dI s.heap.size b d) (va_cwS 2 hts (lw_S q22 q23 q1 q24) rfl rfl rfl (by decide +kernel) ⟨Nat.le_of_ble_eq_true rfl, Nat.le_of_ble_eq_true rfl⟩) ⟨fun a U g mk q => q, fun U hU hW => ⟨rfl, congrArg Array.size hU⟩⟩ rfl rfl hl.1 rfl (lv_room (Nat.le_of_ble_eq_true rfl)) dX0_set_10 ⟨Nat.le_of_ble_eq_true rfl, Nat.le_of_ble_eq_true rfl⟩) hS (fun q _ h => hFc q h) hFc (fun r10 u t H1 locs ht hvm hw10 hB hz1 hk1 hS => ?_)
  have hP := ng_keep hP hk1
  generalize H1 = H at hP hS ⊢
  have hi : vp_in (i &&& 7) 8 := pk_andIn i (m := 7) 3 rfl (by decide)
  refine va_last hx hb hK hP hD hS 1 0 rfl rfl hi dX0_set_13 (fun H locs hP hD hS => ?_)
  have eu : vp_updL f (i &&& 7).toNatClampNeg r10 = vp_updL f (ng_i i) (ng_of b d) := by rw [ng_i_I, nI_clamp (Nat.lt_trans (ng_i_lt i) (by decide)), hw10]
  generalize vp_updL f (i &&& 7).toNatClampNeg r10 = g at hP hD eu
  have hP : va_P (dC, dI) vwCl [(h0, .inr (0, [.ref a0])), (a0, .inl (d0, 8, .inr (.inl g)))] H := hP
  have hD : va_D A [(h0, .inr (0, [.ref a0])), (a0, .inl (d0, 8, .inr (.inl g)))] := hD
  exact W.vret hx hb hr (fun t ht hW => ⟨⟨g, rfl, eu, by rw [ht]; exact hP, va_K.moved hW.alike hK, hD⟩, hS.F ht⟩) hS.2.2 dX0_set_14
set_option maxHeartbeats 4000000 in
set_option maxRecDepth 100000 in
/-- NibbleField.get -/
theorem metX0_get (l : Launch) (dC : Nat → ClassId) (dI : Nat → Nat → Nat) (sz : Nat) (h0 a0 : Nat) (d0 : ClassId) (f : Nat → Int64) (i : Int32) : Met l yX0_get wsX0_get (({ frames := 0, cells := 0, slots := 0, locals := 0 })) (va_Pc [.ref h0, .int i] (fun U => U.heap.size = sz ∧ va_P (dC, dI) vwCl [(h0, .inr (0, [.ref a0])), (a0, .inl (d0, 8, .inr (.inl f)))] U.heap ∧ va_K (dC, dI) vwCl [(d0, .long)] U)) (va_Ql (fun (r : Int64) (_ : Unit) => r = f (ng_i i)) (fun _ _ => True) (va_A [] sz)) 0 0 (va_A [] sz) := by
  refine Met.ofW (cc := cX0_get) (maxL := 2) (ret := (some .long)) (by decide) rfl ?_
  intro p e s m args below meth c s₁ B hml hv
  obtain ⟨rfl, hsz, hP, hK⟩ := hv
  have hx := B.exec
  have hb := B.bytes
  have hr := B.returns
  have hts := atoms_spec (ws := wsX0_get) B.pre
  have hts : ∀ w ∈ lw_all, w.before _ s = true := fun w h => hts w (List.mem_cons_of_mem _ h)
  have hown : s.vm.findClass RX0 = some m.cls := findClass_of_methodNamed B.named
  have hlocks := B.notSynchronized
  subst hsz
  generalize hAe : va_A [] s.heap.size = A
  have hA : ∀ q : Nat, s.heap.size ≤ q → A q := fun q h => by rw [← hAe]; exact Or.inr h
  have hS : va_S A s.heap s.heap [] := va_S.rf
  have hP : va_P (dC, dI) vwCl [(h0, .inr (0, [.ref a0])), (a0, .inl (d0, 8, .inr (.inl f)))] s.heap := hP
  have hl := lv_entry ([.ref h0, .int i]) (n := 2) (Nat.le_of_ble_eq_true rfl)
  rw [lg_entry_eq]
  generalize (lg_sl ([.ref h0, .int i]) ++ List.replicate (2 - (lg_sl ([.ref h0, .int i])).length) Slot.unset).toArray = ls at hl ⊢
  have hl : lv_has ls 2 [(0, .ref h0), (1, .int i)] := hl
  refine lv_aload_n hx hb dX0_get_0 rfl (lv_at hl 0 rfl) ?_
  refine va_get (D := (dC, dI)) (ci := 0) (v := .ref a0) (C := RX0) (T := TX0) (N := 1) hx hb hts in_X0 hown hK hP 0 rfl rfl 0 (by decide) (hts _ q13) (fun _ h9 => h9) rfl dX0_get_1 ?_
  refine lv_iload_n hx hb dX0_get_4 rfl (lv_at hl 1 rfl) ?_
  refine lv_bipush (v := 7) hx hb dX0_get_5 (by decide) ?_
  refine lv_iand hx hb dX0_get_7 ?_
  have hi : vp_in (i &&& 7) 8 := pk_andIn i (m := 7) 3 rfl (by decide)
  refine va_lald hx hb hK hP 1 0 rfl rfl hi dX0_get_8 ?_
  refine lv_topl (fun y8 ey8 => ?_)
  have ey : y8 = f (ng_i i) := by rw [ey8, ng_i_I, nI_clamp (Nat.lt_trans (ng_i_lt i) (by decide))]
  exact W.lret (v := y8) hx hb hr (fun t ht hW => ⟨⟨y8, (), rfl, ey, trivial⟩, hS.F ht⟩) hS.2.2 dX0_get_9
set_option maxHeartbeats 4000000 in
set_option maxRecDepth 100000 in
/-- NibbleField.one -/
theorem metX0_one (l : Launch) (dC : Nat → ClassId) (dI : Nat → Nat → Nat) (sz : Nat) (h0 a0 : Nat) (d0 : ClassId) (f : Nat → Int64) (i k : Int32) : Met l yX0_one wsX0_one (({ frames := 0, cells := 0, slots := 0, locals := 0 })) (va_Pc [.ref h0, .int i, .int k] (fun U => U.heap.size = sz ∧ va_P (dC, dI) vwCl [(h0, .inr (0, [.ref a0])), (a0, .inl (d0, 8, .inr (.inl f)))] U.heap ∧ va_K (dC, dI) vwCl [(d0, .long)] U)) (va_Qi (fun (r : Int32) (_ : Unit) => r = (ng_ush (f (ng_i i)) (4 * (k &&& 15))).toInt32 &&& 15) (fun _ _ => True) (va_A [] sz)) 0 0 (va_A [] sz) := by
  refine Met.ofW (cc := cX0_one) (maxL := 3) (ret := (some .int)) (by decide) rfl ?_
  intro p e s m args below meth c s₁ B hml hv
  obtain ⟨rfl, hsz, hP, hK⟩ := hv
  have hx := B.exec
  have hb := B.bytes
  have hr := B.returns
  have hts := atoms_spec (ws := wsX0_one) B.pre
  have hts : ∀ w ∈ lw_all, w.before _ s = true := fun w h => hts w (List.mem_cons_of_mem _ h)
  have hown : s.vm.findClass RX0 = some m.cls := findClass_of_methodNamed B.named
  have hlocks := B.notSynchronized
  subst hsz
  generalize hAe : va_A [] s.heap.size = A
  have hA : ∀ q : Nat, s.heap.size ≤ q → A q := fun q h => by rw [← hAe]; exact Or.inr h
  have hS : va_S A s.heap s.heap [] := va_S.rf
  have hP : va_P (dC, dI) vwCl [(h0, .inr (0, [.ref a0])), (a0, .inl (d0, 8, .inr (.inl f)))] s.heap := hP
  have hl := lv_entry ([.ref h0, .int i, .int k]) (n := 3) (Nat.le_of_ble_eq_true rfl)
  rw [lg_entry_eq]
  generalize (lg_sl ([.ref h0, .int i, .int k]) ++ List.replicate (3 - (lg_sl ([.ref h0, .int i, .int k])).length) Slot.unset).toArray = ls at hl ⊢
  have hl : lv_has ls 3 [(0, .ref h0), (1, .int i), (2, .int k)] := hl
  refine lv_aload_n hx hb dX0_one_0 rfl (lv_at hl 0 rfl) ?_
  refine va_get (D := (dC, dI)) (ci := 0) (v := .ref a0) (C := RX0) (T := TX0) (N := 1) hx hb hts in_X0 hown hK hP 0 rfl rfl 0 (by decide) (hts _ q13) (fun _ h9 => h9) rfl dX0_one_1 ?_
  refine lv_iload_n hx hb dX0_one_4 rfl (lv_at hl 1 rfl) ?_
  refine lv_bipush (v := 7) hx hb dX0_one_5 (by decide) ?_
  refine lv_iand hx hb dX0_one_7 ?_
  have hi : vp_in (i &&& 7) 8 := pk_andIn i (m := 7) 3 rfl (by decide)
  refine va_lald hx hb hK hP 1 0 rfl rfl hi dX0_one_8 ?_
  refine lv_topl (fun y8 ey8 => ?_)
  have ey : y8 = f (ng_i i) := by rw [ey8, ng_i_I, nI_clamp (Nat.lt_trans (ng_i_lt i) (by decide))]
  refine lv_iconst (v := 4) hx hb dX0_one_9 (by decide) ?_
  refine lv_iload_n hx hb dX0_one_10 rfl (lv_at hl 2 rfl) ?_
  refine lv_bipush (v := 15) hx hb dX0_one_11 (by decide) ?_
  refine lv_iand hx hb dX0_one_13 ?_
  refine lv_imul hx hb dX0_one_14 ?_
  refine lv_lushr (v := ng_ush y8 (4 * (k &&& 15))) hx hb dX0_one_15 rfl ?_
  refine lv_l2i (v := (ng_ush y8 (4 * (k &&& 15))).toInt32) hx hb dX0_one_16 rfl ?_
  refine lv_bipush (v := 15) hx hb dX0_one_17 (by decide) ?_
  refine lv_iand hx hb dX0_one_19 ?_
  exact W.iret (v := (((ng_ush y8 (4 * (k &&& 15))).toInt32) &&& 15)) hx hb hr (fun t ht hW => ⟨⟨(((ng_ush y8 (4 * (k &&& 15))).toInt32) &&& 15), (), rfl, (by rw [ey]), trivial⟩, hS.F ht⟩) hS.2.2 dX0_one_20
set_option maxHeartbeats 4000000 in
set_option maxRecDepth 100000 in
/-- NibbleField.add -/
theorem metX0_add (l : Launch) (dC : Nat → ClassId) (dI : Nat → Nat → Nat) (sz : Nat) (h0 a0 : Nat) (d0 : ClassId) (f : Nat → Int64) (i j k b : Int32) : Met l yX0_add wsX0_add (({ frames := 2, cells := 1, slots := 4, locals := 69 })) (va_Pc [.ref h0, .int i, .int j, .int k, .int b] (fun U => U.heap.size = sz ∧ va_P (dC, dI) vwCl [(h0, .inr (0, [.ref a0])), (a0, .inl (d0, 8, .inr (.inl f)))] U.heap ∧ va_K (dC, dI) vwCl [(d0, .long)] U ∧ va_D (fun _ => True) [(h0, .inr (0, [.ref a0])), (a0, .inl (d0, 8, .inr (.inl f)))])) (va_Qv (fun (u : Nat → Int64) => u = fun z => if ng_r j k ≤ z ∧ z < ng_r j k + ng_c k then f z ^^^ ng_T (b &&& 15) (f (ng_r i k + (z - ng_r j k))) else f z) (fun u t => va_P (dC, dI) vwCl [(h0, .inr (0, [.ref a0])), (a0, .inl (d0, 8, .inr (.inl u)))] t.heap ∧ va_K (dC, dI) vwCl [(d0, .long)] t ∧ va_D (va_A [(h0, .inr (0, [.ref a0])), (a0, .inl (d0, 8, .inr (.inl f)))] sz) [(h0, .inr (0, [.ref a0])), (a0, .inl (d0, 8, .inr (.inl u)))]) (va_A [(h0, .inr (0, [.ref a0])), (a0, .inl (d0, 8, .inr (.inl f)))] sz)) 1 4 (va_A [(h0, .inr (0, [.ref a0])), (a0, .inl (d0, 8, .inr (.inl f)))] sz) := by
  refine Met.ofW (cc := cX0_add) (maxL := 10) (ret := none) (by decide) rfl ?_
  intro p e s m args below meth c s₁ B hml hv
  obtain ⟨rfl, hsz, hP, hK, hD0⟩ := hv
  have hx := B.exec
  have hb := B.bytes
  have hr := B.returns
  have hts := atoms_spec (ws := wsX0_add) B.pre
  have hts : ∀ w ∈ lw_all, w.before _ s = true := fun w h => hts w (List.mem_cons_of_mem _ h)
  have hown : s.vm.findClass RX0 = some m.cls := findClass_of_methodNamed B.named
  have hlocks := B.notSynchronized
  subst hsz
  have hD := hD0.self (sz := s.heap.size)
  generalize hAe : va_A [(h0, .inr (0, [.ref a0])), (a0, .inl (d0, 8, .inr (.inl f)))] s.heap.size = A at hD ⊢
  have hA : ∀ q : Nat, s.heap.size ≤ q → A q := fun q h => by rw [← hAe]; exact Or.inr h
  have hS : va_S A s.heap s.heap [] := va_S.rf
  have hP : va_P (dC, dI) vwCl [(h0, .inr (0, [.ref a0])), (a0, .inl (d0, 8, .inr (.inl f)))] s.heap := hP
  have hl := lv_entry ([.ref h0, .int i, .int j, .int k, .int b]) (n := 10) (Nat.le_of_ble_eq_true rfl)
  rw [lg_entry_eq]
  generalize (lg_sl ([.ref h0, .int i, .int j, .int k, .int b]) ++ List.replicate (10 - (lg_sl ([.ref h0, .int i, .int j, .int k, .int b])).length) Slot.unset).toArray = ls at hl ⊢
  have hl : lv_has ls 10 [(0, .ref h0), (1, .int i), (2, .int j), (3, .int k), (4, .int b)] := hl
  have hc4 := ng_c_le k
  have hri := ng_r_lt i k
  have hrj := ng_r_lt j k
  refine lv_iconst (v := 1) hx hb dX0_add_0 (by decide) ?_
  refine lv_iload_n hx hb dX0_add_1 rfl (lv_at hl 3 rfl) ?_
  refine lv_iconst (v := 3) hx hb dX0_add_2 (by decide) ?_
  refine lv_iand hx hb dX0_add_3 ?_
  refine lv_iadd hx hb dX0_add_4 ?_
  refine lv_topi (fun x5 ex5 => ?_)
  have ex5 : x5 = nI (ng_c k) := by rw [ex5]; exact ng_c_I k
  subst ex5
  refine lv_istore (lv' := [(5, .int (nI (ng_c k))), (0, .ref h0), (1, .int i), (2, .int j), (3, .int k), (4, .int b)]) hx hb dX0_add_5 hl (by decide) rfl (fun ls hl => ?_)
  refine lv_iload_n hx hb dX0_add_7 rfl (lv_at hl 2 rfl) ?_
  refine lv_ldc (v := 2147483647) hx hb hown (hts _ q40) dX0_add_8 ?_
  refine lv_iand hx hb dX0_add_10 ?_
  refine lv_bipush (v := 9) hx hb dX0_add_11 (by decide) ?_
  refine lv_iload hx hb dX0_add_13 (lv_at hl 0 rfl) ?_
  refine lv_isub hx hb dX0_add_15 ?_
  rw [ng_9]
  refine lv_irem hx hb dX0_add_16 (ng_9ne k) ?_
  rw [ng_r_I i k]
  refine lv_istore (lv' := [(6, .int (nI (ng_r i k))), (5, .int (nI (ng_c k))), (0, .ref h0), (1, .int i), (2, .int j), (3, .int k), (4, .int b)]) hx hb dX0_add_17 hl (by decide) rfl (fun ls hl => ?_)
  refine lv_iload_n hx hb dX0_add_19 rfl (lv_at hl 4 rfl) ?_
  refine lv_ldc (v := 2147483647) hx hb hown (hts _ q40) dX0_add_20 ?_
  refine lv_iand hx hb dX0_add_22 ?_
  refine lv_bipush (v := 9) hx hb dX0_add_23 (by decide) ?_
  refine lv_iload hx hb dX0_add_25 (lv_at hl 1 rfl) ?_
  refine lv_isub hx hb dX0_add_27 ?_
  rw [ng_9]
  refine lv_irem hx hb dX0_add_28 (ng_9ne k) ?_
  rw [ng_r_I j k]
  refine lv_istore (lv' := [(7, .int (nI (ng_r j k))), (6, .int (nI (ng_r i k))), (5, .int (nI (ng_c k))), (0, .ref h0), (1, .int i), (2, .int j), (3, .int k), (4, .int b)]) hx hb dX0_add_29 hl (by decide) rfl (fun ls hl => ?_)
  refine lv_iload hx hb dX0_add_31 (lv_at hl 2 rfl) ?_
  refine va_newa (atype := .long) (ty := .long) (N' := ng_c k) (a0 := (ng_c k, .inr (.inl (ng_cp 0 (ng_r i k) 0 f)))) hx hb (hts _ q17) rfl hK hP hD hS hA (fun _ => by unfold ng_cp; rfl) (nI_pos (by omega)) (nI_clamp (by omega)) (by simp only [componentBytes]; omega) (Nat.le_of_ble_eq_true rfl) (by show 0 + ng_c k ≤ 4; omega) dX0_add_33 (fun q1 cA H hK hP hD hS => ?_)
  have hP : va_P (dC, dI) vwCl [(h0, .inr (0, [.ref a0])), (a0, .inl (d0, 8, .inr (.inl f))), (q1, .inl (cA, ng_c k, .inr (.inl (ng_cp 0 (ng_r i k) 0 f))))] H := hP
  have hD : va_D A [(h0, .inr (0, [.ref a0])), (a0, .inl (d0, 8, .inr (.inl f))), (q1, .inl (cA, ng_c k, .inr (.inl (ng_cp 0 (ng_r i k) 0 f))))] := hD
  have hK : va_K (dC, dI) vwCl [(d0, .long), (cA, .long)] s := hK
  refine W.widen (k := 1) (n := 4) (by omega) (by omega) ?_
  refine lv_astore (lv' := [(8, .ref q1), (7, .int (nI (ng_r j k))), (6, .int (nI (ng_r i k))), (5, .int (nI (ng_c k))), (0, .ref h0), (1, .int i), (2, .int j), (3, .int k), (4, .int b)]) hx hb dX0_add_35 hl (by decide) rfl (fun ls hl => ?_)
  refine lv_iconst (v := 0) hx hb dX0_add_37 (by decide) ?_
  refine lv_istore (lv' := [(9, .int 0), (8, .ref q1), (7, .int (nI (ng_r j k))), (6, .int (nI (ng_r i k))), (5, .int (nI (ng_c k))), (0, .ref h0), (1, .int i), (2, .int j), (3, .int k), (4, .int b)]) hx hb dX0_add_38 hl (by decide) rfl (fun ls hl => ?_)
  have loop : ∀ (N y : Nat) (x9 : Int32) (g1 : Nat → Int64), y ≤ ng_c k → ng_c k + 1 ≤ y + N → x9 = nI y → g1 = ng_cp y (ng_r i k) 0 f → ∀ (H : Heap) (locs : List Loc), va_P (dC, dI) vwCl [(h0, .inr (0, [.ref a0])), (a0, .inl (d0, 8, .inr (.inl f))), (q1, .inl (cA, ng_c k, .inr (.inl g1)))] H → va_D A [(h0, .inr (0, [.ref a0])), (a0, .inl (d0, 8, .inr (.inl f))), (q1, .inl (cA, ng_c k, .inr (.inl g1)))] → va_S A s.heap H locs → ∀ (ls : Array Slot), lv_has ls 10 [(9, .int x9), (8, .ref q1), (7, .int (nI (ng_r j k))), (6, .int (nI (ng_r i k))), (5, .int (nI (ng_c k))), (0, .ref h0), (4, .int b)] → W p l e (headSpec wsX0_add (({ frames := 2, cells := 1, slots := 4, locals := 69 }))).room s m ([.ref h0, .int i, .int j, .int k, .int b] : List Value).toArray below meth c H locs 1 4 (MQ below (va_Qv (fun (u : Nat → Int64) => u = fun z => if ng_r j k ≤ z ∧ z < ng_r j k + ng_c k then f z ^^^ ng_T (b &&& 15) (f (ng_r i k + (z - ng_r j k))) else f z) (fun u t => va_P (dC, dI) vwCl [(h0, .inr (0, [.ref a0])), (a0, .inl (d0, 8, .inr (.inl u)))] t.heap ∧ va_K (dC, dI) vwCl [(d0, .long)] t ∧ va_D A [(h0, .inr (0, [.ref a0])), (a0, .inl (d0, 8, .inr (.inl u)))]) A) ([.ref h0, .int i, .int j, .int k, .int b] : List Value).toArray s 1 4 A) (F0 m 40 ls []) := by
    intro N
    induction N with
    | zero =>
      intro y x9 g1 h1 h2
      exact absurd h2 (by omega)
    | succ N ih =>
      intro y x9 g1 hi hin e9 eg H locs hP hD hS ls hl
      refine lv_iload hx hb dX0_add_40 (lv_at hl 0 rfl) ?_
      refine lv_iload hx hb dX0_add_42 (lv_at hl 4 rfl) ?_
      refine lv_icmp_ge (tgt := 68) hx hb dX0_add_44 (by decide) (fun c44 => ?_) (fun c44 => ?_)
      · skip
        have hin2 : y = ng_c k := by
          rcases Nat.lt_or_ge y (ng_c k) with q | q
          · exact absurd (show nI (ng_c k) ≤ nI y by rw [← e9]; exact c44) (nI_ge q (by omega))
          · omega
        refine lv_iload hx hb dX0_add_68 (lv_at hl 4 rfl) ?_
        refine lv_aload hx hb dX0_add_70 (lv_at hl 1 rfl) ?_
        refine lv_iconst (v := 0) hx hb dX0_add_72 (by decide) ?_
        refine lv_iload hx hb dX0_add_73 (lv_at hl 6 rfl) ?_
        refine lv_bipush (v := 15) hx hb dX0_add_75 (by decide) ?_
        refine lv_iand hx hb dX0_add_77 ?_
        refine lv_aload_n hx hb dX0_add_78 rfl (lv_at hl 5 rfl) ?_
        refine va_get (D := (dC, dI)) (ci := 0) (v := .ref a0) (C := RX0) (T := TX0) (N := 1) hx hb hts in_X0 hown hK hP 0 rfl rfl 0 (by decide) (hts _ q13) (fun _ h9 => h9) rfl dX0_add_79 ?_
        refine lv_iload hx hb dX0_add_82 (lv_at hl 2 rfl) ?_
        have hPc := hP.sub (ws' := [(q1, .inl (cA, ng_c k, .inr (.inl g1))), (a0, .inl (d0, 8, .inr (.inl f)))]) [2, 1] rfl
        have hDc := hD.sub (ws' := [(q1, .inl (cA, ng_c k, .inr (.inl g1))), (a0, .inl (d0, 8, .inr (.inl f)))]) [2, 1] (by decide) rfl
        have hKc := hK.sub (tys' := [(cA, .long), (d0, .long)]) [1, 0] rfl
        have hFc := va_free (wc := [(q1, .inl (cA, ng_c k, .inr (.inl g1))), (a0, .inl (d0, 8, .inr (.inl f)))]) hD hS hA [2, 1] rfl
        refine va_callv (va_runS (As := [.int (nI (ng_c k)), .ref q1, .int 0, .int (b &&& 15), .ref a0, .int (nI (ng_r j k))]) (rest := []) ⟨hx, hb, hml, hown, hts⟩ (metX2_mVecMulAdd l dC dI H.size q1 a0 cA d0 (ng_c k) 8 (ng_c k) (ng_r j k) (b &&& 15) g1 f (Nat.le_refl _) (by omega) (by omega) (by omega)) (va_cwS 6 hts (lw_S q41 q42 q3 q43) rfl rfl rfl (by decide +kernel) ⟨Nat.le_of_ble_eq_true rfl, Nat.le_of_ble_eq_true rfl⟩) ⟨fun a U g mk q => by obtain ⟨q0, q1, qP, qK, qD⟩ := q; exact ⟨q0, q1, qP, va_K.moved (u := U) (U := U.calling g mk a) (Vm.Alike.refl U.vm) qK, qD⟩, fun U hU hW => ⟨rfl, by rw [hU], by rw [hU]; exact hPc, va_K.moved hW.alike hKc, hDc.weaken (fun _ _ _ _ => trivial)⟩⟩ rfl rfl hl.1 rfl (lv_room (Nat.le_of_ble_eq_true rfl)) dX0_add_84 ⟨Nat.le_of_ble_eq_true rfl, Nat.le_of_ble_eq_true rfl⟩) hS (fun q _ h => hFc q h) hFc (fun u t H1 locs ht hvm hw84 hB hz1 hk1 hS => ?_)
        obtain ⟨hP1, hK1, hD1⟩ := hB
        rw [ht] at hP1
        have hK1 := va_K.moved hvm.symm hK1
        obtain ⟨hP, hD⟩ := va_join (wr := [(h0, .inr (0, [.ref a0]))]) (w1 := [(q1, .inl (cA, ng_c k, .inr (.inl g1))), (a0, .inl (d0, 8, .inr (.inl u)))]) hP hD [2, 1] [0] rfl rfl (by decide) (by decide) hk1 hFc hP1 hD1
        have hP9 := hP.sub (ws' := [(h0, .inr (0, [.ref a0])), (a0, .inl (d0, 8, .inr (.inl u)))]) [0, 2] rfl
        have hD9 := hD.sub (ws' := [(h0, .inr (0, [.ref a0])), (a0, .inl (d0, 8, .inr (.inl u)))]) [0, 2] (by decide) rfl
        have hK9 := hK.sub (tys' := [(d0, .long)]) [0] rfl
        have eu : u = fun z => if ng_r j k ≤ z ∧ z < ng_r j k + ng_c k then f z ^^^ ng_T (b &&& 15) (f (ng_r i k + (z - ng_r j k))) else f z := by
          rw [hw84]
          funext z
          unfold ng_V
          by_cases hz : ng_r j k ≤ z ∧ z < ng_r j k + ng_c k
          · rw [if_pos hz, if_pos hz, eg]
            unfold ng_cp
            rw [if_pos (by omega)]
          · rw [if_neg hz, if_neg hz]
        exact W.vret hx hb hr (fun t ht9 hW => ⟨⟨u, rfl, eu, by rw [ht9]; exact hP9, va_K.moved hW.alike hK9, hD9⟩, hS.F ht9⟩) hS.2.2 dX0_add_87
      · skip
        have hlt : y < ng_c k := by
          rcases Nat.lt_or_ge y (ng_c k) with q | q
          · exact q
          · exact absurd (show nI (ng_c k) ≤ x9 by rw [e9]; exact nI_le q (by omega)) c44
        refine lv_aload hx hb dX0_add_47 (lv_at hl 1 rfl) ?_
        refine lv_iload hx hb dX0_add_49 (lv_at hl 0 rfl) ?_
        refine lv_aload_n hx hb dX0_add_51 rfl (lv_at hl 5 rfl) ?_
        refine va_get (D := (dC, dI)) (ci := 0) (v := .ref a0) (C := RX0) (T := TX0) (N := 1) hx hb hts in_X0 hown hK hP 0 rfl rfl 0 (by decide) (hts _ q13) (fun _ h9 => h9) rfl dX0_add_52 ?_
        refine lv_iload hx hb dX0_add_55 (lv_at hl 3 rfl) ?_
        refine lv_iload hx hb dX0_add_57 (lv_at hl 0 rfl) ?_
        refine lv_iadd hx hb dX0_add_59 ?_
        have e6 : nI (ng_r i k) + x9 = nI (ng_r i k + y) := by rw [e9]; exact nI_add _ _
        rw [e6]
        refine va_lald hx hb hK hP 1 0 rfl rfl (vp_in_nI (by omega) (by omega)) dX0_add_60 ?_
        refine lv_topl (fun z60 ez60 => ?_)
        refine va_last hx hb hK hP hD hS 2 1 rfl rfl (by rw [e9]; exact vp_in_nI hlt (by omega)) dX0_add_61 (fun H locs hP hD hS => ?_)
        have eg2 : vp_updL g1 x9.toNatClampNeg z60 = ng_cp (y + 1) (ng_r i k) 0 f := by
          have t9 : x9.toNatClampNeg = y := by rw [e9]; exact nI_clamp (by omega)
          rw [ez60, nI_clamp (by omega), t9, eg]
          exact ng_cpL y (ng_r i k) f
        generalize vp_updL g1 x9.toNatClampNeg z60 = g2 at hP hD eg2
        have hP : va_P (dC, dI) vwCl [(h0, .inr (0, [.ref a0])), (a0, .inl (d0, 8, .inr (.inl f))), (q1, .inl (cA, ng_c k, .inr (.inl g2)))] H := hP
        have hD : va_D A [(h0, .inr (0, [.ref a0])), (a0, .inl (d0, 8, .inr (.inl f))), (q1, .inl (cA, ng_c k, .inr (.inl g2)))] := hD
        obtain ⟨v62, ev62⟩ : ∃ y : Int32, y = x9 + 1 := ⟨_, rfl⟩
        refine lv_iinc (v := v62) (lv' := [(9, .int v62), (8, .ref q1), (7, .int (nI (ng_r j k))), (6, .int (nI (ng_r i k))), (5, .int (nI (ng_c k))), (0, .ref h0), (4, .int b)]) hx hb dX0_add_62 hl (k := 0) rfl (by rw [ev62]; rfl) (by decide) rfl (fun ls hl => ?_)
        refine lv_goto (tgt := 40) hx hb dX0_add_65 (by decide) ?_
        exact ih (y + 1) v62 g2 hlt (by omega) (by rw [ev62, e9]; exact nI_1 y) eg2 H locs hP hD hS ls (lv_sub hl [0, 1, 2, 3, 4, 5, 6] rfl)
  exact loop (ng_c k + 1) 0 0 (ng_cp 0 (ng_r i k) 0 f) (Nat.zero_le _) (by omega) nI_0.symm rfl _ _ hP hD hS ls (lv_sub hl [0, 1, 2, 3, 4, 5, 9] rfl)
end
section
set_option maxHeartbeats 4000000 in
set_option maxRecDepth 100000 in
/-- NibbleFieldModel(): 128 zeros -/
theorem metX1_init (l : Launch) (dC : Nat → ClassId) (dI : Nat → Nat → Nat) (sz : Nat) (h0 : Nat) : Met l yX1_init wsX1_init (({ frames := 1, cells := 1, slots := 128, locals := 12 })) (va_Pc [.ref h0] (fun U => U.heap.size = sz ∧ va_P (dC, dI) vwCl [(h0, .inr (1, [.null]))] U.heap ∧ va_K (dC, dI) vwCl [] U ∧ va_D (fun _ => True) [(h0, .inr (1, [.null]))])) (va_Qv (fun (_ : Unit) => True) (fun _ t => ∃ (q1 : Nat) (cA : ClassId), va_P (dC, dI) vwCl [(h0, .inr (1, [.ref q1])), (q1, .inl (cA, 128, .inl (fun _ => 0)))] t.heap ∧ va_K (dC, dI) vwCl [(cA, .int)] t ∧ va_D (va_A [(h0, .inr (1, [.null]))] sz) [(h0, .inr (1, [.ref q1])), (q1, .inl (cA, 128, .inl (fun _ => 0)))]) (va_A [(h0, .inr (1, [.null]))] sz)) 1 128 (va_A [(h0, .inr (1, [.null]))] sz) := by
  refine Met.ofW (cc := cX1_init) (maxL := 1) (ret := none) (by decide) rfl ?_
  intro p e s m args below meth c s₁ B hml hv
  obtain ⟨rfl, hsz, hP, hK, hD0⟩ := hv
  have hx := B.exec
  have hb := B.bytes
  have hr := B.returns
  have hts := atoms_spec (ws := wsX1_init) B.pre
  have hts : ∀ w ∈ lw_all, w.before _ s = true := fun w h => hts w (List.mem_cons_of_mem _ h)
  have hown : s.vm.findClass RX1 = some m.cls := findClass_of_methodNamed B.named
  have hlocks := B.notSynchronized
  have hin : meth.name = "<init>" := (name_of_methodNamed B.named B.method).1
  subst hsz
  have hD := hD0.self (sz := s.heap.size)
  generalize hAe : va_A [(h0, .inr (1, [.null]))] s.heap.size = A at hD ⊢
  have hA : ∀ q : Nat, s.heap.size ≤ q → A q := fun q h => by rw [← hAe]; exact Or.inr h
  have hS : va_S A s.heap s.heap [] := va_S.rf
  have hP : va_P (dC, dI) vwCl [(h0, .inr (1, [.null]))] s.heap := hP
  have hl := lv_entry ([.ref h0]) (n := 1) (Nat.le_of_ble_eq_true rfl)
  rw [lg_entry_eq]
  generalize (lg_sl ([.ref h0]) ++ List.replicate (1 - (lg_sl ([.ref h0])).length) Slot.unset).toArray = ls at hl ⊢
  have hl : lv_has ls 1 [(0, .ref h0)] := hl
  refine lv_aload_n hx hb dX1_init_0 rfl (lv_at hl 0 rfl) ?_
  refine W.objInit hx hb hown (hts _ q63) (hts _ q11) (hts _ q12) rfl (by rw [hml]; exact hl.1) rfl dX1_init_1 (Nat.le_of_ble_eq_true rfl) (Nat.le_of_ble_eq_true rfl) ?_
  refine W.eq (g2 := F0 m 4 ls []) rfl ?_
  refine lv_aload_n hx hb dX1_init_4 rfl (lv_at hl 0 rfl) ?_
  refine lv_sipush (v := 128) hx hb dX1_init_5 (by decide) ?_
  refine va_newa (atype := .int) (ty := .int) (N' := 128) (a0 := (128, .inl (fun _ => 0))) hx hb (hts _ q68) rfl hK hP hD hS hA (fun _ => rfl) (by decide) rfl (Nat.le_of_ble_eq_true rfl) (Nat.le_of_ble_eq_true rfl) (Nat.le_of_ble_eq_true rfl) dX1_init_8 (fun q1 cA H hK hP hD hS => ?_)
  have hP : va_P (dC, dI) vwCl [(h0, .inr (1, [.null])), (q1, .inl (cA, 128, .inl (fun _ => 0)))] H := hP
  have hD : va_D A [(h0, .inr (1, [.null])), (q1, .inl (cA, 128, .inl (fun _ => 0)))] := hD
  have hK : va_K (dC, dI) vwCl [(cA, .int)] s := hK
  refine W.widen (k := 1) (n := 128) (by omega) (by omega) ?_
  refine va_putF (D := (dC, dI)) (ci := 1) (v := .ref q1) (ty := .array .int) (C := RX1) (T := TX1) (N := 1) hx hb hts in_X1 tyX1 tyX1_ok nmX1 hown hK hP hD hS 0 rfl rfl 0 (by decide) (hts _ q64) (fun _ h9 => h9) rfl hin rfl (by decide +kernel) rfl rfl (Nat.le_of_ble_eq_true rfl) dX1_init_10 (fun H locs hP hD hS => ?_)
  have hP : va_P (dC, dI) vwCl [(h0, .inr (1, [.ref q1])), (q1, .inl (cA, 128, .inl (fun _ => 0)))] H := hP
  have hD : va_D A [(h0, .inr (1, [.ref q1])), (q1, .inl (cA, 128, .inl (fun _ => 0)))] := hD
  exact W.vret hx hb hr (fun t ht hW => ⟨⟨(), rfl, trivial, q1, cA, by rw [ht]; exact hP, va_K.moved hW.alike hK, hD⟩, hS.F ht⟩) hS.2.2 dX1_init_13
set_option maxHeartbeats 4000000 in
set_option maxRecDepth 100000 in
/-- NibbleFieldModel.row -/
theorem metX1_row (l : Launch) (dC : Nat → ClassId) (dI : Nat → Nat → Nat) (sz : Nat) (i : Int32) : Met l yX1_row wsX1_row (({ frames := 0, cells := 0, slots := 0, locals := 0 })) (va_Pc [.int i] (fun U => U.heap.size = sz)) (va_Qi (fun (r : Int32) (_ : Unit) => r = nI (16 * ng_i i)) (fun _ _ => True) (va_A [] sz)) 0 0 (va_A [] sz) := by
  refine Met.ofW (cc := cX1_row) (maxL := 1) (ret := (some .int)) (by decide) rfl ?_
  intro p e s m args below meth c s₁ B hml hv
  obtain ⟨rfl, hsz⟩ := hv
  have hx := B.exec
  have hb := B.bytes
  have hr := B.returns
  have hts := atoms_spec (ws := wsX1_row) B.pre
  have hts : ∀ w ∈ lw_all, w.before _ s = true := fun w h => hts w (List.mem_cons_of_mem _ h)
  have hown : s.vm.findClass RX1 = some m.cls := findClass_of_methodNamed B.named
  have hlocks := B.notSynchronized
  subst hsz
  generalize hAe : va_A [] s.heap.size = A
  have hA : ∀ q : Nat, s.heap.size ≤ q → A q := fun q h => by rw [← hAe]; exact Or.inr h
  have hS : va_S A s.heap s.heap [] := va_S.rf
  have hl := lv_entry ([.int i]) (n := 1) (Nat.le_of_ble_eq_true rfl)
  rw [lg_entry_eq]
  generalize (lg_sl ([.int i]) ++ List.replicate (1 - (lg_sl ([.int i])).length) Slot.unset).toArray = ls at hl ⊢
  have hl : lv_has ls 1 [(0, .int i)] := hl
  refine lv_bipush (v := 16) hx hb dX1_row_0 (by decide) ?_
  refine lv_iload_n hx hb dX1_row_2 rfl (lv_at hl 0 rfl) ?_
  refine lv_bipush (v := 7) hx hb dX1_row_3 (by decide) ?_
  refine lv_iand hx hb dX1_row_5 ?_
  refine lv_imul hx hb dX1_row_6 ?_
  exact W.iret (v := (16 * (i &&& 7))) hx hb hr (fun t ht hW => ⟨⟨(16 * (i &&& 7)), (), rfl, (by rw [ng_i_I]; exact ng_16 _), trivial⟩, hS.F ht⟩) hS.2.2 dX1_row_7
set_option maxHeartbeats 4000000 in
set_option maxRecDepth 100000 in
/-- NibbleFieldModel.rest -/
theorem metX1_rest (l : Launch) (dC : Nat → ClassId) (dI : Nat → Nat → Nat) (sz : Nat) (a b : Int32) (hn : ¬ b = 0) : Met l yX1_rest wsX1_rest (({ frames := 0, cells := 0, slots := 0, locals := 0 })) (va_Pc [.int a, .int b] (fun U => U.heap.size = sz)) (va_Qi (fun (r : Int32) (_ : Unit) => r = (a &&& 2147483647) - (a &&& 2147483647) / b * b) (fun _ _ => True) (va_A [] sz)) 0 0 (va_A [] sz) := by
  refine Met.ofW (cc := cX1_rest) (maxL := 2) (ret := (some .int)) (by decide) rfl ?_
  intro p e s m args below meth c s₁ B hml hv
  obtain ⟨rfl, hsz⟩ := hv
  have hx := B.exec
  have hb := B.bytes
  have hr := B.returns
  have hts := atoms_spec (ws := wsX1_rest) B.pre
  have hts : ∀ w ∈ lw_all, w.before _ s = true := fun w h => hts w (List.mem_cons_of_mem _ h)
  have hown : s.vm.findClass RX1 = some m.cls := findClass_of_methodNamed B.named
  have hlocks := B.notSynchronized
  subst hsz
  generalize hAe : va_A [] s.heap.size = A
  have hA : ∀ q : Nat, s.heap.size ≤ q → A q := fun q h => by rw [← hAe]; exact Or.inr h
  have hS : va_S A s.heap s.heap [] := va_S.rf
  have hl := lv_entry ([.int a, .int b]) (n := 2) (Nat.le_of_ble_eq_true rfl)
  rw [lg_entry_eq]
  generalize (lg_sl ([.int a, .int b]) ++ List.replicate (2 - (lg_sl ([.int a, .int b])).length) Slot.unset).toArray = ls at hl ⊢
  have hl : lv_has ls 2 [(0, .int a), (1, .int b)] := hl
  refine lv_iload_n hx hb dX1_rest_0 rfl (lv_at hl 0 rfl) ?_
  refine lv_ldc (v := 2147483647) hx hb hown (hts _ q94) dX1_rest_1 ?_
  refine lv_iand hx hb dX1_rest_3 ?_
  refine lv_iload_n hx hb dX1_rest_4 rfl (lv_at hl 1 rfl) ?_
  refine lv_irem hx hb dX1_rest_5 hn ?_
  exact W.iret (v := ((a &&& 2147483647) - (a &&& 2147483647) / b * b)) hx hb hr (fun t ht hW => ⟨⟨((a &&& 2147483647) - (a &&& 2147483647) / b * b), (), rfl, rfl, trivial⟩, hS.F ht⟩) hS.2.2 dX1_rest_6
set_option maxHeartbeats 4000000 in
set_option maxRecDepth 100000 in
/-- NibbleFieldModel.part -/
theorem metX1_part (l : Launch) (dC : Nat → ClassId) (dI : Nat → Nat → Nat) (sz : Nat) (a b k : Int32) : Met l yX1_part wsX1_part (({ frames := 0, cells := 0, slots := 0, locals := 0 })) (va_Pc [.int a, .int b, .int k] (fun U => U.heap.size = sz)) (va_Qi (fun (r : Int32) (_ : Unit) => r = ng_pt a b k) (fun _ _ => True) (va_A [] sz)) 0 0 (va_A [] sz) := by
  refine Met.ofW (cc := cX1_part) (maxL := 3) (ret := (some .int)) (by decide) rfl ?_
  intro p e s m args below meth c s₁ B hml hv
  obtain ⟨rfl, hsz⟩ := hv
  have hx := B.exec
  have hb := B.bytes
  have hr := B.returns
  have hts := atoms_spec (ws := wsX1_part) B.pre
  have hts : ∀ w ∈ lw_all, w.before _ s = true := fun w h => hts w (List.mem_cons_of_mem _ h)
  have hown : s.vm.findClass RX1 = some m.cls := findClass_of_methodNamed B.named
  have hlocks := B.notSynchronized
  subst hsz
  generalize hAe : va_A [] s.heap.size = A
  have hA : ∀ q : Nat, s.heap.size ≤ q → A q := fun q h => by rw [← hAe]; exact Or.inr h
  have hS : va_S A s.heap s.heap [] := va_S.rf
  have hl := lv_entry ([.int a, .int b, .int k]) (n := 3) (Nat.le_of_ble_eq_true rfl)
  rw [lg_entry_eq]
  generalize (lg_sl ([.int a, .int b, .int k]) ++ List.replicate (3 - (lg_sl ([.int a, .int b, .int k])).length) Slot.unset).toArray = ls at hl ⊢
  have hl : lv_has ls 3 [(0, .int a), (1, .int b), (2, .int k)] := hl
  refine lv_iload_n hx hb dX1_part_0 rfl (lv_at hl 2 rfl) ?_
  refine lv_bipush (v := 8) hx hb dX1_part_1 (by decide) ?_
  refine lv_icmp_ge (tgt := 14) hx hb dX1_part_3 (by decide) (fun c3 => ?_) (fun c3 => ?_)
  · skip
    refine lv_iload_n hx hb dX1_part_14 rfl (lv_at hl 0 rfl) ?_
    refine lv_iconst (v := 4) hx hb dX1_part_15 (by decide) ?_
    refine lv_iload_n hx hb dX1_part_16 rfl (lv_at hl 2 rfl) ?_
    refine lv_bipush (v := 8) hx hb dX1_part_17 (by decide) ?_
    refine lv_isub hx hb dX1_part_19 ?_
    refine lv_imul hx hb dX1_part_20 ?_
    refine lv_ishr hx hb dX1_part_21 ?_
    refine lv_bipush (v := 15) hx hb dX1_part_22 (by decide) ?_
    refine lv_iand hx hb dX1_part_24 ?_
    exact W.iret (v := ((a >>> ((4 * (k - 8)) &&& 31)) &&& 15)) hx hb hr (fun t ht hW => ⟨⟨((a >>> ((4 * (k - 8)) &&& 31)) &&& 15), (), rfl, (by unfold ng_pt; rw [if_pos c3]), trivial⟩, hS.F ht⟩) hS.2.2 dX1_part_25
  · skip
    refine lv_iload_n hx hb dX1_part_6 rfl (lv_at hl 1 rfl) ?_
    refine lv_iconst (v := 4) hx hb dX1_part_7 (by decide) ?_
    refine lv_iload_n hx hb dX1_part_8 rfl (lv_at hl 2 rfl) ?_
    refine lv_imul hx hb dX1_part_9 ?_
    refine lv_ishr hx hb dX1_part_10 ?_
    refine lv_goto (tgt := 22) hx hb dX1_part_11 (by decide) ?_
    refine lv_bipush (v := 15) hx hb dX1_part_22 (by decide) ?_
    refine lv_iand hx hb dX1_part_24 ?_
    exact W.iret (v := ((b >>> ((4 * k) &&& 31)) &&& 15)) hx hb hr (fun t ht hW => ⟨⟨((b >>> ((4 * k) &&& 31)) &&& 15), (), rfl, (by unfold ng_pt; rw [if_neg c3]), trivial⟩, hS.F ht⟩) hS.2.2 dX1_part_25
set_option maxHeartbeats 4000000 in
set_option maxRecDepth 100000 in
/-- NibbleFieldModel.product -/
theorem metX1_product (l : Launch) (dC : Nat → ClassId) (dI : Nat → Nat → Nat) (sz : Nat) (a b : Int32) : Met l yX1_product wsX1_product (({ frames := 0, cells := 0, slots := 0, locals := 0 })) (va_Pc [.int a, .int b] (fun U => U.heap.size = sz)) (va_Qi (fun (r : Int32) (_ : Unit) => r = ng_P a b) (fun _ _ => True) (va_A [] sz)) 0 0 (va_A [] sz) := by
  refine Met.ofW (cc := cX1_product) (maxL := 4) (ret := (some .int)) (by decide) rfl ?_
  intro p e s m args below meth c s₁ B hml hv
  obtain ⟨rfl, hsz⟩ := hv
  have hx := B.exec
  have hb := B.bytes
  have hr := B.returns
  have hts := atoms_spec (ws := wsX1_product) B.pre
  have hts : ∀ w ∈ lw_all, w.before _ s = true := fun w h => hts w (List.mem_cons_of_mem _ h)
  have hown : s.vm.findClass RX1 = some m.cls := findClass_of_methodNamed B.named
  have hlocks := B.notSynchronized
  subst hsz
  generalize hAe : va_A [] s.heap.size = A
  have hA : ∀ q : Nat, s.heap.size ≤ q → A q := fun q h => by rw [← hAe]; exact Or.inr h
  have hS : va_S A s.heap s.heap [] := va_S.rf
  have hl := lv_entry ([.int a, .int b]) (n := 4) (Nat.le_of_ble_eq_true rfl)
  rw [lg_entry_eq]
  generalize (lg_sl ([.int a, .int b]) ++ List.replicate (4 - (lg_sl ([.int a, .int b])).length) Slot.unset).toArray = ls at hl ⊢
  have hl : lv_has ls 4 [(0, .int a), (1, .int b)] := hl
  refine lv_iconst (v := 0) hx hb dX1_product_0 (by decide) ?_
  refine lv_istore_n (lv' := [(2, .int 0), (0, .int a), (1, .int b)]) hx hb dX1_product_1 rfl hl (by decide) rfl (fun ls hl => ?_)
  refine lv_iconst (v := 0) hx hb dX1_product_2 (by decide) ?_
  refine lv_istore_n (lv' := [(3, .int 0), (2, .int 0), (0, .int a), (1, .int b)]) hx hb dX1_product_3 rfl hl (by decide) rfl (fun ls hl => ?_)
  have it1 : ∀ (md x3 x3' : Int32), ¬ 4 ≤ x3 → x3 + 1 = x3' → ∀ (ls : Array Slot), lv_has ls 4 [(3, .int x3), (2, .int md), (0, .int a), (1, .int b)] → (∀ ls : Array Slot, lv_has ls 4 [(3, .int x3'), (2, .int (ng_ps md a b x3)), (0, .int a), (1, .int b)] → W p l e (headSpec wsX1_product (({ frames := 0, cells := 0, slots := 0, locals := 0 }))).room s m ([.int a, .int b] : List Value).toArray below meth c s.heap [] 0 0 (MQ below (va_Qi (fun (r : Int32) (_ : Unit) => r = ng_P a b) (fun _ _ => True) A) ([.int a, .int b] : List Value).toArray s 0 0 A) (F0 m 4 ls [])) → W p l e (headSpec wsX1_product (({ frames := 0, cells := 0, slots := 0, locals := 0 }))).room s m ([.int a, .int b] : List Value).toArray below meth c s.heap [] 0 0 (MQ below (va_Qi (fun (r : Int32) (_ : Unit) => r = ng_P a b) (fun _ _ => True) A) ([.int a, .int b] : List Value).toArray s 0 0 A) (F0 m 4 ls []) := by
    intro md x3 x3' h4 hx3 ls hl kk
    refine lv_iload_n hx hb dX1_product_4 rfl (lv_at hl 0 rfl) ?_
    refine lv_iconst (v := 4) hx hb dX1_product_5 (by decide) ?_
    refine lv_icmp_ge (tgt := 34) hx hb dX1_product_6 (by decide) (fun c6 => ?_) (fun c6 => ?_)
    · skip
      exact absurd c6 h4
    · skip
      have hj : ∀ (z : Int32), md ^^^ z = ng_ps md a b x3 → W p l e (headSpec wsX1_product (({ frames := 0, cells := 0, slots := 0, locals := 0 }))).room s m ([.int a, .int b] : List Value).toArray below meth c s.heap [] 0 0 (MQ below (va_Qi (fun (r : Int32) (_ : Unit) => r = ng_P a b) (fun _ _ => True) A) ([.int a, .int b] : List Value).toArray s 0 0 A) (F0 m 26 ls [.int z, .int md]) := by
        intro z hz
        refine lv_ixor hx hb dX1_product_26 ?_
        rw [hz]
        refine lv_topi (fun v27 ev27 => ?_)
        refine lv_istore_n (lv' := [(2, .int v27), (3, .int x3), (0, .int a), (1, .int b)]) hx hb dX1_product_27 rfl hl (by decide) rfl (fun ls hl => ?_)
        obtain ⟨v28, ev28⟩ : ∃ y : Int32, y = x3 + 1 := ⟨_, rfl⟩
        refine lv_iinc (v := v28) (lv' := [(3, .int v28), (2, .int v27), (0, .int a), (1, .int b)]) hx hb dX1_product_28 hl (k := 1) rfl (by rw [ev28]; rfl) (by decide) rfl (fun ls hl => ?_)
        refine lv_goto (tgt := 4) hx hb dX1_product_31 (by decide) ?_
        rw [ev27] at hl
        rw [ev28, hx3] at hl
        exact kk ls hl
      refine lv_iload_n hx hb dX1_product_9 rfl (lv_at hl 1 rfl) ?_
      refine lv_iload_n hx hb dX1_product_10 rfl (lv_at hl 2 rfl) ?_
      refine lv_iload_n hx hb dX1_product_11 rfl (lv_at hl 0 rfl) ?_
      refine lv_ishr hx hb dX1_product_12 ?_
      refine lv_iconst (v := 1) hx hb dX1_product_13 (by decide) ?_
      refine lv_iand hx hb dX1_product_14 ?_
      refine lv_iconst (v := 1) hx hb dX1_product_15 (by decide) ?_
      refine lv_icmp_ne (tgt := 25) hx hb dX1_product_16 (by decide) (fun c16 => ?_) (fun c16 => ?_)
      · skip
        refine lv_iconst (v := 0) hx hb dX1_product_25 (by decide) ?_
        exact hj _ (by unfold ng_ps; rw [if_neg c16])
      · skip
        refine lv_iload_n hx hb dX1_product_19 rfl (lv_at hl 3 rfl) ?_
        refine lv_iload_n hx hb dX1_product_20 rfl (lv_at hl 0 rfl) ?_
        refine lv_ishl hx hb dX1_product_21 ?_
        refine lv_goto (tgt := 26) hx hb dX1_product_22 (by decide) ?_
        exact hj _ (by unfold ng_ps; rw [if_pos c16])
  have it2 : ∀ (md x3 x3' : Int32), ¬ x3 ≤ 3 → x3 + (-1) = x3' → ∀ (ls : Array Slot), lv_has ls 4 [(3, .int x3), (2, .int md)] → (∀ ls : Array Slot, lv_has ls 4 [(3, .int x3'), (2, .int (ng_pq md x3))] → W p l e (headSpec wsX1_product (({ frames := 0, cells := 0, slots := 0, locals := 0 }))).room s m ([.int a, .int b] : List Value).toArray below meth c s.heap [] 0 0 (MQ below (va_Qi (fun (r : Int32) (_ : Unit) => r = ng_P a b) (fun _ _ => True) A) ([.int a, .int b] : List Value).toArray s 0 0 A) (F0 m 37 ls [])) → W p l e (headSpec wsX1_product (({ frames := 0, cells := 0, slots := 0, locals := 0 }))).room s m ([.int a, .int b] : List Value).toArray below meth c s.heap [] 0 0 (MQ below (va_Qi (fun (r : Int32) (_ : Unit) => r = ng_P a b) (fun _ _ => True) A) ([.int a, .int b] : List Value).toArray s 0 0 A) (F0 m 37 ls []) := by
    intro md x3 x3' h4 hx3 ls hl kk
    refine lv_iload_n hx hb dX1_product_37 rfl (lv_at hl 0 rfl) ?_
    refine lv_iconst (v := 3) hx hb dX1_product_38 (by decide) ?_
    refine lv_icmp_le (tgt := 79) hx hb dX1_product_39 (by decide) (fun c39 => ?_) (fun c39 => ?_)
    · skip
      exact absurd c39 h4
    · skip
      have hj : ∀ (z : Int32), z = ng_pq md x3 → W p l e (headSpec wsX1_product (({ frames := 0, cells := 0, slots := 0, locals := 0 }))).room s m ([.int a, .int b] : List Value).toArray below meth c s.heap [] 0 0 (MQ below (va_Qi (fun (r : Int32) (_ : Unit) => r = ng_P a b) (fun _ _ => True) A) ([.int a, .int b] : List Value).toArray s 0 0 A) (F0 m 72 ls [.int z]) := by
        intro z hz
        refine lv_istore_n (lv' := [(2, .int z), (3, .int x3)]) hx hb dX1_product_72 rfl hl (by decide) rfl (fun ls hl => ?_)
        obtain ⟨v73, ev73⟩ : ∃ y : Int32, y = x3 + (-1) := ⟨_, rfl⟩
        refine lv_iinc (v := v73) (lv' := [(3, .int v73), (2, .int z)]) hx hb dX1_product_73 hl (k := 1) rfl (by rw [ev73]; rfl) (by decide) rfl (fun ls hl => ?_)
        refine lv_goto (tgt := 37) hx hb dX1_product_76 (by decide) ?_
        rw [hz, ev73, hx3] at hl
        exact kk ls hl
      refine lv_iload_n hx hb dX1_product_42 rfl (lv_at hl 1 rfl) ?_
      refine lv_iload_n hx hb dX1_product_43 rfl (lv_at hl 0 rfl) ?_
      refine lv_ishr hx hb dX1_product_44 ?_
      refine lv_iconst (v := 1) hx hb dX1_product_45 (by decide) ?_
      refine lv_iand hx hb dX1_product_46 ?_
      refine lv_iconst (v := 1) hx hb dX1_product_47 (by decide) ?_
      refine lv_icmp_ne (tgt := 71) hx hb dX1_product_48 (by decide) (fun c48 => ?_) (fun c48 => ?_)
      · skip
        refine lv_iload_n hx hb dX1_product_71 rfl (lv_at hl 1 rfl) ?_
        exact hj _ (by unfold ng_pq; rw [if_neg c48])
      · skip
        refine lv_iload_n hx hb dX1_product_51 rfl (lv_at hl 1 rfl) ?_
        refine lv_iconst (v := 1) hx hb dX1_product_52 (by decide) ?_
        refine lv_iload_n hx hb dX1_product_53 rfl (lv_at hl 0 rfl) ?_
        refine lv_ishl hx hb dX1_product_54 ?_
        refine lv_ixor hx hb dX1_product_55 ?_
        refine lv_iconst (v := 1) hx hb dX1_product_56 (by decide) ?_
        refine lv_iload_n hx hb dX1_product_57 rfl (lv_at hl 0 rfl) ?_
        refine lv_iconst (v := 3) hx hb dX1_product_58 (by decide) ?_
        refine lv_isub hx hb dX1_product_59 ?_
        refine lv_ishl hx hb dX1_product_60 ?_
        refine lv_ixor hx hb dX1_product_61 ?_
        refine lv_iconst (v := 1) hx hb dX1_product_62 (by decide) ?_
        refine lv_iload_n hx hb dX1_product_63 rfl (lv_at hl 0 rfl) ?_
        refine lv_iconst (v := 4) hx hb dX1_product_64 (by decide) ?_
        refine lv_isub hx hb dX1_product_65 ?_
        refine lv_ishl hx hb dX1_product_66 ?_
        refine lv_ixor hx hb dX1_product_67 ?_
        refine lv_goto (tgt := 72) hx hb dX1_product_68 (by decide) ?_
        exact hj _ (by unfold ng_pq; rw [if_pos c48])
  refine it1 0 0 1 (by decide) (by decide) ls (lv_sub hl [0, 1, 2, 3] rfl) (fun ls hl => ?_)
  refine it1 _ 1 2 (by decide) (by decide) ls hl (fun ls hl => ?_)
  refine it1 _ 2 3 (by decide) (by decide) ls hl (fun ls hl => ?_)
  refine it1 _ 3 4 (by decide) (by decide) ls hl (fun ls hl => ?_)
  obtain ⟨md, emd⟩ : ∃ z, z = ng_ps (ng_ps (ng_ps (ng_ps 0 a b 0) a b 1) a b 2) a b 3 := ⟨_, rfl⟩
  rw [← emd] at hl
  refine lv_iload_n hx hb dX1_product_4 rfl (lv_at hl 0 rfl) ?_
  refine lv_iconst (v := 4) hx hb dX1_product_5 (by decide) ?_
  refine lv_icmp_ge (tgt := 34) hx hb dX1_product_6 (by decide) (fun c6 => ?_) (fun c6 => ?_)
  · skip
    refine lv_bipush (v := 6) hx hb dX1_product_34 (by decide) ?_
    refine lv_istore_n (lv' := [(3, .int 6), (2, .int md), (0, .int a), (1, .int b)]) hx hb dX1_product_36 rfl hl (by decide) rfl (fun ls hl => ?_)
    refine it2 md 6 5 (by decide) (by decide) ls (lv_sub hl [0, 1] rfl) (fun ls hl => ?_)
    refine it2 _ 5 4 (by decide) (by decide) ls hl (fun ls hl => ?_)
    refine it2 _ 4 3 (by decide) (by decide) ls hl (fun ls hl => ?_)
    obtain ⟨me, eme⟩ : ∃ z, z = ng_pq (ng_pq (ng_pq md 6) 5) 4 := ⟨_, rfl⟩
    rw [← eme] at hl
    refine lv_iload_n hx hb dX1_product_37 rfl (lv_at hl 0 rfl) ?_
    refine lv_iconst (v := 3) hx hb dX1_product_38 (by decide) ?_
    refine lv_icmp_le (tgt := 79) hx hb dX1_product_39 (by decide) (fun c39 => ?_) (fun c39 => ?_)
    · skip
      refine lv_iload_n hx hb dX1_product_79 rfl (lv_at hl 1 rfl) ?_
      exact W.iret (v := me) hx hb hr (fun t ht hW => ⟨⟨me, (), rfl, (by rw [eme, emd]; rfl), trivial⟩, hS.F ht⟩) hS.2.2 dX1_product_80
    · skip
      exact absurd (by decide) c39
  · skip
    exact absurd (by decide) c6
set_option maxHeartbeats 4000000 in
set_option maxRecDepth 100000 in
/-- NibbleFieldModel.eight -/
theorem metX1_eight (l : Launch) (dC : Nat → ClassId) (dI : Nat → Nat → Nat) (sz : Nat) (h0 : Nat) (a b d : Int32) : Met l yX1_eight wsX1_eight (({ frames := 1, cells := 0, slots := 0, locals := 23 })) (va_Pc [.ref h0, .int a, .int b, .int d] (fun U => U.heap.size = sz)) (va_Ql (fun (r : Int64) (_ : Unit) => r = ng_E a b d) (fun _ _ => True) (va_A [] sz)) 0 0 (va_A [] sz) := by
  refine Met.ofW (cc := cX1_eight) (maxL := 7) (ret := (some .long)) (by decide) rfl ?_
  intro p e s m args below meth c s₁ B hml hv
  obtain ⟨rfl, hsz⟩ := hv
  have hx := B.exec
  have hb := B.bytes
  have hr := B.returns
  have hts := atoms_spec (ws := wsX1_eight) B.pre
  have hts : ∀ w ∈ lw_all, w.before _ s = true := fun w h => hts w (List.mem_cons_of_mem _ h)
  have hown : s.vm.findClass RX1 = some m.cls := findClass_of_methodNamed B.named
  have hlocks := B.notSynchronized
  subst hsz
  generalize hAe : va_A [] s.heap.size = A
  have hA : ∀ q : Nat, s.heap.size ≤ q → A q := fun q h => by rw [← hAe]; exact Or.inr h
  have hS : va_S A s.heap s.heap [] := va_S.rf
  have hl := lv_entry ([.ref h0, .int a, .int b, .int d]) (n := 7) (Nat.le_of_ble_eq_true rfl)
  rw [lg_entry_eq]
  generalize (lg_sl ([.ref h0, .int a, .int b, .int d]) ++ List.replicate (7 - (lg_sl ([.ref h0, .int a, .int b, .int d])).length) Slot.unset).toArray = ls at hl ⊢
  have hl : lv_has ls 7 [(0, .ref h0), (1, .int a), (2, .int b), (3, .int d)] := hl
  refine lv_lconst (v := 0) hx hb dX1_eight_0 (by decide) ?_
  refine lv_lstore (lv' := [(4, .long 0), (0, .ref h0), (1, .int a), (2, .int b), (3, .int d)]) hx hb dX1_eight_1 hl (by decide) rfl (fun ls hl => ?_)
  refine lv_bipush (v := 14) hx hb dX1_eight_3 (by decide) ?_
  refine lv_istore (lv' := [(6, .int 14), (4, .long 0), (0, .ref h0), (1, .int a), (2, .int b), (3, .int d)]) hx hb dX1_eight_5 hl (by decide) rfl (fun ls hl => ?_)
  have it1 : ∀ (md : Int64) (x6 x6' : Int32), ¬ x6 < 0 → x6 + (-2) = x6' → ∀ (H : Heap) (locs : List Loc), va_S A s.heap H locs → ∀ (ls : Array Slot), lv_has ls 7 [(6, .int x6), (4, .long md), (1, .int a), (2, .int b), (3, .int d)] → (∀ (H : Heap) (locs : List Loc), va_S A s.heap H locs → ∀ ls : Array Slot, lv_has ls 7 [(6, .int x6'), (4, .long (ng_e md a b d x6)), (1, .int a), (2, .int b), (3, .int d)] → W p l e (headSpec wsX1_eight (({ frames := 1, cells := 0, slots := 0, locals := 23 }))).room s m ([.ref h0, .int a, .int b, .int d] : List Value).toArray below meth c H locs 0 0 (MQ below (va_Ql (fun (r : Int64) (_ : Unit) => r = ng_E a b d) (fun _ _ => True) A) ([.ref h0, .int a, .int b, .int d] : List Value).toArray s 0 0 A) (F0 m 7 ls [])) → W p l e (headSpec wsX1_eight (({ frames := 1, cells := 0, slots := 0, locals := 23 }))).room s m ([.ref h0, .int a, .int b, .int d] : List Value).toArray below meth c H locs 0 0 (MQ below (va_Ql (fun (r : Int64) (_ : Unit) => r = ng_E a b d) (fun _ _ => True) A) ([.ref h0, .int a, .int b, .int d] : List Value).toArray s 0 0 A) (F0 m 7 ls []) := by
    intro md x6 x6' h6 hx6 H locs hS ls hl kk
    refine lv_iload hx hb dX1_eight_7 (lv_at hl 0 rfl) ?_
    refine lv_if_lt (tgt := 42) hx hb dX1_eight_9 (by decide) (fun c9 => ?_) (fun c9 => ?_)
    · skip
      exact absurd c9 h6
    · skip
      refine lv_ldc2 (v := 256) hx hb hown (hts _ q73) dX1_eight_12 ?_
      refine lv_lload hx hb dX1_eight_15 (lv_at hl 1 rfl) ?_
      refine lv_lmul hx hb dX1_eight_17 ?_
      refine lv_iload_n hx hb dX1_eight_18 rfl (lv_at hl 2 rfl) ?_
      refine lv_bipush (v := 15) hx hb dX1_eight_19 (by decide) ?_
      refine lv_iand hx hb dX1_eight_21 ?_
      refine lv_iload_n hx hb dX1_eight_22 rfl (lv_at hl 3 rfl) ?_
      refine lv_iload_n hx hb dX1_eight_23 rfl (lv_at hl 4 rfl) ?_
      refine lv_iload hx hb dX1_eight_24 (lv_at hl 0 rfl) ?_
      have hFc := ng_free hS hA
      refine va_calli (va_runS (As := [.int b, .int d, .int x6]) (rest := [.int (a &&& 15), .long (256 * md)]) ⟨hx, hb, hml, hown, hts⟩ (metX1_part l dC dI H.size b d x6) (va_cwS 3 hts (lw_S q74 q75 q2 q76) rfl rfl rfl (by decide +kernel) ⟨Nat.le_of_ble_eq_true rfl, Nat.le_of_ble_eq_true rfl⟩) ⟨fun a U g mk q => q, fun U hU hW => ⟨rfl, congrArg Array.size hU⟩⟩ rfl rfl hl.1 rfl (lv_room (Nat.le_of_ble_eq_true rfl)) dX1_eight_26 ⟨Nat.le_of_ble_eq_true rfl, Nat.le_of_ble_eq_true rfl⟩) hS (fun q _ h => hFc q h) hFc (fun r26 u t H1 locs ht hvm hw26 hB hz1 hk1 hS => ?_)
      generalize H1 = H at hS ⊢
      have hFc := ng_free hS hA
      refine va_calli (va_runS (As := [.int (a &&& 15), .int r26]) (rest := [.long (256 * md)]) ⟨hx, hb, hml, hown, hts⟩ (metX1_product l dC dI H.size (a &&& 15) r26) (va_cwS 2 hts (lw_S q77 q78 q2 q79) rfl rfl rfl (by decide +kernel) ⟨Nat.le_of_ble_eq_true rfl, Nat.le_of_ble_eq_true rfl⟩) ⟨fun a U g mk q => q, fun U hU hW => ⟨rfl, congrArg Array.size hU⟩⟩ rfl rfl hl.1 rfl (lv_room (Nat.le_of_ble_eq_true rfl)) dX1_eight_29 ⟨Nat.le_of_ble_eq_true rfl, Nat.le_of_ble_eq_true rfl⟩) hS (fun q _ h => hFc q h) hFc (fun r29 u t H1 locs ht hvm hw29 hB hz1 hk1 hS => ?_)
      generalize H1 = H at hS ⊢
      refine lv_i2l (v := r29.toInt64) hx hb dX1_eight_32 rfl ?_
      refine lv_ladd hx hb dX1_eight_33 ?_
      refine lv_topl (fun v34 ev34 => ?_)
      refine lv_lstore (lv' := [(4, .long v34), (6, .int x6), (1, .int a), (2, .int b), (3, .int d)]) hx hb dX1_eight_34 hl (by decide) rfl (fun ls hl => ?_)
      obtain ⟨v36, ev36⟩ : ∃ y : Int32, y = x6 + (-2) := ⟨_, rfl⟩
      refine lv_iinc (v := v36) (lv' := [(6, .int v36), (4, .long v34), (1, .int a), (2, .int b), (3, .int d)]) hx hb dX1_eight_36 hl (k := 1) rfl (by rw [ev36]; rfl) (by decide) rfl (fun ls hl => ?_)
      refine lv_goto (tgt := 7) hx hb dX1_eight_39 (by decide) ?_
      have e34 : v34 = ng_e md a b d x6 := by rw [ev34, hw29, hw26]; rfl
      rw [e34, ev36, hx6] at hl
      exact kk H locs hS ls (lv_sub hl [0, 1, 2, 3, 4] rfl)
  refine it1 0 14 12 (by decide) (by decide) _ _ hS ls (lv_sub hl [0, 1, 3, 4, 5] rfl) (fun H locs hS ls hl => ?_)
  refine it1 _ 12 10 (by decide) (by decide) _ _ hS ls hl (fun H locs hS ls hl => ?_)
  refine it1 _ 10 8 (by decide) (by decide) _ _ hS ls hl (fun H locs hS ls hl => ?_)
  refine it1 _ 8 6 (by decide) (by decide) _ _ hS ls hl (fun H locs hS ls hl => ?_)
  refine it1 _ 6 4 (by decide) (by decide) _ _ hS ls hl (fun H locs hS ls hl => ?_)
  refine it1 _ 4 2 (by decide) (by decide) _ _ hS ls hl (fun H locs hS ls hl => ?_)
  refine it1 _ 2 0 (by decide) (by decide) _ _ hS ls hl (fun H locs hS ls hl => ?_)
  refine it1 _ 0 (-2) (by decide) (by decide) _ _ hS ls hl (fun H locs hS ls hl => ?_)
  obtain ⟨me, eme⟩ : ∃ z, z = ng_E a b d := ⟨_, rfl⟩
  have hl : lv_has ls 7 [(6, .int (-2)), (4, .long me)] := by rw [eme]; exact lv_sub hl [0, 1] rfl
  refine lv_iload hx hb dX1_eight_7 (lv_at hl 0 rfl) ?_
  refine lv_if_lt (tgt := 42) hx hb dX1_eight_9 (by decide) (fun c9 => ?_) (fun c9 => ?_)
  · skip
    refine lv_lload hx hb dX1_eight_42 (lv_at hl 1 rfl) ?_
    exact W.lret (v := me) hx hb hr (fun t ht hW => ⟨⟨me, (), rfl, eme, trivial⟩, hS.F ht⟩) hS.2.2 dX1_eight_44
  · skip
    exact absurd (by decide) c9
end
section
set_option maxHeartbeats 4000000 in
set_option maxRecDepth 100000 in
/-- NibbleFieldModel.one -/
theorem metX1_one (l : Launch) (dC : Nat → ClassId) (dI : Nat → Nat → Nat) (sz : Nat) (h0 a0 : Nat) (d0 : ClassId) (f : Nat → Int32) (i k : Int32) : Met l yX1_one wsX1_one (({ frames := 1, cells := 0, slots := 0, locals := 20 })) (va_Pc [.ref h0, .int i, .int k] (fun U => U.heap.size = sz ∧ va_P (dC, dI) vwCl [(h0, .inr (1, [.ref a0])), (a0, .inl (d0, 128, .inl f))] U.heap ∧ va_K (dC, dI) vwCl [(d0, .int)] U)) (va_Qi (fun (r : Int32) (_ : Unit) => r = f (16 * ng_i i + ng_at k)) (fun _ _ => True) (va_A [] sz)) 0 0 (va_A [] sz) := by
  refine Met.ofW (cc := cX1_one) (maxL := 3) (ret := (some .int)) (by decide) rfl ?_
  intro p e s m args below meth c s₁ B hml hv
  obtain ⟨rfl, hsz, hP, hK⟩ := hv
  have hx := B.exec
  have hb := B.bytes
  have hr := B.returns
  have hts := atoms_spec (ws := wsX1_one) B.pre
  have hts : ∀ w ∈ lw_all, w.before _ s = true := fun w h => hts w (List.mem_cons_of_mem _ h)
  have hown : s.vm.findClass RX1 = some m.cls := findClass_of_methodNamed B.named
  have hlocks := B.notSynchronized
  subst hsz
  generalize hAe : va_A [] s.heap.size = A
  have hA : ∀ q : Nat, s.heap.size ≤ q → A q := fun q h => by rw [← hAe]; exact Or.inr h
  have hS : va_S A s.heap s.heap [] := va_S.rf
  have hP : va_P (dC, dI) vwCl [(h0, .inr (1, [.ref a0])), (a0, .inl (d0, 128, .inl f))] s.heap := hP
  have hl := lv_entry ([.ref h0, .int i, .int k]) (n := 3) (Nat.le_of_ble_eq_true rfl)
  rw [lg_entry_eq]
  generalize (lg_sl ([.ref h0, .int i, .int k]) ++ List.replicate (3 - (lg_sl ([.ref h0, .int i, .int k])).length) Slot.unset).toArray = ls at hl ⊢
  have hl : lv_has ls 3 [(0, .ref h0), (1, .int i), (2, .int k)] := hl
  have h8 := ng_i_lt i
  have h16 := ng_at_lt k
  refine lv_aload_n hx hb dX1_one_0 rfl (lv_at hl 0 rfl) ?_
  refine va_get (D := (dC, dI)) (ci := 1) (v := .ref a0) (C := RX1) (T := TX1) (N := 1) hx hb hts in_X1 hown hK hP 0 rfl rfl 0 (by decide) (hts _ q64) (fun _ h9 => h9) rfl dX1_one_1 ?_
  refine lv_iload_n hx hb dX1_one_4 rfl (lv_at hl 1 rfl) ?_
  have hFc := ng_free hS hA
  refine va_calli (va_runS (As := [.int i]) (rest := [.ref a0]) ⟨hx, hb, hml, hown, hts⟩ (metX1_row l dC dI s.heap.size i) (va_cwS 1 hts (lw_S q84 q85 q2 q86) rfl rfl rfl (by decide +kernel) ⟨Nat.le_of_ble_eq_true rfl, Nat.le_of_ble_eq_true rfl⟩) ⟨fun a U g mk q => q, fun U hU hW => ⟨rfl, congrArg Array.size hU⟩⟩ rfl rfl hl.1 rfl (lv_room (Nat.le_of_ble_eq_true rfl)) dX1_one_5 ⟨Nat.le_of_ble_eq_true rfl, Nat.le_of_ble_eq_true rfl⟩) hS (fun q _ h => hFc q h) hFc (fun r5 u t H1 locs ht hvm hw5 hB hz1 hk1 hS => ?_)
  have hP := ng_keep hP hk1
  generalize H1 = H at hP hS ⊢
  refine lv_iload_n hx hb dX1_one_8 rfl (lv_at hl 2 rfl) ?_
  refine lv_bipush (v := 15) hx hb dX1_one_9 (by decide) ?_
  refine lv_iand hx hb dX1_one_11 ?_
  refine lv_iadd hx hb dX1_one_12 ?_
  have ex : r5 + (k &&& 15) = nI (16 * ng_i i + ng_at k) := by rw [hw5, ng_at_I]; exact nI_add _ _
  rw [ex]
  refine va_iald hx hb hK hP 1 0 rfl rfl (vp_in_nI (by omega) (by omega)) dX1_one_13 ?_
  rw [nI_clamp (by omega)]
  exact W.iret (v := (f (16 * ng_i i + ng_at k))) hx hb hr (fun t ht hW => ⟨⟨(f (16 * ng_i i + ng_at k)), (), rfl, rfl, trivial⟩, hS.F ht⟩) hS.2.2 dX1_one_14
set_option maxHeartbeats 4000000 in
set_option maxRecDepth 100000 in
/-- NibbleFieldModel.get -/
theorem metX1_get (l : Launch) (dC : Nat → ClassId) (dI : Nat → Nat → Nat) (sz : Nat) (h0 a0 : Nat) (d0 : ClassId) (f : Nat → Int32) (i : Int32) : Met l yX1_get wsX1_get (({ frames := 1, cells := 0, slots := 0, locals := 20 })) (va_Pc [.ref h0, .int i] (fun U => U.heap.size = sz ∧ va_P (dC, dI) vwCl [(h0, .inr (1, [.ref a0])), (a0, .inl (d0, 128, .inl f))] U.heap ∧ va_K (dC, dI) vwCl [(d0, .int)] U)) (va_Ql (fun (r : Int64) (_ : Unit) => r = ng_G (fun z => f (16 * ng_i i + z)) 16) (fun _ _ => True) (va_A [] sz)) 0 0 (va_A [] sz) := by
  refine Met.ofW (cc := cX1_get) (maxL := 5) (ret := (some .long)) (by decide) rfl ?_
  intro p e s m args below meth c s₁ B hml hv
  obtain ⟨rfl, hsz, hP, hK⟩ := hv
  have hx := B.exec
  have hb := B.bytes
  have hr := B.returns
  have hts := atoms_spec (ws := wsX1_get) B.pre
  have hts : ∀ w ∈ lw_all, w.before _ s = true := fun w h => hts w (List.mem_cons_of_mem _ h)
  have hown : s.vm.findClass RX1 = some m.cls := findClass_of_methodNamed B.named
  have hlocks := B.notSynchronized
  subst hsz
  generalize hAe : va_A [] s.heap.size = A
  have hA : ∀ q : Nat, s.heap.size ≤ q → A q := fun q h => by rw [← hAe]; exact Or.inr h
  have hS : va_S A s.heap s.heap [] := va_S.rf
  have hP : va_P (dC, dI) vwCl [(h0, .inr (1, [.ref a0])), (a0, .inl (d0, 128, .inl f))] s.heap := hP
  have hl := lv_entry ([.ref h0, .int i]) (n := 5) (Nat.le_of_ble_eq_true rfl)
  rw [lg_entry_eq]
  generalize (lg_sl ([.ref h0, .int i]) ++ List.replicate (5 - (lg_sl ([.ref h0, .int i])).length) Slot.unset).toArray = ls at hl ⊢
  have hl : lv_has ls 5 [(0, .ref h0), (1, .int i)] := hl
  have h8 := ng_i_lt i
  refine lv_lconst (v := 0) hx hb dX1_get_0 (by decide) ?_
  refine lv_lstore_n (lv' := [(2, .long 0), (0, .ref h0), (1, .int i)]) hx hb dX1_get_1 rfl hl (by decide) rfl (fun ls hl => ?_)
  refine lv_bipush (v := 15) hx hb dX1_get_2 (by decide) ?_
  refine lv_istore (lv' := [(4, .int 15), (2, .long 0), (0, .ref h0), (1, .int i)]) hx hb dX1_get_4 hl (by decide) rfl (fun ls hl => ?_)
  have loop : ∀ (y : Nat) (x4 : Int32) (md : Int64), y ≤ 16 → x4 = nI y + (-1) → md = ng_G (fun z => f (16 * ng_i i + z)) (16 - y) → ∀ (H : Heap) (locs : List Loc), va_P (dC, dI) vwCl [(h0, .inr (1, [.ref a0])), (a0, .inl (d0, 128, .inl f))] H → va_S A s.heap H locs → ∀ (ls : Array Slot), lv_has ls 5 [(4, .int x4), (2, .long md), (0, .ref h0), (1, .int i)] → W p l e (headSpec wsX1_get (({ frames := 1, cells := 0, slots := 0, locals := 20 }))).room s m ([.ref h0, .int i] : List Value).toArray below meth c H locs 0 0 (MQ below (va_Ql (fun (r : Int64) (_ : Unit) => r = ng_G (fun z => f (16 * ng_i i + z)) 16) (fun _ _ => True) A) ([.ref h0, .int i] : List Value).toArray s 0 0 A) (F0 m 6 ls []) := by
    intro y
    induction y with
    | zero =>
      intro x4 md hy e4 eg H locs hP hS ls hl
      refine lv_iload hx hb dX1_get_6 (lv_at hl 0 rfl) ?_
      refine lv_if_lt (tgt := 35) hx hb dX1_get_8 (by decide) (fun c8 => ?_) (fun c8 => ?_)
      · skip
        refine lv_lload_n hx hb dX1_get_35 rfl (lv_at hl 1 rfl) ?_
        exact W.lret (v := md) hx hb hr (fun t ht hW => ⟨⟨md, (), rfl, eg, trivial⟩, hS.F ht⟩) hS.2.2 dX1_get_36
      · skip
        exact absurd (by rw [e4]; decide) c8
    | succ y ih =>
      intro x4 md hy e4 eg H locs hP hS ls hl
      rw [pk_m1] at e4
      refine lv_iload hx hb dX1_get_6 (lv_at hl 0 rfl) ?_
      refine lv_if_lt (tgt := 35) hx hb dX1_get_8 (by decide) (fun c8 => ?_) (fun c8 => ?_)
      · skip
        exact absurd (by rw [← e4]; exact c8) (nI_pos (show y < 2 ^ 31 by omega))
      · skip
        refine lv_lload_n hx hb dX1_get_11 rfl (lv_at hl 1 rfl) ?_
        refine lv_iconst (v := 4) hx hb dX1_get_12 (by decide) ?_
        refine lv_lshl (v := ng_shl md 4) hx hb dX1_get_13 rfl ?_
        refine lv_aload_n hx hb dX1_get_14 rfl (lv_at hl 2 rfl) ?_
        refine va_get (D := (dC, dI)) (ci := 1) (v := .ref a0) (C := RX1) (T := TX1) (N := 1) hx hb hts in_X1 hown hK hP 0 rfl rfl 0 (by decide) (hts _ q64) (fun _ h9 => h9) rfl dX1_get_15 ?_
        refine lv_iload_n hx hb dX1_get_18 rfl (lv_at hl 3 rfl) ?_
        have hFc := ng_free hS hA
        refine va_calli (va_runS (As := [.int i]) (rest := [.ref a0, .long (ng_shl md 4)]) ⟨hx, hb, hml, hown, hts⟩ (metX1_row l dC dI H.size i) (va_cwS 1 hts (lw_S q84 q85 q2 q86) rfl rfl rfl (by decide +kernel) ⟨Nat.le_of_ble_eq_true rfl, Nat.le_of_ble_eq_true rfl⟩) ⟨fun a U g mk q => q, fun U hU hW => ⟨rfl, congrArg Array.size hU⟩⟩ rfl rfl hl.1 rfl (lv_room (Nat.le_of_ble_eq_true rfl)) dX1_get_19 ⟨Nat.le_of_ble_eq_true rfl, Nat.le_of_ble_eq_true rfl⟩) hS (fun q _ h => hFc q h) hFc (fun r19 u t H1 locs ht hvm hw19 hB hz1 hk1 hS => ?_)
        have hP := ng_keep hP hk1
        generalize H1 = H at hP hS ⊢
        refine lv_iload hx hb dX1_get_22 (lv_at hl 0 rfl) ?_
        refine lv_iadd hx hb dX1_get_24 ?_
        have ex : r19 + x4 = nI (16 * ng_i i + y) := by rw [hw19, e4]; exact nI_add _ _
        rw [ex]
        refine va_iald hx hb hK hP 1 0 rfl rfl (vp_in_nI (by omega) (by omega)) dX1_get_25 ?_
        rw [nI_clamp (by omega)]
        refine lv_i2l (v := (f (16 * ng_i i + y)).toInt64) hx hb dX1_get_26 rfl ?_
        refine lv_lor hx hb dX1_get_27 ?_
        refine lv_topl (fun v28 ev28 => ?_)
        refine lv_lstore_n (lv' := [(2, .long v28), (4, .int x4), (0, .ref h0), (1, .int i)]) hx hb dX1_get_28 rfl hl (by decide) rfl (fun ls hl => ?_)
        obtain ⟨v29, ev29⟩ : ∃ y : Int32, y = x4 + (-1) := ⟨_, rfl⟩
        refine lv_iinc (v := v29) (lv' := [(4, .int v29), (2, .long v28), (0, .ref h0), (1, .int i)]) hx hb dX1_get_29 hl (k := 1) rfl (by rw [ev29]; rfl) (by decide) rfl (fun ls hl => ?_)
        refine lv_goto (tgt := 6) hx hb dX1_get_32 (by decide) ?_
        refine ih v29 v28 (by omega) (by rw [ev29, e4]) ?_ H locs hP hS ls (lv_sub hl [0, 1, 2, 3] rfl)
        rw [ev28, eg, show 16 - y = (16 - (y + 1)) + 1 by omega]
        show _ = ng_shl (ng_G _ (16 - (y + 1))) 4 ||| (f (16 * ng_i i + (15 - (16 - (y + 1))))).toInt64
        rw [show 15 - (16 - (y + 1)) = y by omega]
  exact loop 16 15 0 (Nat.le_refl _) (by decide) rfl _ _ hP hS ls (lv_sub hl [0, 1, 2, 3] rfl)
set_option maxHeartbeats 4000000 in
set_option maxRecDepth 100000 in
/-- NibbleFieldModel.set -/
theorem metX1_set (l : Launch) (dC : Nat → ClassId) (dI : Nat → Nat → Nat) (sz : Nat) (h0 a0 : Nat) (d0 : ClassId) (f : Nat → Int32) (i b d : Int32) : Met l yX1_set wsX1_set (({ frames := 1, cells := 0, slots := 0, locals := 22 })) (va_Pc [.ref h0, .int i, .int b, .int d] (fun U => U.heap.size = sz ∧ va_P (dC, dI) vwCl [(h0, .inr (1, [.ref a0])), (a0, .inl (d0, 128, .inl f))] U.heap ∧ va_K (dC, dI) vwCl [(d0, .int)] U ∧ va_D (fun _ => True) [(h0, .inr (1, [.ref a0])), (a0, .inl (d0, 128, .inl f))])) (va_Qv (fun (u : Nat → Int32) => u = ng_M 16 i b d f) (fun u t => va_P (dC, dI) vwCl [(h0, .inr (1, [.ref a0])), (a0, .inl (d0, 128, .inl u))] t.heap ∧ va_K (dC, dI) vwCl [(d0, .int)] t ∧ va_D (va_A [(h0, .inr (1, [.ref a0])), (a0, .inl (d0, 128, .inl f))] sz) [(h0, .inr (1, [.ref a0])), (a0, .inl (d0, 128, .inl u))]) (va_A [(h0, .inr (1, [.ref a0])), (a0, .inl (d0, 128, .inl f))] sz)) 0 0 (va_A [(h0, .inr (1, [.ref a0])), (a0, .inl (d0, 128, .inl f))] sz) := by
  refine Met.ofW (cc := cX1_set) (maxL := 5) (ret := none) (by decide) rfl ?_
  intro p e s m args below meth c s₁ B hml hv
  obtain ⟨rfl, hsz, hP, hK, hD0⟩ := hv
  have hx := B.exec
  have hb := B.bytes
  have hr := B.returns
  have hts := atoms_spec (ws := wsX1_set) B.pre
  have hts : ∀ w ∈ lw_all, w.before _ s = true := fun w h => hts w (List.mem_cons_of_mem _ h)
  have hown : s.vm.findClass RX1 = some m.cls := findClass_of_methodNamed B.named
  have hlocks := B.notSynchronized
  subst hsz
  have hD := hD0.self (sz := s.heap.size)
  generalize hAe : va_A [(h0, .inr (1, [.ref a0])), (a0, .inl (d0, 128, .inl f))] s.heap.size = A at hD ⊢
  have hA : ∀ q : Nat, s.heap.size ≤ q → A q := fun q h => by rw [← hAe]; exact Or.inr h
  have hS : va_S A s.heap s.heap [] := va_S.rf
  have hP : va_P (dC, dI) vwCl [(h0, .inr (1, [.ref a0])), (a0, .inl (d0, 128, .inl f))] s.heap := hP
  have hl := lv_entry ([.ref h0, .int i, .int b, .int d]) (n := 5) (Nat.le_of_ble_eq_true rfl)
  rw [lg_entry_eq]
  generalize (lg_sl ([.ref h0, .int i, .int b, .int d]) ++ List.replicate (5 - (lg_sl ([.ref h0, .int i, .int b, .int d])).length) Slot.unset).toArray = ls at hl ⊢
  have hl : lv_has ls 5 [(0, .ref h0), (1, .int i), (2, .int b), (3, .int d)] := hl
  have h8 := ng_i_lt i
  refine lv_iconst (v := 0) hx hb dX1_set_0 (by decide) ?_
  refine lv_istore (lv' := [(4, .int 0), (0, .ref h0), (1, .int i), (2, .int b), (3, .int d)]) hx hb dX1_set_1 hl (by decide) rfl (fun ls hl => ?_)
  have loop : ∀ (N y : Nat) (x4 : Int32) (g1 : Nat → Int32), y ≤ 16 → 16 + 1 ≤ y + N → x4 = nI y → g1 = ng_M y i b d f → ∀ (H : Heap) (locs : List Loc), va_P (dC, dI) vwCl [(h0, .inr (1, [.ref a0])), (a0, .inl (d0, 128, .inl g1))] H → va_D A [(h0, .inr (1, [.ref a0])), (a0, .inl (d0, 128, .inl g1))] → va_S A s.heap H locs → ∀ (ls : Array Slot), lv_has ls 5 [(4, .int x4), (0, .ref h0), (1, .int i), (2, .int b), (3, .int d)] → W p l e (headSpec wsX1_set (({ frames := 1, cells := 0, slots := 0, locals := 22 }))).room s m ([.ref h0, .int i, .int b, .int d] : List Value).toArray below meth c H locs 0 0 (MQ below (va_Qv (fun (u : Nat → Int32) => u = ng_M 16 i b d f) (fun u t => va_P (dC, dI) vwCl [(h0, .inr (1, [.ref a0])), (a0, .inl (d0, 128, .inl u))] t.heap ∧ va_K (dC, dI) vwCl [(d0, .int)] t ∧ va_D A [(h0, .inr (1, [.ref a0])), (a0, .inl (d0, 128, .inl u))]) A) ([.ref h0, .int i, .int b, .int d] : List Value).toArray s 0 0 A) (F0 m 3 ls []) := by
    intro N
    induction N with
    | zero =>
      intro y x4 g1 h1 h2
      exact absurd h2 (by omega)
    | succ N ih =>
      intro y x4 g1 hi hin e4 eg H locs hP hD hS ls hl
      refine lv_iload hx hb dX1_set_3 (lv_at hl 0 rfl) ?_
      refine lv_bipush (v := 16) hx hb dX1_set_5 (by decide) ?_
      refine lv_icmp_ge (tgt := 35) hx hb dX1_set_7 (by decide) (fun c7 => ?_) (fun c7 => ?_)
      · skip
        have hin2 : y = 16 := by
          rcases Nat.lt_or_ge y 16 with q | q
          · exact absurd (show nI 16 ≤ nI y by rw [← e4]; exact c7) (nI_ge q (by omega))
          · omega
        exact W.vret hx hb hr (fun t ht hW => ⟨⟨g1, rfl, (by rw [eg, hin2]), by rw [ht]; exact hP, va_K.moved hW.alike hK, hD⟩, hS.F ht⟩) hS.2.2 dX1_set_35
      · skip
        have hlt : y < 16 := by
          rcases Nat.lt_or_ge y 16 with q | q
          · exact q
          · exact absurd (show nI 16 ≤ x4 by rw [e4]; exact nI_le q (by omega)) c7
        refine lv_aload_n hx hb dX1_set_10 rfl (lv_at hl 1 rfl) ?_
        refine va_get (D := (dC, dI)) (ci := 1) (v := .ref a0) (C := RX1) (T := TX1) (N := 1) hx hb hts in_X1 hown hK hP 0 rfl rfl 0 (by decide) (hts _ q64) (fun _ h9 => h9) rfl dX1_set_11 ?_
        refine lv_iload_n hx hb dX1_set_14 rfl (lv_at hl 2 rfl) ?_
        have hFc := ng_free hS hA
        refine va_calli (va_runS (As := [.int i]) (rest := [.ref a0]) ⟨hx, hb, hml, hown, hts⟩ (metX1_row l dC dI H.size i) (va_cwS 1 hts (lw_S q84 q85 q2 q86) rfl rfl rfl (by decide +kernel) ⟨Nat.le_of_ble_eq_true rfl, Nat.le_of_ble_eq_true rfl⟩) ⟨fun a U g mk q => q, fun U hU hW => ⟨rfl, congrArg Array.size hU⟩⟩ rfl rfl hl.1 rfl (lv_room (Nat.le_of_ble_eq_true rfl)) dX1_set_15 ⟨Nat.le_of_ble_eq_true rfl, Nat.le_of_ble_eq_true rfl⟩) hS (fun q _ h => hFc q h) hFc (fun r15 u t H1 locs ht hvm hw15 hB hz1 hk1 hS => ?_)
        have hP := ng_keep hP hk1
        generalize H1 = H at hP hS ⊢
        refine lv_iload hx hb dX1_set_18 (lv_at hl 0 rfl) ?_
        refine lv_iadd hx hb dX1_set_20 ?_
        have ex : r15 + x4 = nI (16 * ng_i i + y) := by rw [hw15, e4]; exact nI_add _ _
        rw [ex]
        refine lv_iload_n hx hb dX1_set_21 rfl (lv_at hl 3 rfl) ?_
        refine lv_iload_n hx hb dX1_set_22 rfl (lv_at hl 4 rfl) ?_
        refine lv_iload hx hb dX1_set_23 (lv_at hl 0 rfl) ?_
        have hFc := ng_free hS hA
        refine va_calli (va_runS (As := [.int b, .int d, .int x4]) (rest := [.int (nI (16 * ng_i i + y)), .ref a0]) ⟨hx, hb, hml, hown, hts⟩ (metX1_part l dC dI H.size b d x4) (va_cwS 3 hts (lw_S q74 q75 q2 q76) rfl rfl rfl (by decide +kernel) ⟨Nat.le_of_ble_eq_true rfl, Nat.le_of_ble_eq_true rfl⟩) ⟨fun a U g mk q => q, fun U hU hW => ⟨rfl, congrArg Array.size hU⟩⟩ rfl rfl hl.1 rfl (lv_room (Nat.le_of_ble_eq_true rfl)) dX1_set_25 ⟨Nat.le_of_ble_eq_true rfl, Nat.le_of_ble_eq_true rfl⟩) hS (fun q _ h => hFc q h) hFc (fun r25 u t H1 locs ht hvm hw25 hB hz1 hk1 hS => ?_)
        have hP := ng_keep hP hk1
        generalize H1 = H at hP hS ⊢
        refine va_iast hx hb hK hP hD hS 1 0 rfl rfl (vp_in_nI (by omega) (by omega)) dX1_set_28 (fun H locs hP hD hS => ?_)
        have eg2 : upd g1 (nI (16 * ng_i i + y)).toNatClampNeg r25 = ng_M (y + 1) i b d f := by
          rw [nI_clamp (by omega), hw25, e4, eg]
          exact ng_M_s y i b d f
        generalize upd g1 (nI (16 * ng_i i + y)).toNatClampNeg r25 = g2 at hP hD eg2
        have hP : va_P (dC, dI) vwCl [(h0, .inr (1, [.ref a0])), (a0, .inl (d0, 128, .inl g2))] H := hP
        have hD : va_D A [(h0, .inr (1, [.ref a0])), (a0, .inl (d0, 128, .inl g2))] := hD
        obtain ⟨v29, ev29⟩ : ∃ y : Int32, y = x4 + 1 := ⟨_, rfl⟩
        refine lv_iinc (v := v29) (lv' := [(4, .int v29), (0, .ref h0), (1, .int i), (2, .int b), (3, .int d)]) hx hb dX1_set_29 hl (k := 0) rfl (by rw [ev29]; rfl) (by decide) rfl (fun ls hl => ?_)
        refine lv_goto (tgt := 3) hx hb dX1_set_32 (by decide) ?_
        exact ih (y + 1) v29 g2 hlt (by omega) (by rw [ev29, e4]; exact nI_1 y) eg2 H locs hP hD hS ls (lv_sub hl [0, 1, 2, 3, 4] rfl)
  exact loop 17 0 0 f (Nat.zero_le _) (by omega) nI_0.symm (ng_M_0 i b d f).symm _ _ hP hD hS ls (lv_sub hl [0, 1, 2, 3, 4] rfl)
set_option maxHeartbeats 4000000 in
set_option maxRecDepth 100000 in
/-- NibbleFieldModel.add -/
theorem metX1_add (l : Launch) (dC : Nat → ClassId) (dI : Nat → Nat → Nat) (sz : Nat) (h0 a0 : Nat) (d0 : ClassId) (f : Nat → Int32) (i j k b : Int32) : Met l yX1_add wsX1_add (({ frames := 1, cells := 1, slots := 64, locals := 23 })) (va_Pc [.ref h0, .int i, .int j, .int k, .int b] (fun U => U.heap.size = sz ∧ va_P (dC, dI) vwCl [(h0, .inr (1, [.ref a0])), (a0, .inl (d0, 128, .inl f))] U.heap ∧ va_K (dC, dI) vwCl [(d0, .int)] U ∧ va_D (fun _ => True) [(h0, .inr (1, [.ref a0])), (a0, .inl (d0, 128, .inl f))])) (va_Qv (fun (u : Nat → Int32) => u = ng_A (16 * ng_c k) (16 * ng_r i k) (16 * ng_r j k) b f) (fun u t => va_P (dC, dI) vwCl [(h0, .inr (1, [.ref a0])), (a0, .inl (d0, 128, .inl u))] t.heap ∧ va_K (dC, dI) vwCl [(d0, .int)] t ∧ va_D (va_A [(h0, .inr (1, [.ref a0])), (a0, .inl (d0, 128, .inl f))] sz) [(h0, .inr (1, [.ref a0])), (a0, .inl (d0, 128, .inl u))]) (va_A [(h0, .inr (1, [.ref a0])), (a0, .inl (d0, 128, .inl f))] sz)) 1 64 (va_A [(h0, .inr (1, [.ref a0])), (a0, .inl (d0, 128, .inl f))] sz) := by
  refine Met.ofW (cc := cX1_add) (maxL := 10) (ret := none) (by decide) rfl ?_
  intro p e s m args below meth c s₁ B hml hv
  obtain ⟨rfl, hsz, hP, hK, hD0⟩ := hv
  have hx := B.exec
  have hb := B.bytes
  have hr := B.returns
  have hts := atoms_spec (ws := wsX1_add) B.pre
  have hts : ∀ w ∈ lw_all, w.before _ s = true := fun w h => hts w (List.mem_cons_of_mem _ h)
  have hown : s.vm.findClass RX1 = some m.cls := findClass_of_methodNamed B.named
  have hlocks := B.notSynchronized
  subst hsz
  have hD := hD0.self (sz := s.heap.size)
  generalize hAe : va_A [(h0, .inr (1, [.ref a0])), (a0, .inl (d0, 128, .inl f))] s.heap.size = A at hD ⊢
  have hA : ∀ q : Nat, s.heap.size ≤ q → A q := fun q h => by rw [← hAe]; exact Or.inr h
  have hS : va_S A s.heap s.heap [] := va_S.rf
  have hP : va_P (dC, dI) vwCl [(h0, .inr (1, [.ref a0])), (a0, .inl (d0, 128, .inl f))] s.heap := hP
  have hl := lv_entry ([.ref h0, .int i, .int j, .int k, .int b]) (n := 10) (Nat.le_of_ble_eq_true rfl)
  rw [lg_entry_eq]
  generalize (lg_sl ([.ref h0, .int i, .int j, .int k, .int b]) ++ List.replicate (10 - (lg_sl ([.ref h0, .int i, .int j, .int k, .int b])).length) Slot.unset).toArray = ls at hl ⊢
  have hl : lv_has ls 10 [(0, .ref h0), (1, .int i), (2, .int j), (3, .int k), (4, .int b)] := hl
  have hc4 := ng_c_le k
  have hri := ng_r_lt i k
  have hrj := ng_r_lt j k
  refine lv_iconst (v := 1) hx hb dX1_add_0 (by decide) ?_
  refine lv_iload_n hx hb dX1_add_1 rfl (lv_at hl 3 rfl) ?_
  refine lv_iconst (v := 3) hx hb dX1_add_2 (by decide) ?_
  refine lv_iand hx hb dX1_add_3 ?_
  refine lv_iadd hx hb dX1_add_4 ?_
  refine lv_topi (fun x5 ex5 => ?_)
  have ex5 : x5 = nI (ng_c k) := by rw [ex5]; exact ng_c_I k
  subst ex5
  refine lv_istore (lv' := [(5, .int (nI (ng_c k))), (0, .ref h0), (1, .int i), (2, .int j), (3, .int k), (4, .int b)]) hx hb dX1_add_5 hl (by decide) rfl (fun ls hl => ?_)
  refine lv_bipush (v := 16) hx hb dX1_add_7 (by decide) ?_
  refine lv_iload_n hx hb dX1_add_9 rfl (lv_at hl 2 rfl) ?_
  refine lv_bipush (v := 9) hx hb dX1_add_10 (by decide) ?_
  refine lv_iload hx hb dX1_add_12 (lv_at hl 0 rfl) ?_
  refine lv_isub hx hb dX1_add_14 ?_
  rw [ng_9]
  have hFc := ng_free hS hA
  refine va_calli (va_runS (As := [.int i, .int (nI (9 - ng_c k))]) (rest := [.int 16]) ⟨hx, hb, hml, hown, hts⟩ (metX1_rest l dC dI s.heap.size i (nI (9 - ng_c k)) (ng_9ne k)) (va_cwS 2 hts (lw_S q91 q92 q2 q93) rfl rfl rfl (by decide +kernel) ⟨Nat.le_of_ble_eq_true rfl, Nat.le_of_ble_eq_true rfl⟩) ⟨fun a U g mk q => q, fun U hU hW => ⟨rfl, congrArg Array.size hU⟩⟩ rfl rfl hl.1 rfl (lv_room (Nat.le_of_ble_eq_true rfl)) dX1_add_15 ⟨Nat.le_of_ble_eq_true rfl, Nat.le_of_ble_eq_true rfl⟩) hS (fun q _ h => hFc q h) hFc (fun r15 u t H1 locs ht hvm hw15 hB hz1 hk1 hS => ?_)
  have hP := ng_keep hP hk1
  generalize H1 = H at hP hS ⊢
  have er15 : r15 = nI (ng_r i k) := by rw [hw15]; exact ng_r_I i k
  rw [er15]
  refine lv_imul hx hb dX1_add_18 ?_
  rw [ng_16]
  refine lv_istore (lv' := [(6, .int (nI (16 * ng_r i k))), (5, .int (nI (ng_c k))), (0, .ref h0), (1, .int i), (2, .int j), (3, .int k), (4, .int b)]) hx hb dX1_add_19 hl (by decide) rfl (fun ls hl => ?_)
  refine lv_bipush (v := 16) hx hb dX1_add_21 (by decide) ?_
  refine lv_iload_n hx hb dX1_add_23 rfl (lv_at hl 4 rfl) ?_
  refine lv_bipush (v := 9) hx hb dX1_add_24 (by decide) ?_
  refine lv_iload hx hb dX1_add_26 (lv_at hl 1 rfl) ?_
  refine lv_isub hx hb dX1_add_28 ?_
  rw [ng_9]
  have hFc := ng_free hS hA
  refine va_calli (va_runS (As := [.int j, .int (nI (9 - ng_c k))]) (rest := [.int 16]) ⟨hx, hb, hml, hown, hts⟩ (metX1_rest l dC dI H.size j (nI (9 - ng_c k)) (ng_9ne k)) (va_cwS 2 hts (lw_S q91 q92 q2 q93) rfl rfl rfl (by decide +kernel) ⟨Nat.le_of_ble_eq_true rfl, Nat.le_of_ble_eq_true rfl⟩) ⟨fun a U g mk q => q, fun U hU hW => ⟨rfl, congrArg Array.size hU⟩⟩ rfl rfl hl.1 rfl (lv_room (Nat.le_of_ble_eq_true rfl)) dX1_add_29 ⟨Nat.le_of_ble_eq_true rfl, Nat.le_of_ble_eq_true rfl⟩) hS (fun q _ h => hFc q h) hFc (fun r29 u t H1 locs ht hvm hw29 hB hz1 hk1 hS => ?_)
  have hP := ng_keep hP hk1
  generalize H1 = H at hP hS ⊢
  have er29 : r29 = nI (ng_r j k) := by rw [hw29]; exact ng_r_I j k
  rw [er29]
  refine lv_imul hx hb dX1_add_32 ?_
  rw [ng_16]
  refine lv_istore (lv' := [(7, .int (nI (16 * ng_r j k))), (6, .int (nI (16 * ng_r i k))), (5, .int (nI (ng_c k))), (0, .ref h0), (1, .int i), (2, .int j), (3, .int k), (4, .int b)]) hx hb dX1_add_33 hl (by decide) rfl (fun ls hl => ?_)
  refine lv_bipush (v := 16) hx hb dX1_add_35 (by decide) ?_
  refine lv_iload hx hb dX1_add_37 (lv_at hl 2 rfl) ?_
  refine lv_imul hx hb dX1_add_39 ?_
  rw [ng_16]
  refine va_newa (atype := .int) (ty := .int) (N' := 16 * ng_c k) (a0 := (16 * ng_c k, .inl (ng_cp 0 (16 * ng_r i k) 0 f))) hx hb (hts _ q68) rfl hK hP hD hS hA (fun _ => by unfold ng_cp; rfl) (nI_pos (by omega)) (nI_clamp (by omega)) (by simp only [componentBytes]; omega) (Nat.le_of_ble_eq_true rfl) (by show 0 + 16 * ng_c k ≤ 64; omega) dX1_add_40 (fun q1 cA H hK hP hD hS => ?_)
  have hP : va_P (dC, dI) vwCl [(h0, .inr (1, [.ref a0])), (a0, .inl (d0, 128, .inl f)), (q1, .inl (cA, 16 * ng_c k, .inl (ng_cp 0 (16 * ng_r i k) 0 f)))] H := hP
  have hD : va_D A [(h0, .inr (1, [.ref a0])), (a0, .inl (d0, 128, .inl f)), (q1, .inl (cA, 16 * ng_c k, .inl (ng_cp 0 (16 * ng_r i k) 0 f)))] := hD
  have hK : va_K (dC, dI) vwCl [(d0, .int), (cA, .int)] s := hK
  refine W.widen (k := 1) (n := 64) (by omega) (by omega) ?_
  refine lv_astore (lv' := [(8, .ref q1), (7, .int (nI (16 * ng_r j k))), (6, .int (nI (16 * ng_r i k))), (5, .int (nI (ng_c k))), (0, .ref h0), (1, .int i), (2, .int j), (3, .int k), (4, .int b)]) hx hb dX1_add_42 hl (by decide) rfl (fun ls hl => ?_)
  refine lv_iconst (v := 0) hx hb dX1_add_44 (by decide) ?_
  refine lv_istore (lv' := [(9, .int 0), (8, .ref q1), (7, .int (nI (16 * ng_r j k))), (6, .int (nI (16 * ng_r i k))), (5, .int (nI (ng_c k))), (0, .ref h0), (1, .int i), (2, .int j), (3, .int k), (4, .int b)]) hx hb dX1_add_45 hl (by decide) rfl (fun ls hl => ?_)
  have loop2 : ∀ (N y : Nat) (x9 : Int32) (g1 : Nat → Int32), y ≤ 16 * ng_c k → 16 * ng_c k + 1 ≤ y + N → x9 = nI y → g1 = ng_A y (16 * ng_r i k) (16 * ng_r j k) b f → ∀ (H : Heap) (locs : List Loc), va_P (dC, dI) vwCl [(h0, .inr (1, [.ref a0])), (a0, .inl (d0, 128, .inl g1)), (q1, .inl (cA, 16 * ng_c k, .inl (ng_cp (16 * ng_c k) (16 * ng_r i k) 0 f)))] H → va_D A [(h0, .inr (1, [.ref a0])), (a0, .inl (d0, 128, .inl g1)), (q1, .inl (cA, 16 * ng_c k, .inl (ng_cp (16 * ng_c k) (16 * ng_r i k) 0 f)))] → va_S A s.heap H locs → ∀ (ls : Array Slot), lv_has ls 10 [(9, .int x9), (8, .ref q1), (7, .int (nI (16 * ng_r j k))), (6, .int (nI (16 * ng_r i k))), (0, .ref h0), (4, .int b)] → W p l e (headSpec wsX1_add (({ frames := 1, cells := 1, slots := 64, locals := 23 }))).room s m ([.ref h0, .int i, .int j, .int k, .int b] : List Value).toArray below meth c H locs 1 64 (MQ below (va_Qv (fun (u : Nat → Int32) => u = ng_A (16 * ng_c k) (16 * ng_r i k) (16 * ng_r j k) b f) (fun u t => va_P (dC, dI) vwCl [(h0, .inr (1, [.ref a0])), (a0, .inl (d0, 128, .inl u))] t.heap ∧ va_K (dC, dI) vwCl [(d0, .int)] t ∧ va_D A [(h0, .inr (1, [.ref a0])), (a0, .inl (d0, 128, .inl u))]) A) ([.ref h0, .int i, .int j, .int k, .int b] : List Value).toArray s 1 64 A) (F0 m 79 ls []) := by
    intro N
    induction N with
    | zero =>
      intro y x9 g1 h1 h2
      exact absurd h2 (by omega)
    | succ N ih =>
      intro y x9 g1 hi hin e9 eg H locs hP hD hS ls hl
      refine lv_iload hx hb dX1_add_79 (lv_at hl 0 rfl) ?_
      refine lv_aload hx hb dX1_add_81 (lv_at hl 1 rfl) ?_
      refine va_alen (v := nI (16 * ng_c k)) hx hb hK hP 2 1 rfl rfl rfl dX1_add_83 ?_
      refine lv_icmp_ge (tgt := 119) hx hb dX1_add_84 (by decide) (fun cc => ?_) (fun cc => ?_)
      · skip
        have hin2 : y = 16 * ng_c k := by
          rcases Nat.lt_or_ge y (16 * ng_c k) with q | q
          · exact absurd (show nI (16 * ng_c k) ≤ nI y by rw [← e9]; exact cc) (nI_ge q (by omega))
          · omega
        have hP9 := hP.sub (ws' := [(h0, .inr (1, [.ref a0])), (a0, .inl (d0, 128, .inl g1))]) [0, 1] rfl
        have hD9 := hD.sub (ws' := [(h0, .inr (1, [.ref a0])), (a0, .inl (d0, 128, .inl g1))]) [0, 1] (by decide) rfl
        have hK9 := hK.sub (tys' := [(d0, .int)]) [0] rfl
        exact W.vret hx hb hr (fun t ht hW => ⟨⟨g1, rfl, (by rw [eg, hin2]), by rw [ht]; exact hP9, va_K.moved hW.alike hK9, hD9⟩, hS.F ht⟩) hS.2.2 dX1_add_119
      · skip
        have hlt : y < 16 * ng_c k := by
          rcases Nat.lt_or_ge y (16 * ng_c k) with q | q
          · exact q
          · exact absurd (show nI (16 * ng_c k) ≤ x9 by rw [e9]; exact nI_le q (by omega)) cc
        refine lv_aload_n hx hb dX1_add_87 rfl (lv_at hl 4 rfl) ?_
        refine va_get (D := (dC, dI)) (ci := 1) (v := .ref a0) (C := RX1) (T := TX1) (N := 1) hx hb hts in_X1 hown hK hP 0 rfl rfl 0 (by decide) (hts _ q64) (fun _ h9 => h9) rfl dX1_add_88 ?_
        refine lv_iload hx hb dX1_add_91 (lv_at hl 2 rfl) ?_
        refine lv_iload hx hb dX1_add_93 (lv_at hl 0 rfl) ?_
        refine lv_iadd hx hb dX1_add_95 ?_
        have e7 : nI (16 * ng_r j k) + x9 = nI (16 * ng_r j k + y) := by rw [e9]; exact nI_add _ _
        rw [e7]
        refine lv_dup2_11 hx hb dX1_add_96 rfl rfl ?_
        refine va_iald hx hb hK hP 1 0 rfl rfl (vp_in_nI (by omega) (by omega)) dX1_add_97 ?_
        refine lv_topi (fun z97 ez97 => ?_)
        refine lv_iload hx hb dX1_add_98 (lv_at hl 5 rfl) ?_
        refine lv_bipush (v := 15) hx hb dX1_add_100 (by decide) ?_
        refine lv_iand hx hb dX1_add_102 ?_
        refine lv_aload hx hb dX1_add_103 (lv_at hl 1 rfl) ?_
        refine lv_iload hx hb dX1_add_105 (lv_at hl 0 rfl) ?_
        refine va_iald hx hb hK hP 2 1 rfl rfl (by rw [e9]; exact vp_in_nI hlt (by omega)) dX1_add_107 ?_
        refine lv_topi (fun z107 ez107 => ?_)
        have hFc := ng_free hS hA
        refine va_calli (va_runS (As := [.int (b &&& 15), .int z107]) (rest := [.int z97, .int (nI (16 * ng_r j k + y)), .ref a0]) ⟨hx, hb, hml, hown, hts⟩ (metX1_product l dC dI H.size (b &&& 15) z107) (va_cwS 2 hts (lw_S q77 q78 q2 q79) rfl rfl rfl (by decide +kernel) ⟨Nat.le_of_ble_eq_true rfl, Nat.le_of_ble_eq_true rfl⟩) ⟨fun a U g mk q => q, fun U hU hW => ⟨rfl, congrArg Array.size hU⟩⟩ rfl rfl hl.1 rfl (lv_room (Nat.le_of_ble_eq_true rfl)) dX1_add_108 ⟨Nat.le_of_ble_eq_true rfl, Nat.le_of_ble_eq_true rfl⟩) hS (fun q _ h => hFc q h) hFc (fun r108 u t H1 locs ht hvm hw108 hB hz1 hk1 hS => ?_)
        have hP := ng_keep hP hk1
        generalize H1 = H at hP hS ⊢
        refine lv_ixor hx hb dX1_add_111 ?_
        refine lv_topi (fun z112 ez112 => ?_)
        refine va_iast hx hb hK hP hD hS 1 0 rfl rfl (vp_in_nI (by omega) (by omega)) dX1_add_112 (fun H locs hP hD hS => ?_)
        have eg2 : upd g1 (nI (16 * ng_r j k + y)).toNatClampNeg z112 = ng_A (y + 1) (16 * ng_r i k) (16 * ng_r j k) b f := by
          have t9 : x9.toNatClampNeg = y := by rw [e9]; exact nI_clamp (by omega)
          have ef : ng_cp (16 * ng_c k) (16 * ng_r i k) 0 f y = f (16 * ng_r i k + y) := if_pos hlt
          rw [ez112, hw108, ez97, ez107, nI_clamp (by omega), t9, ef, eg]
          exact ng_A_s y (16 * ng_r i k) (16 * ng_r j k) b f
        generalize upd g1 (nI (16 * ng_r j k + y)).toNatClampNeg z112 = g2 at hP hD eg2
        have hP : va_P (dC, dI) vwCl [(h0, .inr (1, [.ref a0])), (a0, .inl (d0, 128, .inl g2)), (q1, .inl (cA, 16 * ng_c k, .inl (ng_cp (16 * ng_c k) (16 * ng_r i k) 0 f)))] H := hP
        have hD : va_D A [(h0, .inr (1, [.ref a0])), (a0, .inl (d0, 128, .inl g2)), (q1, .inl (cA, 16 * ng_c k, .inl (ng_cp (16 * ng_c k) (16 * ng_r i k) 0 f)))] := hD
        obtain ⟨v113, ev113⟩ : ∃ y : Int32, y = x9 + 1 := ⟨_, rfl⟩
        refine lv_iinc (v := v113) (lv' := [(9, .int v113), (8, .ref q1), (7, .int (nI (16 * ng_r j k))), (6, .int (nI (16 * ng_r i k))), (0, .ref h0), (4, .int b)]) hx hb dX1_add_113 hl (k := 0) rfl (by rw [ev113]; rfl) (by decide) rfl (fun ls hl => ?_)
        refine lv_goto (tgt := 79) hx hb dX1_add_116 (by decide) ?_
        exact ih (y + 1) v113 g2 hlt (by omega) (by rw [ev113, e9]; exact nI_1 y) eg2 H locs hP hD hS ls (lv_sub hl [0, 1, 2, 3, 4, 5] rfl)
  have loop1 : ∀ (N y : Nat) (x9 : Int32) (g1 : Nat → Int32), y ≤ 16 * ng_c k → 16 * ng_c k + 1 ≤ y + N → x9 = nI y → g1 = ng_cp y (16 * ng_r i k) 0 f → ∀ (H : Heap) (locs : List Loc), va_P (dC, dI) vwCl [(h0, .inr (1, [.ref a0])), (a0, .inl (d0, 128, .inl f)), (q1, .inl (cA, 16 * ng_c k, .inl g1))] H → va_D A [(h0, .inr (1, [.ref a0])), (a0, .inl (d0, 128, .inl f)), (q1, .inl (cA, 16 * ng_c k, .inl g1))] → va_S A s.heap H locs → ∀ (ls : Array Slot), lv_has ls 10 [(9, .int x9), (8, .ref q1), (7, .int (nI (16 * ng_r j k))), (6, .int (nI (16 * ng_r i k))), (0, .ref h0), (4, .int b)] → W p l e (headSpec wsX1_add (({ frames := 1, cells := 1, slots := 64, locals := 23 }))).room s m ([.ref h0, .int i, .int j, .int k, .int b] : List Value).toArray below meth c H locs 1 64 (MQ below (va_Qv (fun (u : Nat → Int32) => u = ng_A (16 * ng_c k) (16 * ng_r i k) (16 * ng_r j k) b f) (fun u t => va_P (dC, dI) vwCl [(h0, .inr (1, [.ref a0])), (a0, .inl (d0, 128, .inl u))] t.heap ∧ va_K (dC, dI) vwCl [(d0, .int)] t ∧ va_D A [(h0, .inr (1, [.ref a0])), (a0, .inl (d0, 128, .inl u))]) A) ([.ref h0, .int i, .int j, .int k, .int b] : List Value).toArray s 1 64 A) (F0 m 47 ls []) := by
    intro N
    induction N with
    | zero =>
      intro y x9 g1 h1 h2
      exact absurd h2 (by omega)
    | succ N ih =>
      intro y x9 g1 hi hin e9 eg H locs hP hD hS ls hl
      refine lv_iload hx hb dX1_add_47 (lv_at hl 0 rfl) ?_
      refine lv_aload hx hb dX1_add_49 (lv_at hl 1 rfl) ?_
      refine va_alen (v := nI (16 * ng_c k)) hx hb hK hP 2 1 rfl rfl rfl dX1_add_51 ?_
      refine lv_icmp_ge (tgt := 76) hx hb dX1_add_52 (by decide) (fun cc => ?_) (fun cc => ?_)
      · skip
        have hin2 : y = 16 * ng_c k := by
          rcases Nat.lt_or_ge y (16 * ng_c k) with q | q
          · exact absurd (show nI (16 * ng_c k) ≤ nI y by rw [← e9]; exact cc) (nI_ge q (by omega))
          · omega
        refine lv_iconst (v := 0) hx hb dX1_add_76 (by decide) ?_
        refine lv_istore (lv' := [(9, .int 0), (8, .ref q1), (7, .int (nI (16 * ng_r j k))), (6, .int (nI (16 * ng_r i k))), (0, .ref h0), (4, .int b)]) hx hb dX1_add_77 hl (by decide) rfl (fun ls hl => ?_)
        rw [hin2] at eg
        rw [eg] at hP hD
        exact loop2 (16 * ng_c k + 1) 0 0 f (Nat.zero_le _) (by omega) nI_0.symm (ng_A_0 _ _ b f).symm _ _ hP hD hS ls (lv_sub hl [0, 1, 2, 3, 4, 5] rfl)
      · skip
        have hlt : y < 16 * ng_c k := by
          rcases Nat.lt_or_ge y (16 * ng_c k) with q | q
          · exact q
          · exact absurd (show nI (16 * ng_c k) ≤ x9 by rw [e9]; exact nI_le q (by omega)) cc
        refine lv_aload hx hb dX1_add_55 (lv_at hl 1 rfl) ?_
        refine lv_iload hx hb dX1_add_57 (lv_at hl 0 rfl) ?_
        refine lv_aload_n hx hb dX1_add_59 rfl (lv_at hl 4 rfl) ?_
        refine va_get (D := (dC, dI)) (ci := 1) (v := .ref a0) (C := RX1) (T := TX1) (N := 1) hx hb hts in_X1 hown hK hP 0 rfl rfl 0 (by decide) (hts _ q64) (fun _ h9 => h9) rfl dX1_add_60 ?_
        refine lv_iload hx hb dX1_add_63 (lv_at hl 3 rfl) ?_
        refine lv_iload hx hb dX1_add_65 (lv_at hl 0 rfl) ?_
        refine lv_iadd hx hb dX1_add_67 ?_
        have e6 : nI (16 * ng_r i k) + x9 = nI (16 * ng_r i k + y) := by rw [e9]; exact nI_add _ _
        rw [e6]
        refine va_iald hx hb hK hP 1 0 rfl rfl (vp_in_nI (by omega) (by omega)) dX1_add_68 ?_
        refine lv_topi (fun z68 ez68 => ?_)
        refine va_iast hx hb hK hP hD hS 2 1 rfl rfl (by rw [e9]; exact vp_in_nI hlt (by omega)) dX1_add_69 (fun H locs hP hD hS => ?_)
        have eg2 : upd g1 x9.toNatClampNeg z68 = ng_cp (y + 1) (16 * ng_r i k) 0 f := by
          have t9 : x9.toNatClampNeg = y := by rw [e9]; exact nI_clamp (by omega)
          rw [ez68, nI_clamp (by omega), t9, eg]
          exact ng_cpI y (16 * ng_r i k) f
        generalize upd g1 x9.toNatClampNeg z68 = g2 at hP hD eg2
        have hP : va_P (dC, dI) vwCl [(h0, .inr (1, [.ref a0])), (a0, .inl (d0, 128, .inl f)), (q1, .inl (cA, 16 * ng_c k, .inl g2))] H := hP
        have hD : va_D A [(h0, .inr (1, [.ref a0])), (a0, .inl (d0, 128, .inl f)), (q1, .inl (cA, 16 * ng_c k, .inl g2))] := hD
        obtain ⟨v70, ev70⟩ : ∃ y : Int32, y = x9 + 1 := ⟨_, rfl⟩
        refine lv_iinc (v := v70) (lv' := [(9, .int v70), (8, .ref q1), (7, .int (nI (16 * ng_r j k))), (6, .int (nI (16 * ng_r i k))), (0, .ref h0), (4, .int b)]) hx hb dX1_add_70 hl (k := 0) rfl (by rw [ev70]; rfl) (by decide) rfl (fun ls hl => ?_)
        refine lv_goto (tgt := 47) hx hb dX1_add_73 (by decide) ?_
        exact ih (y + 1) v70 g2 hlt (by omega) (by rw [ev70, e9]; exact nI_1 y) eg2 H locs hP hD hS ls (lv_sub hl [0, 1, 2, 3, 4, 5] rfl)
  exact loop1 (16 * ng_c k + 1) 0 0 (ng_cp 0 (16 * ng_r i k) 0 f) (Nat.zero_le _) (by omega) nI_0.symm rfl _ _ hP hD hS ls (lv_sub hl [0, 1, 2, 3, 5, 9] rfl)
end
section
/-! THE TWO SIDES AGREE, bit by bit. First rows of kit/laws/BITS.to-paste (Int32 by its bits): a starting text -/
def bt (x : Int32) (i : Nat) : Bool := x.toBitVec.getLsbD i
theorem b_ext {x y : Int32} (h : ∀ i, i < 32 → bt x i = bt y i) : x = y := Int32.toBitVec_inj.mp (BitVec.eq_of_getLsbD_eq (fun i hi => h i hi))
theorem b_or (x y : Int32) (i : Nat) : bt (x ||| y) i = (bt x i || bt y i) := by unfold bt; rw [Int32.toBitVec_or, BitVec.getLsbD_or]
theorem b_and (x y : Int32) (i : Nat) : bt (x &&& y) i = (bt x i && bt y i) := by unfold bt; rw [Int32.toBitVec_and, BitVec.getLsbD_and]
theorem b_xor (x y : Int32) (i : Nat) : bt (x ^^^ y) i = (bt x i ^^ bt y i) := by unfold bt; rw [Int32.toBitVec_xor, BitVec.getLsbD_xor]
theorem b_big {x : Int32} {i : Nat} (h : 32 ≤ i) : bt x i = false := BitVec.getLsbD_of_ge _ _ h
theorem s_l : ∀ n, n < 32 → ((nI n &&& 31).toBitVec.smod 32).toNat = n := by decide +kernel
theorem b_sshr (n : Nat) (hn : n < 32) (x : Int32) {i : Nat} (hi : i < 32) : bt (x >>> (nI n &&& 31)) i = if n + i < 32 then bt x (n + i) else bt x 31 := by
  unfold bt
  rw [Int32.toBitVec_shiftRight]
  show (x.toBitVec.sshiftRight ((nI n &&& 31).toBitVec.smod 32).toNat).getLsbD i = _
  rw [s_l n hn, BitVec.getLsbD_sshiftRight, BitVec.msb_eq_getLsbD_last]
  simp [hi]
theorem wb_tb (n : Nat) : (lN n).toBitVec = BitVec.ofNat 64 n := rfl
theorem wb_c : ∀ k, k < 64 → ((nI k).toInt64 &&& 63) = lN k := by decide +kernel
theorem wb_cu : ∀ k, k < 64 → ((nI k).toInt64.toUInt64 &&& Int64.toUInt64 63) = UInt64.ofNat k := by decide +kernel
theorem wb_sm : ∀ k, k < 64 → (BitVec.ofNat 64 k).smod 64 = BitVec.ofNat 64 k := by decide +kernel
/-! Int64 by its bits -/
def ng_b (x : Int64) (i : Nat) : Bool := x.toBitVec.getLsbD i
theorem ny_lb_ext {x y : Int64} (h : ∀ i, i < 64 → ng_b x i = ng_b y i) : x = y := Int64.toBitVec_inj.mp (BitVec.eq_of_getLsbD_eq (fun i hi => h i hi))
theorem ny_lb_or (x y : Int64) (i : Nat) : ng_b (x ||| y) i = (ng_b x i || ng_b y i) := by unfold ng_b; rw [Int64.toBitVec_or, BitVec.getLsbD_or]
theorem ny_lb_and (x y : Int64) (i : Nat) : ng_b (x &&& y) i = (ng_b x i && ng_b y i) := by unfold ng_b; rw [Int64.toBitVec_and, BitVec.getLsbD_and]
theorem ny_lb_xor (x y : Int64) (i : Nat) : ng_b (x ^^^ y) i = (ng_b x i ^^ ng_b y i) := by unfold ng_b; rw [Int64.toBitVec_xor, BitVec.getLsbD_xor]
theorem ny_lb_big {x : Int64} {i : Nat} (h : 64 ≤ i) : ng_b x i = false := BitVec.getLsbD_of_ge _ _ h
theorem ny_lb_shl (n : Nat) (hn : n < 64) (x : Int64) {i : Nat} (hi : i < 64) : ng_b (ng_shl x (nI n)) i = (decide (n ≤ i) && ng_b x (i - n)) := by
  unfold ng_b ng_shl
  rw [wb_c n hn, Int64.toBitVec_shiftLeft, wb_tb, wb_sm n hn, BitVec.shiftLeft_eq', BitVec.toNat_ofNat, Nat.mod_eq_of_lt (by omega), BitVec.getLsbD_shiftLeft]
  rcases Nat.lt_or_ge i n with h | h
  · simp [h, Nat.not_le.mpr h]
  · simp [hi, h, Nat.not_lt.mpr h]
theorem ny_lb_ush (n : Nat) (hn : n < 64) (x : Int64) (i : Nat) : ng_b (ng_ush x (nI n)) i = ng_b x (n + i) := by
  unfold ng_b ng_ush
  rw [wb_cu n hn]
  have e : (x.toUInt64 >>> UInt64.ofNat n).toInt64.toBitVec = x.toBitVec >>> n := by
    apply BitVec.eq_of_toNat_eq
    show (x.toUInt64 >>> UInt64.ofNat n).toNat = _
    have h1 : (UInt64.ofNat n).toNat = n := by
      show (BitVec.ofNat 64 n).toNat = n
      rw [BitVec.toNat_ofNat, Nat.mod_eq_of_lt (by omega)]
    rw [UInt64.toNat_shiftRight, h1, Nat.mod_eq_of_lt hn, BitVec.toNat_ushiftRight]
    rfl
  rw [e, BitVec.getLsbD_ushiftRight]
theorem ny_lb_i2l (x : Int32) {i : Nat} (hi : i < 64) : ng_b x.toInt64 i = if i < 32 then bt x i else bt x 31 := by
  unfold ng_b bt
  rw [Int32.toBitVec_toInt64, BitVec.getLsbD_signExtend, BitVec.msb_eq_getLsbD_last]
  simp [hi]
theorem ny_lb_l2i (x : Int64) {i : Nat} (hi : i < 32) : bt x.toInt32 i = ng_b x i := by
  unfold ng_b bt
  rw [Int64.toBitVec_toInt32, BitVec.getLsbD_signExtend, if_pos (show i < 64 by omega)]
  simp [hi]
/-! constants -/
theorem ny_lc_lo {i : Nat} (hi : i < 64) : ng_b 4294967295 i = decide (i < 32) := (by decide +kernel : ∀ i, i < 64 → ng_b 4294967295 i = decide (i < 32)) i hi
theorem ny_lc_m {i : Nat} (hi : i < 64) : ng_b (-8608480567731124088) i = decide (i % 4 = 3) := (by decide +kernel : ∀ i, i < 64 → ng_b (-8608480567731124088) i = decide (i % 4 = 3)) i hi
theorem ny_lc_l {i : Nat} (hi : i < 64) : ng_b 8608480567731124087 i = decide (¬ i % 4 = 3) := (by decide +kernel : ∀ i, i < 64 → ng_b 8608480567731124087 i = decide (¬ i % 4 = 3)) i hi
theorem ny_lc_f {i : Nat} (hi : i < 64) : ng_b 1085102592571150095 i = decide (i % 8 < 4) := (by decide +kernel : ∀ i, i < 64 → ng_b 1085102592571150095 i = decide (i % 8 < 4)) i hi
theorem ny_lc_g {i : Nat} (hi : i < 64) : ng_b (-1085102592571150096) i = decide (4 ≤ i % 8) := (by decide +kernel : ∀ i, i < 64 → ng_b (-1085102592571150096) i = decide (4 ≤ i % 8)) i hi
theorem ny_lc_0 (i : Nat) : ng_b 0 i = false := BitVec.getLsbD_zero
theorem ny_lc_15 {i : Nat} (hi : i < 32) : bt 15 i = decide (i < 4) := (by decide +kernel : ∀ i, i < 32 → bt 15 i = decide (i < 4)) i hi
/-! four bits, as an int -/
def ng_4 (a b c d : Bool) : Int32 := (((if a then 1 else 0) ||| (if b then 2 else 0)) ||| (if c then 4 else 0)) ||| (if d then 8 else 0)
theorem ny_n4_b : ∀ (a b c d : Bool) (i : Nat), i < 32 → bt (ng_4 a b c d) i = if i = 0 then a else if i = 1 then b else if i = 2 then c else if i = 3 then d else false := by decide +kernel
theorem ny_n4_xor : ∀ a b c d a' b' c' d' : Bool, ng_4 a b c d ^^^ ng_4 a' b' c' d' = ng_4 (a ^^ a') (b ^^ b') (c ^^ c') (d ^^ d') := by decide +kernel
theorem ny_n4_of (x : Int32) : x &&& 15 = ng_4 (bt x 0) (bt x 1) (bt x 2) (bt x 3) := by
  apply b_ext
  intro i hi
  rw [b_and, ny_lc_15 hi, ny_n4_b _ _ _ _ i hi]
  rcases (show i = 0 ∨ i = 1 ∨ i = 2 ∨ i = 3 ∨ 4 ≤ i by omega) with h | h | h | h | h
  · subst h; simp
  · subst h; simp
  · subst h; simp
  · subst h; simp
  · rw [if_neg (by omega), if_neg (by omega), if_neg (by omega), if_neg (by omega), decide_eq_false (by omega), Bool.and_false]
/-- the nibble k of a long -/
def ng_n (x : Int64) (k : Nat) : Int32 := ng_4 (ng_b x (4 * k)) (ng_b x (4 * k + 1)) (ng_b x (4 * k + 2)) (ng_b x (4 * k + 3))
theorem ny_n_b (x : Int64) (k : Nat) {i : Nat} (hi : i < 32) : bt (ng_n x k) i = (decide (i < 4) && ng_b x (4 * k + i)) := by
  unfold ng_n
  rw [ny_n4_b _ _ _ _ i hi]
  rcases (show i = 0 ∨ i = 1 ∨ i = 2 ∨ i = 3 ∨ 4 ≤ i by omega) with h | h | h | h | h
  · subst h; simp
  · subst h; simp
  · subst h; simp
  · subst h; simp
  · rw [if_neg (by omega), if_neg (by omega), if_neg (by omega), if_neg (by omega), decide_eq_false (by omega), Bool.false_and]
theorem ny_n_xor (x y : Int64) (k : Nat) : ng_n (x ^^^ y) k = ng_n x k ^^^ ng_n y k := by
  unfold ng_n
  rw [ny_n4_xor, ny_lb_xor, ny_lb_xor, ny_lb_xor, ny_lb_xor]
theorem ny_n_0 (k : Nat) : ng_n 0 k = 0 := by
  unfold ng_n
  rw [ny_lc_0, ny_lc_0, ny_lc_0, ny_lc_0]
  decide
/-! set: a word's nibbles are the parts -/
theorem ny_of_b (h l : Int32) {i : Nat} (hi : i < 64) : ng_b (ng_of h l) i = if i < 32 then bt l i else bt h (i - 32) := by
  unfold ng_of
  rw [ny_lb_or, ny_lb_and, show (32 : Int32) = nI 32 from rfl, ny_lb_shl 32 (by decide) _ hi, ny_lc_lo hi, ny_lb_i2l l hi, ny_lb_i2l h (show i - 32 < 64 by omega)]
  by_cases h1 : i < 32
  · rw [if_pos h1, if_pos h1, decide_eq_true h1, decide_eq_false (by omega), Bool.false_and, Bool.false_or, Bool.and_true]
  · rw [if_neg h1, if_neg h1, decide_eq_false h1, decide_eq_true (by omega), Bool.and_false, Bool.or_false, Bool.true_and, if_pos (by omega)]
theorem ny_of_n (h l : Int32) {k : Nat} (hk : k < 16) : ng_n (ng_of h l) k = ng_pt h l (nI k) := by
  apply b_ext
  intro i hi
  rw [ny_n_b _ _ hi]
  unfold ng_pt
  rw [b_and, ny_lc_15 hi]
  by_cases hi4 : i < 4
  · rw [decide_eq_true hi4, Bool.true_and, Bool.and_true, ny_of_b h l (by omega)]
    by_cases h8 : 8 ≤ k
    · have e8 : (8 : Int32) ≤ nI k := nI_le h8 (by omega)
      have e4 : (4 : Int32) * (nI k - 8) = nI (4 * (k - 8)) := by
        rw [show nI k - 8 = nI (k - 8) from pk_sub h8]
        exact pk_mul 4 _
      rw [if_pos e8, e4, b_sshr _ (by omega) _ hi, if_pos (show 4 * (k - 8) + i < 32 by omega), if_neg (show ¬ 4 * k + i < 32 by omega), show 4 * k + i - 32 = 4 * (k - 8) + i by omega]
    · have e8 : ¬ (8 : Int32) ≤ nI k := nI_ge (a := k) (b := 8) (by omega) (by omega)
      have e4 : (4 : Int32) * nI k = nI (4 * k) := pk_mul 4 _
      rw [if_neg e8, e4, b_sshr _ (by omega) _ hi, if_pos (show 4 * k + i < 32 by omega), if_pos (show 4 * k + i < 32 by omega)]
  · rw [decide_eq_false hi4, Bool.false_and, Bool.and_false]
/-! one -/
theorem ny_one_n (x : Int64) (k : Int32) : (ng_ush x (4 * (k &&& 15))).toInt32 &&& 15 = ng_n x (ng_at k) := by
  have hk := ng_at_lt k
  apply b_ext
  intro i hi
  rw [ny_n_b _ _ hi, b_and, ny_lc_15 hi, ny_lb_l2i _ hi, ng_at_I, show (4 : Int32) * nI (ng_at k) = nI (4 * ng_at k) from pk_mul 4 _, ny_lb_ush _ (by omega), Bool.and_comm]
/-! get -/
theorem ny_get_b (x : Int64) (f : Nat → Int32) (hf : ∀ z, z < 16 → f z = ng_n x z) : ∀ n, n ≤ 16 → ∀ i, i < 64 → ng_b (ng_G f n) i = (decide (i < 4 * n) && ng_b x (64 - 4 * n + i)) := by
  intro n
  induction n with
  | zero =>
    intro _ i _
    rw [decide_eq_false (by omega), Bool.false_and]
    exact ny_lc_0 i
  | succ n ih =>
    intro hn i hi
    unfold ng_G
    rw [ny_lb_or, show (4 : Int32) = nI 4 from rfl, ny_lb_shl 4 (by decide) _ hi, ny_lb_i2l _ hi, hf (15 - n) (by omega), ih (by omega) (i - 4) (by omega)]
    by_cases h4 : i < 4
    · rw [if_pos (by omega), ny_n_b _ _ (by omega), decide_eq_true h4, decide_eq_false (by omega), decide_eq_true (show i < 4 * (n + 1) by omega), Bool.false_and, Bool.false_or, Bool.true_and, Bool.true_and, show 64 - 4 * (n + 1) + i = 4 * (15 - n) + i by omega]
    · have e : (if i < 32 then bt (ng_n x (15 - n)) i else bt (ng_n x (15 - n)) 31) = false := by
        by_cases h32 : i < 32
        · rw [if_pos h32, ny_n_b _ _ h32, decide_eq_false h4, Bool.false_and]
        · rw [if_neg h32, ny_n_b _ _ (by omega), decide_eq_false (by omega), Bool.false_and]
      rw [e, Bool.or_false, decide_eq_true (show 4 ≤ i by omega), Bool.true_and]
      by_cases h5 : i < 4 * (n + 1)
      · rw [decide_eq_true h5, decide_eq_true (show i - 4 < 4 * n by omega), Bool.true_and, Bool.true_and, show 64 - 4 * (n + 1) + i = 64 - 4 * n + (i - 4) by omega]
      · rw [decide_eq_false h5, decide_eq_false (show ¬ i - 4 < 4 * n by omega), Bool.false_and, Bool.false_and]
theorem ny_get_n (x : Int64) (f : Nat → Int32) (hf : ∀ z, z < 16 → f z = ng_n x z) : x = ng_G f 16 := by
  apply ny_lb_ext
  intro i hi
  rw [ny_get_b x f hf 16 (Nat.le_refl _) i hi, decide_eq_true (by omega), Bool.true_and, show 64 - 4 * 16 + i = i by omega]
/-! the field's product, by bits: the bits of m times z -/
def ng_t0 (m0 m1 m2 m3 z0 z1 z2 z3 : Bool) : Bool := (((z0 && m0) ^^ (z3 && m1)) ^^ (z2 && m2)) ^^ (z1 && m3)
def ng_t1 (m0 m1 m2 m3 z0 z1 z2 z3 : Bool) : Bool := (((z1 && m0) ^^ ((z0 ^^ z3) && m1)) ^^ ((z3 ^^ z2) && m2)) ^^ ((z2 ^^ z1) && m3)
def ng_t2 (m0 m1 m2 m3 z0 z1 z2 z3 : Bool) : Bool := (((z2 && m0) ^^ (z1 && m1)) ^^ ((z0 ^^ z3) && m2)) ^^ ((z3 ^^ z2) && m3)
def ng_t3 (m0 m1 m2 m3 z0 z1 z2 z3 : Bool) : Bool := (((z3 && m0) ^^ (z2 && m1)) ^^ (z1 && m2)) ^^ ((z0 ^^ z3) && m3)
theorem ny_P_4 : ∀ m0 m1 m2 m3 z0 z1 z2 z3 : Bool, ng_P (ng_4 m0 m1 m2 m3) (ng_4 z0 z1 z2 z3) = ng_4 (ng_t0 m0 m1 m2 m3 z0 z1 z2 z3) (ng_t1 m0 m1 m2 m3 z0 z1 z2 z3) (ng_t2 m0 m1 m2 m3 z0 z1 z2 z3) (ng_t3 m0 m1 m2 m3 z0 z1 z2 z3) := by decide +kernel
/-- a mask -/
def ng_k (m : Bool) : Int64 := if m then -1 else 0
theorem ny_k_b (m : Bool) {i : Nat} (hi : i < 64) : ng_b (ng_k m) i = m := (by decide +kernel : ∀ m : Bool, ∀ i, i < 64 → ng_b (ng_k m) i = m) m i hi
theorem ny_T_k : ∀ m0 m1 m2 m3 : Bool, -(ng_w (ng_4 m0 m1 m2 m3) &&& 1) = ng_k m0 ∧ -(ng_ush (ng_w (ng_4 m0 m1 m2 m3)) 1 &&& 1) = ng_k m1 ∧ -(ng_ush (ng_w (ng_4 m0 m1 m2 m3)) 2 &&& 1) = ng_k m2 ∧ -(ng_ush (ng_w (ng_4 m0 m1 m2 m3)) 3 &&& 1) = ng_k m3 := by decide +kernel
theorem ny_m_b (v : Int64) {i : Nat} (hi : i < 64) : ng_b (ng_m v) i = (decide (i % 4 = 0) && ng_b v (i + 3)) := by
  unfold ng_m
  rw [show (3 : Int32) = nI 3 from rfl, ny_lb_ush 3 (by decide), ny_lb_and, Nat.add_comm 3 i]
  by_cases h : i + 3 < 64
  · rw [ny_lc_m h, Bool.and_comm]
    by_cases h2 : i % 4 = 0
    · rw [decide_eq_true h2, decide_eq_true (by omega)]
    · rw [decide_eq_false h2, decide_eq_false (by omega)]
  · rw [ny_lb_big (x := v) (by omega), Bool.false_and, Bool.and_false]
theorem ny_add_or {x y : Int64} (h : ∀ i, i < 64 → (ng_b x i && ng_b y i) = false) : x + y = x ||| y := by
  apply Int64.toBitVec_inj.mp
  rw [Int64.toBitVec_add, Int64.toBitVec_or]
  apply BitVec.add_eq_or_of_and_eq_zero
  apply BitVec.eq_of_getLsbD_eq
  intro i hi
  rw [BitVec.getLsbD_and, BitVec.getLsbD_zero]
  exact h i hi
theorem ny_x_b (v : Int64) {i : Nat} (hi : i < 64) : ng_b (ng_x v) i = ((decide (1 ≤ i ∧ ¬ i % 4 = 0) && ng_b v (i - 1)) ^^ ((decide (i % 4 = 0) && ng_b v (i + 3)) || (decide (i % 4 = 1) && ng_b v (i + 2)))) := by
  have hm : ∀ j, j < 64 → ng_b (ng_shl (ng_m v) 1) j = (decide (j % 4 = 1) && ng_b v (j + 2)) := by
    intro j hj
    rw [show (1 : Int32) = nI 1 from rfl, ny_lb_shl 1 (by decide) _ hj, ny_m_b v (show j - 1 < 64 by omega)]
    by_cases h : j % 4 = 1
    · rw [decide_eq_true h, decide_eq_true (show 1 ≤ j by omega), decide_eq_true (show (j - 1) % 4 = 0 by omega), Bool.true_and, Bool.true_and, Bool.true_and, show j - 1 + 3 = j + 2 by omega]
    · rw [decide_eq_false h, Bool.false_and]
      by_cases h1 : 1 ≤ j
      · rw [decide_eq_false (show ¬ (j - 1) % 4 = 0 by omega), Bool.false_and, Bool.and_false]
      · rw [decide_eq_false h1, Bool.false_and]
  unfold ng_x
  rw [ny_add_or (fun j hj => by
    rw [hm j hj, ny_m_b v hj]
    by_cases h : j % 4 = 0
    · rw [decide_eq_false (show ¬ j % 4 = 1 by omega), Bool.false_and, Bool.and_false]
    · rw [decide_eq_false h, Bool.false_and, Bool.false_and]), ny_lb_xor, ny_lb_or, hm i hi, ny_m_b v hi, show (1 : Int32) = nI 1 from rfl, ny_lb_shl 1 (by decide) _ hi, ny_lb_and, ny_lc_l (show i - 1 < 64 by omega)]
  have e : (decide (1 ≤ i) && (ng_b v (i - 1) && decide (¬ (i - 1) % 4 = 3))) = (decide (1 ≤ i ∧ ¬ i % 4 = 0) && ng_b v (i - 1)) := by
    by_cases h : 1 ≤ i ∧ ¬ i % 4 = 0
    · rw [decide_eq_true h, decide_eq_true h.1, decide_eq_true (show ¬ (i - 1) % 4 = 3 by omega), Bool.and_true]
    · rw [decide_eq_false h, Bool.false_and]
      by_cases h1 : 1 ≤ i
      · rw [decide_eq_false (show ¬ ¬ (i - 1) % 4 = 3 by omega), Bool.and_false, Bool.and_false]
      · rw [decide_eq_false h1, Bool.false_and]
  rw [e]
theorem ny_x_0 (v : Int64) {k : Nat} (hk : k < 16) : ng_b (ng_x v) (4 * k) = ng_b v (4 * k + 3) := by
  rw [ny_x_b v (by omega), decide_eq_false (by omega), decide_eq_true (show 4 * k % 4 = 0 by omega), decide_eq_false (show ¬ 4 * k % 4 = 1 by omega)]
  simp
theorem ny_x_1 (v : Int64) {k : Nat} (hk : k < 16) : ng_b (ng_x v) (4 * k + 1) = (ng_b v (4 * k) ^^ ng_b v (4 * k + 3)) := by
  rw [ny_x_b v (by omega), decide_eq_true (by omega), decide_eq_false (show ¬ (4 * k + 1) % 4 = 0 by omega), decide_eq_true (show (4 * k + 1) % 4 = 1 by omega), show 4 * k + 1 - 1 = 4 * k by omega, show 4 * k + 1 + 2 = 4 * k + 3 by omega]
  simp
theorem ny_x_2 (v : Int64) {k : Nat} (hk : k < 16) : ng_b (ng_x v) (4 * k + 2) = ng_b v (4 * k + 1) := by
  rw [ny_x_b v (by omega), decide_eq_true (by omega), decide_eq_false (show ¬ (4 * k + 2) % 4 = 0 by omega), decide_eq_false (show ¬ (4 * k + 2) % 4 = 1 by omega), show 4 * k + 2 - 1 = 4 * k + 1 by omega]
  simp
theorem ny_x_3 (v : Int64) {k : Nat} (hk : k < 16) : ng_b (ng_x v) (4 * k + 3) = ng_b v (4 * k + 2) := by
  rw [ny_x_b v (by omega), decide_eq_true (by omega), decide_eq_false (show ¬ (4 * k + 3) % 4 = 0 by omega), decide_eq_false (show ¬ (4 * k + 3) % 4 = 1 by omega), show 4 * k + 3 - 1 = 4 * k + 2 by omega]
  simp
theorem ny_S_b (v : Int64) (m0 m1 m2 m3 : Bool) {i : Nat} (hi : i < 64) : ng_b (ng_S v (ng_k m0) (ng_k m1) (ng_k m2) (ng_k m3)) i = ((((ng_b v i && m0) ^^ (ng_b (ng_x v) i && m1)) ^^ (ng_b (ng_x (ng_x v)) i && m2)) ^^ (ng_b (ng_x (ng_x (ng_x v))) i && m3)) := by
  unfold ng_S
  rw [ny_lb_xor, ny_lb_xor, ny_lb_xor, ny_lb_and, ny_lb_and, ny_lb_and, ny_lb_and, ny_k_b m0 hi, ny_k_b m1 hi, ny_k_b m2 hi, ny_k_b m3 hi]
theorem ny_T_n (b : Int32) (v : Int64) {k : Nat} (hk : k < 16) : ng_n (ng_T (b &&& 15) v) k = ng_P (b &&& 15) (ng_n v k) := by
  rw [ny_n4_of b]
  generalize bt b 0 = m0
  generalize bt b 1 = m1
  generalize bt b 2 = m2
  generalize bt b 3 = m3
  obtain ⟨e0, e1, e2, e3⟩ := ny_T_k m0 m1 m2 m3
  unfold ng_T
  rw [e0, e1, e2, e3]
  unfold ng_n
  rw [ny_P_4, ny_S_b v _ _ _ _ (by omega), ny_S_b v _ _ _ _ (by omega), ny_S_b v _ _ _ _ (by omega), ny_S_b v _ _ _ _ (by omega)]
  simp only [ny_x_0 _ hk, ny_x_1 _ hk, ny_x_2 _ hk, ny_x_3 _ hk]
  rfl
end
section
/-! eight: the product of the even nibbles -/
theorem ny_F_c : ∀ m0 m1 m2 m3 : Bool, ((ng_4 m0 m1 m2 m3).toInt8.toInt32) &&& 255 = ng_4 m0 m1 m2 m3 := by decide +kernel
theorem ny_F_k : ∀ m0 m1 m2 m3 : Bool, (-(ng_4 m0 m1 m2 m3 &&& 1)).toInt64 = ng_k m0 ∧ (-((ng_4 m0 m1 m2 m3 >>> (1 &&& 31)) &&& 1)).toInt64 = ng_k m1 ∧ (-((ng_4 m0 m1 m2 m3 >>> (2 &&& 31)) &&& 1)).toInt64 = ng_k m2 ∧ (-((ng_4 m0 m1 m2 m3 >>> (3 &&& 31)) &&& 1)).toInt64 = ng_k m3 := by decide +kernel
theorem ny_p_b (m0 m1 m2 m3 : Bool) (b : Int64) {i : Nat} (hi : i < 64) : ng_b (ng_p (ng_4 m0 m1 m2 m3) b) i = ((((m0 && ng_b b i) ^^ (m1 && (decide (1 ≤ i) && ng_b b (i - 1)))) ^^ (m2 && (decide (2 ≤ i) && ng_b b (i - 2)))) ^^ (m3 && (decide (3 ≤ i) && ng_b b (i - 3)))) := by
  obtain ⟨e0, e1, e2, e3⟩ := ny_F_k m0 m1 m2 m3
  unfold ng_p
  rw [e0, e1, e2, e3, ny_lb_xor, ny_lb_xor, ny_lb_xor, ny_lb_and, ny_lb_and, ny_lb_and, ny_lb_and, ny_k_b m0 hi, ny_k_b m1 hi, ny_k_b m2 hi, ny_k_b m3 hi, show (1 : Int32) = nI 1 from rfl, show (2 : Int32) = nI 2 from rfl, show (3 : Int32) = nI 3 from rfl, ny_lb_shl 1 (by decide) _ hi, ny_lb_shl 2 (by decide) _ hi, ny_lb_shl 3 (by decide) _ hi]
theorem ny_g_b (p : Int64) {i : Nat} (hi : i < 64) : ng_b (ng_g p) i = (((ng_b p i ^^ (ng_b p (4 + i) && ng_b (-1085102592571150096) (4 + i))) ^^ (ng_b p (3 + i) && ng_b (-1085102592571150096) (3 + i))) && decide (i % 8 < 4)) := by
  unfold ng_g
  rw [ny_lb_and, ny_lb_xor, ny_lb_xor, ny_lc_f hi, show (4 : Int32) = nI 4 from rfl, show (3 : Int32) = nI 3 from rfl, ny_lb_ush 4 (by decide), ny_lb_ush 3 (by decide), ny_lb_and, ny_lb_and]
/-- the bits of a masked word -/
theorem ny_w_b (w : Int64) {i : Nat} (hi : i < 64) : ng_b (w &&& 1085102592571150095) i = (decide (i % 8 < 4) && ng_b w i) := by
  rw [ny_lb_and, ny_lc_f hi, Bool.and_comm]
theorem ny_w_o (w : Int64) {i : Nat} (hi : i < 64) (h : 4 ≤ i % 8) : ng_b (w &&& 1085102592571150095) i = false := by
  rw [ny_w_b w hi, decide_eq_false (by omega), Bool.false_and]
theorem ny_w_i (w : Int64) {i : Nat} (hi : i < 64) (h : i % 8 < 4) : ng_b (w &&& 1085102592571150095) i = ng_b w i := by
  rw [ny_w_b w hi, decide_eq_true h, Bool.true_and]
/-- what stands n below a place, if it is in the high half of a byte, or nowhere -/
theorem ny_w_s (w : Int64) (n : Nat) {i : Nat} (hi : i < 64) (h : n ≤ i → 4 ≤ (i - n) % 8) : (decide (n ≤ i) && ng_b (w &&& 1085102592571150095) (i - n)) = false := by
  by_cases h1 : n ≤ i
  · rw [ny_w_o w (by omega) (h h1), Bool.and_false]
  · rw [decide_eq_false h1, Bool.false_and]
theorem ny_w_t (w : Int64) (n : Nat) {i j : Nat} (hi : i < 64) (h : i = j + n) (h2 : j % 8 < 4) : (decide (n ≤ i) && ng_b (w &&& 1085102592571150095) (i - n)) = ng_b w j := by
  rw [decide_eq_true (show n ≤ i by omega), Bool.true_and, show i - n = j by omega, ny_w_i w (by omega) h2]
/-- the eight bits of a byte of the product, ahead of its reduction -/
theorem ny_p_8 (m0 m1 m2 m3 : Bool) (w : Int64) {q : Nat} (hq : q < 8) :
    ng_b (ng_p (ng_4 m0 m1 m2 m3) (w &&& 1085102592571150095)) (8 * q) = (m0 && ng_b w (8 * q)) ∧
    ng_b (ng_p (ng_4 m0 m1 m2 m3) (w &&& 1085102592571150095)) (8 * q + 1) = ((m0 && ng_b w (8 * q + 1)) ^^ (m1 && ng_b w (8 * q))) ∧
    ng_b (ng_p (ng_4 m0 m1 m2 m3) (w &&& 1085102592571150095)) (8 * q + 2) = (((m0 && ng_b w (8 * q + 2)) ^^ (m1 && ng_b w (8 * q + 1))) ^^ (m2 && ng_b w (8 * q))) ∧
    ng_b (ng_p (ng_4 m0 m1 m2 m3) (w &&& 1085102592571150095)) (8 * q + 3) = ((((m0 && ng_b w (8 * q + 3)) ^^ (m1 && ng_b w (8 * q + 2))) ^^ (m2 && ng_b w (8 * q + 1))) ^^ (m3 && ng_b w (8 * q))) ∧
    ng_b (ng_p (ng_4 m0 m1 m2 m3) (w &&& 1085102592571150095)) (8 * q + 4) = (((m1 && ng_b w (8 * q + 3)) ^^ (m2 && ng_b w (8 * q + 2))) ^^ (m3 && ng_b w (8 * q + 1))) ∧
    ng_b (ng_p (ng_4 m0 m1 m2 m3) (w &&& 1085102592571150095)) (8 * q + 5) = ((m2 && ng_b w (8 * q + 3)) ^^ (m3 && ng_b w (8 * q + 2))) ∧
    ng_b (ng_p (ng_4 m0 m1 m2 m3) (w &&& 1085102592571150095)) (8 * q + 6) = (m3 && ng_b w (8 * q + 3)) := by
  refine ⟨?_, ?_, ?_, ?_, ?_, ?_, ?_⟩
  · rw [ny_p_b _ _ _ _ _ (by omega), ny_w_i w (by omega) (by omega), ny_w_s w 1 (by omega) (by omega), ny_w_s w 2 (by omega) (by omega), ny_w_s w 3 (by omega) (by omega)]
    simp
  · rw [ny_p_b _ _ _ _ _ (by omega), ny_w_i w (by omega) (by omega), ny_w_t w 1 (j := 8 * q) (by omega) (by omega) (by omega), ny_w_s w 2 (by omega) (by omega), ny_w_s w 3 (by omega) (by omega)]
    simp
  · rw [ny_p_b _ _ _ _ _ (by omega), ny_w_i w (by omega) (by omega), ny_w_t w 1 (j := 8 * q + 1) (by omega) (by omega) (by omega), ny_w_t w 2 (j := 8 * q) (by omega) (by omega) (by omega), ny_w_s w 3 (by omega) (by omega)]
    simp
  · rw [ny_p_b _ _ _ _ _ (by omega), ny_w_i w (by omega) (by omega), ny_w_t w 1 (j := 8 * q + 2) (by omega) (by omega) (by omega), ny_w_t w 2 (j := 8 * q + 1) (by omega) (by omega) (by omega), ny_w_t w 3 (j := 8 * q) (by omega) (by omega) (by omega)]
  · rw [ny_p_b _ _ _ _ _ (by omega), ny_w_o w (by omega) (by omega), ny_w_t w 1 (j := 8 * q + 3) (by omega) (by omega) (by omega), ny_w_t w 2 (j := 8 * q + 2) (by omega) (by omega) (by omega), ny_w_t w 3 (j := 8 * q + 1) (by omega) (by omega) (by omega)]
    simp
  · rw [ny_p_b _ _ _ _ _ (by omega), ny_w_o w (by omega) (by omega), ny_w_s w 1 (by omega) (by omega), ny_w_t w 2 (j := 8 * q + 3) (by omega) (by omega) (by omega), ny_w_t w 3 (j := 8 * q + 2) (by omega) (by omega) (by omega)]
    simp
  · rw [ny_p_b _ _ _ _ _ (by omega), ny_w_o w (by omega) (by omega), ny_w_s w 1 (by omega) (by omega), ny_w_s w 2 (by omega) (by omega), ny_w_t w 3 (j := 8 * q + 3) (by omega) (by omega) (by omega)]
    simp
theorem ny_t_e0 : ∀ m0 m1 m2 m3 z0 z1 z2 z3 : Bool, ((m0 && z0) ^^ (((m1 && z3) ^^ (m2 && z2)) ^^ (m3 && z1))) = ng_t0 m0 m1 m2 m3 z0 z1 z2 z3 := by decide
theorem ny_t_e1 : ∀ m0 m1 m2 m3 z0 z1 z2 z3 : Bool, ((((m0 && z1) ^^ (m1 && z0)) ^^ ((m2 && z3) ^^ (m3 && z2))) ^^ (((m1 && z3) ^^ (m2 && z2)) ^^ (m3 && z1))) = ng_t1 m0 m1 m2 m3 z0 z1 z2 z3 := by decide
theorem ny_t_e2 : ∀ m0 m1 m2 m3 z0 z1 z2 z3 : Bool, (((((m0 && z2) ^^ (m1 && z1)) ^^ (m2 && z0)) ^^ (m3 && z3)) ^^ ((m2 && z3) ^^ (m3 && z2))) = ng_t2 m0 m1 m2 m3 z0 z1 z2 z3 := by decide
theorem ny_t_e3 : ∀ m0 m1 m2 m3 z0 z1 z2 z3 : Bool, (((((m0 && z3) ^^ (m1 && z2)) ^^ (m2 && z1)) ^^ (m3 && z0)) ^^ (m3 && z3)) = ng_t3 m0 m1 m2 m3 z0 z1 z2 z3 := by decide
/-- bit 8 q + 7 of the product ahead of its reduction is none -/
theorem ny_p_7 (m0 m1 m2 m3 : Bool) (w : Int64) {q : Nat} (hq : q < 8) : ng_b (ng_p (ng_4 m0 m1 m2 m3) (w &&& 1085102592571150095)) (8 * q + 7) = false := by
  rw [ny_p_b _ _ _ _ _ (by omega), ny_w_o w (by omega) (by omega), ny_w_s w 1 (by omega) (by omega), ny_w_s w 2 (by omega) (by omega), ny_w_s w 3 (by omega) (by omega)]
  simp
theorem ny_F_n (m0 m1 m2 m3 : Bool) (w : Int64) {q : Nat} (hq : q < 8) : ng_n (ng_g (ng_p (ng_4 m0 m1 m2 m3) (w &&& 1085102592571150095))) (2 * q) = ng_P (ng_4 m0 m1 m2 m3) (ng_n w (2 * q)) := by
  obtain ⟨h0, h1, h2, h3, h4, h5, h6⟩ := ny_p_8 m0 m1 m2 m3 w hq
  have h7 := ny_p_7 m0 m1 m2 m3 w hq
  unfold ng_n
  rw [ny_P_4, show 4 * (2 * q) = 8 * q by omega]
  rw [ny_g_b _ (by omega), ny_g_b _ (by omega), ny_g_b _ (by omega), ny_g_b _ (by omega)]
  rw [show 4 + 8 * q = 8 * q + 4 by omega, show 3 + 8 * q = 8 * q + 3 by omega, show 4 + (8 * q + 1) = 8 * q + 5 by omega, show 3 + (8 * q + 1) = 8 * q + 4 by omega, show 4 + (8 * q + 2) = 8 * q + 6 by omega, show 3 + (8 * q + 2) = 8 * q + 5 by omega, show 4 + (8 * q + 3) = 8 * q + 7 by omega, show 3 + (8 * q + 3) = 8 * q + 6 by omega]
  rw [h0, h1, h2, h3, h4, h5, h6, h7, ny_lc_g (show 8 * q + 3 < 64 by omega), ny_lc_g (show 8 * q + 4 < 64 by omega), ny_lc_g (show 8 * q + 5 < 64 by omega), ny_lc_g (show 8 * q + 6 < 64 by omega), ny_lc_g (show 8 * q + 7 < 64 by omega)]
  rw [← ny_t_e0, ← ny_t_e1, ← ny_t_e2, ← ny_t_e3]
  rw [decide_eq_true (show 8 * q % 8 < 4 by omega), decide_eq_true (show (8 * q + 1) % 8 < 4 by omega), decide_eq_true (show (8 * q + 2) % 8 < 4 by omega), decide_eq_true (show (8 * q + 3) % 8 < 4 by omega)]
  rw [decide_eq_false (show ¬ 4 ≤ (8 * q + 3) % 8 by omega), decide_eq_true (show 4 ≤ (8 * q + 4) % 8 by omega), decide_eq_true (show 4 ≤ (8 * q + 5) % 8 by omega), decide_eq_true (show 4 ≤ (8 * q + 6) % 8 by omega), decide_eq_true (show 4 ≤ (8 * q + 7) % 8 by omega)]
  simp only [Bool.and_true, Bool.and_false, Bool.xor_false]
theorem ny_F_o (m0 m1 m2 m3 : Bool) (w : Int64) {q : Nat} (hq : q < 8) : ng_n (ng_g (ng_p (ng_4 m0 m1 m2 m3) (w &&& 1085102592571150095))) (2 * q + 1) = 0 := by
  unfold ng_n
  rw [ny_g_b _ (by omega), ny_g_b _ (by omega), ny_g_b _ (by omega), ny_g_b _ (by omega)]
  rw [decide_eq_false (show ¬ (4 * (2 * q + 1)) % 8 < 4 by omega), decide_eq_false (show ¬ (4 * (2 * q + 1) + 1) % 8 < 4 by omega), decide_eq_false (show ¬ (4 * (2 * q + 1) + 2) % 8 < 4 by omega), decide_eq_false (show ¬ (4 * (2 * q + 1) + 3) % 8 < 4 by omega), Bool.and_false, Bool.and_false, Bool.and_false, Bool.and_false]
  decide
/-- a long is its nibbles -/
theorem ny_n_ext {x y : Int64} (h : ∀ q, q < 8 → ng_n x (2 * q) = ng_n y (2 * q) ∧ ng_n x (2 * q + 1) = ng_n y (2 * q + 1)) : x = y := by
  have h2 : ∀ k, k < 16 → ng_n x k = ng_n y k := by
    intro k hk
    rcases (show k = 2 * (k / 2) ∨ k = 2 * (k / 2) + 1 by omega) with e | e
    · rw [e]; exact (h (k / 2) (by omega)).1
    · rw [e]; exact (h (k / 2) (by omega)).2
  apply ny_lb_ext
  intro i hi
  have e := congrArg (fun z => bt z (i % 4)) (h2 (i / 4) (by omega))
  try dsimp only at e
  rw [ny_n_b _ _ (by omega), ny_n_b _ _ (by omega), decide_eq_true (show i % 4 < 4 by omega), Bool.true_and, Bool.true_and, show 4 * (i / 4) + i % 4 = i by omega] at e
  exact e
/-- 256 times a long, and four bits: its nibbles -/
theorem ny_s_256 (md : Int64) : 256 * md = ng_shl md (nI 8) := by
  unfold ng_shl
  rw [wb_c 8 (by decide)]
  apply Int64.toBitVec_inj.mp
  rw [Int64.toBitVec_shiftLeft, wb_tb, wb_sm 8 (by decide), Int64.toBitVec_mul]
  apply BitVec.eq_of_toNat_eq
  rw [BitVec.shiftLeft_eq', BitVec.toNat_mul, BitVec.toNat_shiftLeft, Nat.shiftLeft_eq, Nat.mul_comm]
  rfl
theorem ny_e_b (md : Int64) (r0 r1 r2 r3 : Bool) {i : Nat} (hi : i < 64) : ng_b (256 * md + (ng_4 r0 r1 r2 r3).toInt64) i = ((decide (8 ≤ i) && ng_b md (i - 8)) || bt (ng_4 r0 r1 r2 r3) i) := by
  have hz : ∀ j, j < 64 → ng_b (ng_4 r0 r1 r2 r3).toInt64 j = bt (ng_4 r0 r1 r2 r3) j := by
    intro j hj
    rw [ny_lb_i2l _ hj]
    by_cases h : j < 32
    · rw [if_pos h]
    · rw [if_neg h, b_big (show 32 ≤ j by omega), ny_n4_b _ _ _ _ 31 (by omega)]
      simp
  have hb : ∀ j, 4 ≤ j → bt (ng_4 r0 r1 r2 r3) j = false := by
    intro j hj
    by_cases h : j < 32
    · rw [ny_n4_b _ _ _ _ j h, if_neg (by omega), if_neg (by omega), if_neg (by omega), if_neg (by omega)]
    · exact b_big (by omega)
  rw [ny_s_256, ny_add_or (fun j hj => by
    rw [ny_lb_shl 8 (by decide) _ hj, hz j hj]
    by_cases h : 8 ≤ j
    · rw [hb j (by omega), Bool.and_false]
    · rw [decide_eq_false h, Bool.false_and, Bool.false_and]), ny_lb_or, ny_lb_shl 8 (by decide) _ hi, hz i hi]
theorem ny_e_0 (md : Int64) (r0 r1 r2 r3 : Bool) : ng_n (256 * md + (ng_4 r0 r1 r2 r3).toInt64) 0 = ng_4 r0 r1 r2 r3 := by
  unfold ng_n
  rw [ny_e_b _ _ _ _ _ (by omega), ny_e_b _ _ _ _ _ (by omega), ny_e_b _ _ _ _ _ (by omega), ny_e_b _ _ _ _ _ (by omega), ny_n4_b _ _ _ _ _ (by omega), ny_n4_b _ _ _ _ _ (by omega), ny_n4_b _ _ _ _ _ (by omega), ny_n4_b _ _ _ _ _ (by omega)]
  simp
theorem ny_e_1 (md : Int64) (r0 r1 r2 r3 : Bool) : ng_n (256 * md + (ng_4 r0 r1 r2 r3).toInt64) 1 = 0 := by
  unfold ng_n
  rw [ny_e_b _ _ _ _ _ (by omega), ny_e_b _ _ _ _ _ (by omega), ny_e_b _ _ _ _ _ (by omega), ny_e_b _ _ _ _ _ (by omega), ny_n4_b _ _ _ _ _ (by omega), ny_n4_b _ _ _ _ _ (by omega), ny_n4_b _ _ _ _ _ (by omega), ny_n4_b _ _ _ _ _ (by omega)]
  simp
  decide
theorem ny_e_s (md : Int64) (r0 r1 r2 r3 : Bool) {k : Nat} (hk : k < 14) : ng_n (256 * md + (ng_4 r0 r1 r2 r3).toInt64) (k + 2) = ng_n md k := by
  have hb : ∀ j, 4 ≤ j → bt (ng_4 r0 r1 r2 r3) j = false := by
    intro j hj
    by_cases h : j < 32
    · rw [ny_n4_b _ _ _ _ j h, if_neg (by omega), if_neg (by omega), if_neg (by omega), if_neg (by omega)]
    · exact b_big (by omega)
  unfold ng_n
  rw [ny_e_b _ _ _ _ _ (by omega), ny_e_b _ _ _ _ _ (by omega), ny_e_b _ _ _ _ _ (by omega), ny_e_b _ _ _ _ _ (by omega), hb _ (by omega), hb _ (by omega), hb _ (by omega), hb _ (by omega), decide_eq_true (show 8 ≤ 4 * (k + 2) by omega), decide_eq_true (show 8 ≤ 4 * (k + 2) + 1 by omega), decide_eq_true (show 8 ≤ 4 * (k + 2) + 2 by omega), decide_eq_true (show 8 ≤ 4 * (k + 2) + 3 by omega), show 4 * (k + 2) - 8 = 4 * k by omega, show 4 * (k + 2) + 1 - 8 = 4 * k + 1 by omega, show 4 * (k + 2) + 2 - 8 = 4 * k + 2 by omega, show 4 * (k + 2) + 3 - 8 = 4 * k + 3 by omega]
  simp
theorem ny_P_is (b : Int32) (w : Int64) (k : Nat) : ∃ r0 r1 r2 r3 : Bool, ng_P (b &&& 15) (ng_n w k) = ng_4 r0 r1 r2 r3 := by
  rw [ny_n4_of b]
  unfold ng_n
  exact ⟨_, _, _, _, ny_P_4 _ _ _ _ _ _ _ _⟩
/-- one step of the reference: the two lowest nibbles, and those above -/
theorem ny_e_n (md : Int64) (a h l : Int32) {k : Nat} (hk : k < 16) : ng_n (ng_e md a h l (nI k)) 0 = ng_P (a &&& 15) (ng_n (ng_of h l) k) ∧ ng_n (ng_e md a h l (nI k)) 1 = 0 ∧ ∀ j, j < 14 → ng_n (ng_e md a h l (nI k)) (j + 2) = ng_n md j := by
  unfold ng_e
  rw [← ny_of_n h l hk]
  obtain ⟨r0, r1, r2, r3, e⟩ := ny_P_is a (ng_of h l) k
  rw [e]
  exact ⟨ny_e_0 md r0 r1 r2 r3, ny_e_1 md r0 r1 r2 r3, fun j hj => ny_e_s md r0 r1 r2 r3 hj⟩
/-- the reference's eight, its nibbles: n steps made, from the top -/
def ng_en (a h l : Int32) : Nat → Int64
  | 0 => 0
  | n + 1 => ng_e (ng_en a h l n) a h l (nI (14 - 2 * n))
theorem ny_E_en (a h l : Int32) : ng_E a h l = ng_en a h l 8 := rfl
theorem ny_en_n (a h l : Int32) : ∀ n, n ≤ 8 → ∀ q, q < n → ng_n (ng_en a h l n) (2 * q) = ng_P (a &&& 15) (ng_n (ng_of h l) (16 - 2 * n + 2 * q)) ∧ ng_n (ng_en a h l n) (2 * q + 1) = 0 := by
  intro n
  induction n with
  | zero =>
    intro _ q hq
    exact absurd hq (by omega)
  | succ n ih =>
    intro hn q hq
    obtain ⟨h0, h1, h2⟩ := ny_e_n (ng_en a h l n) a h l (k := 14 - 2 * n) (by omega)
    show ng_n (ng_e (ng_en a h l n) a h l (nI (14 - 2 * n))) (2 * q) = _ ∧ ng_n (ng_e (ng_en a h l n) a h l (nI (14 - 2 * n))) (2 * q + 1) = 0
    rcases (show q = 0 ∨ ∃ q', q = q' + 1 from by cases q with | zero => exact Or.inl rfl | succ q' => exact Or.inr ⟨q', rfl⟩) with e | ⟨q', e⟩
    · subst e
      refine ⟨?_, h1⟩
      rw [show 16 - 2 * (n + 1) + 2 * 0 = 14 - 2 * n by omega]
      exact h0
    · subst e
      have hi := ih (by omega) q' (by omega)
      rw [show 2 * (q' + 1) = 2 * q' + 2 by omega, show 2 * q' + 2 + 1 = (2 * q' + 1) + 2 by omega, h2 (2 * q') (by omega), h2 (2 * q' + 1) (by omega), show 16 - 2 * (n + 1) + (2 * q' + 2) = 16 - 2 * n + 2 * q' by omega]
      exact hi
theorem ny_eight_n (a h l : Int32) : ng_F ((a &&& 15).toInt8.toInt32) (ng_of h l &&& 1085102592571150095) = ng_E a h l := by
  unfold ng_F
  rw [ny_E_en]
  apply ny_n_ext
  intro q hq
  obtain ⟨h1, h2⟩ := ny_en_n a h l 8 (Nat.le_refl _) q hq
  rw [h1, h2, show 16 - 2 * 8 + 2 * q = 2 * q by omega, ny_n4_of a, ny_F_c, ny_F_n _ _ _ _ _ hq, ny_F_o _ _ _ _ _ hq]
  exact ⟨rfl, rfl⟩
/-! THE TWO STATES: the reference's elements are the nibbles of the rows -/
def ng_J (R : Nat → Int64) (E : Nat → Int32) : Prop := ∀ r, r < 8 → ∀ k, k < 16 → E (16 * r + k) = ng_n (R r) k
theorem ny_J_0 : ng_J (fun _ => 0) (fun _ => 0) := fun _ _ k _ => (ny_n_0 k).symm
theorem ny_J_set {R : Nat → Int64} {E : Nat → Int32} (h : ng_J R E) (i b d : Int32) : ng_J (vp_updL R (ng_i i) (ng_of b d)) (ng_M 16 i b d E) := by
  intro r hr k hk
  unfold vp_updL ng_M
  by_cases e : r = ng_i i
  · subst e
    rw [if_pos (by omega), if_pos rfl, show 16 * ng_i i + k - 16 * ng_i i = k by omega, ny_of_n b d hk]
  · rw [if_neg (by omega), if_neg e]
    exact h r hr k hk
theorem ny_J_add {R : Nat → Int64} {E : Nat → Int32} (h : ng_J R E) (i j n b : Int32) : ng_J (fun z => if ng_r j n ≤ z ∧ z < ng_r j n + ng_c n then R z ^^^ ng_T (b &&& 15) (R (ng_r i n + (z - ng_r j n))) else R z) (ng_A (16 * ng_c n) (16 * ng_r i n) (16 * ng_r j n) b E) := by
  have hc := ng_c_le n
  have hi := ng_r_lt i n
  have hj := ng_r_lt j n
  intro r hr k hk
  unfold ng_A
  dsimp only
  by_cases e : ng_r j n ≤ r ∧ r < ng_r j n + ng_c n
  · rw [if_pos (by omega), if_pos e, ny_n_xor, ny_T_n b _ hk, h r hr k hk, show 16 * ng_r i n + (16 * r + k - 16 * ng_r j n) = 16 * (ng_r i n + (r - ng_r j n)) + k by omega, h _ (by omega) k hk]
  · rw [if_neg (by omega), if_neg e]
    exact h r hr k hk
theorem ny_J_get {R : Nat → Int64} {E : Nat → Int32} (h : ng_J R E) (i : Int32) : R (ng_i i) = ng_G (fun z => E (16 * ng_i i + z)) 16 := ny_get_n _ _ (fun z hz => h _ (ng_i_lt i) z hz)
theorem ny_J_one {R : Nat → Int64} {E : Nat → Int32} (h : ng_J R E) (i k : Int32) : (ng_ush (R (ng_i i)) (4 * (k &&& 15))).toInt32 &&& 15 = E (16 * ng_i i + ng_at k) := by
  rw [ny_one_n, h _ (ng_i_lt i) _ (ng_at_lt k)]
end
section
/-! THE CLAIM OUT OF ONE WALK OF THE LAW'S BODY. Your part is whole_start (and what it stands on); all else here is the same for every law, but numbers. -/
def R_law : String := "NibbleFieldLaw"
def lw_P (b : Addr) (xs : List Int32) (args : Array Value) (s : State) : Prop := args = #[.ref b] ∧ s.IntsAt b xs ∧ xs.length ≤ 288 ∧ (Jvm.Cond.and given_1 narrow_1).before args s = true
def lw_Q (_ : Array Value) (s : State) (o : Outcome) (t : State) : Prop := o = .returned (some (.int 1)) ∧ Framed s o t [] 1200000 5502250
def lw_Z (below : List Frame) (a : Array Value) (s : State) : State → Prop := fun t => ∃ o, t.status = .running ∧ Ended t below o ∧ lw_Q a s o t
/-- the law's own end, with 1 on the stack, nothing written that was there before, its room as the claim has it -/
theorem lw_ret {p : Program} {l : Launch} {e : Env} {s : State} {m : MethodId} {below : List Frame} {meth : Method} {c : Code} {b : Nat} (hx : p.tables.exec = Jvm.exec) (hb : c.code = code) (hr : meth.sig.returnType = ret) (hlocks : meth.locks = false) {pc : Nat} {H : Heap} {ls : Array Slot} (hdg : decode code pc = .ok (.ireturn, 1)) : W p l e room_1 s m #[Value.ref b] below meth c H [] 1200000 5502250 (lw_Z below #[Value.ref b] s) (F0 m pc ls [.int 1]) := by
  intro T hT X
  obtain ⟨fs, hret, hrun, hended, hW, hframe⟩ := X.leave (v := some (.int 1)) (hlocks := hlocks) (fun h => by rw [hr] at h; cases h)
  have hmeth' : T.vm.method? m = some meth := X.method'
  refine ⟨T.setFrames fs, ?_, .returned (some (.int 1)), hrun, hended, rfl, ⟨_, rfl⟩, hW, hframe⟩
  jvm_step X.here [X.here.top, hx, hb, hdg, hmeth', hr, ret, narrow_b1]
  (try refine ⟨rfl, ?_⟩); (try refine ⟨rfl, ?_⟩)
  first | (intro acts; rw [hret _ acts rfl rfl rfl]) | rw [hret _ _ rfl rfl rfl]
  exact Steps.refl _
/-- what holds at the law's entry: the machine, the code, the tables' words (any of lw_tbl by 'hts w (by decide +kernel)'), the script of L ints xs at the cell b, what the Statement gives of the start (any of its parts by flat_of_before) -/
def lw_At (p : Program) (s : State) (m : MethodId) (meth : Method) (c : Code) (b L : Nat) (xs : Nat → Int32) : Prop :=
  p.tables.exec = Jvm.exec ∧ c.code = code ∧ meth.sig.returnType = ret ∧ c.maxLocals = 4 ∧ s.vm.findClass R_law = some m.cls ∧ (∀ w ∈ lw_tbl, w.before #[Value.ref b] s = true) ∧ va_X b L xs s s.heap ∧ b < s.heap.size ∧ meth.locks = false ∧ (Jvm.Cond.and given_1 narrow_1).before #[Value.ref b] s = true
set_option maxHeartbeats 4000000 in
set_option maxRecDepth 100000 in
/-- THE LAW'S LOOP: at its head, with i ints read, the reference's elements are the nibbles of the rows -/
theorem law_loop {p : Program} {l : Launch} {e : Env} {s : State} {m : MethodId} {below : List Frame} {meth : Method} {c : Code} {dC : Nat → ClassId} {dI : Nat → Nat → Nat} {dL dN : ClassId} {b L : Nat} {xs : Nat → Int32} (hL : L ≤ 288) (C0 : lw_At p s m meth c b L xs) (qx qxa qy qya : Nat) :
    ∀ (n i : Nat) (x3 : Int32) (R : Nat → Int64) (E : Nat → Int32), i ≤ 300 → L + 1 ≤ i + n → x3 = nI i → ng_J R E → ∀ (H : Heap) (locs : List Loc), va_K (dC, dI) vwCl [(dL, .long), (dN, .int)] s → va_P (dC, dI) vwCl [(qx, .inr (0, [.ref qxa])), (qxa, .inl (dL, 8, .inr (.inl R))), (qy, .inr (1, [.ref qya])), (qya, .inl (dN, 128, .inl E))] H → va_D (fun q : Nat => s.heap.size ≤ q) [(qx, .inr (0, [.ref qxa])), (qxa, .inl (dL, 8, .inr (.inl R))), (qy, .inr (1, [.ref qya])), (qya, .inl (dN, 128, .inl E))] → va_S (fun q : Nat => s.heap.size ≤ q) s.heap H locs → ∀ (ls : Array Slot), lv_has ls 4 [(0, .ref b), (1, .ref qx), (2, .ref qy), (3, .int x3)] → W p l e room_1 s m #[Value.ref b] below meth c H locs (4 + i) (138 + 68 * i) (lw_Z below #[Value.ref b] s) (F0 m 18 ls []) := by
  obtain ⟨hx, hb, hr, hml, hown, hts0, hX, hbl, hlocks, hgv⟩ := C0
  have hts : ∀ w ∈ lw_all, w.before #[Value.ref b] s = true := fun w h => hts0 w (lw_all_tbl h)
  have hA : ∀ q : Nat, s.heap.size ≤ q → (fun q : Nat => s.heap.size ≤ q) q := fun _ h => h
  have hbA : ¬ (fun q : Nat => s.heap.size ≤ q) b := Nat.not_le.mpr hbl
  intro n
  induction n with
  | zero =>
    intro i x3 R E h1 h2 e3 hJ H locs hK hP hD hS ls hl
    refine lv_iload_n hx hb dL_law_18 rfl (lv_at hl 3 rfl) ?_
    refine lv_aload_n hx hb dL_law_19 rfl (lv_at hl 0 rfl) ?_
    refine va_slen hx hb hX hbl hbA hS dL_law_20 ?_
    refine lv_bipush (v := 6) hx hb dL_law_21 (by decide) ?_
    refine lv_isub hx hb dL_law_23 ?_
    have hcmp : (nI L - 6).toInt = (L : Int) - 6 := pk_sub_toInt (a := L) (b := 6) (by omega) (by omega)
    refine lv_icmp_gt (tgt := 267) hx hb dL_law_24 (by decide) (fun c24 => ?_) (fun c24 => ?_)
    · skip
      refine lv_iconst (v := 1) hx hb dL_law_267 (by decide) ?_
      refine va_forget (fun q hq => hS.2.2 q hq) ?_
      refine W.widen (k := 1200000) (n := 5502250) (Nat.le_trans (m := 10000) (by omega) (Nat.le_of_ble_eq_true rfl)) (Nat.le_trans (m := 100000) (by omega) (Nat.le_of_ble_eq_true rfl)) ?_
      exact lw_ret hx hb hr hlocks dL_law_268
    · skip
      refine absurd ?_ c24
      rw [Int32.lt_iff_toInt_lt, e3, show Int32.ofNat L - 6 = nI L - 6 from rfl, hcmp, nI_toInt (by omega)]
      omega
  | succ n ih =>
    intro i x3 R E h1 h2 e3 hJ H locs hK hP hD hS ls hl
    refine lv_iload_n hx hb dL_law_18 rfl (lv_at hl 3 rfl) ?_
    refine lv_aload_n hx hb dL_law_19 rfl (lv_at hl 0 rfl) ?_
    refine va_slen hx hb hX hbl hbA hS dL_law_20 ?_
    refine lv_bipush (v := 6) hx hb dL_law_21 (by decide) ?_
    refine lv_isub hx hb dL_law_23 ?_
    have hcmp : (nI L - 6).toInt = (L : Int) - 6 := pk_sub_toInt (a := L) (b := 6) (by omega) (by omega)
    refine lv_icmp_gt (tgt := 267) hx hb dL_law_24 (by decide) (fun c24 => ?_) (fun c24 => ?_)
    · skip
      refine lv_iconst (v := 1) hx hb dL_law_267 (by decide) ?_
      refine va_forget (fun q hq => hS.2.2 q hq) ?_
      refine W.widen (k := 1200000) (n := 5502250) (Nat.le_trans (m := 10000) (by omega) (Nat.le_of_ble_eq_true rfl)) (Nat.le_trans (m := 100000) (by omega) (Nat.le_of_ble_eq_true rfl)) ?_
      exact lw_ret hx hb hr hlocks dL_law_268
    · skip
      have hlt : i + 6 ≤ L := by
        rcases Nat.lt_or_ge L (i + 6) with q | q
        · refine absurd ?_ c24
          rw [Int32.lt_iff_toInt_lt, e3, show Int32.ofNat L - 6 = nI L - 6 from rfl, hcmp, nI_toInt (by omega)]
          omega
        · exact q
      have h_0 : vp_in x3 L := by rw [e3]; exact vp_in_nI (by omega) (by omega)
      have h_1 : vp_in (x3 + 1) L := by rw [e3, show nI i + 1 = nI (i + 1) from nI_add i 1]; exact vp_in_nI (by omega) (by omega)
      have h_2 : vp_in (x3 + 2) L := by rw [e3, show nI i + 2 = nI (i + 2) from nI_add i 2]; exact vp_in_nI (by omega) (by omega)
      have h_3 : vp_in (x3 + 3) L := by rw [e3, show nI i + 3 = nI (i + 3) from nI_add i 3]; exact vp_in_nI (by omega) (by omega)
      have h_4 : vp_in (x3 + 4) L := by rw [e3, show nI i + 4 = nI (i + 4) from nI_add i 4]; exact vp_in_nI (by omega) (by omega)
      have next : ∀ (R : Nat → Int64) (E : Nat → Int32), ng_J R E → ∀ (H : Heap) (locs : List Loc), va_P (dC, dI) vwCl [(qx, .inr (0, [.ref qxa])), (qxa, .inl (dL, 8, .inr (.inl R))), (qy, .inr (1, [.ref qya])), (qya, .inl (dN, 128, .inl E))] H → va_D (fun q : Nat => s.heap.size ≤ q) [(qx, .inr (0, [.ref qxa])), (qxa, .inl (dL, 8, .inr (.inl R))), (qy, .inr (1, [.ref qya])), (qya, .inl (dN, 128, .inl E))] → va_S (fun q : Nat => s.heap.size ≤ q) s.heap H locs → W p l e room_1 s m #[Value.ref b] below meth c H locs (4 + (i + 6)) (138 + 68 * (i + 6)) (lw_Z below #[Value.ref b] s) (F0 m 261 ls []) := by
        intro R E hJ H locs hP hD hS
        obtain ⟨v261, ev261⟩ : ∃ y : Int32, y = x3 + 6 := ⟨_, rfl⟩
        refine lv_iinc (v := v261) (lv' := [(3, .int v261), (0, .ref b), (1, .ref qx), (2, .ref qy)]) hx hb dL_law_261 hl (k := 3) rfl (by rw [ev261]; rfl) (by decide) rfl (fun ls hl => ?_)
        refine lv_goto (tgt := 18) hx hb dL_law_264 (by decide) ?_
        exact ih (i + 6) v261 R E (by omega) (by omega) (by rw [ev261, e3]; exact nI_add i 6) hJ H locs hK hP hD hS ls (lv_sub hl [1, 2, 3, 0] rfl)
      refine lv_aload_n hx hb dL_law_27 rfl (lv_at hl 0 rfl) ?_
      refine lv_iload_n hx hb dL_law_28 rfl (lv_at hl 3 rfl) ?_
      refine va_sld hx hb hX hbl hbA hS h_0 dL_law_29 ?_
      refine lv_bipush (v := 7) hx hb dL_law_30 (by decide) ?_
      refine lv_iand hx hb dL_law_32 ?_
      obtain ⟨j, hj, ej⟩ := pk_andE (xs x3.toNatClampNeg) (m := 7) 3 rfl
      rw [ej]
      rcases (show j = 0 ∨ j = 1 ∨ j = 2 ∨ j = 3 ∨ j = 4 ∨ j = 5 ∨ j = 6 ∨ j = 7 by omega) with rfl | rfl | rfl | rfl | rfl | rfl | rfl | rfl
      · skip
        refine lv_tableIn (off := 35) (tgt := 68) hx hb dL_law_33 (by decide) (by decide) (by decide) (by decide) ?_
        refine lv_aload_n hx hb dL_law_68 rfl (lv_at hl 1 rfl) ?_
        refine lv_aload_n hx hb dL_law_69 rfl (lv_at hl 0 rfl) ?_
        refine lv_iload_n hx hb dL_law_70 rfl (lv_at hl 3 rfl) ?_
        refine lv_iconst (v := 1) hx hb dL_law_71 (by decide) ?_
        refine lv_iadd hx hb dL_law_72 ?_
        refine va_sld hx hb hX hbl hbA hS h_1 dL_law_73 ?_
        refine lv_aload_n hx hb dL_law_74 rfl (lv_at hl 0 rfl) ?_
        refine lv_iload_n hx hb dL_law_75 rfl (lv_at hl 3 rfl) ?_
        refine lv_iconst (v := 2) hx hb dL_law_76 (by decide) ?_
        refine lv_iadd hx hb dL_law_77 ?_
        refine va_sld hx hb hX hbl hbA hS h_2 dL_law_78 ?_
        refine lv_aload_n hx hb dL_law_79 rfl (lv_at hl 0 rfl) ?_
        refine lv_iload_n hx hb dL_law_80 rfl (lv_at hl 3 rfl) ?_
        refine lv_iconst (v := 3) hx hb dL_law_81 (by decide) ?_
        refine lv_iadd hx hb dL_law_82 ?_
        refine va_sld hx hb hX hbl hbA hS h_3 dL_law_83 ?_
        have hFc := ng_free hS hA
        refine va_calll (va_runV (As := [.int (xs (x3 + 1).toNatClampNeg), .int (xs (x3 + 2).toNatClampNeg), .int (xs (x3 + 3).toNatClampNeg)]) (rest := []) ⟨hx, hb, hml, hown, hts⟩ (metX0_eight l dC dI H.size qx (xs (x3 + 1).toNatClampNeg) (xs (x3 + 2).toNatClampNeg) (xs (x3 + 3).toNatClampNeg)) (cwV 3 hts (lw_V q18 q19 q20 q1 q21) rfl rfl rfl (by decide +kernel) ⟨Nat.le_of_ble_eq_true rfl, Nat.le_of_ble_eq_true rfl⟩) ⟨fun a U g mk q => q, va_recv hK hP (ci := 0) (q0 := 0) rfl rfl, fun U hU hW => ⟨rfl, congrArg Array.size hU⟩⟩ rfl rfl hl.1 rfl (lv_room (Nat.le_of_ble_eq_true rfl)) dL_law_84 ⟨Nat.le_trans (m := 10000) (by omega) (Nat.le_of_ble_eq_true rfl), Nat.le_trans (m := 100000) (by omega) (Nat.le_of_ble_eq_true rfl)⟩) hS (fun q _ h => hFc q h) hFc (fun r84 u t H1 locs ht hvm hw84 hB hz1 hk1 hS => ?_)
        have hP := ng_keep hP hk1
        generalize H1 = H at hP hS ⊢
        refine lv_aload_n hx hb dL_law_87 rfl (lv_at hl 2 rfl) ?_
        refine lv_aload_n hx hb dL_law_88 rfl (lv_at hl 0 rfl) ?_
        refine lv_iload_n hx hb dL_law_89 rfl (lv_at hl 3 rfl) ?_
        refine lv_iconst (v := 1) hx hb dL_law_90 (by decide) ?_
        refine lv_iadd hx hb dL_law_91 ?_
        refine va_sld hx hb hX hbl hbA hS h_1 dL_law_92 ?_
        refine lv_aload_n hx hb dL_law_93 rfl (lv_at hl 0 rfl) ?_
        refine lv_iload_n hx hb dL_law_94 rfl (lv_at hl 3 rfl) ?_
        refine lv_iconst (v := 2) hx hb dL_law_95 (by decide) ?_
        refine lv_iadd hx hb dL_law_96 ?_
        refine va_sld hx hb hX hbl hbA hS h_2 dL_law_97 ?_
        refine lv_aload_n hx hb dL_law_98 rfl (lv_at hl 0 rfl) ?_
        refine lv_iload_n hx hb dL_law_99 rfl (lv_at hl 3 rfl) ?_
        refine lv_iconst (v := 3) hx hb dL_law_100 (by decide) ?_
        refine lv_iadd hx hb dL_law_101 ?_
        refine va_sld hx hb hX hbl hbA hS h_3 dL_law_102 ?_
        have hFc := ng_free hS hA
        refine va_calll (va_runV (As := [.int (xs (x3 + 1).toNatClampNeg), .int (xs (x3 + 2).toNatClampNeg), .int (xs (x3 + 3).toNatClampNeg)]) (rest := [.long r84]) ⟨hx, hb, hml, hown, hts⟩ (metX1_eight l dC dI H.size qy (xs (x3 + 1).toNatClampNeg) (xs (x3 + 2).toNatClampNeg) (xs (x3 + 3).toNatClampNeg)) (cwV 3 hts (lw_V q69 q70 q71 q2 q72) rfl rfl rfl (by decide +kernel) ⟨Nat.le_of_ble_eq_true rfl, Nat.le_of_ble_eq_true rfl⟩) ⟨fun a U g mk q => q, va_recv hK hP (ci := 1) (q0 := 2) rfl rfl, fun U hU hW => ⟨rfl, congrArg Array.size hU⟩⟩ rfl rfl hl.1 rfl (lv_room (Nat.le_of_ble_eq_true rfl)) dL_law_103 ⟨Nat.le_trans (m := 10000) (by omega) (Nat.le_of_ble_eq_true rfl), Nat.le_trans (m := 100000) (by omega) (Nat.le_of_ble_eq_true rfl)⟩) hS (fun q _ h => hFc q h) hFc (fun r103 u t H1 locs ht hvm hw103 hB hz1 hk1 hS => ?_)
        have hP := ng_keep hP hk1
        generalize H1 = H at hP hS ⊢
        have eq : r84 = r103 := by rw [hw84, hw103]; exact ny_eight_n _ _ _
        refine W.lcmp hx hb dL_law_106 ?_
        have e0 : lg_cmp r84 r103 = 0 := by rw [eq]; simp [lg_cmp]
        rw [e0]
        refine lv_if_eq (tgt := 261) hx hb dL_law_107 (by decide) (fun cc => ?_) (fun cc => ?_)
        · skip
          refine W.widen (k := 4 + (i + 6)) (n := 138 + 68 * (i + 6)) (by omega) (by omega) ?_
          exact next R E hJ H _ hP hD hS
        · skip
          exact absurd rfl cc
      · skip
        refine lv_tableIn (off := 79) (tgt := 112) hx hb dL_law_33 (by decide) (by decide) (by decide) (by decide) ?_
        refine lv_aload_n hx hb dL_law_112 rfl (lv_at hl 1 rfl) ?_
        refine lv_aload_n hx hb dL_law_113 rfl (lv_at hl 0 rfl) ?_
        refine lv_iload_n hx hb dL_law_114 rfl (lv_at hl 3 rfl) ?_
        refine lv_iconst (v := 1) hx hb dL_law_115 (by decide) ?_
        refine lv_iadd hx hb dL_law_116 ?_
        refine va_sld hx hb hX hbl hbA hS h_1 dL_law_117 ?_
        refine lv_aload_n hx hb dL_law_118 rfl (lv_at hl 0 rfl) ?_
        refine lv_iload_n hx hb dL_law_119 rfl (lv_at hl 3 rfl) ?_
        refine lv_iconst (v := 2) hx hb dL_law_120 (by decide) ?_
        refine lv_iadd hx hb dL_law_121 ?_
        refine va_sld hx hb hX hbl hbA hS h_2 dL_law_122 ?_
        refine lv_aload_n hx hb dL_law_123 rfl (lv_at hl 0 rfl) ?_
        refine lv_iload_n hx hb dL_law_124 rfl (lv_at hl 3 rfl) ?_
        refine lv_iconst (v := 3) hx hb dL_law_125 (by decide) ?_
        refine lv_iadd hx hb dL_law_126 ?_
        refine va_sld hx hb hX hbl hbA hS h_3 dL_law_127 ?_
        have hPc := hP.sub (ws' := [(qx, .inr (0, [.ref qxa])), (qxa, .inl (dL, 8, .inr (.inl R)))]) [0, 1] rfl
        have hDc := hD.sub (ws' := [(qx, .inr (0, [.ref qxa])), (qxa, .inl (dL, 8, .inr (.inl R)))]) [0, 1] (by decide) rfl
        have hKc := hK.sub (tys' := [(dL, .long)]) [0] rfl
        have hFc := va_free (wc := [(qx, .inr (0, [.ref qxa])), (qxa, .inl (dL, 8, .inr (.inl R)))]) hD hS hA [0, 1] rfl
        refine va_callv (va_runV (As := [.int (xs (x3 + 1).toNatClampNeg), .int (xs (x3 + 2).toNatClampNeg), .int (xs (x3 + 3).toNatClampNeg)]) (rest := []) ⟨hx, hb, hml, hown, hts⟩ (metX0_set l dC dI H.size qx qxa dL R (xs (x3 + 1).toNatClampNeg) (xs (x3 + 2).toNatClampNeg) (xs (x3 + 3).toNatClampNeg)) (cwV 3 hts (lw_V q32 q33 q34 q1 q35) rfl rfl rfl (by decide +kernel) ⟨Nat.le_of_ble_eq_true rfl, Nat.le_of_ble_eq_true rfl⟩) ⟨fun a U g mk q => by obtain ⟨q0, q1, qP, qK, qD⟩ := q; exact ⟨q0, q1, qP, va_K.moved (u := U) (U := U.calling g mk a) (Vm.Alike.refl U.vm) qK, qD⟩, va_recv hKc hPc (ci := 0) (q0 := 0) rfl rfl, fun U hU hW => ⟨rfl, by rw [hU], by rw [hU]; exact hPc, va_K.moved hW.alike hKc, hDc.weaken (fun _ _ _ _ => trivial)⟩⟩ rfl rfl hl.1 rfl (lv_room (Nat.le_of_ble_eq_true rfl)) dL_law_128 ⟨Nat.le_trans (m := 10000) (by omega) (Nat.le_of_ble_eq_true rfl), Nat.le_trans (m := 100000) (by omega) (Nat.le_of_ble_eq_true rfl)⟩) hS (fun q _ h => hFc q h) hFc (fun u t H1 locs ht hvm hw128 hB hz1 hk1 hS => ?_)
        obtain ⟨hP1, hK1, hD1⟩ := hB
        rw [ht] at hP1
        obtain ⟨hP, hD⟩ := va_join (wr := [(qy, .inr (1, [.ref qya])), (qya, .inl (dN, 128, .inl E))]) (w1 := [(qx, .inr (0, [.ref qxa])), (qxa, .inl (dL, 8, .inr (.inl u)))]) hP hD [0, 1] [2, 3] rfl rfl (by decide) (by decide) hk1 hFc hP1 hD1
        generalize H1 = H at hP hS ⊢
        obtain ⟨R1, rfl⟩ : ∃ z, z = u := ⟨_, rfl⟩
        have hP : va_P (dC, dI) vwCl [(qy, .inr (1, [.ref qya])), (qya, .inl (dN, 128, .inl E)), (qx, .inr (0, [.ref qxa])), (qxa, .inl (dL, 8, .inr (.inl R1)))] H := hP
        have hD : va_D (fun q : Nat => s.heap.size ≤ q) [(qy, .inr (1, [.ref qya])), (qya, .inl (dN, 128, .inl E)), (qx, .inr (0, [.ref qxa])), (qxa, .inl (dL, 8, .inr (.inl R1)))] := hD
        refine lv_aload_n hx hb dL_law_131 rfl (lv_at hl 2 rfl) ?_
        refine lv_aload_n hx hb dL_law_132 rfl (lv_at hl 0 rfl) ?_
        refine lv_iload_n hx hb dL_law_133 rfl (lv_at hl 3 rfl) ?_
        refine lv_iconst (v := 1) hx hb dL_law_134 (by decide) ?_
        refine lv_iadd hx hb dL_law_135 ?_
        refine va_sld hx hb hX hbl hbA hS h_1 dL_law_136 ?_
        refine lv_aload_n hx hb dL_law_137 rfl (lv_at hl 0 rfl) ?_
        refine lv_iload_n hx hb dL_law_138 rfl (lv_at hl 3 rfl) ?_
        refine lv_iconst (v := 2) hx hb dL_law_139 (by decide) ?_
        refine lv_iadd hx hb dL_law_140 ?_
        refine va_sld hx hb hX hbl hbA hS h_2 dL_law_141 ?_
        refine lv_aload_n hx hb dL_law_142 rfl (lv_at hl 0 rfl) ?_
        refine lv_iload_n hx hb dL_law_143 rfl (lv_at hl 3 rfl) ?_
        refine lv_iconst (v := 3) hx hb dL_law_144 (by decide) ?_
        refine lv_iadd hx hb dL_law_145 ?_
        refine va_sld hx hb hX hbl hbA hS h_3 dL_law_146 ?_
        have hPc := hP.sub (ws' := [(qy, .inr (1, [.ref qya])), (qya, .inl (dN, 128, .inl E))]) [0, 1] rfl
        have hDc := hD.sub (ws' := [(qy, .inr (1, [.ref qya])), (qya, .inl (dN, 128, .inl E))]) [0, 1] (by decide) rfl
        have hKc := hK.sub (tys' := [(dN, .int)]) [1] rfl
        have hFc := va_free (wc := [(qy, .inr (1, [.ref qya])), (qya, .inl (dN, 128, .inl E))]) hD hS hA [0, 1] rfl
        refine va_callv (va_runV (As := [.int (xs (x3 + 1).toNatClampNeg), .int (xs (x3 + 2).toNatClampNeg), .int (xs (x3 + 3).toNatClampNeg)]) (rest := []) ⟨hx, hb, hml, hown, hts⟩ (metX1_set l dC dI H.size qy qya dN E (xs (x3 + 1).toNatClampNeg) (xs (x3 + 2).toNatClampNeg) (xs (x3 + 3).toNatClampNeg)) (cwV 3 hts (lw_V q80 q81 q82 q2 q83) rfl rfl rfl (by decide +kernel) ⟨Nat.le_of_ble_eq_true rfl, Nat.le_of_ble_eq_true rfl⟩) ⟨fun a U g mk q => by obtain ⟨q0, q1, qP, qK, qD⟩ := q; exact ⟨q0, q1, qP, va_K.moved (u := U) (U := U.calling g mk a) (Vm.Alike.refl U.vm) qK, qD⟩, va_recv hKc hPc (ci := 1) (q0 := 0) rfl rfl, fun U hU hW => ⟨rfl, by rw [hU], by rw [hU]; exact hPc, va_K.moved hW.alike hKc, hDc.weaken (fun _ _ _ _ => trivial)⟩⟩ rfl rfl hl.1 rfl (lv_room (Nat.le_of_ble_eq_true rfl)) dL_law_147 ⟨Nat.le_trans (m := 10000) (by omega) (Nat.le_of_ble_eq_true rfl), Nat.le_trans (m := 100000) (by omega) (Nat.le_of_ble_eq_true rfl)⟩) hS (fun q _ h => hFc q h) hFc (fun u t H1 locs ht hvm hw147 hB hz1 hk1 hS => ?_)
        obtain ⟨hP1, hK1, hD1⟩ := hB
        rw [ht] at hP1
        obtain ⟨hP, hD⟩ := va_join (wr := [(qx, .inr (0, [.ref qxa])), (qxa, .inl (dL, 8, .inr (.inl R1)))]) (w1 := [(qy, .inr (1, [.ref qya])), (qya, .inl (dN, 128, .inl u))]) hP hD [0, 1] [2, 3] rfl rfl (by decide) (by decide) hk1 hFc hP1 hD1
        generalize H1 = H at hP hS ⊢
        obtain ⟨E1, rfl⟩ : ∃ z, z = u := ⟨_, rfl⟩
        have hP : va_P (dC, dI) vwCl [(qx, .inr (0, [.ref qxa])), (qxa, .inl (dL, 8, .inr (.inl R1))), (qy, .inr (1, [.ref qya])), (qya, .inl (dN, 128, .inl E1))] H := hP
        have hD : va_D (fun q : Nat => s.heap.size ≤ q) [(qx, .inr (0, [.ref qxa])), (qxa, .inl (dL, 8, .inr (.inl R1))), (qy, .inr (1, [.ref qya])), (qya, .inl (dN, 128, .inl E1))] := hD
        have hJ1 : ng_J R1 E1 := by rw [hw128, hw147]; exact ny_J_set hJ _ _ _
        refine lv_goto (tgt := 261) hx hb dL_law_150 (by decide) ?_
        refine W.widen (k := 4 + (i + 6)) (n := 138 + 68 * (i + 6)) (by omega) (by omega) ?_
        exact next R1 E1 hJ1 H _ hP hD hS
      · skip
        refine lv_tableIn (off := 120) (tgt := 153) hx hb dL_law_33 (by decide) (by decide) (by decide) (by decide) ?_
        refine lv_aload_n hx hb dL_law_153 rfl (lv_at hl 1 rfl) ?_
        refine lv_aload_n hx hb dL_law_154 rfl (lv_at hl 0 rfl) ?_
        refine lv_iload_n hx hb dL_law_155 rfl (lv_at hl 3 rfl) ?_
        refine lv_iconst (v := 1) hx hb dL_law_156 (by decide) ?_
        refine lv_iadd hx hb dL_law_157 ?_
        refine va_sld hx hb hX hbl hbA hS h_1 dL_law_158 ?_
        refine lv_aload_n hx hb dL_law_159 rfl (lv_at hl 0 rfl) ?_
        refine lv_iload_n hx hb dL_law_160 rfl (lv_at hl 3 rfl) ?_
        refine lv_iconst (v := 2) hx hb dL_law_161 (by decide) ?_
        refine lv_iadd hx hb dL_law_162 ?_
        refine va_sld hx hb hX hbl hbA hS h_2 dL_law_163 ?_
        refine lv_aload_n hx hb dL_law_164 rfl (lv_at hl 0 rfl) ?_
        refine lv_iload_n hx hb dL_law_165 rfl (lv_at hl 3 rfl) ?_
        refine lv_iconst (v := 3) hx hb dL_law_166 (by decide) ?_
        refine lv_iadd hx hb dL_law_167 ?_
        refine va_sld hx hb hX hbl hbA hS h_3 dL_law_168 ?_
        refine lv_aload_n hx hb dL_law_169 rfl (lv_at hl 0 rfl) ?_
        refine lv_iload_n hx hb dL_law_170 rfl (lv_at hl 3 rfl) ?_
        refine lv_iconst (v := 4) hx hb dL_law_171 (by decide) ?_
        refine lv_iadd hx hb dL_law_172 ?_
        refine va_sld hx hb hX hbl hbA hS h_4 dL_law_173 ?_
        have hPc := hP.sub (ws' := [(qx, .inr (0, [.ref qxa])), (qxa, .inl (dL, 8, .inr (.inl R)))]) [0, 1] rfl
        have hDc := hD.sub (ws' := [(qx, .inr (0, [.ref qxa])), (qxa, .inl (dL, 8, .inr (.inl R)))]) [0, 1] (by decide) rfl
        have hKc := hK.sub (tys' := [(dL, .long)]) [0] rfl
        have hFc := va_free (wc := [(qx, .inr (0, [.ref qxa])), (qxa, .inl (dL, 8, .inr (.inl R)))]) hD hS hA [0, 1] rfl
        refine va_callv (va_runV (As := [.int (xs (x3 + 1).toNatClampNeg), .int (xs (x3 + 2).toNatClampNeg), .int (xs (x3 + 3).toNatClampNeg), .int (xs (x3 + 4).toNatClampNeg)]) (rest := []) ⟨hx, hb, hml, hown, hts⟩ (metX0_add l dC dI H.size qx qxa dL R (xs (x3 + 1).toNatClampNeg) (xs (x3 + 2).toNatClampNeg) (xs (x3 + 3).toNatClampNeg) (xs (x3 + 4).toNatClampNeg)) (cwV 4 hts (lw_V q36 q37 q38 q1 q39) rfl rfl rfl (by decide +kernel) ⟨Nat.le_of_ble_eq_true rfl, Nat.le_of_ble_eq_true rfl⟩) ⟨fun a U g mk q => by obtain ⟨q0, q1, qP, qK, qD⟩ := q; exact ⟨q0, q1, qP, va_K.moved (u := U) (U := U.calling g mk a) (Vm.Alike.refl U.vm) qK, qD⟩, va_recv hKc hPc (ci := 0) (q0 := 0) rfl rfl, fun U hU hW => ⟨rfl, by rw [hU], by rw [hU]; exact hPc, va_K.moved hW.alike hKc, hDc.weaken (fun _ _ _ _ => trivial)⟩⟩ rfl rfl hl.1 rfl (lv_room (Nat.le_of_ble_eq_true rfl)) dL_law_174 ⟨Nat.le_trans (m := 10000) (by omega) (Nat.le_of_ble_eq_true rfl), Nat.le_trans (m := 100000) (by omega) (Nat.le_of_ble_eq_true rfl)⟩) hS (fun q _ h => hFc q h) hFc (fun u t H1 locs ht hvm hw174 hB hz1 hk1 hS => ?_)
        obtain ⟨hP1, hK1, hD1⟩ := hB
        rw [ht] at hP1
        obtain ⟨hP, hD⟩ := va_join (wr := [(qy, .inr (1, [.ref qya])), (qya, .inl (dN, 128, .inl E))]) (w1 := [(qx, .inr (0, [.ref qxa])), (qxa, .inl (dL, 8, .inr (.inl u)))]) hP hD [0, 1] [2, 3] rfl rfl (by decide) (by decide) hk1 hFc hP1 hD1
        generalize H1 = H at hP hS ⊢
        obtain ⟨R1, rfl⟩ : ∃ z, z = u := ⟨_, rfl⟩
        have hP : va_P (dC, dI) vwCl [(qy, .inr (1, [.ref qya])), (qya, .inl (dN, 128, .inl E)), (qx, .inr (0, [.ref qxa])), (qxa, .inl (dL, 8, .inr (.inl R1)))] H := hP
        have hD : va_D (fun q : Nat => s.heap.size ≤ q) [(qy, .inr (1, [.ref qya])), (qya, .inl (dN, 128, .inl E)), (qx, .inr (0, [.ref qxa])), (qxa, .inl (dL, 8, .inr (.inl R1)))] := hD
        refine lv_aload_n hx hb dL_law_177 rfl (lv_at hl 2 rfl) ?_
        refine lv_aload_n hx hb dL_law_178 rfl (lv_at hl 0 rfl) ?_
        refine lv_iload_n hx hb dL_law_179 rfl (lv_at hl 3 rfl) ?_
        refine lv_iconst (v := 1) hx hb dL_law_180 (by decide) ?_
        refine lv_iadd hx hb dL_law_181 ?_
        refine va_sld hx hb hX hbl hbA hS h_1 dL_law_182 ?_
        refine lv_aload_n hx hb dL_law_183 rfl (lv_at hl 0 rfl) ?_
        refine lv_iload_n hx hb dL_law_184 rfl (lv_at hl 3 rfl) ?_
        refine lv_iconst (v := 2) hx hb dL_law_185 (by decide) ?_
        refine lv_iadd hx hb dL_law_186 ?_
        refine va_sld hx hb hX hbl hbA hS h_2 dL_law_187 ?_
        refine lv_aload_n hx hb dL_law_188 rfl (lv_at hl 0 rfl) ?_
        refine lv_iload_n hx hb dL_law_189 rfl (lv_at hl 3 rfl) ?_
        refine lv_iconst (v := 3) hx hb dL_law_190 (by decide) ?_
        refine lv_iadd hx hb dL_law_191 ?_
        refine va_sld hx hb hX hbl hbA hS h_3 dL_law_192 ?_
        refine lv_aload_n hx hb dL_law_193 rfl (lv_at hl 0 rfl) ?_
        refine lv_iload_n hx hb dL_law_194 rfl (lv_at hl 3 rfl) ?_
        refine lv_iconst (v := 4) hx hb dL_law_195 (by decide) ?_
        refine lv_iadd hx hb dL_law_196 ?_
        refine va_sld hx hb hX hbl hbA hS h_4 dL_law_197 ?_
        have hPc := hP.sub (ws' := [(qy, .inr (1, [.ref qya])), (qya, .inl (dN, 128, .inl E))]) [0, 1] rfl
        have hDc := hD.sub (ws' := [(qy, .inr (1, [.ref qya])), (qya, .inl (dN, 128, .inl E))]) [0, 1] (by decide) rfl
        have hKc := hK.sub (tys' := [(dN, .int)]) [1] rfl
        have hFc := va_free (wc := [(qy, .inr (1, [.ref qya])), (qya, .inl (dN, 128, .inl E))]) hD hS hA [0, 1] rfl
        refine va_callv (va_runV (As := [.int (xs (x3 + 1).toNatClampNeg), .int (xs (x3 + 2).toNatClampNeg), .int (xs (x3 + 3).toNatClampNeg), .int (xs (x3 + 4).toNatClampNeg)]) (rest := []) ⟨hx, hb, hml, hown, hts⟩ (metX1_add l dC dI H.size qy qya dN E (xs (x3 + 1).toNatClampNeg) (xs (x3 + 2).toNatClampNeg) (xs (x3 + 3).toNatClampNeg) (xs (x3 + 4).toNatClampNeg)) (cwV 4 hts (lw_V q87 q88 q89 q2 q90) rfl rfl rfl (by decide +kernel) ⟨Nat.le_of_ble_eq_true rfl, Nat.le_of_ble_eq_true rfl⟩) ⟨fun a U g mk q => by obtain ⟨q0, q1, qP, qK, qD⟩ := q; exact ⟨q0, q1, qP, va_K.moved (u := U) (U := U.calling g mk a) (Vm.Alike.refl U.vm) qK, qD⟩, va_recv hKc hPc (ci := 1) (q0 := 0) rfl rfl, fun U hU hW => ⟨rfl, by rw [hU], by rw [hU]; exact hPc, va_K.moved hW.alike hKc, hDc.weaken (fun _ _ _ _ => trivial)⟩⟩ rfl rfl hl.1 rfl (lv_room (Nat.le_of_ble_eq_true rfl)) dL_law_198 ⟨Nat.le_trans (m := 10000) (by omega) (Nat.le_of_ble_eq_true rfl), Nat.le_trans (m := 100000) (by omega) (Nat.le_of_ble_eq_true rfl)⟩) hS (fun q _ h => hFc q h) hFc (fun u t H1 locs ht hvm hw198 hB hz1 hk1 hS => ?_)
        obtain ⟨hP1, hK1, hD1⟩ := hB
        rw [ht] at hP1
        obtain ⟨hP, hD⟩ := va_join (wr := [(qx, .inr (0, [.ref qxa])), (qxa, .inl (dL, 8, .inr (.inl R1)))]) (w1 := [(qy, .inr (1, [.ref qya])), (qya, .inl (dN, 128, .inl u))]) hP hD [0, 1] [2, 3] rfl rfl (by decide) (by decide) hk1 hFc hP1 hD1
        generalize H1 = H at hP hS ⊢
        obtain ⟨E1, rfl⟩ : ∃ z, z = u := ⟨_, rfl⟩
        have hP : va_P (dC, dI) vwCl [(qx, .inr (0, [.ref qxa])), (qxa, .inl (dL, 8, .inr (.inl R1))), (qy, .inr (1, [.ref qya])), (qya, .inl (dN, 128, .inl E1))] H := hP
        have hD : va_D (fun q : Nat => s.heap.size ≤ q) [(qx, .inr (0, [.ref qxa])), (qxa, .inl (dL, 8, .inr (.inl R1))), (qy, .inr (1, [.ref qya])), (qya, .inl (dN, 128, .inl E1))] := hD
        have hJ1 : ng_J R1 E1 := by rw [hw174, hw198]; exact ny_J_add hJ _ _ _ _
        refine lv_goto (tgt := 261) hx hb dL_law_201 (by decide) ?_
        refine W.widen (k := 4 + (i + 6)) (n := 138 + 68 * (i + 6)) (by omega) (by omega) ?_
        exact next R1 E1 hJ1 H _ hP hD hS
      · skip
        refine lv_tableIn (off := 171) (tgt := 204) hx hb dL_law_33 (by decide) (by decide) (by decide) (by decide) ?_
        refine lv_aload_n hx hb dL_law_204 rfl (lv_at hl 1 rfl) ?_
        refine lv_aload_n hx hb dL_law_205 rfl (lv_at hl 0 rfl) ?_
        refine lv_iload_n hx hb dL_law_206 rfl (lv_at hl 3 rfl) ?_
        refine lv_iconst (v := 1) hx hb dL_law_207 (by decide) ?_
        refine lv_iadd hx hb dL_law_208 ?_
        refine va_sld hx hb hX hbl hbA hS h_1 dL_law_209 ?_
        have hPc := hP.sub (ws' := [(qx, .inr (0, [.ref qxa])), (qxa, .inl (dL, 8, .inr (.inl R)))]) [0, 1] rfl
        have hKc := hK.sub (tys' := [(dL, .long)]) [0] rfl
        have hFc := ng_free hS hA
        refine va_calll (va_runV (As := [.int (xs (x3 + 1).toNatClampNeg)]) (rest := []) ⟨hx, hb, hml, hown, hts⟩ (metX0_get l dC dI H.size qx qxa dL R (xs (x3 + 1).toNatClampNeg)) (cwV 1 hts (lw_V q50 q51 q52 q1 q53) rfl rfl rfl (by decide +kernel) ⟨Nat.le_of_ble_eq_true rfl, Nat.le_of_ble_eq_true rfl⟩) ⟨fun a U g mk q => by obtain ⟨q0, q1, qP, qK⟩ := q; exact ⟨q0, q1, qP, va_K.moved (u := U) (U := U.calling g mk a) (Vm.Alike.refl U.vm) qK⟩, va_recv hKc hPc (ci := 0) (q0 := 0) rfl rfl, fun U hU hW => ⟨rfl, by rw [hU], by rw [hU]; exact hPc, va_K.moved hW.alike hKc⟩⟩ rfl rfl hl.1 rfl (lv_room (Nat.le_of_ble_eq_true rfl)) dL_law_210 ⟨Nat.le_trans (m := 10000) (by omega) (Nat.le_of_ble_eq_true rfl), Nat.le_trans (m := 100000) (by omega) (Nat.le_of_ble_eq_true rfl)⟩) hS (fun q _ h => hFc q h) hFc (fun r210 u t H1 locs ht hvm hw210 hB hz1 hk1 hS => ?_)
        have hP := ng_keep hP hk1
        generalize H1 = H at hP hS ⊢
        refine lv_aload_n hx hb dL_law_213 rfl (lv_at hl 2 rfl) ?_
        refine lv_aload_n hx hb dL_law_214 rfl (lv_at hl 0 rfl) ?_
        refine lv_iload_n hx hb dL_law_215 rfl (lv_at hl 3 rfl) ?_
        refine lv_iconst (v := 1) hx hb dL_law_216 (by decide) ?_
        refine lv_iadd hx hb dL_law_217 ?_
        refine va_sld hx hb hX hbl hbA hS h_1 dL_law_218 ?_
        have hPc := hP.sub (ws' := [(qy, .inr (1, [.ref qya])), (qya, .inl (dN, 128, .inl E))]) [2, 3] rfl
        have hKc := hK.sub (tys' := [(dN, .int)]) [1] rfl
        have hFc := ng_free hS hA
        refine va_calll (va_runV (As := [.int (xs (x3 + 1).toNatClampNeg)]) (rest := [.long r210]) ⟨hx, hb, hml, hown, hts⟩ (metX1_get l dC dI H.size qy qya dN E (xs (x3 + 1).toNatClampNeg)) (cwV 1 hts (lw_V q95 q96 q97 q2 q98) rfl rfl rfl (by decide +kernel) ⟨Nat.le_of_ble_eq_true rfl, Nat.le_of_ble_eq_true rfl⟩) ⟨fun a U g mk q => by obtain ⟨q0, q1, qP, qK⟩ := q; exact ⟨q0, q1, qP, va_K.moved (u := U) (U := U.calling g mk a) (Vm.Alike.refl U.vm) qK⟩, va_recv hKc hPc (ci := 1) (q0 := 0) rfl rfl, fun U hU hW => ⟨rfl, by rw [hU], by rw [hU]; exact hPc, va_K.moved hW.alike hKc⟩⟩ rfl rfl hl.1 rfl (lv_room (Nat.le_of_ble_eq_true rfl)) dL_law_219 ⟨Nat.le_trans (m := 10000) (by omega) (Nat.le_of_ble_eq_true rfl), Nat.le_trans (m := 100000) (by omega) (Nat.le_of_ble_eq_true rfl)⟩) hS (fun q _ h => hFc q h) hFc (fun r219 u t H1 locs ht hvm hw219 hB hz1 hk1 hS => ?_)
        have hP := ng_keep hP hk1
        generalize H1 = H at hP hS ⊢
        have eq : r210 = r219 := by rw [hw210, hw219]; exact ny_J_get hJ _
        refine W.lcmp hx hb dL_law_222 ?_
        have e0 : lg_cmp r210 r219 = 0 := by rw [eq]; simp [lg_cmp]
        rw [e0]
        refine lv_if_eq (tgt := 261) hx hb dL_law_223 (by decide) (fun cc => ?_) (fun cc => ?_)
        · skip
          refine W.widen (k := 4 + (i + 6)) (n := 138 + 68 * (i + 6)) (by omega) (by omega) ?_
          exact next R E hJ H _ hP hD hS
        · skip
          exact absurd rfl cc
      · skip
        refine lv_tableIn (off := 195) (tgt := 228) hx hb dL_law_33 (by decide) (by decide) (by decide) (by decide) ?_
        refine lv_aload_n hx hb dL_law_228 rfl (lv_at hl 1 rfl) ?_
        refine lv_aload_n hx hb dL_law_229 rfl (lv_at hl 0 rfl) ?_
        refine lv_iload_n hx hb dL_law_230 rfl (lv_at hl 3 rfl) ?_
        refine lv_iconst (v := 1) hx hb dL_law_231 (by decide) ?_
        refine lv_iadd hx hb dL_law_232 ?_
        refine va_sld hx hb hX hbl hbA hS h_1 dL_law_233 ?_
        refine lv_aload_n hx hb dL_law_234 rfl (lv_at hl 0 rfl) ?_
        refine lv_iload_n hx hb dL_law_235 rfl (lv_at hl 3 rfl) ?_
        refine lv_iconst (v := 2) hx hb dL_law_236 (by decide) ?_
        refine lv_iadd hx hb dL_law_237 ?_
        refine va_sld hx hb hX hbl hbA hS h_2 dL_law_238 ?_
        have hPc := hP.sub (ws' := [(qx, .inr (0, [.ref qxa])), (qxa, .inl (dL, 8, .inr (.inl R)))]) [0, 1] rfl
        have hKc := hK.sub (tys' := [(dL, .long)]) [0] rfl
        have hFc := ng_free hS hA
        refine va_calli (va_runV (As := [.int (xs (x3 + 1).toNatClampNeg), .int (xs (x3 + 2).toNatClampNeg)]) (rest := []) ⟨hx, hb, hml, hown, hts⟩ (metX0_one l dC dI H.size qx qxa dL R (xs (x3 + 1).toNatClampNeg) (xs (x3 + 2).toNatClampNeg)) (cwV 2 hts (lw_V q54 q55 q56 q1 q57) rfl rfl rfl (by decide +kernel) ⟨Nat.le_of_ble_eq_true rfl, Nat.le_of_ble_eq_true rfl⟩) ⟨fun a U g mk q => by obtain ⟨q0, q1, qP, qK⟩ := q; exact ⟨q0, q1, qP, va_K.moved (u := U) (U := U.calling g mk a) (Vm.Alike.refl U.vm) qK⟩, va_recv hKc hPc (ci := 0) (q0 := 0) rfl rfl, fun U hU hW => ⟨rfl, by rw [hU], by rw [hU]; exact hPc, va_K.moved hW.alike hKc⟩⟩ rfl rfl hl.1 rfl (lv_room (Nat.le_of_ble_eq_true rfl)) dL_law_239 ⟨Nat.le_trans (m := 10000) (by omega) (Nat.le_of_ble_eq_true rfl), Nat.le_trans (m := 100000) (by omega) (Nat.le_of_ble_eq_true rfl)⟩) hS (fun q _ h => hFc q h) hFc (fun r239 u t H1 locs ht hvm hw239 hB hz1 hk1 hS => ?_)
        have hP := ng_keep hP hk1
        generalize H1 = H at hP hS ⊢
        refine lv_aload_n hx hb dL_law_242 rfl (lv_at hl 2 rfl) ?_
        refine lv_aload_n hx hb dL_law_243 rfl (lv_at hl 0 rfl) ?_
        refine lv_iload_n hx hb dL_law_244 rfl (lv_at hl 3 rfl) ?_
        refine lv_iconst (v := 1) hx hb dL_law_245 (by decide) ?_
        refine lv_iadd hx hb dL_law_246 ?_
        refine va_sld hx hb hX hbl hbA hS h_1 dL_law_247 ?_
        refine lv_aload_n hx hb dL_law_248 rfl (lv_at hl 0 rfl) ?_
        refine lv_iload_n hx hb dL_law_249 rfl (lv_at hl 3 rfl) ?_
        refine lv_iconst (v := 2) hx hb dL_law_250 (by decide) ?_
        refine lv_iadd hx hb dL_law_251 ?_
        refine va_sld hx hb hX hbl hbA hS h_2 dL_law_252 ?_
        have hPc := hP.sub (ws' := [(qy, .inr (1, [.ref qya])), (qya, .inl (dN, 128, .inl E))]) [2, 3] rfl
        have hKc := hK.sub (tys' := [(dN, .int)]) [1] rfl
        have hFc := ng_free hS hA
        refine va_calli (va_runV (As := [.int (xs (x3 + 1).toNatClampNeg), .int (xs (x3 + 2).toNatClampNeg)]) (rest := [.int r239]) ⟨hx, hb, hml, hown, hts⟩ (metX1_one l dC dI H.size qy qya dN E (xs (x3 + 1).toNatClampNeg) (xs (x3 + 2).toNatClampNeg)) (cwV 2 hts (lw_V q99 q100 q101 q2 q102) rfl rfl rfl (by decide +kernel) ⟨Nat.le_of_ble_eq_true rfl, Nat.le_of_ble_eq_true rfl⟩) ⟨fun a U g mk q => by obtain ⟨q0, q1, qP, qK⟩ := q; exact ⟨q0, q1, qP, va_K.moved (u := U) (U := U.calling g mk a) (Vm.Alike.refl U.vm) qK⟩, va_recv hKc hPc (ci := 1) (q0 := 0) rfl rfl, fun U hU hW => ⟨rfl, by rw [hU], by rw [hU]; exact hPc, va_K.moved hW.alike hKc⟩⟩ rfl rfl hl.1 rfl (lv_room (Nat.le_of_ble_eq_true rfl)) dL_law_253 ⟨Nat.le_trans (m := 10000) (by omega) (Nat.le_of_ble_eq_true rfl), Nat.le_trans (m := 100000) (by omega) (Nat.le_of_ble_eq_true rfl)⟩) hS (fun q _ h => hFc q h) hFc (fun r253 u t H1 locs ht hvm hw253 hB hz1 hk1 hS => ?_)
        have hP := ng_keep hP hk1
        generalize H1 = H at hP hS ⊢
        have eq : r239 = r253 := by rw [hw239, hw253]; exact ny_J_one hJ _ _
        refine lv_icmp_eq (tgt := 261) hx hb dL_law_256 (by decide) (fun cc => ?_) (fun cc => ?_)
        · skip
          refine W.widen (k := 4 + (i + 6)) (n := 138 + 68 * (i + 6)) (by omega) (by omega) ?_
          exact next R E hJ H _ hP hD hS
        · skip
          exact absurd eq cc
      · skip
        refine lv_tableOut (tgt := 261) hx hb dL_law_33 (by decide) (by decide) ?_
        refine W.widen (k := 4 + (i + 6)) (n := 138 + 68 * (i + 6)) (by omega) (by omega) ?_
        exact next R E hJ H locs hP hD hS
      · skip
        refine lv_tableOut (tgt := 261) hx hb dL_law_33 (by decide) (by decide) ?_
        refine W.widen (k := 4 + (i + 6)) (n := 138 + 68 * (i + 6)) (by omega) (by omega) ?_
        exact next R E hJ H locs hP hD hS
      · skip
        refine lv_tableOut (tgt := 261) hx hb dL_law_33 (by decide) (by decide) ?_
        refine W.widen (k := 4 + (i + 6)) (n := 138 + 68 * (i + 6)) (by omega) (by omega) ?_
        exact next R E hJ H locs hP hD hS
end
section
set_option maxHeartbeats 4000000 in
set_option maxRecDepth 100000 in
/-- YOUR PART: from the entry, for every script of at most 288 ints, the law comes to its end with true ('hflags': the launch's flags, for a law that throws: no stack traces) -/
theorem whole_start {p : Program} {e : Env} {s : State} {m : MethodId} {below : List Frame} {meth : Method} {c : Code} (l : Launch) (hflags : l.flags = flags0) {b L : Nat} {xs : Nat → Int32} (hL : L ≤ 288) (C0 : lw_At p s m meth c b L xs) : W p l e room_1 s m #[Value.ref b] below meth c s.heap [] 0 0 (lw_Z below #[Value.ref b] s) (entryFrame m ([Value.ref b] : List Value).toArray 4) := by
  obtain ⟨hx, hb, hr, hml, hown, hts0, hX, hbl, hlocks, hgv⟩ := id C0
  have hts : ∀ w ∈ lw_all, w.before #[Value.ref b] s = true := fun w h => hts0 w (lw_all_tbl h)
  have hA : ∀ q : Nat, s.heap.size ≤ q → (fun q : Nat => s.heap.size ≤ q) q := fun _ h => h
  have hbA : ¬ (fun q : Nat => s.heap.size ≤ q) b := Nat.not_le.mpr hbl
  obtain ⟨c0_, iS0, hKn0⟩ := u_known (C := RX0) (T := TX0) (N := 1) (n := 1) hts0 (fun w h => lw_all_tbl (in_X0 w h)) (hts0 _ (lw_all_tbl q6))
  obtain ⟨c1_, iS1, hKn1⟩ := u_known (C := RX1) (T := TX1) (N := 1) (n := 1) hts0 (fun w h => lw_all_tbl (in_X1 w h)) (hts0 _ (lw_all_tbl q59))
  obtain ⟨dC, dI, hKc0⟩ : ∃ (dC : Nat → ClassId) (dI : Nat → Nat → Nat), ∀ (k : Nat) (q : vw_C), vwCl[k]? = some q → u_Kn s q.1 q.2.1 q.2.2 (dC k) (dI k) := by
    refine ⟨fun k => if k = 0 then c0_ else c1_, fun k => if k = 0 then iS0 else iS1, ?_⟩
    intro k q hq
    match k, hq with
    | 0, hq => cases hq; exact hKn0
    | 1, hq => cases hq; exact hKn1
    | k + 2, hq => simp [vwCl] at hq
  have hS : va_S (fun q : Nat => s.heap.size ≤ q) s.heap s.heap [] := va_S.rf
  have hK : va_K (dC, dI) vwCl [] s := ⟨hKc0, fun k q h => by simp at h⟩
  have hP : va_P (dC, dI) vwCl [] s.heap := fun k q h => by simp at h
  have hD : va_D (fun q : Nat => s.heap.size ≤ q) [] := ⟨fun i j p q h => by simp at h, fun k q h => by simp at h⟩
  have hl := lv_entry ([.ref b]) (n := 4) (Nat.le_of_ble_eq_true rfl)
  rw [lg_entry_eq]
  generalize (lg_sl ([.ref b]) ++ List.replicate (4 - (lg_sl ([.ref b])).length) Slot.unset).toArray = ls at hl ⊢
  have hl : lv_has ls 4 [(0, .ref b)] := hl
  refine va_new (ci := 0) (fs := [.null]) (C := RX0) (T := TX0) (N := 1) hx hb hts in_X0 tyX0 tyX0_ok hown (hts _ q5) (hts _ q6) (hts _ q1) hK hP hD hS hA rfl (fun j hj => by rcases (show j = 0 by omega) with rfl; rfl) (Nat.le_trans (m := 10000) (Nat.le_of_ble_eq_true rfl) (Nat.le_of_ble_eq_true rfl)) (Nat.le_trans (m := 10000) (Nat.le_of_ble_eq_true rfl) (Nat.le_of_ble_eq_true rfl)) dL_law_0 (fun qx H hP hD hS => ?_)
  have hP : va_P (dC, dI) vwCl [(qx, .inr (0, [.null]))] H := hP
  have hD : va_D (fun q : Nat => s.heap.size ≤ q) [(qx, .inr (0, [.null]))] := hD
  refine lv_dup hx hb dL_law_3 rfl ?_
  have hPc := hP.sub (ws' := [(qx, .inr (0, [.null]))]) [0] rfl
  have hDc := hD.sub (ws' := [(qx, .inr (0, [.null]))]) [0] (by decide) rfl
  have hKc := hK.sub (tys' := []) [] rfl
  have hFc := va_free (wc := [(qx, .inr (0, [.null]))]) hD hS hA [0] rfl
  refine va_callv (va_runI (As := []) (rest := [.ref qx]) ⟨hx, hb, hml, hown, hts⟩ (metX0_init l dC dI H.size qx) (cwI 0 hts (lw_meth q9) rfl rfl rfl (hts _ q1) (hts _ q7) (hts _ q8) rfl (by decide +kernel) ⟨Nat.le_of_ble_eq_true rfl, Nat.le_of_ble_eq_true rfl⟩) ⟨fun a U g mk q => by obtain ⟨q0, q1, qP, qK, qD⟩ := q; exact ⟨q0, q1, qP, va_K.moved (u := U) (U := U.calling g mk a) (Vm.Alike.refl U.vm) qK, qD⟩, fun U hU hW => ⟨rfl, by rw [hU], by rw [hU]; exact hPc, va_K.moved hW.alike hKc, hDc.weaken (fun _ _ _ _ => trivial)⟩⟩ rfl rfl hl.1 rfl (lv_room (Nat.le_of_ble_eq_true rfl)) dL_law_4 ⟨Nat.le_trans (m := 10000) (Nat.le_of_ble_eq_true rfl) (Nat.le_of_ble_eq_true rfl), Nat.le_trans (m := 10000) (Nat.le_of_ble_eq_true rfl) (Nat.le_of_ble_eq_true rfl)⟩) hS (fun q _ h => hFc q h) hFc (fun u t H1 locs ht hvm hw4 hB hz1 hk1 hS => ?_)
  obtain ⟨qxa, dL, hP1, hK1, hD1⟩ := hB
  rw [ht] at hP1
  have hK1 := va_K.moved hvm.symm hK1
  obtain ⟨hP, hD⟩ := va_join (wr := []) (w1 := [(qx, .inr (0, [.ref qxa])), (qxa, .inl (dL, 8, .inr (.inl (fun _ => 0))))]) hP hD [0] [] rfl rfl (by decide) (by decide) hk1 hFc hP1 hD1
  have hK := (hK.sub (tys' := []) [] rfl).app hK1
  generalize H1 = H at hP hS ⊢
  have hP : va_P (dC, dI) vwCl [(qx, .inr (0, [.ref qxa])), (qxa, .inl (dL, 8, .inr (.inl (fun _ => 0))))] H := hP
  have hD : va_D (fun q : Nat => s.heap.size ≤ q) [(qx, .inr (0, [.ref qxa])), (qxa, .inl (dL, 8, .inr (.inl (fun _ => 0))))] := hD
  have hK : va_K (dC, dI) vwCl [(dL, .long)] s := hK
  refine lv_astore_n (lv' := [(1, .ref qx), (0, .ref b)]) hx hb dL_law_7 rfl hl (by decide) rfl (fun ls hl => ?_)
  refine va_new (ci := 1) (fs := [.null]) (C := RX1) (T := TX1) (N := 1) hx hb hts in_X1 tyX1 tyX1_ok hown (hts _ q58) (hts _ q59) (hts _ q2) hK hP hD hS hA rfl (fun j hj => by rcases (show j = 0 by omega) with rfl; rfl) (Nat.le_trans (m := 10000) (Nat.le_of_ble_eq_true rfl) (Nat.le_of_ble_eq_true rfl)) (Nat.le_trans (m := 10000) (Nat.le_of_ble_eq_true rfl) (Nat.le_of_ble_eq_true rfl)) dL_law_8 (fun qy H hP hD hS => ?_)
  have hP : va_P (dC, dI) vwCl [(qx, .inr (0, [.ref qxa])), (qxa, .inl (dL, 8, .inr (.inl (fun _ => 0)))), (qy, .inr (1, [.null]))] H := hP
  have hD : va_D (fun q : Nat => s.heap.size ≤ q) [(qx, .inr (0, [.ref qxa])), (qxa, .inl (dL, 8, .inr (.inl (fun _ => 0)))), (qy, .inr (1, [.null]))] := hD
  refine lv_dup hx hb dL_law_11 rfl ?_
  have hPc := hP.sub (ws' := [(qy, .inr (1, [.null]))]) [2] rfl
  have hDc := hD.sub (ws' := [(qy, .inr (1, [.null]))]) [2] (by decide) rfl
  have hKc := hK.sub (tys' := []) [] rfl
  have hFc := va_free (wc := [(qy, .inr (1, [.null]))]) hD hS hA [2] rfl
  refine va_callv (va_runI (As := []) (rest := [.ref qy]) ⟨hx, hb, hml, hown, hts⟩ (metX1_init l dC dI H.size qy) (cwI 0 hts (lw_meth q62) rfl rfl rfl (hts _ q2) (hts _ q60) (hts _ q61) rfl (by decide +kernel) ⟨Nat.le_of_ble_eq_true rfl, Nat.le_of_ble_eq_true rfl⟩) ⟨fun a U g mk q => by obtain ⟨q0, q1, qP, qK, qD⟩ := q; exact ⟨q0, q1, qP, va_K.moved (u := U) (U := U.calling g mk a) (Vm.Alike.refl U.vm) qK, qD⟩, fun U hU hW => ⟨rfl, by rw [hU], by rw [hU]; exact hPc, va_K.moved hW.alike hKc, hDc.weaken (fun _ _ _ _ => trivial)⟩⟩ rfl rfl hl.1 rfl (lv_room (Nat.le_of_ble_eq_true rfl)) dL_law_12 ⟨Nat.le_trans (m := 10000) (Nat.le_of_ble_eq_true rfl) (Nat.le_of_ble_eq_true rfl), Nat.le_trans (m := 10000) (Nat.le_of_ble_eq_true rfl) (Nat.le_of_ble_eq_true rfl)⟩) hS (fun q _ h => hFc q h) hFc (fun u t H1 locs ht hvm hw12 hB hz1 hk1 hS => ?_)
  obtain ⟨qya, dN, hP1, hK1, hD1⟩ := hB
  rw [ht] at hP1
  have hK1 := va_K.moved hvm.symm hK1
  obtain ⟨hP, hD⟩ := va_join (wr := [(qx, .inr (0, [.ref qxa])), (qxa, .inl (dL, 8, .inr (.inl (fun _ => 0))))]) (w1 := [(qy, .inr (1, [.ref qya])), (qya, .inl (dN, 128, .inl (fun _ => 0)))]) hP hD [2] [0, 1] rfl rfl (by decide) (by decide) hk1 hFc hP1 hD1
  have hK := (hK.sub (tys' := [(dL, .long)]) [0] rfl).app hK1
  generalize H1 = H at hP hS ⊢
  have hP : va_P (dC, dI) vwCl [(qx, .inr (0, [.ref qxa])), (qxa, .inl (dL, 8, .inr (.inl (fun _ => 0)))), (qy, .inr (1, [.ref qya])), (qya, .inl (dN, 128, .inl (fun _ => 0)))] H := hP
  have hD : va_D (fun q : Nat => s.heap.size ≤ q) [(qx, .inr (0, [.ref qxa])), (qxa, .inl (dL, 8, .inr (.inl (fun _ => 0)))), (qy, .inr (1, [.ref qya])), (qya, .inl (dN, 128, .inl (fun _ => 0)))] := hD
  have hK : va_K (dC, dI) vwCl [(dL, .long), (dN, .int)] s := hK
  refine lv_astore_n (lv' := [(2, .ref qy), (1, .ref qx), (0, .ref b)]) hx hb dL_law_15 rfl hl (by decide) rfl (fun ls hl => ?_)
  refine lv_iconst (v := 0) hx hb dL_law_16 (by decide) ?_
  refine lv_istore_n (lv' := [(3, .int 0), (2, .ref qy), (1, .ref qx), (0, .ref b)]) hx hb dL_law_17 rfl hl (by decide) rfl (fun ls hl => ?_)
  refine W.widen (k := 4 + 0) (n := 138 + 68 * 0) (Nat.le_of_ble_eq_true rfl) (Nat.le_of_ble_eq_true rfl) ?_
  exact law_loop hL C0 qx qxa qy qya (L + 1) 0 0 (fun _ => 0) (fun _ => 0) (by omega) (by omega) nI_0.symm ny_J_0 H _ hK hP hD hS ls (lv_sub hl [3, 2, 1, 0] rfl)
set_option maxHeartbeats 4000000 in
theorem lw_walk (l : Launch) (hflags : l.flags = flags0) (b : Addr) (xs : List Int32) : MetFree l x (headSpec (Jvm.Cond.code x code maxLocals ret :: tables_1) room_1) (lw_P b xs) (fun _ _ _ _ _ => True) lw_Q := by
  refine MetFree.of_bodyS (code := code) (maxLocals := maxLocals) (ret := ret) (by decide) ?_ ?_
  · intro args s m h hn
    obtain ⟨meth, c, h1, h2, h3, h4, h5, h6, -, -⟩ := Cond.code_spec hn (atoms_spec (ws := Jvm.Cond.code x code maxLocals ret :: tables_1) h _ List.mem_cons_self)
    exact ⟨meth, c, h1, h2, h3, h4, h5, h6⟩
  · intro p e s m args below meth c s₁ B hml0 hP _
    obtain ⟨rfl, hx, hbd, hgv⟩ := hP
    obtain ⟨scr, harrAt, hlist, hof, hsmall⟩ := hx
    obtain ⟨hcb, hkn, -, -⟩ := State.arrayAt?_spec harrAt
    have hown : s.vm.findClass R_law = some m.cls := findClass_of_methodNamed B.named
    have hts0 : ∀ c ∈ (Jvm.Cond.code x code maxLocals ret :: tables_1), c.before #[Value.ref b] s = true := atoms_spec (ws := Jvm.Cond.code x code maxLocals ret :: tables_1) B.pre
    have hts : ∀ w ∈ lw_tbl, w.before #[Value.ref b] s = true := k2_hts_sels lw_privs (fun w hw => hts0 w (List.mem_cons_of_mem _ hw)) lw_privs_ok
    have hml : c.maxLocals = 4 := B.maxLocals_eq (hts0 _ List.mem_cons_self)
    have X₀ : Stand p l e room_1 s m #[Value.ref b] below meth c s₁ [] 0 0 := Stand.of_body B
    have hh0 : s₁.heap = s.heap := by rw [B.state]; rfl
    have hsz : scr.slots.size = xs.length := by rw [← Array.length_toList, hlist, List.length_map]
    have hval : ∀ j : Nat, j < xs.length → scr.slots[j]? = some (.int (xs.getD j 0)) := fun j hj => by
      rw [← Array.getElem?_toList, hlist]
      simp [hj]
    have hbl : b < s.heap.size := (Array.getElem?_eq_some_iff.mp hcb).1
    have hX : va_X b xs.length (fun j => xs.getD j 0) s s.heap := ⟨scr, hcb, hof, hkn, hsz, hval⟩
    have K : W p l e room_1 s m #[Value.ref b] below meth c s₁.heap [] 0 0 (lw_Z below #[Value.ref b] s) (entryFrame m ([Value.ref b] : List Value).toArray 4) := by
      rw [hh0]
      exact whole_start l hflags hbd ⟨B.exec, B.bytes, B.returns, hml, hown, hts, hX, hbl, B.notSynchronized, hgv⟩
    obtain ⟨t, a1, o, b1, b2, b3⟩ := K s₁ rfl X₀
    exact ⟨t, o, a1, b1, b2, b3⟩
theorem lw_pre_spec {args : Array Value} {s : State} (h : (Jvm.Cond.and given_1 narrow_1).before args s = true) (hr : rest_1_c.before args s = true) : ∃ (b : Addr) (xs : List Int32), lw_P b xs args s := by
  have hs := flat_of_before _ h
  have hq := flat_of_before _ hr
  have hc : (Cond.count 1).before args s = true := hs _ (by decide +kernel)
  have harr : (Cond.arrayOf (.arg 0) .int).before args s = true := hs _ (by decide +kernel)
  have hle : (Cond.le (.length (.arg 0)) (.int 288)).before args s = true := hs _ (by decide +kernel)
  have hlen : (Cond.isInt (.length (.arg 0))).before args s = true := hq _ (by decide +kernel)
  have hall : (Cond.all (.arg 0) (.isInt (.elem (.arg 0) (.index 0)))).before args s = true := hq _ (by decide +kernel)
  obtain ⟨b, xs, hb, hx⟩ := State.ints_of_pre rfl harr hlen hall
  have hsm : xs.length < 2 ^ 31 := hx.choose_spec.2.2.2
  have hev : (Term.length (.arg 0)).eval args s none [] s = some (.int xs.length.toInt32) := hx.length_eval hb
  have hv := Cond.le_ints hev (show (Term.int 288).eval args s none [] s = some (.int 288) from rfl)
  have hd : xs.length.toInt32 ≤ 288 := by
    simpa [Cond.before, Cond.holds, hv] using hle
  have hN : xs.length ≤ 288 := (Int32.ofNat_le_ofNat hsm (by decide)).mp (show Int32.ofNat xs.length ≤ Int32.ofNat 288 from hd)
  exact ⟨b, xs, Cond.one_arg hc (show args[0]? = some (.ref b) from hb), hx, hN, h⟩
theorem lw_comes (l : Launch) (hflags : l.flags = flags0) : Comes l x (Jvm.Cond.code x code maxLocals ret :: tables_1) room_1 (fun tb e args s => Calls_1 tb e args s ∧ rest_1 tb e args s ∧ Pre_1 tb e args s)
    (fun _ _ args s o t => lw_Q args s o t) := by
  intro p e ha hc hk s m args below hf hfit hheap happ hpre
  obtain ⟨b, xs, hP⟩ := lw_pre_spec hpre.2.2 hpre.2.1
  obtain ⟨k, o, h1, h2, h3, hQ⟩ := lw_walk l hflags b xs p e ha hc hk s m args below hf ((Spec.applies_iff_loose hf).mp happ).1 hP trivial
  exact ⟨k, o, h1, h2, h3, hQ⟩
theorem lw_frame {s t : State} {o : Outcome} {args : Array Value} (h : Framed s o t [] 1200000 5502250) :
    Framed s o t (fieldLocs frame_1_writes args s ++ arrayLocs frame_1_arrays args s ++ staticLocs frame_1_statics s) 1200000 5502250 := h
theorem lw_limb (L : Cond) (hL : ∀ (args : Array Value) (s t : State), L.after args s (.returned (some (.int 1))) t = true) :
    ArmFor flags0 classFile x code maxLocals ret World_1 tables_1 room_1 Calls_1 rest_1 Pre_1
      (fun tb e a s o t => postC L tb e a s o t ∧ Framed s o t (fieldLocs frame_1_writes a s ++ arrayLocs frame_1_arrays a s ++ staticLocs frame_1_statics s) 1200000 5502250) := by
  intro l hflags _ _ p e ha hc hk s m args below hf hfit hheap happ hpre
  obtain ⟨k, o, h1, h2, h3, rfl, hF⟩ := lw_comes l hflags p e ha hc hk s m args below hf hfit hheap happ hpre
  exact ⟨k, _, h1, h2, h3, hL args s _, lw_frame hF⟩
theorem i_vc : Claimed_1_1 ∧ Claimed_1_2 := ⟨lw_limb limb_1_1 (fun args s t => by simp [limb_1_1, Cond.after, Cond.holds, Cond.value]), lw_limb limb_1_2 (fun args s t => Cond.after_iff.mpr (by
  first | (rw [show limb_1_2 = Cond.eq .result (.int 1) from rfl, Cond.eq_ints (x := 1) (y := 1) rfl rfl]; simp; done) | (simp [limb_1_2, Cond.value, Term.eval]; done)))⟩
end
