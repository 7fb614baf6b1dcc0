section
-- ===== PART A: goes FIRST, ahead of the names: the tables' words, and 'selects' of the private methods out of them =====
/-- a private method of a class that the tables say can be made, by its rows of tables_1 -/
def lw_okq (q : MethodName × Nat) : Prop := (q.1.cls ≠ "java/lang/invoke/MethodHandle" ∧ q.1.cls ≠ "java/lang/invoke/VarHandle") ∧ Cond.instantiable q.1.cls q.2 ∈ tables_1 ∧ Cond.privateMethod q.1 ∈ tables_1 ∧ Cond.instanceMethod q.1 ∈ tables_1
def lw_privs : List (MethodName × Nat) := []
def lw_tbl : List Cond := k2_sels lw_privs ++ tables_1
theorem lw_privs_ok : ∀ q ∈ lw_privs, lw_okq q := fun _ h => absurd h List.not_mem_nil
-- ===== ONE list of words for every method: the tables' words that hold all through a run =====
def lw_all : List Cond := lw_tbl.filter goodWord
/-- a word of the tables by its place: claim/WORDS.tsv -/
theorem lw_w {w : Cond} (i : Nat) (h : lw_tbl[i]? = some w) (g : goodWord w = true) : w ∈ lw_all := List.mem_filter.mpr ⟨List.mem_of_getElem? h, g⟩
theorem lw_all_tbl {w : Cond} (h : w ∈ lw_all) : w ∈ lw_tbl := (List.mem_filter.mp h).1
theorem lw_self : GoodIn lw_all lw_all := fun w h => ⟨h, good_of_word (List.mem_filter.mp h).2⟩
/-- a class's field words, by their places -/
theorem lw_in (ws : List Cond) (ps : List Nat) (hp : ws = ps.filterMap (fun i => lw_tbl[i]?)) (hg : ws.all goodWord = true) : ∀ w ∈ ws, w ∈ lw_all := by
  intro w h
  have h1 := List.all_eq_true.mp hg w h
  rw [hp] at h
  obtain ⟨i, -, hi⟩ := List.mem_filterMap.mp h
  exact lw_w i hi h1
/-- the words of a contract for the method y with code b, L locals, answer r -/
abbrev ws_ (y : MethodName) (b : ByteArray) (L : Nat) (r : Option FieldType) : List Cond := Cond.code y b L r :: lw_all
theorem lw_meth {y : MethodName} {b : ByteArray} {L : Nat} {r : Option FieldType} (h : Cond.code y b L r ∈ lw_all) : GoodIn lw_all (ws_ y b L r) := by
  intro w hw
  rcases List.mem_cons.mp hw with e | e
  · rw [e]
    exact lw_self _ h
  · exact lw_self _ e
theorem lw_app {a c : List Cond} (ha : ∀ w ∈ a, w ∈ lw_all) (hc : GoodIn lw_all c) : GoodIn lw_all (a ++ c) := by
  intro w hw
  rcases List.mem_append.mp hw with e | e
  · exact lw_self w (ha w e)
  · exact hc w e
/-- what a call through an object asks: cwV n hts (lw_V ..) -/
theorem lw_V {own : String} {idx : Nat} {C : String} {y : MethodName} {b : ByteArray} {L : Nat} {r : Option FieldType} (h1 : Cond.methodLink own idx y ∈ lw_all) (h2 : Cond.instanceMethod y ∈ lw_all) (h3 : Cond.selects C y y ∈ lw_all) (h4 : Cond.initialized C ∈ lw_all) (h5 : Cond.code y b L r ∈ lw_all) : GoodIn lw_all (wsV own idx C y (ws_ y b L r)) := by
  refine lw_app ?_ (lw_meth h5)
  intro w hw
  simp only [List.mem_cons, List.not_mem_nil, or_false] at hw
  rcases hw with e | e | e | e
  · rw [e]; exact h1
  · rw [e]; exact h2
  · rw [e]; exact h3
  · rw [e]; exact h4
/-- what a static call asks: va_cwS n hts (lw_S ..) -/
theorem lw_S {own : String} {idx : Nat} {y : MethodName} {b : ByteArray} {L : Nat} {r : Option FieldType} (h1 : Cond.methodLink own idx y ∈ lw_all) (h2 : Cond.static y ∈ lw_all) (h3 : Cond.initialized y.cls ∈ lw_all) (h4 : Cond.code y b L r ∈ lw_all) : GoodIn lw_all (va_wsS own idx y (ws_ y b L r)) := by
  refine lw_app ?_ (lw_meth h4)
  intro w hw
  simp only [List.mem_cons, List.not_mem_nil, or_false] at hw
  rcases hw with e | e | e
  · rw [e]; exact h1
  · rw [e]; exact h2
  · rw [e]; exact h3
/-- the words of a contract for a method WITH HANDLERS (hh: its table) -/
abbrev wsW_ (y : MethodName) (b : ByteArray) (L : Nat) (r : Option FieldType) (hh : List (Nat × Nat × Nat × Nat)) : List Cond := Cond.codeWith y b L r hh :: lw_all
theorem lw_methW {y : MethodName} {b : ByteArray} {L : Nat} {r : Option FieldType} {hh : List (Nat × Nat × Nat × Nat)} (h : Cond.codeWith y b L r hh ∈ lw_all) : GoodIn lw_all (wsW_ y b L r hh) := by
  intro w hw
  rcases List.mem_cons.mp hw with e | e
  · rw [e]
    exact lw_self _ h
  · exact lw_self _ e
/-- any list of words by their places (lw_in), good -/
theorem lw_good {ws : List Cond} (h : ∀ w ∈ ws, w ∈ lw_all) : GoodIn lw_all ws := fun w hw => lw_self w (h w hw)
/-- what a call of a method with handlers asks: vx_cwVW n hts (lw_VW ..), vx_cwSW n hts (lw_SW ..) -/
theorem lw_VW {own : String} {idx : Nat} {C : String} {y : MethodName} {b : ByteArray} {L : Nat} {r : Option FieldType} {hh : List (Nat × Nat × Nat × Nat)} (h1 : Cond.methodLink own idx y ∈ lw_all) (h2 : Cond.instanceMethod y ∈ lw_all) (h3 : Cond.selects C y y ∈ lw_all) (h4 : Cond.initialized C ∈ lw_all) (h5 : Cond.codeWith y b L r hh ∈ lw_all) : GoodIn lw_all (wsV own idx C y (wsW_ y b L r hh)) := by
  refine lw_app ?_ (lw_methW h5)
  intro w hw
  simp only [List.mem_cons, List.not_mem_nil, or_false] at hw
  rcases hw with e | e | e | e
  · rw [e]; exact h1
  · rw [e]; exact h2
  · rw [e]; exact h3
  · rw [e]; exact h4
theorem lw_SW {own : String} {idx : Nat} {y : MethodName} {b : ByteArray} {L : Nat} {r : Option FieldType} {hh : List (Nat × Nat × Nat × Nat)} (h1 : Cond.methodLink own idx y ∈ lw_all) (h2 : Cond.static y ∈ lw_all) (h3 : Cond.initialized y.cls ∈ lw_all) (h4 : Cond.codeWith y b L r hh ∈ lw_all) : GoodIn lw_all (va_wsS own idx y (wsW_ y b L r hh)) := by
  refine lw_app ?_ (lw_methW h4)
  intro w hw
  simp only [List.mem_cons, List.not_mem_nil, or_false] at hw
  rcases hw with e | e | e
  · rw [e]; exact h1
  · rw [e]; exact h2
  · rw [e]; exact h3
/-- a word by its place in its run of the tables -/
theorem lw_at {r : List Cond} (hr : ∀ w ∈ r, w ∈ lw_tbl) {w : Cond} (i : Nat) (h : r[i]? = some w) : w ∈ lw_tbl := hr w (List.mem_of_getElem? h)
theorem lw_g {w : Cond} (h : w ∈ lw_tbl) (g : goodWord w = true) : w ∈ lw_all := List.mem_filter.mpr ⟨h, g⟩
theorem lw_ms : ∀ w ∈ k2_sels lw_privs, w ∈ lw_tbl := fun w h => show w ∈ k2_sels lw_privs ++ tables_1 from List.mem_append_left _ h
theorem lw_m0 : ∀ w ∈ tables_1, w ∈ lw_tbl := fun w h => show w ∈ k2_sels lw_privs ++ tables_1 from List.mem_append_right (k2_sels lw_privs) h
/-! DECODE ROWS BY BYTES: one lemma an opcode; a method's code is cut into short pieces once, and a row reads its own piece alone. -/
set_option maxRecDepth 100000
/-- the code has just these bytes from pc on -/
def DkAt (code : ByteArray) (pc : Nat) (bs : List UInt8) : Prop := ∀ (j : Nat) (b : UInt8), bs[j]? = some b → code.data.toList[pc + j]? = some b
/-- the piece W has the bytes bs from its place j on -/
def dkIn (W : List UInt8) (j : Nat) (bs : List UInt8) : Bool := decide ((W.drop j).take bs.length = bs)
theorem dk_seg {l W T : List UInt8} {o o2 : Nat} (h : l.drop o = W ++ T) (n : Nat) (hn : W.length = n) (ho : o + n = o2) : l.drop o2 = T := by
  subst ho
  rw [← List.drop_drop, h, List.drop_left' hn]
theorem dk_at {code : ByteArray} {W T bs : List UInt8} {o pc : Nat} (h : code.data.toList.drop o = W ++ T) (j : Nat) (hp : o + j = pc) (hw : dkIn W j bs = true) : DkAt code pc bs := by
  subst hp
  intro i b e
  have h1 := of_decide_eq_true hw
  have h2 : i < bs.length := (List.getElem?_eq_some_iff.mp e).1
  have h3 : W[j + i]? = some b := by
    rw [← h1, List.getElem?_take, if_pos h2, List.getElem?_drop] at e
    exact e
  have h4 : j + i < W.length := (List.getElem?_eq_some_iff.mp h3).1
  have h5 : (code.data.toList.drop o)[j + i]? = some b := by
    rw [h, List.getElem?_append_left h4]
    exact h3
  rw [List.getElem?_drop, ← Nat.add_assoc] at h5
  exact h5
theorem dk_u1 {A : ByteArray} {p : Nat} {b : UInt8} (h : A.data.toList[p]? = some b) : (Reader.u1 : Reader DecodeError Nat) A p = .ok (b.toNat, p + 1) := by
  obtain ⟨h1, h2⟩ := List.getElem?_eq_some_iff.mp h
  have h3 : p < A.size := by simpa using h1
  have h4 : A[p]'h3 = b := h2
  have e : (Reader.u1 : Reader DecodeError Nat) A p = (if h : p < A.size then .ok (A[p].toNat, p + 1) else .error (HasTruncated.truncated p)) := by
    show (do if h : p < A.size then do set (p + 1); Pure.pure A[p].toNat else MonadExcept.throw (HasTruncated.truncated p) : Reader DecodeError Nat) A p = _
    by_cases hi : p < A.size
    · rw [dif_pos hi, dif_pos hi]; rfl
    · rw [dif_neg hi, dif_neg hi]; rfl
  rw [e, dif_pos h3, h4]
theorem dk_bind {α β : Type} {r : Reader DecodeError α} {f : α → Reader DecodeError β} {A : ByteArray} {p s : Nat} {a : α} (h : r A p = .ok (a, s)) : (r >>= f) A p = f a A s := by
  show (do let (a, s) ← r A p; f a A s : Except DecodeError (β × Nat)) = _
  rw [h]
  rfl
theorem dk_map {α β : Type} {r : Reader DecodeError α} {g : α → β} {A : ByteArray} {p s : Nat} {a : α} (h : r A p = .ok (a, s)) : (g <$> r) A p = .ok (g a, s) := by
  show (do let (a, s) ← r A p; .ok (g a, s) : Except DecodeError (β × Nat)) = _
  rw [h]
  rfl
theorem dk_u2 {A : ByteArray} {p : Nat} {a b : UInt8} (h : A.data.toList[p]? = some a) (h2 : A.data.toList[p + 1]? = some b) : (Reader.u2 : Reader DecodeError Nat) A p = .ok (a.toNat * 256 + b.toNat, p + 2) := by
  show (Reader.u1 >>= fun hi => Reader.u1 >>= fun lo => Pure.pure (hi * 256 + lo) : Reader DecodeError Nat) A p = _
  rw [dk_bind (dk_u1 h), dk_bind (dk_u1 h2)]
  rfl
theorem dk_of {code : ByteArray} {pc n : Nat} {i : Instr} (h : Decoder.instr pc code pc = .ok (i, pc + n)) : decode code pc = .ok (i, n) := by
  have e : decode code pc = (match Decoder.instr pc code pc with | .error x => .error x | .ok (j, s) => .ok (j, s - pc)) := by
    show (do let (j, s) ← Decoder.instr pc code pc; Pure.pure (j, s - pc) : Except DecodeError (Instr × Nat)) = _
    cases Decoder.instr pc code pc <;> rfl
  rw [e, h]
  show Except.ok (i, pc + n - pc) = _
  rw [Nat.add_sub_cancel_left]
theorem dk_3 {code : ByteArray} {pc : Nat} (h : DkAt code pc [3]) : decode code pc = .ok (.iconst 0, 1) := dk_of ((dk_bind (dk_u1 (h 0 _ rfl))).trans rfl)
theorem dk_4 {code : ByteArray} {pc : Nat} (h : DkAt code pc [4]) : decode code pc = .ok (.iconst 1, 1) := dk_of ((dk_bind (dk_u1 (h 0 _ rfl))).trans rfl)
theorem dk_5 {code : ByteArray} {pc : Nat} (h : DkAt code pc [5]) : decode code pc = .ok (.iconst 2, 1) := dk_of ((dk_bind (dk_u1 (h 0 _ rfl))).trans rfl)
theorem dk_6 {code : ByteArray} {pc : Nat} (h : DkAt code pc [6]) : decode code pc = .ok (.iconst 3, 1) := dk_of ((dk_bind (dk_u1 (h 0 _ rfl))).trans rfl)
theorem dk_7 {code : ByteArray} {pc : Nat} (h : DkAt code pc [7]) : decode code pc = .ok (.iconst 4, 1) := dk_of ((dk_bind (dk_u1 (h 0 _ rfl))).trans rfl)
theorem dk_9 {code : ByteArray} {pc : Nat} (h : DkAt code pc [9]) : decode code pc = .ok (.lconst 0, 1) := dk_of ((dk_bind (dk_u1 (h 0 _ rfl))).trans rfl)
theorem dk_10 {code : ByteArray} {pc : Nat} (h : DkAt code pc [10]) : decode code pc = .ok (.lconst 1, 1) := dk_of ((dk_bind (dk_u1 (h 0 _ rfl))).trans rfl)
theorem dk_16 {code : ByteArray} {pc : Nat} (a : UInt8) (h : DkAt code pc [16, a]) : decode code pc = .ok (.bipush (Reader.signed 8 a.toNat), 2) := dk_of ((dk_bind (dk_u1 (h 0 _ rfl))).trans ((dk_bind (dk_map (dk_u1 (h 1 _ rfl)))).trans rfl))
theorem dk_17 {code : ByteArray} {pc : Nat} (a b : UInt8) (h : DkAt code pc [17, a, b]) : decode code pc = .ok (.sipush (Reader.signed 16 (a.toNat * 256 + b.toNat)), 3) := dk_of ((dk_bind (dk_u1 (h 0 _ rfl))).trans ((dk_bind (dk_map (dk_u2 (h 1 _ rfl) (h 2 _ rfl)))).trans rfl))
theorem dk_18 {code : ByteArray} {pc : Nat} (a : UInt8) (h : DkAt code pc [18, a]) : decode code pc = .ok (.ldc a.toNat, 2) := dk_of ((dk_bind (dk_u1 (h 0 _ rfl))).trans ((dk_bind (dk_u1 (h 1 _ rfl))).trans rfl))
theorem dk_20 {code : ByteArray} {pc : Nat} (a b : UInt8) (h : DkAt code pc [20, a, b]) : decode code pc = .ok (.ldc2_w (a.toNat * 256 + b.toNat), 3) := dk_of ((dk_bind (dk_u1 (h 0 _ rfl))).trans ((dk_bind (dk_u2 (h 1 _ rfl) (h 2 _ rfl))).trans rfl))
theorem dk_21 {code : ByteArray} {pc : Nat} (a : UInt8) (h : DkAt code pc [21, a]) : decode code pc = .ok (.iload a.toNat, 2) := dk_of ((dk_bind (dk_u1 (h 0 _ rfl))).trans ((dk_bind (dk_u1 (h 1 _ rfl))).trans rfl))
theorem dk_22 {code : ByteArray} {pc : Nat} (a : UInt8) (h : DkAt code pc [22, a]) : decode code pc = .ok (.lload a.toNat, 2) := dk_of ((dk_bind (dk_u1 (h 0 _ rfl))).trans ((dk_bind (dk_u1 (h 1 _ rfl))).trans rfl))
theorem dk_26 {code : ByteArray} {pc : Nat} (h : DkAt code pc [26]) : decode code pc = .ok (.iload_n 0, 1) := dk_of ((dk_bind (dk_u1 (h 0 _ rfl))).trans rfl)
theorem dk_27 {code : ByteArray} {pc : Nat} (h : DkAt code pc [27]) : decode code pc = .ok (.iload_n 1, 1) := dk_of ((dk_bind (dk_u1 (h 0 _ rfl))).trans rfl)
theorem dk_28 {code : ByteArray} {pc : Nat} (h : DkAt code pc [28]) : decode code pc = .ok (.iload_n 2, 1) := dk_of ((dk_bind (dk_u1 (h 0 _ rfl))).trans rfl)
theorem dk_29 {code : ByteArray} {pc : Nat} (h : DkAt code pc [29]) : decode code pc = .ok (.iload_n 3, 1) := dk_of ((dk_bind (dk_u1 (h 0 _ rfl))).trans rfl)
theorem dk_30 {code : ByteArray} {pc : Nat} (h : DkAt code pc [30]) : decode code pc = .ok (.lload_n 0, 1) := dk_of ((dk_bind (dk_u1 (h 0 _ rfl))).trans rfl)
theorem dk_32 {code : ByteArray} {pc : Nat} (h : DkAt code pc [32]) : decode code pc = .ok (.lload_n 2, 1) := dk_of ((dk_bind (dk_u1 (h 0 _ rfl))).trans rfl)
theorem dk_33 {code : ByteArray} {pc : Nat} (h : DkAt code pc [33]) : decode code pc = .ok (.lload_n 3, 1) := dk_of ((dk_bind (dk_u1 (h 0 _ rfl))).trans rfl)
theorem dk_42 {code : ByteArray} {pc : Nat} (h : DkAt code pc [42]) : decode code pc = .ok (.aload_n 0, 1) := dk_of ((dk_bind (dk_u1 (h 0 _ rfl))).trans rfl)
theorem dk_43 {code : ByteArray} {pc : Nat} (h : DkAt code pc [43]) : decode code pc = .ok (.aload_n 1, 1) := dk_of ((dk_bind (dk_u1 (h 0 _ rfl))).trans rfl)
theorem dk_44 {code : ByteArray} {pc : Nat} (h : DkAt code pc [44]) : decode code pc = .ok (.aload_n 2, 1) := dk_of ((dk_bind (dk_u1 (h 0 _ rfl))).trans rfl)
theorem dk_46 {code : ByteArray} {pc : Nat} (h : DkAt code pc [46]) : decode code pc = .ok (.iaload, 1) := dk_of ((dk_bind (dk_u1 (h 0 _ rfl))).trans rfl)
theorem dk_47 {code : ByteArray} {pc : Nat} (h : DkAt code pc [47]) : decode code pc = .ok (.laload, 1) := dk_of ((dk_bind (dk_u1 (h 0 _ rfl))).trans rfl)
theorem dk_54 {code : ByteArray} {pc : Nat} (a : UInt8) (h : DkAt code pc [54, a]) : decode code pc = .ok (.istore a.toNat, 2) := dk_of ((dk_bind (dk_u1 (h 0 _ rfl))).trans ((dk_bind (dk_u1 (h 1 _ rfl))).trans rfl))
theorem dk_55 {code : ByteArray} {pc : Nat} (a : UInt8) (h : DkAt code pc [55, a]) : decode code pc = .ok (.lstore a.toNat, 2) := dk_of ((dk_bind (dk_u1 (h 0 _ rfl))).trans ((dk_bind (dk_u1 (h 1 _ rfl))).trans rfl))
theorem dk_59 {code : ByteArray} {pc : Nat} (h : DkAt code pc [59]) : decode code pc = .ok (.istore_n 0, 1) := dk_of ((dk_bind (dk_u1 (h 0 _ rfl))).trans rfl)
theorem dk_62 {code : ByteArray} {pc : Nat} (h : DkAt code pc [62]) : decode code pc = .ok (.istore_n 3, 1) := dk_of ((dk_bind (dk_u1 (h 0 _ rfl))).trans rfl)
theorem dk_63 {code : ByteArray} {pc : Nat} (h : DkAt code pc [63]) : decode code pc = .ok (.lstore_n 0, 1) := dk_of ((dk_bind (dk_u1 (h 0 _ rfl))).trans rfl)
theorem dk_66 {code : ByteArray} {pc : Nat} (h : DkAt code pc [66]) : decode code pc = .ok (.lstore_n 3, 1) := dk_of ((dk_bind (dk_u1 (h 0 _ rfl))).trans rfl)
theorem dk_76 {code : ByteArray} {pc : Nat} (h : DkAt code pc [76]) : decode code pc = .ok (.astore_n 1, 1) := dk_of ((dk_bind (dk_u1 (h 0 _ rfl))).trans rfl)
theorem dk_77 {code : ByteArray} {pc : Nat} (h : DkAt code pc [77]) : decode code pc = .ok (.astore_n 2, 1) := dk_of ((dk_bind (dk_u1 (h 0 _ rfl))).trans rfl)
theorem dk_80 {code : ByteArray} {pc : Nat} (h : DkAt code pc [80]) : decode code pc = .ok (.lastore, 1) := dk_of ((dk_bind (dk_u1 (h 0 _ rfl))).trans rfl)
theorem dk_89 {code : ByteArray} {pc : Nat} (h : DkAt code pc [89]) : decode code pc = .ok (.dup, 1) := dk_of ((dk_bind (dk_u1 (h 0 _ rfl))).trans rfl)
theorem dk_96 {code : ByteArray} {pc : Nat} (h : DkAt code pc [96]) : decode code pc = .ok (.iadd, 1) := dk_of ((dk_bind (dk_u1 (h 0 _ rfl))).trans rfl)
theorem dk_100 {code : ByteArray} {pc : Nat} (h : DkAt code pc [100]) : decode code pc = .ok (.isub, 1) := dk_of ((dk_bind (dk_u1 (h 0 _ rfl))).trans rfl)
theorem dk_104 {code : ByteArray} {pc : Nat} (h : DkAt code pc [104]) : decode code pc = .ok (.imul, 1) := dk_of ((dk_bind (dk_u1 (h 0 _ rfl))).trans rfl)
theorem dk_108 {code : ByteArray} {pc : Nat} (h : DkAt code pc [108]) : decode code pc = .ok (.idiv, 1) := dk_of ((dk_bind (dk_u1 (h 0 _ rfl))).trans rfl)
theorem dk_120 {code : ByteArray} {pc : Nat} (h : DkAt code pc [120]) : decode code pc = .ok (.ishl, 1) := dk_of ((dk_bind (dk_u1 (h 0 _ rfl))).trans rfl)
theorem dk_121 {code : ByteArray} {pc : Nat} (h : DkAt code pc [121]) : decode code pc = .ok (.lshl, 1) := dk_of ((dk_bind (dk_u1 (h 0 _ rfl))).trans rfl)
theorem dk_124 {code : ByteArray} {pc : Nat} (h : DkAt code pc [124]) : decode code pc = .ok (.iushr, 1) := dk_of ((dk_bind (dk_u1 (h 0 _ rfl))).trans rfl)
theorem dk_125 {code : ByteArray} {pc : Nat} (h : DkAt code pc [125]) : decode code pc = .ok (.lushr, 1) := dk_of ((dk_bind (dk_u1 (h 0 _ rfl))).trans rfl)
theorem dk_126 {code : ByteArray} {pc : Nat} (h : DkAt code pc [126]) : decode code pc = .ok (.iand, 1) := dk_of ((dk_bind (dk_u1 (h 0 _ rfl))).trans rfl)
theorem dk_127 {code : ByteArray} {pc : Nat} (h : DkAt code pc [127]) : decode code pc = .ok (.land, 1) := dk_of ((dk_bind (dk_u1 (h 0 _ rfl))).trans rfl)
theorem dk_128 {code : ByteArray} {pc : Nat} (h : DkAt code pc [128]) : decode code pc = .ok (.ior, 1) := dk_of ((dk_bind (dk_u1 (h 0 _ rfl))).trans rfl)
theorem dk_129 {code : ByteArray} {pc : Nat} (h : DkAt code pc [129]) : decode code pc = .ok (.lor, 1) := dk_of ((dk_bind (dk_u1 (h 0 _ rfl))).trans rfl)
theorem dk_130 {code : ByteArray} {pc : Nat} (h : DkAt code pc [130]) : decode code pc = .ok (.ixor, 1) := dk_of ((dk_bind (dk_u1 (h 0 _ rfl))).trans rfl)
theorem dk_131 {code : ByteArray} {pc : Nat} (h : DkAt code pc [131]) : decode code pc = .ok (.lxor, 1) := dk_of ((dk_bind (dk_u1 (h 0 _ rfl))).trans rfl)
theorem dk_132 {code : ByteArray} {pc : Nat} (a b : UInt8) (h : DkAt code pc [132, a, b]) : decode code pc = .ok (.iinc a.toNat (Reader.signed 8 b.toNat), 3) := dk_of ((dk_bind (dk_u1 (h 0 _ rfl))).trans ((dk_bind (dk_u1 (h 1 _ rfl))).trans ((dk_bind (dk_map (dk_u1 (h 2 _ rfl)))).trans rfl)))
theorem dk_133 {code : ByteArray} {pc : Nat} (h : DkAt code pc [133]) : decode code pc = .ok (.i2l, 1) := dk_of ((dk_bind (dk_u1 (h 0 _ rfl))).trans rfl)
theorem dk_136 {code : ByteArray} {pc : Nat} (h : DkAt code pc [136]) : decode code pc = .ok (.l2i, 1) := dk_of ((dk_bind (dk_u1 (h 0 _ rfl))).trans rfl)
theorem dk_148 {code : ByteArray} {pc : Nat} (h : DkAt code pc [148]) : decode code pc = .ok (.lcmp, 1) := dk_of ((dk_bind (dk_u1 (h 0 _ rfl))).trans rfl)
theorem dk_153 {code : ByteArray} {pc : Nat} (a b : UInt8) (h : DkAt code pc [153, a, b]) : decode code pc = .ok (.ifCond .eq (Reader.signed 16 (a.toNat * 256 + b.toNat)), 3) := dk_of ((dk_bind (dk_u1 (h 0 _ rfl))).trans ((dk_bind (dk_map (dk_u2 (h 1 _ rfl) (h 2 _ rfl)))).trans rfl))
theorem dk_159 {code : ByteArray} {pc : Nat} (a b : UInt8) (h : DkAt code pc [159, a, b]) : decode code pc = .ok (.if_icmp .eq (Reader.signed 16 (a.toNat * 256 + b.toNat)), 3) := dk_of ((dk_bind (dk_u1 (h 0 _ rfl))).trans ((dk_bind (dk_map (dk_u2 (h 1 _ rfl) (h 2 _ rfl)))).trans rfl))
theorem dk_162 {code : ByteArray} {pc : Nat} (a b : UInt8) (h : DkAt code pc [162, a, b]) : decode code pc = .ok (.if_icmp .ge (Reader.signed 16 (a.toNat * 256 + b.toNat)), 3) := dk_of ((dk_bind (dk_u1 (h 0 _ rfl))).trans ((dk_bind (dk_map (dk_u2 (h 1 _ rfl) (h 2 _ rfl)))).trans rfl))
theorem dk_163 {code : ByteArray} {pc : Nat} (a b : UInt8) (h : DkAt code pc [163, a, b]) : decode code pc = .ok (.if_icmp .gt (Reader.signed 16 (a.toNat * 256 + b.toNat)), 3) := dk_of ((dk_bind (dk_u1 (h 0 _ rfl))).trans ((dk_bind (dk_map (dk_u2 (h 1 _ rfl) (h 2 _ rfl)))).trans rfl))
theorem dk_167 {code : ByteArray} {pc : Nat} (a b : UInt8) (h : DkAt code pc [167, a, b]) : decode code pc = .ok (.goto (Reader.signed 16 (a.toNat * 256 + b.toNat)), 3) := dk_of ((dk_bind (dk_u1 (h 0 _ rfl))).trans ((dk_bind (dk_map (dk_u2 (h 1 _ rfl) (h 2 _ rfl)))).trans rfl))
theorem dk_172 {code : ByteArray} {pc : Nat} (h : DkAt code pc [172]) : decode code pc = .ok (.ireturn, 1) := dk_of ((dk_bind (dk_u1 (h 0 _ rfl))).trans rfl)
theorem dk_173 {code : ByteArray} {pc : Nat} (h : DkAt code pc [173]) : decode code pc = .ok (.lreturn, 1) := dk_of ((dk_bind (dk_u1 (h 0 _ rfl))).trans rfl)
theorem dk_177 {code : ByteArray} {pc : Nat} (h : DkAt code pc [177]) : decode code pc = .ok (.return_, 1) := dk_of ((dk_bind (dk_u1 (h 0 _ rfl))).trans rfl)
theorem dk_180 {code : ByteArray} {pc : Nat} (a b : UInt8) (h : DkAt code pc [180, a, b]) : decode code pc = .ok (.getfield (a.toNat * 256 + b.toNat), 3) := dk_of ((dk_bind (dk_u1 (h 0 _ rfl))).trans ((dk_bind (dk_u2 (h 1 _ rfl) (h 2 _ rfl))).trans rfl))
theorem dk_181 {code : ByteArray} {pc : Nat} (a b : UInt8) (h : DkAt code pc [181, a, b]) : decode code pc = .ok (.putfield (a.toNat * 256 + b.toNat), 3) := dk_of ((dk_bind (dk_u1 (h 0 _ rfl))).trans ((dk_bind (dk_u2 (h 1 _ rfl) (h 2 _ rfl))).trans rfl))
theorem dk_182 {code : ByteArray} {pc : Nat} (a b : UInt8) (h : DkAt code pc [182, a, b]) : decode code pc = .ok (.invokevirtual (a.toNat * 256 + b.toNat), 3) := dk_of ((dk_bind (dk_u1 (h 0 _ rfl))).trans ((dk_bind (dk_u2 (h 1 _ rfl) (h 2 _ rfl))).trans rfl))
theorem dk_183 {code : ByteArray} {pc : Nat} (a b : UInt8) (h : DkAt code pc [183, a, b]) : decode code pc = .ok (.invokespecial (a.toNat * 256 + b.toNat), 3) := dk_of ((dk_bind (dk_u1 (h 0 _ rfl))).trans ((dk_bind (dk_u2 (h 1 _ rfl) (h 2 _ rfl))).trans rfl))
theorem dk_184 {code : ByteArray} {pc : Nat} (a b : UInt8) (h : DkAt code pc [184, a, b]) : decode code pc = .ok (.invokestatic (a.toNat * 256 + b.toNat), 3) := dk_of ((dk_bind (dk_u1 (h 0 _ rfl))).trans ((dk_bind (dk_u2 (h 1 _ rfl) (h 2 _ rfl))).trans rfl))
theorem dk_187 {code : ByteArray} {pc : Nat} (a b : UInt8) (h : DkAt code pc [187, a, b]) : decode code pc = .ok (.new (a.toNat * 256 + b.toNat), 3) := dk_of ((dk_bind (dk_u1 (h 0 _ rfl))).trans ((dk_bind (dk_u2 (h 1 _ rfl) (h 2 _ rfl))).trans rfl))
theorem dk_188_11 {code : ByteArray} {pc : Nat} (h : DkAt code pc [188, 11]) : decode code pc = .ok (.newarray .long, 2) := dk_of ((dk_bind (dk_u1 (h 0 _ rfl))).trans ((dk_bind (dk_u1 (h 1 _ rfl))).trans rfl))
theorem dk_190 {code : ByteArray} {pc : Nat} (h : DkAt code pc [190]) : decode code pc = .ok (.arraylength, 1) := dk_of ((dk_bind (dk_u1 (h 0 _ rfl))).trans rfl)
end
section
/-! OwnBits -/
set_option maxRecDepth 100000
def RX3 : String := "OwnBits"
abbrev cX3_bitPermuteStep : ByteArray := prog_5_method_2_code
def yX3_bitPermuteStep : MethodName := ⟨RX3, "bitPermuteStep", "(III)I"⟩
def dkwX3_bitPermuteStep_0 : List UInt8 := [26, 26, 28, 124, 130, 27, 126, 62, 29, 29, 28, 120, 130, 26, 130, 172]
abbrev dktX3_bitPermuteStep_0 : List UInt8 := dkwX3_bitPermuteStep_0 ++ []
theorem dksX3_bitPermuteStep_0 : cX3_bitPermuteStep.data.toList.drop 0 = dktX3_bitPermuteStep_0 := by decide +kernel
theorem dX3_bitPermuteStep_0 : decode cX3_bitPermuteStep 0 = .ok (.iload_n 0, 1) := dk_26 (dk_at dksX3_bitPermuteStep_0 0 rfl rfl)
theorem dX3_bitPermuteStep_1 : decode cX3_bitPermuteStep 1 = .ok (.iload_n 0, 1) := dk_26 (dk_at dksX3_bitPermuteStep_0 1 rfl rfl)
theorem dX3_bitPermuteStep_2 : decode cX3_bitPermuteStep 2 = .ok (.iload_n 2, 1) := dk_28 (dk_at dksX3_bitPermuteStep_0 2 rfl rfl)
theorem dX3_bitPermuteStep_3 : decode cX3_bitPermuteStep 3 = .ok (.iushr, 1) := dk_124 (dk_at dksX3_bitPermuteStep_0 3 rfl rfl)
theorem dX3_bitPermuteStep_4 : decode cX3_bitPermuteStep 4 = .ok (.ixor, 1) := dk_130 (dk_at dksX3_bitPermuteStep_0 4 rfl rfl)
theorem dX3_bitPermuteStep_5 : decode cX3_bitPermuteStep 5 = .ok (.iload_n 1, 1) := dk_27 (dk_at dksX3_bitPermuteStep_0 5 rfl rfl)
theorem dX3_bitPermuteStep_6 : decode cX3_bitPermuteStep 6 = .ok (.iand, 1) := dk_126 (dk_at dksX3_bitPermuteStep_0 6 rfl rfl)
theorem dX3_bitPermuteStep_7 : decode cX3_bitPermuteStep 7 = .ok (.istore_n 3, 1) := dk_62 (dk_at dksX3_bitPermuteStep_0 7 rfl rfl)
theorem dX3_bitPermuteStep_8 : decode cX3_bitPermuteStep 8 = .ok (.iload_n 3, 1) := dk_29 (dk_at dksX3_bitPermuteStep_0 8 rfl rfl)
theorem dX3_bitPermuteStep_9 : decode cX3_bitPermuteStep 9 = .ok (.iload_n 3, 1) := dk_29 (dk_at dksX3_bitPermuteStep_0 9 rfl rfl)
theorem dX3_bitPermuteStep_10 : decode cX3_bitPermuteStep 10 = .ok (.iload_n 2, 1) := dk_28 (dk_at dksX3_bitPermuteStep_0 10 rfl rfl)
theorem dX3_bitPermuteStep_11 : decode cX3_bitPermuteStep 11 = .ok (.ishl, 1) := dk_120 (dk_at dksX3_bitPermuteStep_0 11 rfl rfl)
theorem dX3_bitPermuteStep_12 : decode cX3_bitPermuteStep 12 = .ok (.ixor, 1) := dk_130 (dk_at dksX3_bitPermuteStep_0 12 rfl rfl)
theorem dX3_bitPermuteStep_13 : decode cX3_bitPermuteStep 13 = .ok (.iload_n 0, 1) := dk_26 (dk_at dksX3_bitPermuteStep_0 13 rfl rfl)
theorem dX3_bitPermuteStep_14 : decode cX3_bitPermuteStep 14 = .ok (.ixor, 1) := dk_130 (dk_at dksX3_bitPermuteStep_0 14 rfl rfl)
theorem dX3_bitPermuteStep_15 : decode cX3_bitPermuteStep 15 = .ok (.ireturn, 1) := dk_172 (dk_at dksX3_bitPermuteStep_0 15 rfl rfl)
abbrev cX3_bitPermuteStep_2 : ByteArray := prog_5_method_3_code
def yX3_bitPermuteStep_2 : MethodName := ⟨RX3, "bitPermuteStep", "(JJI)J"⟩
def dkwX3_bitPermuteStep_2_0 : List UInt8 := [30, 30, 21, 4, 125, 131, 32, 127, 55, 5, 22, 5, 22, 5, 21, 4, 121, 131, 30, 131, 173]
abbrev dktX3_bitPermuteStep_2_0 : List UInt8 := dkwX3_bitPermuteStep_2_0 ++ []
theorem dksX3_bitPermuteStep_2_0 : cX3_bitPermuteStep_2.data.toList.drop 0 = dktX3_bitPermuteStep_2_0 := by decide +kernel
theorem dX3_bitPermuteStep_2_0 : decode cX3_bitPermuteStep_2 0 = .ok (.lload_n 0, 1) := dk_30 (dk_at dksX3_bitPermuteStep_2_0 0 rfl rfl)
theorem dX3_bitPermuteStep_2_1 : decode cX3_bitPermuteStep_2 1 = .ok (.lload_n 0, 1) := dk_30 (dk_at dksX3_bitPermuteStep_2_0 1 rfl rfl)
theorem dX3_bitPermuteStep_2_2 : decode cX3_bitPermuteStep_2 2 = .ok (.iload 4, 2) := dk_21 4 (dk_at dksX3_bitPermuteStep_2_0 2 rfl rfl)
theorem dX3_bitPermuteStep_2_4 : decode cX3_bitPermuteStep_2 4 = .ok (.lushr, 1) := dk_125 (dk_at dksX3_bitPermuteStep_2_0 4 rfl rfl)
theorem dX3_bitPermuteStep_2_5 : decode cX3_bitPermuteStep_2 5 = .ok (.lxor, 1) := dk_131 (dk_at dksX3_bitPermuteStep_2_0 5 rfl rfl)
theorem dX3_bitPermuteStep_2_6 : decode cX3_bitPermuteStep_2 6 = .ok (.lload_n 2, 1) := dk_32 (dk_at dksX3_bitPermuteStep_2_0 6 rfl rfl)
theorem dX3_bitPermuteStep_2_7 : decode cX3_bitPermuteStep_2 7 = .ok (.land, 1) := dk_127 (dk_at dksX3_bitPermuteStep_2_0 7 rfl rfl)
theorem dX3_bitPermuteStep_2_8 : decode cX3_bitPermuteStep_2 8 = .ok (.lstore 5, 2) := dk_55 5 (dk_at dksX3_bitPermuteStep_2_0 8 rfl rfl)
theorem dX3_bitPermuteStep_2_10 : decode cX3_bitPermuteStep_2 10 = .ok (.lload 5, 2) := dk_22 5 (dk_at dksX3_bitPermuteStep_2_0 10 rfl rfl)
theorem dX3_bitPermuteStep_2_12 : decode cX3_bitPermuteStep_2 12 = .ok (.lload 5, 2) := dk_22 5 (dk_at dksX3_bitPermuteStep_2_0 12 rfl rfl)
theorem dX3_bitPermuteStep_2_14 : decode cX3_bitPermuteStep_2 14 = .ok (.iload 4, 2) := dk_21 4 (dk_at dksX3_bitPermuteStep_2_0 14 rfl rfl)
theorem dX3_bitPermuteStep_2_16 : decode cX3_bitPermuteStep_2 16 = .ok (.lshl, 1) := dk_121 (dk_at dksX3_bitPermuteStep_2_0 16 rfl rfl)
theorem dX3_bitPermuteStep_2_17 : decode cX3_bitPermuteStep_2 17 = .ok (.lxor, 1) := dk_131 (dk_at dksX3_bitPermuteStep_2_0 17 rfl rfl)
theorem dX3_bitPermuteStep_2_18 : decode cX3_bitPermuteStep_2 18 = .ok (.lload_n 0, 1) := dk_30 (dk_at dksX3_bitPermuteStep_2_0 18 rfl rfl)
theorem dX3_bitPermuteStep_2_19 : decode cX3_bitPermuteStep_2 19 = .ok (.lxor, 1) := dk_131 (dk_at dksX3_bitPermuteStep_2_0 19 rfl rfl)
theorem dX3_bitPermuteStep_2_20 : decode cX3_bitPermuteStep_2 20 = .ok (.lreturn, 1) := dk_173 (dk_at dksX3_bitPermuteStep_2_0 20 rfl rfl)
theorem q4 : (Jvm.Cond.initialized "OwnBits") ∈ lw_all := lw_g (lw_at lw_m0 4 rfl) rfl
theorem q46 : (Jvm.Cond.static ({ cls := "OwnBits", name := "bitPermuteStep", desc := "(III)I" } : Jvm.MethodName)) ∈ lw_all := lw_g (lw_at lw_m0 46 rfl) rfl
theorem q47 : (Jvm.Cond.code ({ cls := "OwnBits", name := "bitPermuteStep", desc := "(III)I" } : Jvm.MethodName) prog_5_method_2_code (4 : Nat) (Option.some Jvm.ClassFile.FieldType.int)) ∈ lw_all := lw_g (lw_at lw_m0 47 rfl) rfl
theorem q65 : (Jvm.Cond.static ({ cls := "OwnBits", name := "bitPermuteStep", desc := "(JJI)J" } : Jvm.MethodName)) ∈ lw_all := lw_g (lw_at lw_m0 65 rfl) rfl
theorem q66 : (Jvm.Cond.code ({ cls := "OwnBits", name := "bitPermuteStep", desc := "(JJI)J" } : Jvm.MethodName) prog_5_method_3_code (7 : Nat) (Option.some Jvm.ClassFile.FieldType.long)) ∈ lw_all := lw_g (lw_at lw_m0 66 rfl) rfl
/-! Interleave -/
set_option maxRecDepth 100000
def RX2 : String := "Interleave"
abbrev cX2_expand8to16 : ByteArray := prog_4_method_2_code
def yX2_expand8to16 : MethodName := ⟨RX2, "expand8to16", "(I)I"⟩
def dkwX2_expand8to16_1 : List UInt8 := [126, 59, 26, 26, 4, 120, 128, 17, 85, 85, 126, 59, 26, 172]
abbrev dktX2_expand8to16_1 : List UInt8 := dkwX2_expand8to16_1 ++ []
def dkwX2_expand8to16_0 : List UInt8 := [26, 17, 0, 255, 126, 59, 26, 26, 7, 120, 128, 17, 15, 15, 126, 59, 26, 26, 5, 120, 128, 17, 51, 51]
abbrev dktX2_expand8to16_0 : List UInt8 := dkwX2_expand8to16_0 ++ dktX2_expand8to16_1
theorem dksX2_expand8to16_0 : cX2_expand8to16.data.toList.drop 0 = dktX2_expand8to16_0 := by decide +kernel
theorem dksX2_expand8to16_1 : cX2_expand8to16.data.toList.drop 24 = dktX2_expand8to16_1 := dk_seg dksX2_expand8to16_0 24 rfl rfl
theorem dX2_expand8to16_0 : decode cX2_expand8to16 0 = .ok (.iload_n 0, 1) := dk_26 (dk_at dksX2_expand8to16_0 0 rfl rfl)
theorem dX2_expand8to16_1 : decode cX2_expand8to16 1 = .ok (.sipush 255, 3) := dk_17 0 255 (dk_at dksX2_expand8to16_0 1 rfl rfl)
theorem dX2_expand8to16_4 : decode cX2_expand8to16 4 = .ok (.iand, 1) := dk_126 (dk_at dksX2_expand8to16_0 4 rfl rfl)
theorem dX2_expand8to16_5 : decode cX2_expand8to16 5 = .ok (.istore_n 0, 1) := dk_59 (dk_at dksX2_expand8to16_0 5 rfl rfl)
theorem dX2_expand8to16_6 : decode cX2_expand8to16 6 = .ok (.iload_n 0, 1) := dk_26 (dk_at dksX2_expand8to16_0 6 rfl rfl)
theorem dX2_expand8to16_7 : decode cX2_expand8to16 7 = .ok (.iload_n 0, 1) := dk_26 (dk_at dksX2_expand8to16_0 7 rfl rfl)
theorem dX2_expand8to16_8 : decode cX2_expand8to16 8 = .ok (.iconst 4, 1) := dk_7 (dk_at dksX2_expand8to16_0 8 rfl rfl)
theorem dX2_expand8to16_9 : decode cX2_expand8to16 9 = .ok (.ishl, 1) := dk_120 (dk_at dksX2_expand8to16_0 9 rfl rfl)
theorem dX2_expand8to16_10 : decode cX2_expand8to16 10 = .ok (.ior, 1) := dk_128 (dk_at dksX2_expand8to16_0 10 rfl rfl)
theorem dX2_expand8to16_11 : decode cX2_expand8to16 11 = .ok (.sipush 3855, 3) := dk_17 15 15 (dk_at dksX2_expand8to16_0 11 rfl rfl)
theorem dX2_expand8to16_14 : decode cX2_expand8to16 14 = .ok (.iand, 1) := dk_126 (dk_at dksX2_expand8to16_0 14 rfl rfl)
theorem dX2_expand8to16_15 : decode cX2_expand8to16 15 = .ok (.istore_n 0, 1) := dk_59 (dk_at dksX2_expand8to16_0 15 rfl rfl)
theorem dX2_expand8to16_16 : decode cX2_expand8to16 16 = .ok (.iload_n 0, 1) := dk_26 (dk_at dksX2_expand8to16_0 16 rfl rfl)
theorem dX2_expand8to16_17 : decode cX2_expand8to16 17 = .ok (.iload_n 0, 1) := dk_26 (dk_at dksX2_expand8to16_0 17 rfl rfl)
theorem dX2_expand8to16_18 : decode cX2_expand8to16 18 = .ok (.iconst 2, 1) := dk_5 (dk_at dksX2_expand8to16_0 18 rfl rfl)
theorem dX2_expand8to16_19 : decode cX2_expand8to16 19 = .ok (.ishl, 1) := dk_120 (dk_at dksX2_expand8to16_0 19 rfl rfl)
theorem dX2_expand8to16_20 : decode cX2_expand8to16 20 = .ok (.ior, 1) := dk_128 (dk_at dksX2_expand8to16_0 20 rfl rfl)
theorem dX2_expand8to16_21 : decode cX2_expand8to16 21 = .ok (.sipush 13107, 3) := dk_17 51 51 (dk_at dksX2_expand8to16_0 21 rfl rfl)
theorem dX2_expand8to16_24 : decode cX2_expand8to16 24 = .ok (.iand, 1) := dk_126 (dk_at dksX2_expand8to16_1 0 rfl rfl)
theorem dX2_expand8to16_25 : decode cX2_expand8to16 25 = .ok (.istore_n 0, 1) := dk_59 (dk_at dksX2_expand8to16_1 1 rfl rfl)
theorem dX2_expand8to16_26 : decode cX2_expand8to16 26 = .ok (.iload_n 0, 1) := dk_26 (dk_at dksX2_expand8to16_1 2 rfl rfl)
theorem dX2_expand8to16_27 : decode cX2_expand8to16 27 = .ok (.iload_n 0, 1) := dk_26 (dk_at dksX2_expand8to16_1 3 rfl rfl)
theorem dX2_expand8to16_28 : decode cX2_expand8to16 28 = .ok (.iconst 1, 1) := dk_4 (dk_at dksX2_expand8to16_1 4 rfl rfl)
theorem dX2_expand8to16_29 : decode cX2_expand8to16 29 = .ok (.ishl, 1) := dk_120 (dk_at dksX2_expand8to16_1 5 rfl rfl)
theorem dX2_expand8to16_30 : decode cX2_expand8to16 30 = .ok (.ior, 1) := dk_128 (dk_at dksX2_expand8to16_1 6 rfl rfl)
theorem dX2_expand8to16_31 : decode cX2_expand8to16 31 = .ok (.sipush 21845, 3) := dk_17 85 85 (dk_at dksX2_expand8to16_1 7 rfl rfl)
theorem dX2_expand8to16_34 : decode cX2_expand8to16 34 = .ok (.iand, 1) := dk_126 (dk_at dksX2_expand8to16_1 10 rfl rfl)
theorem dX2_expand8to16_35 : decode cX2_expand8to16 35 = .ok (.istore_n 0, 1) := dk_59 (dk_at dksX2_expand8to16_1 11 rfl rfl)
theorem dX2_expand8to16_36 : decode cX2_expand8to16 36 = .ok (.iload_n 0, 1) := dk_26 (dk_at dksX2_expand8to16_1 12 rfl rfl)
theorem dX2_expand8to16_37 : decode cX2_expand8to16 37 = .ok (.ireturn, 1) := dk_172 (dk_at dksX2_expand8to16_1 13 rfl rfl)
abbrev cX2_expand16to32 : ByteArray := prog_4_method_3_code
def yX2_expand16to32 : MethodName := ⟨RX2, "expand16to32", "(I)I"⟩
def dkwX2_expand16to32_1 : List UInt8 := [26, 26, 5, 120, 128, 18, 10, 126, 59, 26, 26, 4, 120, 128, 18, 11, 126, 59, 26, 172]
abbrev dktX2_expand16to32_1 : List UInt8 := dkwX2_expand16to32_1 ++ []
def dkwX2_expand16to32_0 : List UInt8 := [26, 18, 7, 126, 59, 26, 26, 16, 8, 120, 128, 18, 8, 126, 59, 26, 26, 7, 120, 128, 18, 9, 126, 59]
abbrev dktX2_expand16to32_0 : List UInt8 := dkwX2_expand16to32_0 ++ dktX2_expand16to32_1
theorem dksX2_expand16to32_0 : cX2_expand16to32.data.toList.drop 0 = dktX2_expand16to32_0 := by decide +kernel
theorem dksX2_expand16to32_1 : cX2_expand16to32.data.toList.drop 24 = dktX2_expand16to32_1 := dk_seg dksX2_expand16to32_0 24 rfl rfl
theorem dX2_expand16to32_0 : decode cX2_expand16to32 0 = .ok (.iload_n 0, 1) := dk_26 (dk_at dksX2_expand16to32_0 0 rfl rfl)
theorem dX2_expand16to32_1 : decode cX2_expand16to32 1 = .ok (.ldc 7, 2) := dk_18 7 (dk_at dksX2_expand16to32_0 1 rfl rfl)
theorem dX2_expand16to32_3 : decode cX2_expand16to32 3 = .ok (.iand, 1) := dk_126 (dk_at dksX2_expand16to32_0 3 rfl rfl)
theorem dX2_expand16to32_4 : decode cX2_expand16to32 4 = .ok (.istore_n 0, 1) := dk_59 (dk_at dksX2_expand16to32_0 4 rfl rfl)
theorem dX2_expand16to32_5 : decode cX2_expand16to32 5 = .ok (.iload_n 0, 1) := dk_26 (dk_at dksX2_expand16to32_0 5 rfl rfl)
theorem dX2_expand16to32_6 : decode cX2_expand16to32 6 = .ok (.iload_n 0, 1) := dk_26 (dk_at dksX2_expand16to32_0 6 rfl rfl)
theorem dX2_expand16to32_7 : decode cX2_expand16to32 7 = .ok (.bipush 8, 2) := dk_16 8 (dk_at dksX2_expand16to32_0 7 rfl rfl)
theorem dX2_expand16to32_9 : decode cX2_expand16to32 9 = .ok (.ishl, 1) := dk_120 (dk_at dksX2_expand16to32_0 9 rfl rfl)
theorem dX2_expand16to32_10 : decode cX2_expand16to32 10 = .ok (.ior, 1) := dk_128 (dk_at dksX2_expand16to32_0 10 rfl rfl)
theorem dX2_expand16to32_11 : decode cX2_expand16to32 11 = .ok (.ldc 8, 2) := dk_18 8 (dk_at dksX2_expand16to32_0 11 rfl rfl)
theorem dX2_expand16to32_13 : decode cX2_expand16to32 13 = .ok (.iand, 1) := dk_126 (dk_at dksX2_expand16to32_0 13 rfl rfl)
theorem dX2_expand16to32_14 : decode cX2_expand16to32 14 = .ok (.istore_n 0, 1) := dk_59 (dk_at dksX2_expand16to32_0 14 rfl rfl)
theorem dX2_expand16to32_15 : decode cX2_expand16to32 15 = .ok (.iload_n 0, 1) := dk_26 (dk_at dksX2_expand16to32_0 15 rfl rfl)
theorem dX2_expand16to32_16 : decode cX2_expand16to32 16 = .ok (.iload_n 0, 1) := dk_26 (dk_at dksX2_expand16to32_0 16 rfl rfl)
theorem dX2_expand16to32_17 : decode cX2_expand16to32 17 = .ok (.iconst 4, 1) := dk_7 (dk_at dksX2_expand16to32_0 17 rfl rfl)
theorem dX2_expand16to32_18 : decode cX2_expand16to32 18 = .ok (.ishl, 1) := dk_120 (dk_at dksX2_expand16to32_0 18 rfl rfl)
theorem dX2_expand16to32_19 : decode cX2_expand16to32 19 = .ok (.ior, 1) := dk_128 (dk_at dksX2_expand16to32_0 19 rfl rfl)
theorem dX2_expand16to32_20 : decode cX2_expand16to32 20 = .ok (.ldc 9, 2) := dk_18 9 (dk_at dksX2_expand16to32_0 20 rfl rfl)
theorem dX2_expand16to32_22 : decode cX2_expand16to32 22 = .ok (.iand, 1) := dk_126 (dk_at dksX2_expand16to32_0 22 rfl rfl)
theorem dX2_expand16to32_23 : decode cX2_expand16to32 23 = .ok (.istore_n 0, 1) := dk_59 (dk_at dksX2_expand16to32_0 23 rfl rfl)
theorem dX2_expand16to32_24 : decode cX2_expand16to32 24 = .ok (.iload_n 0, 1) := dk_26 (dk_at dksX2_expand16to32_1 0 rfl rfl)
theorem dX2_expand16to32_25 : decode cX2_expand16to32 25 = .ok (.iload_n 0, 1) := dk_26 (dk_at dksX2_expand16to32_1 1 rfl rfl)
theorem dX2_expand16to32_26 : decode cX2_expand16to32 26 = .ok (.iconst 2, 1) := dk_5 (dk_at dksX2_expand16to32_1 2 rfl rfl)
theorem dX2_expand16to32_27 : decode cX2_expand16to32 27 = .ok (.ishl, 1) := dk_120 (dk_at dksX2_expand16to32_1 3 rfl rfl)
theorem dX2_expand16to32_28 : decode cX2_expand16to32 28 = .ok (.ior, 1) := dk_128 (dk_at dksX2_expand16to32_1 4 rfl rfl)
theorem dX2_expand16to32_29 : decode cX2_expand16to32 29 = .ok (.ldc 10, 2) := dk_18 10 (dk_at dksX2_expand16to32_1 5 rfl rfl)
theorem dX2_expand16to32_31 : decode cX2_expand16to32 31 = .ok (.iand, 1) := dk_126 (dk_at dksX2_expand16to32_1 7 rfl rfl)
theorem dX2_expand16to32_32 : decode cX2_expand16to32 32 = .ok (.istore_n 0, 1) := dk_59 (dk_at dksX2_expand16to32_1 8 rfl rfl)
theorem dX2_expand16to32_33 : decode cX2_expand16to32 33 = .ok (.iload_n 0, 1) := dk_26 (dk_at dksX2_expand16to32_1 9 rfl rfl)
theorem dX2_expand16to32_34 : decode cX2_expand16to32 34 = .ok (.iload_n 0, 1) := dk_26 (dk_at dksX2_expand16to32_1 10 rfl rfl)
theorem dX2_expand16to32_35 : decode cX2_expand16to32 35 = .ok (.iconst 1, 1) := dk_4 (dk_at dksX2_expand16to32_1 11 rfl rfl)
theorem dX2_expand16to32_36 : decode cX2_expand16to32 36 = .ok (.ishl, 1) := dk_120 (dk_at dksX2_expand16to32_1 12 rfl rfl)
theorem dX2_expand16to32_37 : decode cX2_expand16to32 37 = .ok (.ior, 1) := dk_128 (dk_at dksX2_expand16to32_1 13 rfl rfl)
theorem dX2_expand16to32_38 : decode cX2_expand16to32 38 = .ok (.ldc 11, 2) := dk_18 11 (dk_at dksX2_expand16to32_1 14 rfl rfl)
theorem dX2_expand16to32_40 : decode cX2_expand16to32 40 = .ok (.iand, 1) := dk_126 (dk_at dksX2_expand16to32_1 16 rfl rfl)
theorem dX2_expand16to32_41 : decode cX2_expand16to32 41 = .ok (.istore_n 0, 1) := dk_59 (dk_at dksX2_expand16to32_1 17 rfl rfl)
theorem dX2_expand16to32_42 : decode cX2_expand16to32 42 = .ok (.iload_n 0, 1) := dk_26 (dk_at dksX2_expand16to32_1 18 rfl rfl)
theorem dX2_expand16to32_43 : decode cX2_expand16to32 43 = .ok (.ireturn, 1) := dk_172 (dk_at dksX2_expand16to32_1 19 rfl rfl)
abbrev cX2_expand32to64 : ByteArray := prog_4_method_4_code
def yX2_expand32to64 : MethodName := ⟨RX2, "expand32to64", "(I)J"⟩
def dkwX2_expand32to64_2 : List UInt8 := [20, 0, 24, 127, 129, 173]
abbrev dktX2_expand32to64_2 : List UInt8 := dkwX2_expand32to64_2 ++ []
def dkwX2_expand32to64_1 : List UInt8 := [59, 26, 18, 21, 4, 184, 0, 13, 59, 26, 4, 124, 133, 20, 0, 24, 127, 16, 32, 121, 26, 133]
abbrev dktX2_expand32to64_1 : List UInt8 := dkwX2_expand32to64_1 ++ dktX2_expand32to64_2
def dkwX2_expand32to64_0 : List UInt8 := [26, 18, 12, 16, 8, 184, 0, 13, 59, 26, 18, 19, 7, 184, 0, 13, 59, 26, 18, 20, 5, 184, 0, 13]
abbrev dktX2_expand32to64_0 : List UInt8 := dkwX2_expand32to64_0 ++ dktX2_expand32to64_1
theorem dksX2_expand32to64_0 : cX2_expand32to64.data.toList.drop 0 = dktX2_expand32to64_0 := by decide +kernel
theorem dksX2_expand32to64_1 : cX2_expand32to64.data.toList.drop 24 = dktX2_expand32to64_1 := dk_seg dksX2_expand32to64_0 24 rfl rfl
theorem dksX2_expand32to64_2 : cX2_expand32to64.data.toList.drop 46 = dktX2_expand32to64_2 := dk_seg dksX2_expand32to64_1 22 rfl rfl
theorem dX2_expand32to64_0 : decode cX2_expand32to64 0 = .ok (.iload_n 0, 1) := dk_26 (dk_at dksX2_expand32to64_0 0 rfl rfl)
theorem dX2_expand32to64_1 : decode cX2_expand32to64 1 = .ok (.ldc 12, 2) := dk_18 12 (dk_at dksX2_expand32to64_0 1 rfl rfl)
theorem dX2_expand32to64_3 : decode cX2_expand32to64 3 = .ok (.bipush 8, 2) := dk_16 8 (dk_at dksX2_expand32to64_0 3 rfl rfl)
theorem dX2_expand32to64_5 : decode cX2_expand32to64 5 = .ok (.invokestatic 13, 3) := dk_184 0 13 (dk_at dksX2_expand32to64_0 5 rfl rfl)
theorem dX2_expand32to64_8 : decode cX2_expand32to64 8 = .ok (.istore_n 0, 1) := dk_59 (dk_at dksX2_expand32to64_0 8 rfl rfl)
theorem dX2_expand32to64_9 : decode cX2_expand32to64 9 = .ok (.iload_n 0, 1) := dk_26 (dk_at dksX2_expand32to64_0 9 rfl rfl)
theorem dX2_expand32to64_10 : decode cX2_expand32to64 10 = .ok (.ldc 19, 2) := dk_18 19 (dk_at dksX2_expand32to64_0 10 rfl rfl)
theorem dX2_expand32to64_12 : decode cX2_expand32to64 12 = .ok (.iconst 4, 1) := dk_7 (dk_at dksX2_expand32to64_0 12 rfl rfl)
theorem dX2_expand32to64_13 : decode cX2_expand32to64 13 = .ok (.invokestatic 13, 3) := dk_184 0 13 (dk_at dksX2_expand32to64_0 13 rfl rfl)
theorem dX2_expand32to64_16 : decode cX2_expand32to64 16 = .ok (.istore_n 0, 1) := dk_59 (dk_at dksX2_expand32to64_0 16 rfl rfl)
theorem dX2_expand32to64_17 : decode cX2_expand32to64 17 = .ok (.iload_n 0, 1) := dk_26 (dk_at dksX2_expand32to64_0 17 rfl rfl)
theorem dX2_expand32to64_18 : decode cX2_expand32to64 18 = .ok (.ldc 20, 2) := dk_18 20 (dk_at dksX2_expand32to64_0 18 rfl rfl)
theorem dX2_expand32to64_20 : decode cX2_expand32to64 20 = .ok (.iconst 2, 1) := dk_5 (dk_at dksX2_expand32to64_0 20 rfl rfl)
theorem dX2_expand32to64_21 : decode cX2_expand32to64 21 = .ok (.invokestatic 13, 3) := dk_184 0 13 (dk_at dksX2_expand32to64_0 21 rfl rfl)
theorem dX2_expand32to64_24 : decode cX2_expand32to64 24 = .ok (.istore_n 0, 1) := dk_59 (dk_at dksX2_expand32to64_1 0 rfl rfl)
theorem dX2_expand32to64_25 : decode cX2_expand32to64 25 = .ok (.iload_n 0, 1) := dk_26 (dk_at dksX2_expand32to64_1 1 rfl rfl)
theorem dX2_expand32to64_26 : decode cX2_expand32to64 26 = .ok (.ldc 21, 2) := dk_18 21 (dk_at dksX2_expand32to64_1 2 rfl rfl)
theorem dX2_expand32to64_28 : decode cX2_expand32to64 28 = .ok (.iconst 1, 1) := dk_4 (dk_at dksX2_expand32to64_1 4 rfl rfl)
theorem dX2_expand32to64_29 : decode cX2_expand32to64 29 = .ok (.invokestatic 13, 3) := dk_184 0 13 (dk_at dksX2_expand32to64_1 5 rfl rfl)
theorem dX2_expand32to64_32 : decode cX2_expand32to64 32 = .ok (.istore_n 0, 1) := dk_59 (dk_at dksX2_expand32to64_1 8 rfl rfl)
theorem dX2_expand32to64_33 : decode cX2_expand32to64 33 = .ok (.iload_n 0, 1) := dk_26 (dk_at dksX2_expand32to64_1 9 rfl rfl)
theorem dX2_expand32to64_34 : decode cX2_expand32to64 34 = .ok (.iconst 1, 1) := dk_4 (dk_at dksX2_expand32to64_1 10 rfl rfl)
theorem dX2_expand32to64_35 : decode cX2_expand32to64 35 = .ok (.iushr, 1) := dk_124 (dk_at dksX2_expand32to64_1 11 rfl rfl)
theorem dX2_expand32to64_36 : decode cX2_expand32to64 36 = .ok (.i2l, 1) := dk_133 (dk_at dksX2_expand32to64_1 12 rfl rfl)
theorem dX2_expand32to64_37 : decode cX2_expand32to64 37 = .ok (.ldc2_w 24, 3) := dk_20 0 24 (dk_at dksX2_expand32to64_1 13 rfl rfl)
theorem dX2_expand32to64_40 : decode cX2_expand32to64 40 = .ok (.land, 1) := dk_127 (dk_at dksX2_expand32to64_1 16 rfl rfl)
theorem dX2_expand32to64_41 : decode cX2_expand32to64 41 = .ok (.bipush 32, 2) := dk_16 32 (dk_at dksX2_expand32to64_1 17 rfl rfl)
theorem dX2_expand32to64_43 : decode cX2_expand32to64 43 = .ok (.lshl, 1) := dk_121 (dk_at dksX2_expand32to64_1 19 rfl rfl)
theorem dX2_expand32to64_44 : decode cX2_expand32to64 44 = .ok (.iload_n 0, 1) := dk_26 (dk_at dksX2_expand32to64_1 20 rfl rfl)
theorem dX2_expand32to64_45 : decode cX2_expand32to64 45 = .ok (.i2l, 1) := dk_133 (dk_at dksX2_expand32to64_1 21 rfl rfl)
theorem dX2_expand32to64_46 : decode cX2_expand32to64 46 = .ok (.ldc2_w 24, 3) := dk_20 0 24 (dk_at dksX2_expand32to64_2 0 rfl rfl)
theorem dX2_expand32to64_49 : decode cX2_expand32to64 49 = .ok (.land, 1) := dk_127 (dk_at dksX2_expand32to64_2 3 rfl rfl)
theorem dX2_expand32to64_50 : decode cX2_expand32to64 50 = .ok (.lor, 1) := dk_129 (dk_at dksX2_expand32to64_2 4 rfl rfl)
theorem dX2_expand32to64_51 : decode cX2_expand32to64 51 = .ok (.lreturn, 1) := dk_173 (dk_at dksX2_expand32to64_2 5 rfl rfl)
abbrev cX2_expand64To128 : ByteArray := prog_4_method_5_code
def yX2_expand64To128 : MethodName := ⟨RX2, "expand64To128", "(J[JI)V"⟩
def dkwX2_expand64To128_2 : List UInt8 := [29, 30, 20, 0, 39, 127, 80, 44, 29, 4, 96, 30, 4, 125, 20, 0, 39, 127, 80, 177]
abbrev dktX2_expand64To128_2 : List UInt8 := dkwX2_expand64To128_2 ++ []
def dkwX2_expand64To128_1 : List UInt8 := [7, 184, 0, 28, 63, 30, 20, 0, 35, 5, 184, 0, 28, 63, 30, 20, 0, 37, 4, 184, 0, 28, 63, 44]
abbrev dktX2_expand64To128_1 : List UInt8 := dkwX2_expand64To128_1 ++ dktX2_expand64To128_2
def dkwX2_expand64To128_0 : List UInt8 := [30, 20, 0, 26, 16, 16, 184, 0, 28, 63, 30, 20, 0, 31, 16, 8, 184, 0, 28, 63, 30, 20, 0, 33]
abbrev dktX2_expand64To128_0 : List UInt8 := dkwX2_expand64To128_0 ++ dktX2_expand64To128_1
theorem dksX2_expand64To128_0 : cX2_expand64To128.data.toList.drop 0 = dktX2_expand64To128_0 := by decide +kernel
theorem dksX2_expand64To128_1 : cX2_expand64To128.data.toList.drop 24 = dktX2_expand64To128_1 := dk_seg dksX2_expand64To128_0 24 rfl rfl
theorem dksX2_expand64To128_2 : cX2_expand64To128.data.toList.drop 48 = dktX2_expand64To128_2 := dk_seg dksX2_expand64To128_1 24 rfl rfl
theorem dX2_expand64To128_0 : decode cX2_expand64To128 0 = .ok (.lload_n 0, 1) := dk_30 (dk_at dksX2_expand64To128_0 0 rfl rfl)
theorem dX2_expand64To128_1 : decode cX2_expand64To128 1 = .ok (.ldc2_w 26, 3) := dk_20 0 26 (dk_at dksX2_expand64To128_0 1 rfl rfl)
theorem dX2_expand64To128_4 : decode cX2_expand64To128 4 = .ok (.bipush 16, 2) := dk_16 16 (dk_at dksX2_expand64To128_0 4 rfl rfl)
theorem dX2_expand64To128_6 : decode cX2_expand64To128 6 = .ok (.invokestatic 28, 3) := dk_184 0 28 (dk_at dksX2_expand64To128_0 6 rfl rfl)
theorem dX2_expand64To128_9 : decode cX2_expand64To128 9 = .ok (.lstore_n 0, 1) := dk_63 (dk_at dksX2_expand64To128_0 9 rfl rfl)
theorem dX2_expand64To128_10 : decode cX2_expand64To128 10 = .ok (.lload_n 0, 1) := dk_30 (dk_at dksX2_expand64To128_0 10 rfl rfl)
theorem dX2_expand64To128_11 : decode cX2_expand64To128 11 = .ok (.ldc2_w 31, 3) := dk_20 0 31 (dk_at dksX2_expand64To128_0 11 rfl rfl)
theorem dX2_expand64To128_14 : decode cX2_expand64To128 14 = .ok (.bipush 8, 2) := dk_16 8 (dk_at dksX2_expand64To128_0 14 rfl rfl)
theorem dX2_expand64To128_16 : decode cX2_expand64To128 16 = .ok (.invokestatic 28, 3) := dk_184 0 28 (dk_at dksX2_expand64To128_0 16 rfl rfl)
theorem dX2_expand64To128_19 : decode cX2_expand64To128 19 = .ok (.lstore_n 0, 1) := dk_63 (dk_at dksX2_expand64To128_0 19 rfl rfl)
theorem dX2_expand64To128_20 : decode cX2_expand64To128 20 = .ok (.lload_n 0, 1) := dk_30 (dk_at dksX2_expand64To128_0 20 rfl rfl)
theorem dX2_expand64To128_21 : decode cX2_expand64To128 21 = .ok (.ldc2_w 33, 3) := dk_20 0 33 (dk_at dksX2_expand64To128_0 21 rfl rfl)
theorem dX2_expand64To128_24 : decode cX2_expand64To128 24 = .ok (.iconst 4, 1) := dk_7 (dk_at dksX2_expand64To128_1 0 rfl rfl)
theorem dX2_expand64To128_25 : decode cX2_expand64To128 25 = .ok (.invokestatic 28, 3) := dk_184 0 28 (dk_at dksX2_expand64To128_1 1 rfl rfl)
theorem dX2_expand64To128_28 : decode cX2_expand64To128 28 = .ok (.lstore_n 0, 1) := dk_63 (dk_at dksX2_expand64To128_1 4 rfl rfl)
theorem dX2_expand64To128_29 : decode cX2_expand64To128 29 = .ok (.lload_n 0, 1) := dk_30 (dk_at dksX2_expand64To128_1 5 rfl rfl)
theorem dX2_expand64To128_30 : decode cX2_expand64To128 30 = .ok (.ldc2_w 35, 3) := dk_20 0 35 (dk_at dksX2_expand64To128_1 6 rfl rfl)
theorem dX2_expand64To128_33 : decode cX2_expand64To128 33 = .ok (.iconst 2, 1) := dk_5 (dk_at dksX2_expand64To128_1 9 rfl rfl)
theorem dX2_expand64To128_34 : decode cX2_expand64To128 34 = .ok (.invokestatic 28, 3) := dk_184 0 28 (dk_at dksX2_expand64To128_1 10 rfl rfl)
theorem dX2_expand64To128_37 : decode cX2_expand64To128 37 = .ok (.lstore_n 0, 1) := dk_63 (dk_at dksX2_expand64To128_1 13 rfl rfl)
theorem dX2_expand64To128_38 : decode cX2_expand64To128 38 = .ok (.lload_n 0, 1) := dk_30 (dk_at dksX2_expand64To128_1 14 rfl rfl)
theorem dX2_expand64To128_39 : decode cX2_expand64To128 39 = .ok (.ldc2_w 37, 3) := dk_20 0 37 (dk_at dksX2_expand64To128_1 15 rfl rfl)
theorem dX2_expand64To128_42 : decode cX2_expand64To128 42 = .ok (.iconst 1, 1) := dk_4 (dk_at dksX2_expand64To128_1 18 rfl rfl)
theorem dX2_expand64To128_43 : decode cX2_expand64To128 43 = .ok (.invokestatic 28, 3) := dk_184 0 28 (dk_at dksX2_expand64To128_1 19 rfl rfl)
theorem dX2_expand64To128_46 : decode cX2_expand64To128 46 = .ok (.lstore_n 0, 1) := dk_63 (dk_at dksX2_expand64To128_1 22 rfl rfl)
theorem dX2_expand64To128_47 : decode cX2_expand64To128 47 = .ok (.aload_n 2, 1) := dk_44 (dk_at dksX2_expand64To128_1 23 rfl rfl)
theorem dX2_expand64To128_48 : decode cX2_expand64To128 48 = .ok (.iload_n 3, 1) := dk_29 (dk_at dksX2_expand64To128_2 0 rfl rfl)
theorem dX2_expand64To128_49 : decode cX2_expand64To128 49 = .ok (.lload_n 0, 1) := dk_30 (dk_at dksX2_expand64To128_2 1 rfl rfl)
theorem dX2_expand64To128_50 : decode cX2_expand64To128 50 = .ok (.ldc2_w 39, 3) := dk_20 0 39 (dk_at dksX2_expand64To128_2 2 rfl rfl)
theorem dX2_expand64To128_53 : decode cX2_expand64To128 53 = .ok (.land, 1) := dk_127 (dk_at dksX2_expand64To128_2 5 rfl rfl)
theorem dX2_expand64To128_54 : decode cX2_expand64To128 54 = .ok (.lastore, 1) := dk_80 (dk_at dksX2_expand64To128_2 6 rfl rfl)
theorem dX2_expand64To128_55 : decode cX2_expand64To128 55 = .ok (.aload_n 2, 1) := dk_44 (dk_at dksX2_expand64To128_2 7 rfl rfl)
theorem dX2_expand64To128_56 : decode cX2_expand64To128 56 = .ok (.iload_n 3, 1) := dk_29 (dk_at dksX2_expand64To128_2 8 rfl rfl)
theorem dX2_expand64To128_57 : decode cX2_expand64To128 57 = .ok (.iconst 1, 1) := dk_4 (dk_at dksX2_expand64To128_2 9 rfl rfl)
theorem dX2_expand64To128_58 : decode cX2_expand64To128 58 = .ok (.iadd, 1) := dk_96 (dk_at dksX2_expand64To128_2 10 rfl rfl)
theorem dX2_expand64To128_59 : decode cX2_expand64To128 59 = .ok (.lload_n 0, 1) := dk_30 (dk_at dksX2_expand64To128_2 11 rfl rfl)
theorem dX2_expand64To128_60 : decode cX2_expand64To128 60 = .ok (.iconst 1, 1) := dk_4 (dk_at dksX2_expand64To128_2 12 rfl rfl)
theorem dX2_expand64To128_61 : decode cX2_expand64To128 61 = .ok (.lushr, 1) := dk_125 (dk_at dksX2_expand64To128_2 13 rfl rfl)
theorem dX2_expand64To128_62 : decode cX2_expand64To128 62 = .ok (.ldc2_w 39, 3) := dk_20 0 39 (dk_at dksX2_expand64To128_2 14 rfl rfl)
theorem dX2_expand64To128_65 : decode cX2_expand64To128 65 = .ok (.land, 1) := dk_127 (dk_at dksX2_expand64To128_2 17 rfl rfl)
theorem dX2_expand64To128_66 : decode cX2_expand64To128 66 = .ok (.lastore, 1) := dk_80 (dk_at dksX2_expand64To128_2 18 rfl rfl)
theorem dX2_expand64To128_67 : decode cX2_expand64To128 67 = .ok (.return_, 1) := dk_177 (dk_at dksX2_expand64To128_2 19 rfl rfl)
abbrev cX2_shuffle : ByteArray := prog_4_method_6_code
def yX2_shuffle : MethodName := ⟨RX2, "shuffle", "(I)I"⟩
def dkwX2_shuffle_1 : List UInt8 := [59, 26, 18, 21, 4, 184, 0, 13, 59, 26, 172]
abbrev dktX2_shuffle_1 : List UInt8 := dkwX2_shuffle_1 ++ []
def dkwX2_shuffle_0 : List UInt8 := [26, 18, 12, 16, 8, 184, 0, 13, 59, 26, 18, 19, 7, 184, 0, 13, 59, 26, 18, 20, 5, 184, 0, 13]
abbrev dktX2_shuffle_0 : List UInt8 := dkwX2_shuffle_0 ++ dktX2_shuffle_1
theorem dksX2_shuffle_0 : cX2_shuffle.data.toList.drop 0 = dktX2_shuffle_0 := by decide +kernel
theorem dksX2_shuffle_1 : cX2_shuffle.data.toList.drop 24 = dktX2_shuffle_1 := dk_seg dksX2_shuffle_0 24 rfl rfl
theorem dX2_shuffle_0 : decode cX2_shuffle 0 = .ok (.iload_n 0, 1) := dk_26 (dk_at dksX2_shuffle_0 0 rfl rfl)
theorem dX2_shuffle_1 : decode cX2_shuffle 1 = .ok (.ldc 12, 2) := dk_18 12 (dk_at dksX2_shuffle_0 1 rfl rfl)
theorem dX2_shuffle_3 : decode cX2_shuffle 3 = .ok (.bipush 8, 2) := dk_16 8 (dk_at dksX2_shuffle_0 3 rfl rfl)
theorem dX2_shuffle_5 : decode cX2_shuffle 5 = .ok (.invokestatic 13, 3) := dk_184 0 13 (dk_at dksX2_shuffle_0 5 rfl rfl)
theorem dX2_shuffle_8 : decode cX2_shuffle 8 = .ok (.istore_n 0, 1) := dk_59 (dk_at dksX2_shuffle_0 8 rfl rfl)
theorem dX2_shuffle_9 : decode cX2_shuffle 9 = .ok (.iload_n 0, 1) := dk_26 (dk_at dksX2_shuffle_0 9 rfl rfl)
theorem dX2_shuffle_10 : decode cX2_shuffle 10 = .ok (.ldc 19, 2) := dk_18 19 (dk_at dksX2_shuffle_0 10 rfl rfl)
theorem dX2_shuffle_12 : decode cX2_shuffle 12 = .ok (.iconst 4, 1) := dk_7 (dk_at dksX2_shuffle_0 12 rfl rfl)
theorem dX2_shuffle_13 : decode cX2_shuffle 13 = .ok (.invokestatic 13, 3) := dk_184 0 13 (dk_at dksX2_shuffle_0 13 rfl rfl)
theorem dX2_shuffle_16 : decode cX2_shuffle 16 = .ok (.istore_n 0, 1) := dk_59 (dk_at dksX2_shuffle_0 16 rfl rfl)
theorem dX2_shuffle_17 : decode cX2_shuffle 17 = .ok (.iload_n 0, 1) := dk_26 (dk_at dksX2_shuffle_0 17 rfl rfl)
theorem dX2_shuffle_18 : decode cX2_shuffle 18 = .ok (.ldc 20, 2) := dk_18 20 (dk_at dksX2_shuffle_0 18 rfl rfl)
theorem dX2_shuffle_20 : decode cX2_shuffle 20 = .ok (.iconst 2, 1) := dk_5 (dk_at dksX2_shuffle_0 20 rfl rfl)
theorem dX2_shuffle_21 : decode cX2_shuffle 21 = .ok (.invokestatic 13, 3) := dk_184 0 13 (dk_at dksX2_shuffle_0 21 rfl rfl)
theorem dX2_shuffle_24 : decode cX2_shuffle 24 = .ok (.istore_n 0, 1) := dk_59 (dk_at dksX2_shuffle_1 0 rfl rfl)
theorem dX2_shuffle_25 : decode cX2_shuffle 25 = .ok (.iload_n 0, 1) := dk_26 (dk_at dksX2_shuffle_1 1 rfl rfl)
theorem dX2_shuffle_26 : decode cX2_shuffle 26 = .ok (.ldc 21, 2) := dk_18 21 (dk_at dksX2_shuffle_1 2 rfl rfl)
theorem dX2_shuffle_28 : decode cX2_shuffle 28 = .ok (.iconst 1, 1) := dk_4 (dk_at dksX2_shuffle_1 4 rfl rfl)
theorem dX2_shuffle_29 : decode cX2_shuffle 29 = .ok (.invokestatic 13, 3) := dk_184 0 13 (dk_at dksX2_shuffle_1 5 rfl rfl)
theorem dX2_shuffle_32 : decode cX2_shuffle 32 = .ok (.istore_n 0, 1) := dk_59 (dk_at dksX2_shuffle_1 8 rfl rfl)
theorem dX2_shuffle_33 : decode cX2_shuffle 33 = .ok (.iload_n 0, 1) := dk_26 (dk_at dksX2_shuffle_1 9 rfl rfl)
theorem dX2_shuffle_34 : decode cX2_shuffle 34 = .ok (.ireturn, 1) := dk_172 (dk_at dksX2_shuffle_1 10 rfl rfl)
abbrev cX2_unshuffle : ByteArray := prog_4_method_11_code
def yX2_unshuffle : MethodName := ⟨RX2, "unshuffle", "(I)I"⟩
def dkwX2_unshuffle_1 : List UInt8 := [26, 18, 12, 16, 8, 184, 0, 13, 59, 26, 172]
abbrev dktX2_unshuffle_1 : List UInt8 := dkwX2_unshuffle_1 ++ []
def dkwX2_unshuffle_0 : List UInt8 := [26, 18, 21, 4, 184, 0, 13, 59, 26, 18, 20, 5, 184, 0, 13, 59, 26, 18, 19, 7, 184, 0, 13, 59]
abbrev dktX2_unshuffle_0 : List UInt8 := dkwX2_unshuffle_0 ++ dktX2_unshuffle_1
theorem dksX2_unshuffle_0 : cX2_unshuffle.data.toList.drop 0 = dktX2_unshuffle_0 := by decide +kernel
theorem dksX2_unshuffle_1 : cX2_unshuffle.data.toList.drop 24 = dktX2_unshuffle_1 := dk_seg dksX2_unshuffle_0 24 rfl rfl
theorem dX2_unshuffle_0 : decode cX2_unshuffle 0 = .ok (.iload_n 0, 1) := dk_26 (dk_at dksX2_unshuffle_0 0 rfl rfl)
theorem dX2_unshuffle_1 : decode cX2_unshuffle 1 = .ok (.ldc 21, 2) := dk_18 21 (dk_at dksX2_unshuffle_0 1 rfl rfl)
theorem dX2_unshuffle_3 : decode cX2_unshuffle 3 = .ok (.iconst 1, 1) := dk_4 (dk_at dksX2_unshuffle_0 3 rfl rfl)
theorem dX2_unshuffle_4 : decode cX2_unshuffle 4 = .ok (.invokestatic 13, 3) := dk_184 0 13 (dk_at dksX2_unshuffle_0 4 rfl rfl)
theorem dX2_unshuffle_7 : decode cX2_unshuffle 7 = .ok (.istore_n 0, 1) := dk_59 (dk_at dksX2_unshuffle_0 7 rfl rfl)
theorem dX2_unshuffle_8 : decode cX2_unshuffle 8 = .ok (.iload_n 0, 1) := dk_26 (dk_at dksX2_unshuffle_0 8 rfl rfl)
theorem dX2_unshuffle_9 : decode cX2_unshuffle 9 = .ok (.ldc 20, 2) := dk_18 20 (dk_at dksX2_unshuffle_0 9 rfl rfl)
theorem dX2_unshuffle_11 : decode cX2_unshuffle 11 = .ok (.iconst 2, 1) := dk_5 (dk_at dksX2_unshuffle_0 11 rfl rfl)
theorem dX2_unshuffle_12 : decode cX2_unshuffle 12 = .ok (.invokestatic 13, 3) := dk_184 0 13 (dk_at dksX2_unshuffle_0 12 rfl rfl)
theorem dX2_unshuffle_15 : decode cX2_unshuffle 15 = .ok (.istore_n 0, 1) := dk_59 (dk_at dksX2_unshuffle_0 15 rfl rfl)
theorem dX2_unshuffle_16 : decode cX2_unshuffle 16 = .ok (.iload_n 0, 1) := dk_26 (dk_at dksX2_unshuffle_0 16 rfl rfl)
theorem dX2_unshuffle_17 : decode cX2_unshuffle 17 = .ok (.ldc 19, 2) := dk_18 19 (dk_at dksX2_unshuffle_0 17 rfl rfl)
theorem dX2_unshuffle_19 : decode cX2_unshuffle 19 = .ok (.iconst 4, 1) := dk_7 (dk_at dksX2_unshuffle_0 19 rfl rfl)
theorem dX2_unshuffle_20 : decode cX2_unshuffle 20 = .ok (.invokestatic 13, 3) := dk_184 0 13 (dk_at dksX2_unshuffle_0 20 rfl rfl)
theorem dX2_unshuffle_23 : decode cX2_unshuffle 23 = .ok (.istore_n 0, 1) := dk_59 (dk_at dksX2_unshuffle_0 23 rfl rfl)
theorem dX2_unshuffle_24 : decode cX2_unshuffle 24 = .ok (.iload_n 0, 1) := dk_26 (dk_at dksX2_unshuffle_1 0 rfl rfl)
theorem dX2_unshuffle_25 : decode cX2_unshuffle 25 = .ok (.ldc 12, 2) := dk_18 12 (dk_at dksX2_unshuffle_1 1 rfl rfl)
theorem dX2_unshuffle_27 : decode cX2_unshuffle 27 = .ok (.bipush 8, 2) := dk_16 8 (dk_at dksX2_unshuffle_1 3 rfl rfl)
theorem dX2_unshuffle_29 : decode cX2_unshuffle 29 = .ok (.invokestatic 13, 3) := dk_184 0 13 (dk_at dksX2_unshuffle_1 5 rfl rfl)
theorem dX2_unshuffle_32 : decode cX2_unshuffle 32 = .ok (.istore_n 0, 1) := dk_59 (dk_at dksX2_unshuffle_1 8 rfl rfl)
theorem dX2_unshuffle_33 : decode cX2_unshuffle 33 = .ok (.iload_n 0, 1) := dk_26 (dk_at dksX2_unshuffle_1 9 rfl rfl)
theorem dX2_unshuffle_34 : decode cX2_unshuffle 34 = .ok (.ireturn, 1) := dk_172 (dk_at dksX2_unshuffle_1 10 rfl rfl)
abbrev cX2_shuffle_2 : ByteArray := prog_4_method_7_code
def yX2_shuffle_2 : MethodName := ⟨RX2, "shuffle", "(J)J"⟩
def dkwX2_shuffle_2_2 : List UInt8 := [173]
abbrev dktX2_shuffle_2_2 : List UInt8 := dkwX2_shuffle_2_2 ++ []
def dkwX2_shuffle_2_1 : List UInt8 := [7, 184, 0, 28, 63, 30, 20, 0, 35, 5, 184, 0, 28, 63, 30, 20, 0, 37, 4, 184, 0, 28, 63, 30]
abbrev dktX2_shuffle_2_1 : List UInt8 := dkwX2_shuffle_2_1 ++ dktX2_shuffle_2_2
def dkwX2_shuffle_2_0 : List UInt8 := [30, 20, 0, 26, 16, 16, 184, 0, 28, 63, 30, 20, 0, 31, 16, 8, 184, 0, 28, 63, 30, 20, 0, 33]
abbrev dktX2_shuffle_2_0 : List UInt8 := dkwX2_shuffle_2_0 ++ dktX2_shuffle_2_1
theorem dksX2_shuffle_2_0 : cX2_shuffle_2.data.toList.drop 0 = dktX2_shuffle_2_0 := by decide +kernel
theorem dksX2_shuffle_2_1 : cX2_shuffle_2.data.toList.drop 24 = dktX2_shuffle_2_1 := dk_seg dksX2_shuffle_2_0 24 rfl rfl
theorem dksX2_shuffle_2_2 : cX2_shuffle_2.data.toList.drop 48 = dktX2_shuffle_2_2 := dk_seg dksX2_shuffle_2_1 24 rfl rfl
theorem dX2_shuffle_2_0 : decode cX2_shuffle_2 0 = .ok (.lload_n 0, 1) := dk_30 (dk_at dksX2_shuffle_2_0 0 rfl rfl)
theorem dX2_shuffle_2_1 : decode cX2_shuffle_2 1 = .ok (.ldc2_w 26, 3) := dk_20 0 26 (dk_at dksX2_shuffle_2_0 1 rfl rfl)
theorem dX2_shuffle_2_4 : decode cX2_shuffle_2 4 = .ok (.bipush 16, 2) := dk_16 16 (dk_at dksX2_shuffle_2_0 4 rfl rfl)
theorem dX2_shuffle_2_6 : decode cX2_shuffle_2 6 = .ok (.invokestatic 28, 3) := dk_184 0 28 (dk_at dksX2_shuffle_2_0 6 rfl rfl)
theorem dX2_shuffle_2_9 : decode cX2_shuffle_2 9 = .ok (.lstore_n 0, 1) := dk_63 (dk_at dksX2_shuffle_2_0 9 rfl rfl)
theorem dX2_shuffle_2_10 : decode cX2_shuffle_2 10 = .ok (.lload_n 0, 1) := dk_30 (dk_at dksX2_shuffle_2_0 10 rfl rfl)
theorem dX2_shuffle_2_11 : decode cX2_shuffle_2 11 = .ok (.ldc2_w 31, 3) := dk_20 0 31 (dk_at dksX2_shuffle_2_0 11 rfl rfl)
theorem dX2_shuffle_2_14 : decode cX2_shuffle_2 14 = .ok (.bipush 8, 2) := dk_16 8 (dk_at dksX2_shuffle_2_0 14 rfl rfl)
theorem dX2_shuffle_2_16 : decode cX2_shuffle_2 16 = .ok (.invokestatic 28, 3) := dk_184 0 28 (dk_at dksX2_shuffle_2_0 16 rfl rfl)
theorem dX2_shuffle_2_19 : decode cX2_shuffle_2 19 = .ok (.lstore_n 0, 1) := dk_63 (dk_at dksX2_shuffle_2_0 19 rfl rfl)
theorem dX2_shuffle_2_20 : decode cX2_shuffle_2 20 = .ok (.lload_n 0, 1) := dk_30 (dk_at dksX2_shuffle_2_0 20 rfl rfl)
theorem dX2_shuffle_2_21 : decode cX2_shuffle_2 21 = .ok (.ldc2_w 33, 3) := dk_20 0 33 (dk_at dksX2_shuffle_2_0 21 rfl rfl)
theorem dX2_shuffle_2_24 : decode cX2_shuffle_2 24 = .ok (.iconst 4, 1) := dk_7 (dk_at dksX2_shuffle_2_1 0 rfl rfl)
theorem dX2_shuffle_2_25 : decode cX2_shuffle_2 25 = .ok (.invokestatic 28, 3) := dk_184 0 28 (dk_at dksX2_shuffle_2_1 1 rfl rfl)
theorem dX2_shuffle_2_28 : decode cX2_shuffle_2 28 = .ok (.lstore_n 0, 1) := dk_63 (dk_at dksX2_shuffle_2_1 4 rfl rfl)
theorem dX2_shuffle_2_29 : decode cX2_shuffle_2 29 = .ok (.lload_n 0, 1) := dk_30 (dk_at dksX2_shuffle_2_1 5 rfl rfl)
theorem dX2_shuffle_2_30 : decode cX2_shuffle_2 30 = .ok (.ldc2_w 35, 3) := dk_20 0 35 (dk_at dksX2_shuffle_2_1 6 rfl rfl)
theorem dX2_shuffle_2_33 : decode cX2_shuffle_2 33 = .ok (.iconst 2, 1) := dk_5 (dk_at dksX2_shuffle_2_1 9 rfl rfl)
theorem dX2_shuffle_2_34 : decode cX2_shuffle_2 34 = .ok (.invokestatic 28, 3) := dk_184 0 28 (dk_at dksX2_shuffle_2_1 10 rfl rfl)
theorem dX2_shuffle_2_37 : decode cX2_shuffle_2 37 = .ok (.lstore_n 0, 1) := dk_63 (dk_at dksX2_shuffle_2_1 13 rfl rfl)
theorem dX2_shuffle_2_38 : decode cX2_shuffle_2 38 = .ok (.lload_n 0, 1) := dk_30 (dk_at dksX2_shuffle_2_1 14 rfl rfl)
theorem dX2_shuffle_2_39 : decode cX2_shuffle_2 39 = .ok (.ldc2_w 37, 3) := dk_20 0 37 (dk_at dksX2_shuffle_2_1 15 rfl rfl)
theorem dX2_shuffle_2_42 : decode cX2_shuffle_2 42 = .ok (.iconst 1, 1) := dk_4 (dk_at dksX2_shuffle_2_1 18 rfl rfl)
theorem dX2_shuffle_2_43 : decode cX2_shuffle_2 43 = .ok (.invokestatic 28, 3) := dk_184 0 28 (dk_at dksX2_shuffle_2_1 19 rfl rfl)
theorem dX2_shuffle_2_46 : decode cX2_shuffle_2 46 = .ok (.lstore_n 0, 1) := dk_63 (dk_at dksX2_shuffle_2_1 22 rfl rfl)
theorem dX2_shuffle_2_47 : decode cX2_shuffle_2 47 = .ok (.lload_n 0, 1) := dk_30 (dk_at dksX2_shuffle_2_1 23 rfl rfl)
theorem dX2_shuffle_2_48 : decode cX2_shuffle_2 48 = .ok (.lreturn, 1) := dk_173 (dk_at dksX2_shuffle_2_2 0 rfl rfl)
abbrev cX2_unshuffle_2 : ByteArray := prog_4_method_12_code
def yX2_unshuffle_2 : MethodName := ⟨RX2, "unshuffle", "(J)J"⟩
def dkwX2_unshuffle_2_2 : List UInt8 := [30, 173]
abbrev dktX2_unshuffle_2_2 : List UInt8 := dkwX2_unshuffle_2_2 ++ []
def dkwX2_unshuffle_2_1 : List UInt8 := [184, 0, 28, 63, 30, 20, 0, 31, 16, 8, 184, 0, 28, 63, 30, 20, 0, 26, 16, 16, 184, 0, 28, 63]
abbrev dktX2_unshuffle_2_1 : List UInt8 := dkwX2_unshuffle_2_1 ++ dktX2_unshuffle_2_2
def dkwX2_unshuffle_2_0 : List UInt8 := [30, 20, 0, 37, 4, 184, 0, 28, 63, 30, 20, 0, 35, 5, 184, 0, 28, 63, 30, 20, 0, 33, 7]
abbrev dktX2_unshuffle_2_0 : List UInt8 := dkwX2_unshuffle_2_0 ++ dktX2_unshuffle_2_1
theorem dksX2_unshuffle_2_0 : cX2_unshuffle_2.data.toList.drop 0 = dktX2_unshuffle_2_0 := by decide +kernel
theorem dksX2_unshuffle_2_1 : cX2_unshuffle_2.data.toList.drop 23 = dktX2_unshuffle_2_1 := dk_seg dksX2_unshuffle_2_0 23 rfl rfl
theorem dksX2_unshuffle_2_2 : cX2_unshuffle_2.data.toList.drop 47 = dktX2_unshuffle_2_2 := dk_seg dksX2_unshuffle_2_1 24 rfl rfl
theorem dX2_unshuffle_2_0 : decode cX2_unshuffle_2 0 = .ok (.lload_n 0, 1) := dk_30 (dk_at dksX2_unshuffle_2_0 0 rfl rfl)
theorem dX2_unshuffle_2_1 : decode cX2_unshuffle_2 1 = .ok (.ldc2_w 37, 3) := dk_20 0 37 (dk_at dksX2_unshuffle_2_0 1 rfl rfl)
theorem dX2_unshuffle_2_4 : decode cX2_unshuffle_2 4 = .ok (.iconst 1, 1) := dk_4 (dk_at dksX2_unshuffle_2_0 4 rfl rfl)
theorem dX2_unshuffle_2_5 : decode cX2_unshuffle_2 5 = .ok (.invokestatic 28, 3) := dk_184 0 28 (dk_at dksX2_unshuffle_2_0 5 rfl rfl)
theorem dX2_unshuffle_2_8 : decode cX2_unshuffle_2 8 = .ok (.lstore_n 0, 1) := dk_63 (dk_at dksX2_unshuffle_2_0 8 rfl rfl)
theorem dX2_unshuffle_2_9 : decode cX2_unshuffle_2 9 = .ok (.lload_n 0, 1) := dk_30 (dk_at dksX2_unshuffle_2_0 9 rfl rfl)
theorem dX2_unshuffle_2_10 : decode cX2_unshuffle_2 10 = .ok (.ldc2_w 35, 3) := dk_20 0 35 (dk_at dksX2_unshuffle_2_0 10 rfl rfl)
theorem dX2_unshuffle_2_13 : decode cX2_unshuffle_2 13 = .ok (.iconst 2, 1) := dk_5 (dk_at dksX2_unshuffle_2_0 13 rfl rfl)
theorem dX2_unshuffle_2_14 : decode cX2_unshuffle_2 14 = .ok (.invokestatic 28, 3) := dk_184 0 28 (dk_at dksX2_unshuffle_2_0 14 rfl rfl)
theorem dX2_unshuffle_2_17 : decode cX2_unshuffle_2 17 = .ok (.lstore_n 0, 1) := dk_63 (dk_at dksX2_unshuffle_2_0 17 rfl rfl)
theorem dX2_unshuffle_2_18 : decode cX2_unshuffle_2 18 = .ok (.lload_n 0, 1) := dk_30 (dk_at dksX2_unshuffle_2_0 18 rfl rfl)
theorem dX2_unshuffle_2_19 : decode cX2_unshuffle_2 19 = .ok (.ldc2_w 33, 3) := dk_20 0 33 (dk_at dksX2_unshuffle_2_0 19 rfl rfl)
theorem dX2_unshuffle_2_22 : decode cX2_unshuffle_2 22 = .ok (.iconst 4, 1) := dk_7 (dk_at dksX2_unshuffle_2_0 22 rfl rfl)
theorem dX2_unshuffle_2_23 : decode cX2_unshuffle_2 23 = .ok (.invokestatic 28, 3) := dk_184 0 28 (dk_at dksX2_unshuffle_2_1 0 rfl rfl)
theorem dX2_unshuffle_2_26 : decode cX2_unshuffle_2 26 = .ok (.lstore_n 0, 1) := dk_63 (dk_at dksX2_unshuffle_2_1 3 rfl rfl)
theorem dX2_unshuffle_2_27 : decode cX2_unshuffle_2 27 = .ok (.lload_n 0, 1) := dk_30 (dk_at dksX2_unshuffle_2_1 4 rfl rfl)
theorem dX2_unshuffle_2_28 : decode cX2_unshuffle_2 28 = .ok (.ldc2_w 31, 3) := dk_20 0 31 (dk_at dksX2_unshuffle_2_1 5 rfl rfl)
theorem dX2_unshuffle_2_31 : decode cX2_unshuffle_2 31 = .ok (.bipush 8, 2) := dk_16 8 (dk_at dksX2_unshuffle_2_1 8 rfl rfl)
theorem dX2_unshuffle_2_33 : decode cX2_unshuffle_2 33 = .ok (.invokestatic 28, 3) := dk_184 0 28 (dk_at dksX2_unshuffle_2_1 10 rfl rfl)
theorem dX2_unshuffle_2_36 : decode cX2_unshuffle_2 36 = .ok (.lstore_n 0, 1) := dk_63 (dk_at dksX2_unshuffle_2_1 13 rfl rfl)
theorem dX2_unshuffle_2_37 : decode cX2_unshuffle_2 37 = .ok (.lload_n 0, 1) := dk_30 (dk_at dksX2_unshuffle_2_1 14 rfl rfl)
theorem dX2_unshuffle_2_38 : decode cX2_unshuffle_2 38 = .ok (.ldc2_w 26, 3) := dk_20 0 26 (dk_at dksX2_unshuffle_2_1 15 rfl rfl)
theorem dX2_unshuffle_2_41 : decode cX2_unshuffle_2 41 = .ok (.bipush 16, 2) := dk_16 16 (dk_at dksX2_unshuffle_2_1 18 rfl rfl)
theorem dX2_unshuffle_2_43 : decode cX2_unshuffle_2 43 = .ok (.invokestatic 28, 3) := dk_184 0 28 (dk_at dksX2_unshuffle_2_1 20 rfl rfl)
theorem dX2_unshuffle_2_46 : decode cX2_unshuffle_2 46 = .ok (.lstore_n 0, 1) := dk_63 (dk_at dksX2_unshuffle_2_1 23 rfl rfl)
theorem dX2_unshuffle_2_47 : decode cX2_unshuffle_2 47 = .ok (.lload_n 0, 1) := dk_30 (dk_at dksX2_unshuffle_2_2 0 rfl rfl)
theorem dX2_unshuffle_2_48 : decode cX2_unshuffle_2 48 = .ok (.lreturn, 1) := dk_173 (dk_at dksX2_unshuffle_2_2 1 rfl rfl)
abbrev cX2_shuffle2 : ByteArray := prog_4_method_8_code
def yX2_shuffle2 : MethodName := ⟨RX2, "shuffle2", "(I)I"⟩
def dkwX2_shuffle2_1 : List UInt8 := [184, 0, 13, 59, 26, 18, 12, 16, 8, 184, 0, 13, 59, 26, 172]
abbrev dktX2_shuffle2_1 : List UInt8 := dkwX2_shuffle2_1 ++ []
def dkwX2_shuffle2_0 : List UInt8 := [26, 18, 41, 16, 7, 184, 0, 13, 59, 26, 18, 42, 16, 14, 184, 0, 13, 59, 26, 18, 19, 7]
abbrev dktX2_shuffle2_0 : List UInt8 := dkwX2_shuffle2_0 ++ dktX2_shuffle2_1
theorem dksX2_shuffle2_0 : cX2_shuffle2.data.toList.drop 0 = dktX2_shuffle2_0 := by decide +kernel
theorem dksX2_shuffle2_1 : cX2_shuffle2.data.toList.drop 22 = dktX2_shuffle2_1 := dk_seg dksX2_shuffle2_0 22 rfl rfl
theorem dX2_shuffle2_0 : decode cX2_shuffle2 0 = .ok (.iload_n 0, 1) := dk_26 (dk_at dksX2_shuffle2_0 0 rfl rfl)
theorem dX2_shuffle2_1 : decode cX2_shuffle2 1 = .ok (.ldc 41, 2) := dk_18 41 (dk_at dksX2_shuffle2_0 1 rfl rfl)
theorem dX2_shuffle2_3 : decode cX2_shuffle2 3 = .ok (.bipush 7, 2) := dk_16 7 (dk_at dksX2_shuffle2_0 3 rfl rfl)
theorem dX2_shuffle2_5 : decode cX2_shuffle2 5 = .ok (.invokestatic 13, 3) := dk_184 0 13 (dk_at dksX2_shuffle2_0 5 rfl rfl)
theorem dX2_shuffle2_8 : decode cX2_shuffle2 8 = .ok (.istore_n 0, 1) := dk_59 (dk_at dksX2_shuffle2_0 8 rfl rfl)
theorem dX2_shuffle2_9 : decode cX2_shuffle2 9 = .ok (.iload_n 0, 1) := dk_26 (dk_at dksX2_shuffle2_0 9 rfl rfl)
theorem dX2_shuffle2_10 : decode cX2_shuffle2 10 = .ok (.ldc 42, 2) := dk_18 42 (dk_at dksX2_shuffle2_0 10 rfl rfl)
theorem dX2_shuffle2_12 : decode cX2_shuffle2 12 = .ok (.bipush 14, 2) := dk_16 14 (dk_at dksX2_shuffle2_0 12 rfl rfl)
theorem dX2_shuffle2_14 : decode cX2_shuffle2 14 = .ok (.invokestatic 13, 3) := dk_184 0 13 (dk_at dksX2_shuffle2_0 14 rfl rfl)
theorem dX2_shuffle2_17 : decode cX2_shuffle2 17 = .ok (.istore_n 0, 1) := dk_59 (dk_at dksX2_shuffle2_0 17 rfl rfl)
theorem dX2_shuffle2_18 : decode cX2_shuffle2 18 = .ok (.iload_n 0, 1) := dk_26 (dk_at dksX2_shuffle2_0 18 rfl rfl)
theorem dX2_shuffle2_19 : decode cX2_shuffle2 19 = .ok (.ldc 19, 2) := dk_18 19 (dk_at dksX2_shuffle2_0 19 rfl rfl)
theorem dX2_shuffle2_21 : decode cX2_shuffle2 21 = .ok (.iconst 4, 1) := dk_7 (dk_at dksX2_shuffle2_0 21 rfl rfl)
theorem dX2_shuffle2_22 : decode cX2_shuffle2 22 = .ok (.invokestatic 13, 3) := dk_184 0 13 (dk_at dksX2_shuffle2_1 0 rfl rfl)
theorem dX2_shuffle2_25 : decode cX2_shuffle2 25 = .ok (.istore_n 0, 1) := dk_59 (dk_at dksX2_shuffle2_1 3 rfl rfl)
theorem dX2_shuffle2_26 : decode cX2_shuffle2 26 = .ok (.iload_n 0, 1) := dk_26 (dk_at dksX2_shuffle2_1 4 rfl rfl)
theorem dX2_shuffle2_27 : decode cX2_shuffle2 27 = .ok (.ldc 12, 2) := dk_18 12 (dk_at dksX2_shuffle2_1 5 rfl rfl)
theorem dX2_shuffle2_29 : decode cX2_shuffle2 29 = .ok (.bipush 8, 2) := dk_16 8 (dk_at dksX2_shuffle2_1 7 rfl rfl)
theorem dX2_shuffle2_31 : decode cX2_shuffle2 31 = .ok (.invokestatic 13, 3) := dk_184 0 13 (dk_at dksX2_shuffle2_1 9 rfl rfl)
theorem dX2_shuffle2_34 : decode cX2_shuffle2 34 = .ok (.istore_n 0, 1) := dk_59 (dk_at dksX2_shuffle2_1 12 rfl rfl)
theorem dX2_shuffle2_35 : decode cX2_shuffle2 35 = .ok (.iload_n 0, 1) := dk_26 (dk_at dksX2_shuffle2_1 13 rfl rfl)
theorem dX2_shuffle2_36 : decode cX2_shuffle2 36 = .ok (.ireturn, 1) := dk_172 (dk_at dksX2_shuffle2_1 14 rfl rfl)
abbrev cX2_unshuffle2 : ByteArray := prog_4_method_13_code
def yX2_unshuffle2 : MethodName := ⟨RX2, "unshuffle2", "(I)I"⟩
def dkwX2_unshuffle2_1 : List UInt8 := [184, 0, 13, 59, 26, 18, 41, 16, 7, 184, 0, 13, 59, 26, 172]
abbrev dktX2_unshuffle2_1 : List UInt8 := dkwX2_unshuffle2_1 ++ []
def dkwX2_unshuffle2_0 : List UInt8 := [26, 18, 12, 16, 8, 184, 0, 13, 59, 26, 18, 19, 7, 184, 0, 13, 59, 26, 18, 42, 16, 14]
abbrev dktX2_unshuffle2_0 : List UInt8 := dkwX2_unshuffle2_0 ++ dktX2_unshuffle2_1
theorem dksX2_unshuffle2_0 : cX2_unshuffle2.data.toList.drop 0 = dktX2_unshuffle2_0 := by decide +kernel
theorem dksX2_unshuffle2_1 : cX2_unshuffle2.data.toList.drop 22 = dktX2_unshuffle2_1 := dk_seg dksX2_unshuffle2_0 22 rfl rfl
theorem dX2_unshuffle2_0 : decode cX2_unshuffle2 0 = .ok (.iload_n 0, 1) := dk_26 (dk_at dksX2_unshuffle2_0 0 rfl rfl)
theorem dX2_unshuffle2_1 : decode cX2_unshuffle2 1 = .ok (.ldc 12, 2) := dk_18 12 (dk_at dksX2_unshuffle2_0 1 rfl rfl)
theorem dX2_unshuffle2_3 : decode cX2_unshuffle2 3 = .ok (.bipush 8, 2) := dk_16 8 (dk_at dksX2_unshuffle2_0 3 rfl rfl)
theorem dX2_unshuffle2_5 : decode cX2_unshuffle2 5 = .ok (.invokestatic 13, 3) := dk_184 0 13 (dk_at dksX2_unshuffle2_0 5 rfl rfl)
theorem dX2_unshuffle2_8 : decode cX2_unshuffle2 8 = .ok (.istore_n 0, 1) := dk_59 (dk_at dksX2_unshuffle2_0 8 rfl rfl)
theorem dX2_unshuffle2_9 : decode cX2_unshuffle2 9 = .ok (.iload_n 0, 1) := dk_26 (dk_at dksX2_unshuffle2_0 9 rfl rfl)
theorem dX2_unshuffle2_10 : decode cX2_unshuffle2 10 = .ok (.ldc 19, 2) := dk_18 19 (dk_at dksX2_unshuffle2_0 10 rfl rfl)
theorem dX2_unshuffle2_12 : decode cX2_unshuffle2 12 = .ok (.iconst 4, 1) := dk_7 (dk_at dksX2_unshuffle2_0 12 rfl rfl)
theorem dX2_unshuffle2_13 : decode cX2_unshuffle2 13 = .ok (.invokestatic 13, 3) := dk_184 0 13 (dk_at dksX2_unshuffle2_0 13 rfl rfl)
theorem dX2_unshuffle2_16 : decode cX2_unshuffle2 16 = .ok (.istore_n 0, 1) := dk_59 (dk_at dksX2_unshuffle2_0 16 rfl rfl)
theorem dX2_unshuffle2_17 : decode cX2_unshuffle2 17 = .ok (.iload_n 0, 1) := dk_26 (dk_at dksX2_unshuffle2_0 17 rfl rfl)
theorem dX2_unshuffle2_18 : decode cX2_unshuffle2 18 = .ok (.ldc 42, 2) := dk_18 42 (dk_at dksX2_unshuffle2_0 18 rfl rfl)
theorem dX2_unshuffle2_20 : decode cX2_unshuffle2 20 = .ok (.bipush 14, 2) := dk_16 14 (dk_at dksX2_unshuffle2_0 20 rfl rfl)
theorem dX2_unshuffle2_22 : decode cX2_unshuffle2 22 = .ok (.invokestatic 13, 3) := dk_184 0 13 (dk_at dksX2_unshuffle2_1 0 rfl rfl)
theorem dX2_unshuffle2_25 : decode cX2_unshuffle2 25 = .ok (.istore_n 0, 1) := dk_59 (dk_at dksX2_unshuffle2_1 3 rfl rfl)
theorem dX2_unshuffle2_26 : decode cX2_unshuffle2 26 = .ok (.iload_n 0, 1) := dk_26 (dk_at dksX2_unshuffle2_1 4 rfl rfl)
theorem dX2_unshuffle2_27 : decode cX2_unshuffle2 27 = .ok (.ldc 41, 2) := dk_18 41 (dk_at dksX2_unshuffle2_1 5 rfl rfl)
theorem dX2_unshuffle2_29 : decode cX2_unshuffle2 29 = .ok (.bipush 7, 2) := dk_16 7 (dk_at dksX2_unshuffle2_1 7 rfl rfl)
theorem dX2_unshuffle2_31 : decode cX2_unshuffle2 31 = .ok (.invokestatic 13, 3) := dk_184 0 13 (dk_at dksX2_unshuffle2_1 9 rfl rfl)
theorem dX2_unshuffle2_34 : decode cX2_unshuffle2 34 = .ok (.istore_n 0, 1) := dk_59 (dk_at dksX2_unshuffle2_1 12 rfl rfl)
theorem dX2_unshuffle2_35 : decode cX2_unshuffle2 35 = .ok (.iload_n 0, 1) := dk_26 (dk_at dksX2_unshuffle2_1 13 rfl rfl)
theorem dX2_unshuffle2_36 : decode cX2_unshuffle2 36 = .ok (.ireturn, 1) := dk_172 (dk_at dksX2_unshuffle2_1 14 rfl rfl)
abbrev cX2_shuffle2_2 : ByteArray := prog_4_method_9_code
def yX2_shuffle2_2 : MethodName := ⟨RX2, "shuffle2", "(J)J"⟩
def dkwX2_shuffle2_2_1 : List UInt8 := [16, 12, 184, 0, 28, 63, 30, 20, 0, 49, 6, 184, 0, 28, 63, 30, 173]
abbrev dktX2_shuffle2_2_1 : List UInt8 := dkwX2_shuffle2_2_1 ++ []
def dkwX2_shuffle2_2_0 : List UInt8 := [30, 20, 0, 43, 16, 24, 184, 0, 28, 63, 30, 20, 0, 45, 16, 6, 184, 0, 28, 63, 30, 20, 0, 47]
abbrev dktX2_shuffle2_2_0 : List UInt8 := dkwX2_shuffle2_2_0 ++ dktX2_shuffle2_2_1
theorem dksX2_shuffle2_2_0 : cX2_shuffle2_2.data.toList.drop 0 = dktX2_shuffle2_2_0 := by decide +kernel
theorem dksX2_shuffle2_2_1 : cX2_shuffle2_2.data.toList.drop 24 = dktX2_shuffle2_2_1 := dk_seg dksX2_shuffle2_2_0 24 rfl rfl
theorem dX2_shuffle2_2_0 : decode cX2_shuffle2_2 0 = .ok (.lload_n 0, 1) := dk_30 (dk_at dksX2_shuffle2_2_0 0 rfl rfl)
theorem dX2_shuffle2_2_1 : decode cX2_shuffle2_2 1 = .ok (.ldc2_w 43, 3) := dk_20 0 43 (dk_at dksX2_shuffle2_2_0 1 rfl rfl)
theorem dX2_shuffle2_2_4 : decode cX2_shuffle2_2 4 = .ok (.bipush 24, 2) := dk_16 24 (dk_at dksX2_shuffle2_2_0 4 rfl rfl)
theorem dX2_shuffle2_2_6 : decode cX2_shuffle2_2 6 = .ok (.invokestatic 28, 3) := dk_184 0 28 (dk_at dksX2_shuffle2_2_0 6 rfl rfl)
theorem dX2_shuffle2_2_9 : decode cX2_shuffle2_2 9 = .ok (.lstore_n 0, 1) := dk_63 (dk_at dksX2_shuffle2_2_0 9 rfl rfl)
theorem dX2_shuffle2_2_10 : decode cX2_shuffle2_2 10 = .ok (.lload_n 0, 1) := dk_30 (dk_at dksX2_shuffle2_2_0 10 rfl rfl)
theorem dX2_shuffle2_2_11 : decode cX2_shuffle2_2 11 = .ok (.ldc2_w 45, 3) := dk_20 0 45 (dk_at dksX2_shuffle2_2_0 11 rfl rfl)
theorem dX2_shuffle2_2_14 : decode cX2_shuffle2_2 14 = .ok (.bipush 6, 2) := dk_16 6 (dk_at dksX2_shuffle2_2_0 14 rfl rfl)
theorem dX2_shuffle2_2_16 : decode cX2_shuffle2_2 16 = .ok (.invokestatic 28, 3) := dk_184 0 28 (dk_at dksX2_shuffle2_2_0 16 rfl rfl)
theorem dX2_shuffle2_2_19 : decode cX2_shuffle2_2 19 = .ok (.lstore_n 0, 1) := dk_63 (dk_at dksX2_shuffle2_2_0 19 rfl rfl)
theorem dX2_shuffle2_2_20 : decode cX2_shuffle2_2 20 = .ok (.lload_n 0, 1) := dk_30 (dk_at dksX2_shuffle2_2_0 20 rfl rfl)
theorem dX2_shuffle2_2_21 : decode cX2_shuffle2_2 21 = .ok (.ldc2_w 47, 3) := dk_20 0 47 (dk_at dksX2_shuffle2_2_0 21 rfl rfl)
theorem dX2_shuffle2_2_24 : decode cX2_shuffle2_2 24 = .ok (.bipush 12, 2) := dk_16 12 (dk_at dksX2_shuffle2_2_1 0 rfl rfl)
theorem dX2_shuffle2_2_26 : decode cX2_shuffle2_2 26 = .ok (.invokestatic 28, 3) := dk_184 0 28 (dk_at dksX2_shuffle2_2_1 2 rfl rfl)
theorem dX2_shuffle2_2_29 : decode cX2_shuffle2_2 29 = .ok (.lstore_n 0, 1) := dk_63 (dk_at dksX2_shuffle2_2_1 5 rfl rfl)
theorem dX2_shuffle2_2_30 : decode cX2_shuffle2_2 30 = .ok (.lload_n 0, 1) := dk_30 (dk_at dksX2_shuffle2_2_1 6 rfl rfl)
theorem dX2_shuffle2_2_31 : decode cX2_shuffle2_2 31 = .ok (.ldc2_w 49, 3) := dk_20 0 49 (dk_at dksX2_shuffle2_2_1 7 rfl rfl)
theorem dX2_shuffle2_2_34 : decode cX2_shuffle2_2 34 = .ok (.iconst 3, 1) := dk_6 (dk_at dksX2_shuffle2_2_1 10 rfl rfl)
theorem dX2_shuffle2_2_35 : decode cX2_shuffle2_2 35 = .ok (.invokestatic 28, 3) := dk_184 0 28 (dk_at dksX2_shuffle2_2_1 11 rfl rfl)
theorem dX2_shuffle2_2_38 : decode cX2_shuffle2_2 38 = .ok (.lstore_n 0, 1) := dk_63 (dk_at dksX2_shuffle2_2_1 14 rfl rfl)
theorem dX2_shuffle2_2_39 : decode cX2_shuffle2_2 39 = .ok (.lload_n 0, 1) := dk_30 (dk_at dksX2_shuffle2_2_1 15 rfl rfl)
theorem dX2_shuffle2_2_40 : decode cX2_shuffle2_2 40 = .ok (.lreturn, 1) := dk_173 (dk_at dksX2_shuffle2_2_1 16 rfl rfl)
abbrev cX2_unshuffle2_2 : ByteArray := prog_4_method_14_code
def yX2_unshuffle2_2 : MethodName := ⟨RX2, "unshuffle2", "(J)J"⟩
def dkwX2_unshuffle2_2_1 : List UInt8 := [16, 6, 184, 0, 28, 63, 30, 20, 0, 43, 16, 24, 184, 0, 28, 63, 30, 173]
abbrev dktX2_unshuffle2_2_1 : List UInt8 := dkwX2_unshuffle2_2_1 ++ []
def dkwX2_unshuffle2_2_0 : List UInt8 := [30, 20, 0, 49, 6, 184, 0, 28, 63, 30, 20, 0, 47, 16, 12, 184, 0, 28, 63, 30, 20, 0, 45]
abbrev dktX2_unshuffle2_2_0 : List UInt8 := dkwX2_unshuffle2_2_0 ++ dktX2_unshuffle2_2_1
theorem dksX2_unshuffle2_2_0 : cX2_unshuffle2_2.data.toList.drop 0 = dktX2_unshuffle2_2_0 := by decide +kernel
theorem dksX2_unshuffle2_2_1 : cX2_unshuffle2_2.data.toList.drop 23 = dktX2_unshuffle2_2_1 := dk_seg dksX2_unshuffle2_2_0 23 rfl rfl
theorem dX2_unshuffle2_2_0 : decode cX2_unshuffle2_2 0 = .ok (.lload_n 0, 1) := dk_30 (dk_at dksX2_unshuffle2_2_0 0 rfl rfl)
theorem dX2_unshuffle2_2_1 : decode cX2_unshuffle2_2 1 = .ok (.ldc2_w 49, 3) := dk_20 0 49 (dk_at dksX2_unshuffle2_2_0 1 rfl rfl)
theorem dX2_unshuffle2_2_4 : decode cX2_unshuffle2_2 4 = .ok (.iconst 3, 1) := dk_6 (dk_at dksX2_unshuffle2_2_0 4 rfl rfl)
theorem dX2_unshuffle2_2_5 : decode cX2_unshuffle2_2 5 = .ok (.invokestatic 28, 3) := dk_184 0 28 (dk_at dksX2_unshuffle2_2_0 5 rfl rfl)
theorem dX2_unshuffle2_2_8 : decode cX2_unshuffle2_2 8 = .ok (.lstore_n 0, 1) := dk_63 (dk_at dksX2_unshuffle2_2_0 8 rfl rfl)
theorem dX2_unshuffle2_2_9 : decode cX2_unshuffle2_2 9 = .ok (.lload_n 0, 1) := dk_30 (dk_at dksX2_unshuffle2_2_0 9 rfl rfl)
theorem dX2_unshuffle2_2_10 : decode cX2_unshuffle2_2 10 = .ok (.ldc2_w 47, 3) := dk_20 0 47 (dk_at dksX2_unshuffle2_2_0 10 rfl rfl)
theorem dX2_unshuffle2_2_13 : decode cX2_unshuffle2_2 13 = .ok (.bipush 12, 2) := dk_16 12 (dk_at dksX2_unshuffle2_2_0 13 rfl rfl)
theorem dX2_unshuffle2_2_15 : decode cX2_unshuffle2_2 15 = .ok (.invokestatic 28, 3) := dk_184 0 28 (dk_at dksX2_unshuffle2_2_0 15 rfl rfl)
theorem dX2_unshuffle2_2_18 : decode cX2_unshuffle2_2 18 = .ok (.lstore_n 0, 1) := dk_63 (dk_at dksX2_unshuffle2_2_0 18 rfl rfl)
theorem dX2_unshuffle2_2_19 : decode cX2_unshuffle2_2 19 = .ok (.lload_n 0, 1) := dk_30 (dk_at dksX2_unshuffle2_2_0 19 rfl rfl)
theorem dX2_unshuffle2_2_20 : decode cX2_unshuffle2_2 20 = .ok (.ldc2_w 45, 3) := dk_20 0 45 (dk_at dksX2_unshuffle2_2_0 20 rfl rfl)
theorem dX2_unshuffle2_2_23 : decode cX2_unshuffle2_2 23 = .ok (.bipush 6, 2) := dk_16 6 (dk_at dksX2_unshuffle2_2_1 0 rfl rfl)
theorem dX2_unshuffle2_2_25 : decode cX2_unshuffle2_2 25 = .ok (.invokestatic 28, 3) := dk_184 0 28 (dk_at dksX2_unshuffle2_2_1 2 rfl rfl)
theorem dX2_unshuffle2_2_28 : decode cX2_unshuffle2_2 28 = .ok (.lstore_n 0, 1) := dk_63 (dk_at dksX2_unshuffle2_2_1 5 rfl rfl)
theorem dX2_unshuffle2_2_29 : decode cX2_unshuffle2_2 29 = .ok (.lload_n 0, 1) := dk_30 (dk_at dksX2_unshuffle2_2_1 6 rfl rfl)
theorem dX2_unshuffle2_2_30 : decode cX2_unshuffle2_2 30 = .ok (.ldc2_w 43, 3) := dk_20 0 43 (dk_at dksX2_unshuffle2_2_1 7 rfl rfl)
theorem dX2_unshuffle2_2_33 : decode cX2_unshuffle2_2 33 = .ok (.bipush 24, 2) := dk_16 24 (dk_at dksX2_unshuffle2_2_1 10 rfl rfl)
theorem dX2_unshuffle2_2_35 : decode cX2_unshuffle2_2 35 = .ok (.invokestatic 28, 3) := dk_184 0 28 (dk_at dksX2_unshuffle2_2_1 12 rfl rfl)
theorem dX2_unshuffle2_2_38 : decode cX2_unshuffle2_2 38 = .ok (.lstore_n 0, 1) := dk_63 (dk_at dksX2_unshuffle2_2_1 15 rfl rfl)
theorem dX2_unshuffle2_2_39 : decode cX2_unshuffle2_2 39 = .ok (.lload_n 0, 1) := dk_30 (dk_at dksX2_unshuffle2_2_1 16 rfl rfl)
theorem dX2_unshuffle2_2_40 : decode cX2_unshuffle2_2 40 = .ok (.lreturn, 1) := dk_173 (dk_at dksX2_unshuffle2_2_1 17 rfl rfl)
abbrev cX2_shuffle3 : ByteArray := prog_4_method_10_code
def yX2_shuffle3 : MethodName := ⟨RX2, "shuffle3", "(J)J"⟩
def dkwX2_shuffle3_1 : List UInt8 := [16, 28, 184, 0, 28, 63, 30, 173]
abbrev dktX2_shuffle3_1 : List UInt8 := dkwX2_shuffle3_1 ++ []
def dkwX2_shuffle3_0 : List UInt8 := [30, 20, 0, 51, 16, 7, 184, 0, 28, 63, 30, 20, 0, 53, 16, 14, 184, 0, 28, 63, 30, 20, 0, 55]
abbrev dktX2_shuffle3_0 : List UInt8 := dkwX2_shuffle3_0 ++ dktX2_shuffle3_1
theorem dksX2_shuffle3_0 : cX2_shuffle3.data.toList.drop 0 = dktX2_shuffle3_0 := by decide +kernel
theorem dksX2_shuffle3_1 : cX2_shuffle3.data.toList.drop 24 = dktX2_shuffle3_1 := dk_seg dksX2_shuffle3_0 24 rfl rfl
theorem dX2_shuffle3_0 : decode cX2_shuffle3 0 = .ok (.lload_n 0, 1) := dk_30 (dk_at dksX2_shuffle3_0 0 rfl rfl)
theorem dX2_shuffle3_1 : decode cX2_shuffle3 1 = .ok (.ldc2_w 51, 3) := dk_20 0 51 (dk_at dksX2_shuffle3_0 1 rfl rfl)
theorem dX2_shuffle3_4 : decode cX2_shuffle3 4 = .ok (.bipush 7, 2) := dk_16 7 (dk_at dksX2_shuffle3_0 4 rfl rfl)
theorem dX2_shuffle3_6 : decode cX2_shuffle3 6 = .ok (.invokestatic 28, 3) := dk_184 0 28 (dk_at dksX2_shuffle3_0 6 rfl rfl)
theorem dX2_shuffle3_9 : decode cX2_shuffle3 9 = .ok (.lstore_n 0, 1) := dk_63 (dk_at dksX2_shuffle3_0 9 rfl rfl)
theorem dX2_shuffle3_10 : decode cX2_shuffle3 10 = .ok (.lload_n 0, 1) := dk_30 (dk_at dksX2_shuffle3_0 10 rfl rfl)
theorem dX2_shuffle3_11 : decode cX2_shuffle3 11 = .ok (.ldc2_w 53, 3) := dk_20 0 53 (dk_at dksX2_shuffle3_0 11 rfl rfl)
theorem dX2_shuffle3_14 : decode cX2_shuffle3 14 = .ok (.bipush 14, 2) := dk_16 14 (dk_at dksX2_shuffle3_0 14 rfl rfl)
theorem dX2_shuffle3_16 : decode cX2_shuffle3 16 = .ok (.invokestatic 28, 3) := dk_184 0 28 (dk_at dksX2_shuffle3_0 16 rfl rfl)
theorem dX2_shuffle3_19 : decode cX2_shuffle3 19 = .ok (.lstore_n 0, 1) := dk_63 (dk_at dksX2_shuffle3_0 19 rfl rfl)
theorem dX2_shuffle3_20 : decode cX2_shuffle3 20 = .ok (.lload_n 0, 1) := dk_30 (dk_at dksX2_shuffle3_0 20 rfl rfl)
theorem dX2_shuffle3_21 : decode cX2_shuffle3 21 = .ok (.ldc2_w 55, 3) := dk_20 0 55 (dk_at dksX2_shuffle3_0 21 rfl rfl)
theorem dX2_shuffle3_24 : decode cX2_shuffle3 24 = .ok (.bipush 28, 2) := dk_16 28 (dk_at dksX2_shuffle3_1 0 rfl rfl)
theorem dX2_shuffle3_26 : decode cX2_shuffle3 26 = .ok (.invokestatic 28, 3) := dk_184 0 28 (dk_at dksX2_shuffle3_1 2 rfl rfl)
theorem dX2_shuffle3_29 : decode cX2_shuffle3 29 = .ok (.lstore_n 0, 1) := dk_63 (dk_at dksX2_shuffle3_1 5 rfl rfl)
theorem dX2_shuffle3_30 : decode cX2_shuffle3 30 = .ok (.lload_n 0, 1) := dk_30 (dk_at dksX2_shuffle3_1 6 rfl rfl)
theorem dX2_shuffle3_31 : decode cX2_shuffle3 31 = .ok (.lreturn, 1) := dk_173 (dk_at dksX2_shuffle3_1 7 rfl rfl)
abbrev cX2_unshuffle3 : ByteArray := prog_4_method_15_code
def yX2_unshuffle3 : MethodName := ⟨RX2, "unshuffle3", "(J)J"⟩
theorem dX2_unshuffle3_0 : decode cX2_unshuffle3 0 = .ok (.lload_n 0, 1) := by decide +kernel
theorem dX2_unshuffle3_1 : decode cX2_unshuffle3 1 = .ok (.invokestatic 57, 3) := by decide +kernel
theorem dX2_unshuffle3_4 : decode cX2_unshuffle3 4 = .ok (.lreturn, 1) := by decide +kernel
theorem q3 : (Jvm.Cond.initialized "Interleave") ∈ lw_all := lw_g (lw_at lw_m0 3 rfl) rfl
theorem q23 : (Jvm.Cond.static ({ cls := "Interleave", name := "expand8to16", desc := "(I)I" } : Jvm.MethodName)) ∈ lw_all := lw_g (lw_at lw_m0 23 rfl) rfl
theorem q24 : (Jvm.Cond.code ({ cls := "Interleave", name := "expand8to16", desc := "(I)I" } : Jvm.MethodName) prog_4_method_2_code (1 : Nat) (Option.some Jvm.ClassFile.FieldType.int)) ∈ lw_all := lw_g (lw_at lw_m0 24 rfl) rfl
theorem q30 : (Jvm.Cond.static ({ cls := "Interleave", name := "expand16to32", desc := "(I)I" } : Jvm.MethodName)) ∈ lw_all := lw_g (lw_at lw_m0 30 rfl) rfl
theorem q31 : (Jvm.Cond.code ({ cls := "Interleave", name := "expand16to32", desc := "(I)I" } : Jvm.MethodName) prog_4_method_3_code (1 : Nat) (Option.some Jvm.ClassFile.FieldType.int)) ∈ lw_all := lw_g (lw_at lw_m0 31 rfl) rfl
theorem q32 : (Jvm.Cond.constant "Interleave" (7 : Nat) (65535 : Int32)) ∈ lw_all := lw_g (lw_at lw_m0 32 rfl) rfl
theorem q33 : (Jvm.Cond.constant "Interleave" (8 : Nat) (16711935 : Int32)) ∈ lw_all := lw_g (lw_at lw_m0 33 rfl) rfl
theorem q34 : (Jvm.Cond.constant "Interleave" (9 : Nat) (252645135 : Int32)) ∈ lw_all := lw_g (lw_at lw_m0 34 rfl) rfl
theorem q35 : (Jvm.Cond.constant "Interleave" (10 : Nat) (858993459 : Int32)) ∈ lw_all := lw_g (lw_at lw_m0 35 rfl) rfl
theorem q36 : (Jvm.Cond.constant "Interleave" (11 : Nat) (1431655765 : Int32)) ∈ lw_all := lw_g (lw_at lw_m0 36 rfl) rfl
theorem q42 : (Jvm.Cond.static ({ cls := "Interleave", name := "expand32to64", desc := "(I)J" } : Jvm.MethodName)) ∈ lw_all := lw_g (lw_at lw_m0 42 rfl) rfl
theorem q43 : (Jvm.Cond.code ({ cls := "Interleave", name := "expand32to64", desc := "(I)J" } : Jvm.MethodName) prog_4_method_4_code (1 : Nat) (Option.some Jvm.ClassFile.FieldType.long)) ∈ lw_all := lw_g (lw_at lw_m0 43 rfl) rfl
theorem q44 : (Jvm.Cond.constant "Interleave" (12 : Nat) (65280 : Int32)) ∈ lw_all := lw_g (lw_at lw_m0 44 rfl) rfl
theorem q45 : (Jvm.Cond.methodLink "Interleave" (13 : Nat) ({ cls := "OwnBits", name := "bitPermuteStep", desc := "(III)I" } : Jvm.MethodName)) ∈ lw_all := lw_g (lw_at lw_m0 45 rfl) rfl
theorem q48 : (Jvm.Cond.constant "Interleave" (19 : Nat) (15728880 : Int32)) ∈ lw_all := lw_g (lw_at lw_m0 48 rfl) rfl
theorem q49 : (Jvm.Cond.constant "Interleave" (20 : Nat) (202116108 : Int32)) ∈ lw_all := lw_g (lw_at lw_m0 49 rfl) rfl
theorem q50 : (Jvm.Cond.constant "Interleave" (21 : Nat) (572662306 : Int32)) ∈ lw_all := lw_g (lw_at lw_m0 50 rfl) rfl
theorem q51 : (Jvm.Cond.constantLong "Interleave" (24 : Nat) (1431655765 : Int64)) ∈ lw_all := lw_g (lw_at lw_m0 51 rfl) rfl
theorem q61 : (Jvm.Cond.static ({ cls := "Interleave", name := "expand64To128", desc := "(J[JI)V" } : Jvm.MethodName)) ∈ lw_all := lw_g (lw_at lw_m0 61 rfl) rfl
theorem q62 : (Jvm.Cond.code ({ cls := "Interleave", name := "expand64To128", desc := "(J[JI)V" } : Jvm.MethodName) prog_4_method_5_code (4 : Nat) (Option.none : Option Jvm.ClassFile.FieldType)) ∈ lw_all := lw_g (lw_at lw_m0 62 rfl) rfl
theorem q63 : (Jvm.Cond.constantLong "Interleave" (26 : Nat) (4294901760 : Int64)) ∈ lw_all := lw_g (lw_at lw_m0 63 rfl) rfl
theorem q64 : (Jvm.Cond.methodLink "Interleave" (28 : Nat) ({ cls := "OwnBits", name := "bitPermuteStep", desc := "(JJI)J" } : Jvm.MethodName)) ∈ lw_all := lw_g (lw_at lw_m0 64 rfl) rfl
theorem q67 : (Jvm.Cond.constantLong "Interleave" (31 : Nat) (280375465148160 : Int64)) ∈ lw_all := lw_g (lw_at lw_m0 67 rfl) rfl
theorem q68 : (Jvm.Cond.constantLong "Interleave" (33 : Nat) (67555025218437360 : Int64)) ∈ lw_all := lw_g (lw_at lw_m0 68 rfl) rfl
theorem q69 : (Jvm.Cond.constantLong "Interleave" (35 : Nat) (868082074056920076 : Int64)) ∈ lw_all := lw_g (lw_at lw_m0 69 rfl) rfl
theorem q70 : (Jvm.Cond.constantLong "Interleave" (37 : Nat) (2459565876494606882 : Int64)) ∈ lw_all := lw_g (lw_at lw_m0 70 rfl) rfl
theorem q71 : (Jvm.Cond.constantLong "Interleave" (39 : Nat) (6148914691236517205 : Int64)) ∈ lw_all := lw_g (lw_at lw_m0 71 rfl) rfl
theorem q81 : (Jvm.Cond.static ({ cls := "Interleave", name := "shuffle", desc := "(I)I" } : Jvm.MethodName)) ∈ lw_all := lw_g (lw_at lw_m0 81 rfl) rfl
theorem q82 : (Jvm.Cond.code ({ cls := "Interleave", name := "shuffle", desc := "(I)I" } : Jvm.MethodName) prog_4_method_6_code (1 : Nat) (Option.some Jvm.ClassFile.FieldType.int)) ∈ lw_all := lw_g (lw_at lw_m0 82 rfl) rfl
theorem q88 : (Jvm.Cond.static ({ cls := "Interleave", name := "unshuffle", desc := "(I)I" } : Jvm.MethodName)) ∈ lw_all := lw_g (lw_at lw_m0 88 rfl) rfl
theorem q89 : (Jvm.Cond.code ({ cls := "Interleave", name := "unshuffle", desc := "(I)I" } : Jvm.MethodName) prog_4_method_11_code (1 : Nat) (Option.some Jvm.ClassFile.FieldType.int)) ∈ lw_all := lw_g (lw_at lw_m0 89 rfl) rfl
theorem q95 : (Jvm.Cond.static ({ cls := "Interleave", name := "shuffle", desc := "(J)J" } : Jvm.MethodName)) ∈ lw_all := lw_g (lw_at lw_m0 95 rfl) rfl
theorem q96 : (Jvm.Cond.code ({ cls := "Interleave", name := "shuffle", desc := "(J)J" } : Jvm.MethodName) prog_4_method_7_code (2 : Nat) (Option.some Jvm.ClassFile.FieldType.long)) ∈ lw_all := lw_g (lw_at lw_m0 96 rfl) rfl
theorem q102 : (Jvm.Cond.static ({ cls := "Interleave", name := "unshuffle", desc := "(J)J" } : Jvm.MethodName)) ∈ lw_all := lw_g (lw_at lw_m0 102 rfl) rfl
theorem q103 : (Jvm.Cond.code ({ cls := "Interleave", name := "unshuffle", desc := "(J)J" } : Jvm.MethodName) prog_4_method_12_code (2 : Nat) (Option.some Jvm.ClassFile.FieldType.long)) ∈ lw_all := lw_g (lw_at lw_m0 103 rfl) rfl
theorem q109 : (Jvm.Cond.static ({ cls := "Interleave", name := "shuffle2", desc := "(I)I" } : Jvm.MethodName)) ∈ lw_all := lw_g (lw_at lw_m0 109 rfl) rfl
theorem q110 : (Jvm.Cond.code ({ cls := "Interleave", name := "shuffle2", desc := "(I)I" } : Jvm.MethodName) prog_4_method_8_code (1 : Nat) (Option.some Jvm.ClassFile.FieldType.int)) ∈ lw_all := lw_g (lw_at lw_m0 110 rfl) rfl
theorem q111 : (Jvm.Cond.constant "Interleave" (41 : Nat) (11141290 : Int32)) ∈ lw_all := lw_g (lw_at lw_m0 111 rfl) rfl
theorem q112 : (Jvm.Cond.constant "Interleave" (42 : Nat) (52428 : Int32)) ∈ lw_all := lw_g (lw_at lw_m0 112 rfl) rfl
theorem q114 : (Jvm.Cond.static ({ cls := "Interleave", name := "unshuffle2", desc := "(I)I" } : Jvm.MethodName)) ∈ lw_all := lw_g (lw_at lw_m0 114 rfl) rfl
theorem q115 : (Jvm.Cond.code ({ cls := "Interleave", name := "unshuffle2", desc := "(I)I" } : Jvm.MethodName) prog_4_method_13_code (1 : Nat) (Option.some Jvm.ClassFile.FieldType.int)) ∈ lw_all := lw_g (lw_at lw_m0 115 rfl) rfl
theorem q121 : (Jvm.Cond.static ({ cls := "Interleave", name := "shuffle2", desc := "(J)J" } : Jvm.MethodName)) ∈ lw_all := lw_g (lw_at lw_m0 121 rfl) rfl
theorem q122 : (Jvm.Cond.code ({ cls := "Interleave", name := "shuffle2", desc := "(J)J" } : Jvm.MethodName) prog_4_method_9_code (2 : Nat) (Option.some Jvm.ClassFile.FieldType.long)) ∈ lw_all := lw_g (lw_at lw_m0 122 rfl) rfl
theorem q123 : (Jvm.Cond.constantLong "Interleave" (43 : Nat) (4278255360 : Int64)) ∈ lw_all := lw_g (lw_at lw_m0 123 rfl) rfl
theorem q124 : (Jvm.Cond.constantLong "Interleave" (45 : Nat) (57421771435671756 : Int64)) ∈ lw_all := lw_g (lw_at lw_m0 124 rfl) rfl
theorem q125 : (Jvm.Cond.constantLong "Interleave" (47 : Nat) (264913582878960 : Int64)) ∈ lw_all := lw_g (lw_at lw_m0 125 rfl) rfl
theorem q126 : (Jvm.Cond.constantLong "Interleave" (49 : Nat) (723401728380766730 : Int64)) ∈ lw_all := lw_g (lw_at lw_m0 126 rfl) rfl
theorem q128 : (Jvm.Cond.static ({ cls := "Interleave", name := "unshuffle2", desc := "(J)J" } : Jvm.MethodName)) ∈ lw_all := lw_g (lw_at lw_m0 128 rfl) rfl
theorem q129 : (Jvm.Cond.code ({ cls := "Interleave", name := "unshuffle2", desc := "(J)J" } : Jvm.MethodName) prog_4_method_14_code (2 : Nat) (Option.some Jvm.ClassFile.FieldType.long)) ∈ lw_all := lw_g (lw_at lw_m0 129 rfl) rfl
theorem q135 : (Jvm.Cond.static ({ cls := "Interleave", name := "shuffle3", desc := "(J)J" } : Jvm.MethodName)) ∈ lw_all := lw_g (lw_at lw_m0 135 rfl) rfl
theorem q136 : (Jvm.Cond.code ({ cls := "Interleave", name := "shuffle3", desc := "(J)J" } : Jvm.MethodName) prog_4_method_10_code (2 : Nat) (Option.some Jvm.ClassFile.FieldType.long)) ∈ lw_all := lw_g (lw_at lw_m0 136 rfl) rfl
theorem q137 : (Jvm.Cond.constantLong "Interleave" (51 : Nat) (47851476196393130 : Int64)) ∈ lw_all := lw_g (lw_at lw_m0 137 rfl) rfl
theorem q138 : (Jvm.Cond.constantLong "Interleave" (53 : Nat) (225176545447116 : Int64)) ∈ lw_all := lw_g (lw_at lw_m0 138 rfl) rfl
theorem q139 : (Jvm.Cond.constantLong "Interleave" (55 : Nat) (4042322160 : Int64)) ∈ lw_all := lw_g (lw_at lw_m0 139 rfl) rfl
theorem q141 : (Jvm.Cond.static ({ cls := "Interleave", name := "unshuffle3", desc := "(J)J" } : Jvm.MethodName)) ∈ lw_all := lw_g (lw_at lw_m0 141 rfl) rfl
theorem q142 : (Jvm.Cond.code ({ cls := "Interleave", name := "unshuffle3", desc := "(J)J" } : Jvm.MethodName) prog_4_method_15_code (2 : Nat) (Option.some Jvm.ClassFile.FieldType.long)) ∈ lw_all := lw_g (lw_at lw_m0 142 rfl) rfl
theorem q143 : (Jvm.Cond.methodLink "Interleave" (57 : Nat) ({ cls := "Interleave", name := "shuffle3", desc := "(J)J" } : Jvm.MethodName)) ∈ lw_all := lw_g (lw_at lw_m0 143 rfl) rfl
end
section
/-! BitWeave -/
set_option maxRecDepth 100000
def RX0 : String := "BitWeave"
def TX0 : u_T := fun k => match k with
  | _ => ("BitWeave", "pair", "[J", true)
def tyX0 : Nat → FieldType := fun k => match k with
  | _ => .array .long
abbrev wsX00 : List Cond := u_ws RX0 TX0 1
theorem nmX0 : ∀ a, a < 1 → ∀ b, b < 1 → a ≠ b → (TX0 a).2.1 ≠ (TX0 b).2.1 := by decide +kernel
theorem tyX0_ok : ∀ k, k < 1 → parseFieldDescriptor (TX0 k).2.2.1 = some (tyX0 k) := by decide +kernel
abbrev cX0_init : ByteArray := prog_1_method_1_code
def yX0_init : MethodName := ⟨RX0, "<init>", "()V"⟩
def dkwX0_init_0 : List UInt8 := [42, 183, 0, 1, 42, 5, 188, 11, 181, 0, 7, 177]
abbrev dktX0_init_0 : List UInt8 := dkwX0_init_0 ++ []
theorem dksX0_init_0 : cX0_init.data.toList.drop 0 = dktX0_init_0 := by decide +kernel
theorem dX0_init_0 : decode cX0_init 0 = .ok (.aload_n 0, 1) := dk_42 (dk_at dksX0_init_0 0 rfl rfl)
theorem dX0_init_1 : decode cX0_init 1 = .ok (.invokespecial 1, 3) := dk_183 0 1 (dk_at dksX0_init_0 1 rfl rfl)
theorem dX0_init_4 : decode cX0_init 4 = .ok (.aload_n 0, 1) := dk_42 (dk_at dksX0_init_0 4 rfl rfl)
theorem dX0_init_5 : decode cX0_init 5 = .ok (.iconst 2, 1) := dk_5 (dk_at dksX0_init_0 5 rfl rfl)
theorem dX0_init_6 : decode cX0_init 6 = .ok (.newarray .long, 2) := dk_188_11 (dk_at dksX0_init_0 6 rfl rfl)
theorem dX0_init_8 : decode cX0_init 8 = .ok (.putfield 7, 3) := dk_181 0 7 (dk_at dksX0_init_0 8 rfl rfl)
theorem dX0_init_11 : decode cX0_init 11 = .ok (.return_, 1) := dk_177 (dk_at dksX0_init_0 11 rfl rfl)
abbrev cX0_byteOut : ByteArray := prog_1_method_3_code
def yX0_byteOut : MethodName := ⟨RX0, "byteOut", "(I)I"⟩
theorem dX0_byteOut_0 : decode cX0_byteOut 0 = .ok (.iload_n 1, 1) := by decide +kernel
theorem dX0_byteOut_1 : decode cX0_byteOut 1 = .ok (.invokestatic 15, 3) := by decide +kernel
theorem dX0_byteOut_4 : decode cX0_byteOut 4 = .ok (.ireturn, 1) := by decide +kernel
abbrev cX0_halfOut : ByteArray := prog_1_method_4_code
def yX0_halfOut : MethodName := ⟨RX0, "halfOut", "(I)I"⟩
theorem dX0_halfOut_0 : decode cX0_halfOut 0 = .ok (.iload_n 1, 1) := by decide +kernel
theorem dX0_halfOut_1 : decode cX0_halfOut 1 = .ok (.invokestatic 21, 3) := by decide +kernel
theorem dX0_halfOut_4 : decode cX0_halfOut 4 = .ok (.ireturn, 1) := by decide +kernel
abbrev cX0_wordOut : ByteArray := prog_1_method_5_code
def yX0_wordOut : MethodName := ⟨RX0, "wordOut", "(I)J"⟩
theorem dX0_wordOut_0 : decode cX0_wordOut 0 = .ok (.iload_n 1, 1) := by decide +kernel
theorem dX0_wordOut_1 : decode cX0_wordOut 1 = .ok (.invokestatic 24, 3) := by decide +kernel
theorem dX0_wordOut_4 : decode cX0_wordOut 4 = .ok (.lreturn, 1) := by decide +kernel
abbrev cX0_longOut : ByteArray := prog_1_method_6_code
def yX0_longOut : MethodName := ⟨RX0, "longOut", "(II)V"⟩
def dkwX0_longOut_0 : List UInt8 := [27, 28, 184, 0, 28, 42, 180, 0, 7, 3, 184, 0, 32, 177]
abbrev dktX0_longOut_0 : List UInt8 := dkwX0_longOut_0 ++ []
theorem dksX0_longOut_0 : cX0_longOut.data.toList.drop 0 = dktX0_longOut_0 := by decide +kernel
theorem dX0_longOut_0 : decode cX0_longOut 0 = .ok (.iload_n 1, 1) := dk_27 (dk_at dksX0_longOut_0 0 rfl rfl)
theorem dX0_longOut_1 : decode cX0_longOut 1 = .ok (.iload_n 2, 1) := dk_28 (dk_at dksX0_longOut_0 1 rfl rfl)
theorem dX0_longOut_2 : decode cX0_longOut 2 = .ok (.invokestatic 28, 3) := dk_184 0 28 (dk_at dksX0_longOut_0 2 rfl rfl)
theorem dX0_longOut_5 : decode cX0_longOut 5 = .ok (.aload_n 0, 1) := dk_42 (dk_at dksX0_longOut_0 5 rfl rfl)
theorem dX0_longOut_6 : decode cX0_longOut 6 = .ok (.getfield 7, 3) := dk_180 0 7 (dk_at dksX0_longOut_0 6 rfl rfl)
theorem dX0_longOut_9 : decode cX0_longOut 9 = .ok (.iconst 0, 1) := dk_3 (dk_at dksX0_longOut_0 9 rfl rfl)
theorem dX0_longOut_10 : decode cX0_longOut 10 = .ok (.invokestatic 32, 3) := dk_184 0 32 (dk_at dksX0_longOut_0 10 rfl rfl)
theorem dX0_longOut_13 : decode cX0_longOut 13 = .ok (.return_, 1) := dk_177 (dk_at dksX0_longOut_0 13 rfl rfl)
abbrev cX0_wide : ByteArray := prog_1_method_2_code
def yX0_wide : MethodName := ⟨RX0, "wide", "(II)J"⟩
def dkwX0_wide_0 : List UInt8 := [26, 133, 16, 32, 121, 27, 133, 20, 0, 13, 127, 129, 173]
abbrev dktX0_wide_0 : List UInt8 := dkwX0_wide_0 ++ []
theorem dksX0_wide_0 : cX0_wide.data.toList.drop 0 = dktX0_wide_0 := by decide +kernel
theorem dX0_wide_0 : decode cX0_wide 0 = .ok (.iload_n 0, 1) := dk_26 (dk_at dksX0_wide_0 0 rfl rfl)
theorem dX0_wide_1 : decode cX0_wide 1 = .ok (.i2l, 1) := dk_133 (dk_at dksX0_wide_0 1 rfl rfl)
theorem dX0_wide_2 : decode cX0_wide 2 = .ok (.bipush 32, 2) := dk_16 32 (dk_at dksX0_wide_0 2 rfl rfl)
theorem dX0_wide_4 : decode cX0_wide 4 = .ok (.lshl, 1) := dk_121 (dk_at dksX0_wide_0 4 rfl rfl)
theorem dX0_wide_5 : decode cX0_wide 5 = .ok (.iload_n 1, 1) := dk_27 (dk_at dksX0_wide_0 5 rfl rfl)
theorem dX0_wide_6 : decode cX0_wide 6 = .ok (.i2l, 1) := dk_133 (dk_at dksX0_wide_0 6 rfl rfl)
theorem dX0_wide_7 : decode cX0_wide 7 = .ok (.ldc2_w 13, 3) := dk_20 0 13 (dk_at dksX0_wide_0 7 rfl rfl)
theorem dX0_wide_10 : decode cX0_wide 10 = .ok (.land, 1) := dk_127 (dk_at dksX0_wide_0 10 rfl rfl)
theorem dX0_wide_11 : decode cX0_wide 11 = .ok (.lor, 1) := dk_129 (dk_at dksX0_wide_0 11 rfl rfl)
theorem dX0_wide_12 : decode cX0_wide 12 = .ok (.lreturn, 1) := dk_173 (dk_at dksX0_wide_0 12 rfl rfl)
abbrev cX0_pair : ByteArray := prog_1_method_7_code
def yX0_pair : MethodName := ⟨RX0, "pair", "(I)J"⟩
def dkwX0_pair_0 : List UInt8 := [42, 180, 0, 7, 27, 4, 126, 47, 173]
abbrev dktX0_pair_0 : List UInt8 := dkwX0_pair_0 ++ []
theorem dksX0_pair_0 : cX0_pair.data.toList.drop 0 = dktX0_pair_0 := by decide +kernel
theorem dX0_pair_0 : decode cX0_pair 0 = .ok (.aload_n 0, 1) := dk_42 (dk_at dksX0_pair_0 0 rfl rfl)
theorem dX0_pair_1 : decode cX0_pair 1 = .ok (.getfield 7, 3) := dk_180 0 7 (dk_at dksX0_pair_0 1 rfl rfl)
theorem dX0_pair_4 : decode cX0_pair 4 = .ok (.iload_n 1, 1) := dk_27 (dk_at dksX0_pair_0 4 rfl rfl)
theorem dX0_pair_5 : decode cX0_pair 5 = .ok (.iconst 1, 1) := dk_4 (dk_at dksX0_pair_0 5 rfl rfl)
theorem dX0_pair_6 : decode cX0_pair 6 = .ok (.iand, 1) := dk_126 (dk_at dksX0_pair_0 6 rfl rfl)
theorem dX0_pair_7 : decode cX0_pair 7 = .ok (.laload, 1) := dk_47 (dk_at dksX0_pair_0 7 rfl rfl)
theorem dX0_pair_8 : decode cX0_pair 8 = .ok (.lreturn, 1) := dk_173 (dk_at dksX0_pair_0 8 rfl rfl)
abbrev cX0_shuffle : ByteArray := prog_1_method_8_code
def yX0_shuffle : MethodName := ⟨RX0, "shuffle", "(I)I"⟩
theorem dX0_shuffle_0 : decode cX0_shuffle 0 = .ok (.iload_n 1, 1) := by decide +kernel
theorem dX0_shuffle_1 : decode cX0_shuffle 1 = .ok (.invokestatic 36, 3) := by decide +kernel
theorem dX0_shuffle_4 : decode cX0_shuffle 4 = .ok (.ireturn, 1) := by decide +kernel
abbrev cX0_unshuffle : ByteArray := prog_1_method_9_code
def yX0_unshuffle : MethodName := ⟨RX0, "unshuffle", "(I)I"⟩
theorem dX0_unshuffle_0 : decode cX0_unshuffle 0 = .ok (.iload_n 1, 1) := by decide +kernel
theorem dX0_unshuffle_1 : decode cX0_unshuffle 1 = .ok (.invokestatic 39, 3) := by decide +kernel
theorem dX0_unshuffle_4 : decode cX0_unshuffle 4 = .ok (.ireturn, 1) := by decide +kernel
abbrev cX0_longShuffle : ByteArray := prog_1_method_10_code
def yX0_longShuffle : MethodName := ⟨RX0, "longShuffle", "(II)J"⟩
def dkwX0_longShuffle_0 : List UInt8 := [27, 28, 184, 0, 28, 184, 0, 42, 173]
abbrev dktX0_longShuffle_0 : List UInt8 := dkwX0_longShuffle_0 ++ []
theorem dksX0_longShuffle_0 : cX0_longShuffle.data.toList.drop 0 = dktX0_longShuffle_0 := by decide +kernel
theorem dX0_longShuffle_0 : decode cX0_longShuffle 0 = .ok (.iload_n 1, 1) := dk_27 (dk_at dksX0_longShuffle_0 0 rfl rfl)
theorem dX0_longShuffle_1 : decode cX0_longShuffle 1 = .ok (.iload_n 2, 1) := dk_28 (dk_at dksX0_longShuffle_0 1 rfl rfl)
theorem dX0_longShuffle_2 : decode cX0_longShuffle 2 = .ok (.invokestatic 28, 3) := dk_184 0 28 (dk_at dksX0_longShuffle_0 2 rfl rfl)
theorem dX0_longShuffle_5 : decode cX0_longShuffle 5 = .ok (.invokestatic 42, 3) := dk_184 0 42 (dk_at dksX0_longShuffle_0 5 rfl rfl)
theorem dX0_longShuffle_8 : decode cX0_longShuffle 8 = .ok (.lreturn, 1) := dk_173 (dk_at dksX0_longShuffle_0 8 rfl rfl)
abbrev cX0_longUnshuffle : ByteArray := prog_1_method_11_code
def yX0_longUnshuffle : MethodName := ⟨RX0, "longUnshuffle", "(II)J"⟩
def dkwX0_longUnshuffle_0 : List UInt8 := [27, 28, 184, 0, 28, 184, 0, 45, 173]
abbrev dktX0_longUnshuffle_0 : List UInt8 := dkwX0_longUnshuffle_0 ++ []
theorem dksX0_longUnshuffle_0 : cX0_longUnshuffle.data.toList.drop 0 = dktX0_longUnshuffle_0 := by decide +kernel
theorem dX0_longUnshuffle_0 : decode cX0_longUnshuffle 0 = .ok (.iload_n 1, 1) := dk_27 (dk_at dksX0_longUnshuffle_0 0 rfl rfl)
theorem dX0_longUnshuffle_1 : decode cX0_longUnshuffle 1 = .ok (.iload_n 2, 1) := dk_28 (dk_at dksX0_longUnshuffle_0 1 rfl rfl)
theorem dX0_longUnshuffle_2 : decode cX0_longUnshuffle 2 = .ok (.invokestatic 28, 3) := dk_184 0 28 (dk_at dksX0_longUnshuffle_0 2 rfl rfl)
theorem dX0_longUnshuffle_5 : decode cX0_longUnshuffle 5 = .ok (.invokestatic 45, 3) := dk_184 0 45 (dk_at dksX0_longUnshuffle_0 5 rfl rfl)
theorem dX0_longUnshuffle_8 : decode cX0_longUnshuffle 8 = .ok (.lreturn, 1) := dk_173 (dk_at dksX0_longUnshuffle_0 8 rfl rfl)
abbrev cX0_there : ByteArray := prog_1_method_12_code
def yX0_there : MethodName := ⟨RX0, "there", "(I)I"⟩
def dkwX0_there_0 : List UInt8 := [27, 184, 0, 47, 184, 0, 50, 172]
abbrev dktX0_there_0 : List UInt8 := dkwX0_there_0 ++ []
theorem dksX0_there_0 : cX0_there.data.toList.drop 0 = dktX0_there_0 := by decide +kernel
theorem dX0_there_0 : decode cX0_there 0 = .ok (.iload_n 1, 1) := dk_27 (dk_at dksX0_there_0 0 rfl rfl)
theorem dX0_there_1 : decode cX0_there 1 = .ok (.invokestatic 47, 3) := dk_184 0 47 (dk_at dksX0_there_0 1 rfl rfl)
theorem dX0_there_4 : decode cX0_there 4 = .ok (.invokestatic 50, 3) := dk_184 0 50 (dk_at dksX0_there_0 4 rfl rfl)
theorem dX0_there_7 : decode cX0_there 7 = .ok (.ireturn, 1) := dk_172 (dk_at dksX0_there_0 7 rfl rfl)
abbrev cX0_longThere : ByteArray := prog_1_method_13_code
def yX0_longThere : MethodName := ⟨RX0, "longThere", "(II)J"⟩
def dkwX0_longThere_0 : List UInt8 := [27, 28, 184, 0, 28, 184, 0, 53, 184, 0, 55, 173]
abbrev dktX0_longThere_0 : List UInt8 := dkwX0_longThere_0 ++ []
theorem dksX0_longThere_0 : cX0_longThere.data.toList.drop 0 = dktX0_longThere_0 := by decide +kernel
theorem dX0_longThere_0 : decode cX0_longThere 0 = .ok (.iload_n 1, 1) := dk_27 (dk_at dksX0_longThere_0 0 rfl rfl)
theorem dX0_longThere_1 : decode cX0_longThere 1 = .ok (.iload_n 2, 1) := dk_28 (dk_at dksX0_longThere_0 1 rfl rfl)
theorem dX0_longThere_2 : decode cX0_longThere 2 = .ok (.invokestatic 28, 3) := dk_184 0 28 (dk_at dksX0_longThere_0 2 rfl rfl)
theorem dX0_longThere_5 : decode cX0_longThere 5 = .ok (.invokestatic 53, 3) := dk_184 0 53 (dk_at dksX0_longThere_0 5 rfl rfl)
theorem dX0_longThere_8 : decode cX0_longThere 8 = .ok (.invokestatic 55, 3) := dk_184 0 55 (dk_at dksX0_longThere_0 8 rfl rfl)
theorem dX0_longThere_11 : decode cX0_longThere 11 = .ok (.lreturn, 1) := dk_173 (dk_at dksX0_longThere_0 11 rfl rfl)
abbrev cX0_thrice : ByteArray := prog_1_method_14_code
def yX0_thrice : MethodName := ⟨RX0, "thrice", "(II)J"⟩
def dkwX0_thrice_0 : List UInt8 := [27, 28, 184, 0, 28, 184, 0, 57, 184, 0, 60, 173]
abbrev dktX0_thrice_0 : List UInt8 := dkwX0_thrice_0 ++ []
theorem dksX0_thrice_0 : cX0_thrice.data.toList.drop 0 = dktX0_thrice_0 := by decide +kernel
theorem dX0_thrice_0 : decode cX0_thrice 0 = .ok (.iload_n 1, 1) := dk_27 (dk_at dksX0_thrice_0 0 rfl rfl)
theorem dX0_thrice_1 : decode cX0_thrice 1 = .ok (.iload_n 2, 1) := dk_28 (dk_at dksX0_thrice_0 1 rfl rfl)
theorem dX0_thrice_2 : decode cX0_thrice 2 = .ok (.invokestatic 28, 3) := dk_184 0 28 (dk_at dksX0_thrice_0 2 rfl rfl)
theorem dX0_thrice_5 : decode cX0_thrice 5 = .ok (.invokestatic 57, 3) := dk_184 0 57 (dk_at dksX0_thrice_0 5 rfl rfl)
theorem dX0_thrice_8 : decode cX0_thrice 8 = .ok (.invokestatic 60, 3) := dk_184 0 60 (dk_at dksX0_thrice_0 8 rfl rfl)
theorem dX0_thrice_11 : decode cX0_thrice 11 = .ok (.lreturn, 1) := dk_173 (dk_at dksX0_thrice_0 11 rfl rfl)
theorem q1 : (Jvm.Cond.initialized "BitWeave") ∈ lw_all := lw_g (lw_at lw_m0 1 rfl) rfl
theorem q6 : (Jvm.Cond.instantiable "BitWeave" (1 : Nat)) ∈ lw_all := lw_g (lw_at lw_m0 6 rfl) rfl
theorem q8 : (Jvm.Cond.instanceMethod ({ cls := "BitWeave", name := "<init>", desc := "()V" } : Jvm.MethodName)) ∈ lw_all := lw_g (lw_at lw_m0 8 rfl) rfl
theorem q9 : (Jvm.Cond.code ({ cls := "BitWeave", name := "<init>", desc := "()V" } : Jvm.MethodName) prog_1_method_1_code (1 : Nat) (Option.none : Option Jvm.ClassFile.FieldType)) ∈ lw_all := lw_g (lw_at lw_m0 9 rfl) rfl
theorem q10 : (Jvm.Cond.methodLink "BitWeave" (1 : Nat) ({ cls := "java/lang/Object", name := "<init>", desc := "()V" } : Jvm.MethodName)) ∈ lw_all := lw_g (lw_at lw_m0 10 rfl) rfl
theorem q13 : (Jvm.Cond.fieldLink "BitWeave" (7 : Nat) "BitWeave" "pair" "[J") ∈ lw_all := lw_g (lw_at lw_m0 13 rfl) rfl
theorem q14 : (Jvm.Cond.laysFinal "BitWeave" "BitWeave" "pair" "[J") ∈ lw_all := lw_g (lw_at lw_m0 14 rfl) rfl
theorem q15 : (Jvm.Cond.soleField "BitWeave" "pair") ∈ lw_all := lw_g (lw_at lw_m0 15 rfl) rfl
theorem q16 : (Jvm.Cond.superclass "BitWeave" "java/lang/Object") ∈ lw_all := lw_g (lw_at lw_m0 16 rfl) rfl
theorem q19 : (Jvm.Cond.instanceMethod ({ cls := "BitWeave", name := "byteOut", desc := "(I)I" } : Jvm.MethodName)) ∈ lw_all := lw_g (lw_at lw_m0 19 rfl) rfl
theorem q20 : (Jvm.Cond.selects "BitWeave" ({ cls := "BitWeave", name := "byteOut", desc := "(I)I" } : Jvm.MethodName) ({ cls := "BitWeave", name := "byteOut", desc := "(I)I" } : Jvm.MethodName)) ∈ lw_all := lw_g (lw_at lw_m0 20 rfl) rfl
theorem q21 : (Jvm.Cond.code ({ cls := "BitWeave", name := "byteOut", desc := "(I)I" } : Jvm.MethodName) prog_1_method_3_code (2 : Nat) (Option.some Jvm.ClassFile.FieldType.int)) ∈ lw_all := lw_g (lw_at lw_m0 21 rfl) rfl
theorem q22 : (Jvm.Cond.methodLink "BitWeave" (15 : Nat) ({ cls := "Interleave", name := "expand8to16", desc := "(I)I" } : Jvm.MethodName)) ∈ lw_all := lw_g (lw_at lw_m0 22 rfl) rfl
theorem q26 : (Jvm.Cond.instanceMethod ({ cls := "BitWeave", name := "halfOut", desc := "(I)I" } : Jvm.MethodName)) ∈ lw_all := lw_g (lw_at lw_m0 26 rfl) rfl
theorem q27 : (Jvm.Cond.selects "BitWeave" ({ cls := "BitWeave", name := "halfOut", desc := "(I)I" } : Jvm.MethodName) ({ cls := "BitWeave", name := "halfOut", desc := "(I)I" } : Jvm.MethodName)) ∈ lw_all := lw_g (lw_at lw_m0 27 rfl) rfl
theorem q28 : (Jvm.Cond.code ({ cls := "BitWeave", name := "halfOut", desc := "(I)I" } : Jvm.MethodName) prog_1_method_4_code (2 : Nat) (Option.some Jvm.ClassFile.FieldType.int)) ∈ lw_all := lw_g (lw_at lw_m0 28 rfl) rfl
theorem q29 : (Jvm.Cond.methodLink "BitWeave" (21 : Nat) ({ cls := "Interleave", name := "expand16to32", desc := "(I)I" } : Jvm.MethodName)) ∈ lw_all := lw_g (lw_at lw_m0 29 rfl) rfl
theorem q38 : (Jvm.Cond.instanceMethod ({ cls := "BitWeave", name := "wordOut", desc := "(I)J" } : Jvm.MethodName)) ∈ lw_all := lw_g (lw_at lw_m0 38 rfl) rfl
theorem q39 : (Jvm.Cond.selects "BitWeave" ({ cls := "BitWeave", name := "wordOut", desc := "(I)J" } : Jvm.MethodName) ({ cls := "BitWeave", name := "wordOut", desc := "(I)J" } : Jvm.MethodName)) ∈ lw_all := lw_g (lw_at lw_m0 39 rfl) rfl
theorem q40 : (Jvm.Cond.code ({ cls := "BitWeave", name := "wordOut", desc := "(I)J" } : Jvm.MethodName) prog_1_method_5_code (2 : Nat) (Option.some Jvm.ClassFile.FieldType.long)) ∈ lw_all := lw_g (lw_at lw_m0 40 rfl) rfl
theorem q41 : (Jvm.Cond.methodLink "BitWeave" (24 : Nat) ({ cls := "Interleave", name := "expand32to64", desc := "(I)J" } : Jvm.MethodName)) ∈ lw_all := lw_g (lw_at lw_m0 41 rfl) rfl
theorem q53 : (Jvm.Cond.instanceMethod ({ cls := "BitWeave", name := "longOut", desc := "(II)V" } : Jvm.MethodName)) ∈ lw_all := lw_g (lw_at lw_m0 53 rfl) rfl
theorem q54 : (Jvm.Cond.selects "BitWeave" ({ cls := "BitWeave", name := "longOut", desc := "(II)V" } : Jvm.MethodName) ({ cls := "BitWeave", name := "longOut", desc := "(II)V" } : Jvm.MethodName)) ∈ lw_all := lw_g (lw_at lw_m0 54 rfl) rfl
theorem q55 : (Jvm.Cond.code ({ cls := "BitWeave", name := "longOut", desc := "(II)V" } : Jvm.MethodName) prog_1_method_6_code (3 : Nat) (Option.none : Option Jvm.ClassFile.FieldType)) ∈ lw_all := lw_g (lw_at lw_m0 55 rfl) rfl
theorem q56 : (Jvm.Cond.methodLink "BitWeave" (28 : Nat) ({ cls := "BitWeave", name := "wide", desc := "(II)J" } : Jvm.MethodName)) ∈ lw_all := lw_g (lw_at lw_m0 56 rfl) rfl
theorem q57 : (Jvm.Cond.static ({ cls := "BitWeave", name := "wide", desc := "(II)J" } : Jvm.MethodName)) ∈ lw_all := lw_g (lw_at lw_m0 57 rfl) rfl
theorem q58 : (Jvm.Cond.code ({ cls := "BitWeave", name := "wide", desc := "(II)J" } : Jvm.MethodName) prog_1_method_2_code (2 : Nat) (Option.some Jvm.ClassFile.FieldType.long)) ∈ lw_all := lw_g (lw_at lw_m0 58 rfl) rfl
theorem q59 : (Jvm.Cond.constantLong "BitWeave" (13 : Nat) (4294967295 : Int64)) ∈ lw_all := lw_g (lw_at lw_m0 59 rfl) rfl
theorem q60 : (Jvm.Cond.methodLink "BitWeave" (32 : Nat) ({ cls := "Interleave", name := "expand64To128", desc := "(J[JI)V" } : Jvm.MethodName)) ∈ lw_all := lw_g (lw_at lw_m0 60 rfl) rfl
theorem q73 : (Jvm.Cond.instanceMethod ({ cls := "BitWeave", name := "pair", desc := "(I)J" } : Jvm.MethodName)) ∈ lw_all := lw_g (lw_at lw_m0 73 rfl) rfl
theorem q74 : (Jvm.Cond.selects "BitWeave" ({ cls := "BitWeave", name := "pair", desc := "(I)J" } : Jvm.MethodName) ({ cls := "BitWeave", name := "pair", desc := "(I)J" } : Jvm.MethodName)) ∈ lw_all := lw_g (lw_at lw_m0 74 rfl) rfl
theorem q75 : (Jvm.Cond.code ({ cls := "BitWeave", name := "pair", desc := "(I)J" } : Jvm.MethodName) prog_1_method_7_code (2 : Nat) (Option.some Jvm.ClassFile.FieldType.long)) ∈ lw_all := lw_g (lw_at lw_m0 75 rfl) rfl
theorem q77 : (Jvm.Cond.instanceMethod ({ cls := "BitWeave", name := "shuffle", desc := "(I)I" } : Jvm.MethodName)) ∈ lw_all := lw_g (lw_at lw_m0 77 rfl) rfl
theorem q78 : (Jvm.Cond.selects "BitWeave" ({ cls := "BitWeave", name := "shuffle", desc := "(I)I" } : Jvm.MethodName) ({ cls := "BitWeave", name := "shuffle", desc := "(I)I" } : Jvm.MethodName)) ∈ lw_all := lw_g (lw_at lw_m0 78 rfl) rfl
theorem q79 : (Jvm.Cond.code ({ cls := "BitWeave", name := "shuffle", desc := "(I)I" } : Jvm.MethodName) prog_1_method_8_code (2 : Nat) (Option.some Jvm.ClassFile.FieldType.int)) ∈ lw_all := lw_g (lw_at lw_m0 79 rfl) rfl
theorem q80 : (Jvm.Cond.methodLink "BitWeave" (36 : Nat) ({ cls := "Interleave", name := "shuffle", desc := "(I)I" } : Jvm.MethodName)) ∈ lw_all := lw_g (lw_at lw_m0 80 rfl) rfl
theorem q84 : (Jvm.Cond.instanceMethod ({ cls := "BitWeave", name := "unshuffle", desc := "(I)I" } : Jvm.MethodName)) ∈ lw_all := lw_g (lw_at lw_m0 84 rfl) rfl
theorem q85 : (Jvm.Cond.selects "BitWeave" ({ cls := "BitWeave", name := "unshuffle", desc := "(I)I" } : Jvm.MethodName) ({ cls := "BitWeave", name := "unshuffle", desc := "(I)I" } : Jvm.MethodName)) ∈ lw_all := lw_g (lw_at lw_m0 85 rfl) rfl
theorem q86 : (Jvm.Cond.code ({ cls := "BitWeave", name := "unshuffle", desc := "(I)I" } : Jvm.MethodName) prog_1_method_9_code (2 : Nat) (Option.some Jvm.ClassFile.FieldType.int)) ∈ lw_all := lw_g (lw_at lw_m0 86 rfl) rfl
theorem q87 : (Jvm.Cond.methodLink "BitWeave" (39 : Nat) ({ cls := "Interleave", name := "unshuffle", desc := "(I)I" } : Jvm.MethodName)) ∈ lw_all := lw_g (lw_at lw_m0 87 rfl) rfl
theorem q91 : (Jvm.Cond.instanceMethod ({ cls := "BitWeave", name := "longShuffle", desc := "(II)J" } : Jvm.MethodName)) ∈ lw_all := lw_g (lw_at lw_m0 91 rfl) rfl
theorem q92 : (Jvm.Cond.selects "BitWeave" ({ cls := "BitWeave", name := "longShuffle", desc := "(II)J" } : Jvm.MethodName) ({ cls := "BitWeave", name := "longShuffle", desc := "(II)J" } : Jvm.MethodName)) ∈ lw_all := lw_g (lw_at lw_m0 92 rfl) rfl
theorem q93 : (Jvm.Cond.code ({ cls := "BitWeave", name := "longShuffle", desc := "(II)J" } : Jvm.MethodName) prog_1_method_10_code (3 : Nat) (Option.some Jvm.ClassFile.FieldType.long)) ∈ lw_all := lw_g (lw_at lw_m0 93 rfl) rfl
theorem q94 : (Jvm.Cond.methodLink "BitWeave" (42 : Nat) ({ cls := "Interleave", name := "shuffle", desc := "(J)J" } : Jvm.MethodName)) ∈ lw_all := lw_g (lw_at lw_m0 94 rfl) rfl
theorem q98 : (Jvm.Cond.instanceMethod ({ cls := "BitWeave", name := "longUnshuffle", desc := "(II)J" } : Jvm.MethodName)) ∈ lw_all := lw_g (lw_at lw_m0 98 rfl) rfl
theorem q99 : (Jvm.Cond.selects "BitWeave" ({ cls := "BitWeave", name := "longUnshuffle", desc := "(II)J" } : Jvm.MethodName) ({ cls := "BitWeave", name := "longUnshuffle", desc := "(II)J" } : Jvm.MethodName)) ∈ lw_all := lw_g (lw_at lw_m0 99 rfl) rfl
theorem q100 : (Jvm.Cond.code ({ cls := "BitWeave", name := "longUnshuffle", desc := "(II)J" } : Jvm.MethodName) prog_1_method_11_code (3 : Nat) (Option.some Jvm.ClassFile.FieldType.long)) ∈ lw_all := lw_g (lw_at lw_m0 100 rfl) rfl
theorem q101 : (Jvm.Cond.methodLink "BitWeave" (45 : Nat) ({ cls := "Interleave", name := "unshuffle", desc := "(J)J" } : Jvm.MethodName)) ∈ lw_all := lw_g (lw_at lw_m0 101 rfl) rfl
theorem q105 : (Jvm.Cond.instanceMethod ({ cls := "BitWeave", name := "there", desc := "(I)I" } : Jvm.MethodName)) ∈ lw_all := lw_g (lw_at lw_m0 105 rfl) rfl
theorem q106 : (Jvm.Cond.selects "BitWeave" ({ cls := "BitWeave", name := "there", desc := "(I)I" } : Jvm.MethodName) ({ cls := "BitWeave", name := "there", desc := "(I)I" } : Jvm.MethodName)) ∈ lw_all := lw_g (lw_at lw_m0 106 rfl) rfl
theorem q107 : (Jvm.Cond.code ({ cls := "BitWeave", name := "there", desc := "(I)I" } : Jvm.MethodName) prog_1_method_12_code (2 : Nat) (Option.some Jvm.ClassFile.FieldType.int)) ∈ lw_all := lw_g (lw_at lw_m0 107 rfl) rfl
theorem q108 : (Jvm.Cond.methodLink "BitWeave" (47 : Nat) ({ cls := "Interleave", name := "shuffle2", desc := "(I)I" } : Jvm.MethodName)) ∈ lw_all := lw_g (lw_at lw_m0 108 rfl) rfl
theorem q113 : (Jvm.Cond.methodLink "BitWeave" (50 : Nat) ({ cls := "Interleave", name := "unshuffle2", desc := "(I)I" } : Jvm.MethodName)) ∈ lw_all := lw_g (lw_at lw_m0 113 rfl) rfl
theorem q117 : (Jvm.Cond.instanceMethod ({ cls := "BitWeave", name := "longThere", desc := "(II)J" } : Jvm.MethodName)) ∈ lw_all := lw_g (lw_at lw_m0 117 rfl) rfl
theorem q118 : (Jvm.Cond.selects "BitWeave" ({ cls := "BitWeave", name := "longThere", desc := "(II)J" } : Jvm.MethodName) ({ cls := "BitWeave", name := "longThere", desc := "(II)J" } : Jvm.MethodName)) ∈ lw_all := lw_g (lw_at lw_m0 118 rfl) rfl
theorem q119 : (Jvm.Cond.code ({ cls := "BitWeave", name := "longThere", desc := "(II)J" } : Jvm.MethodName) prog_1_method_13_code (3 : Nat) (Option.some Jvm.ClassFile.FieldType.long)) ∈ lw_all := lw_g (lw_at lw_m0 119 rfl) rfl
theorem q120 : (Jvm.Cond.methodLink "BitWeave" (53 : Nat) ({ cls := "Interleave", name := "shuffle2", desc := "(J)J" } : Jvm.MethodName)) ∈ lw_all := lw_g (lw_at lw_m0 120 rfl) rfl
theorem q127 : (Jvm.Cond.methodLink "BitWeave" (55 : Nat) ({ cls := "Interleave", name := "unshuffle2", desc := "(J)J" } : Jvm.MethodName)) ∈ lw_all := lw_g (lw_at lw_m0 127 rfl) rfl
theorem q131 : (Jvm.Cond.instanceMethod ({ cls := "BitWeave", name := "thrice", desc := "(II)J" } : Jvm.MethodName)) ∈ lw_all := lw_g (lw_at lw_m0 131 rfl) rfl
theorem q132 : (Jvm.Cond.selects "BitWeave" ({ cls := "BitWeave", name := "thrice", desc := "(II)J" } : Jvm.MethodName) ({ cls := "BitWeave", name := "thrice", desc := "(II)J" } : Jvm.MethodName)) ∈ lw_all := lw_g (lw_at lw_m0 132 rfl) rfl
theorem q133 : (Jvm.Cond.code ({ cls := "BitWeave", name := "thrice", desc := "(II)J" } : Jvm.MethodName) prog_1_method_14_code (3 : Nat) (Option.some Jvm.ClassFile.FieldType.long)) ∈ lw_all := lw_g (lw_at lw_m0 133 rfl) rfl
theorem q134 : (Jvm.Cond.methodLink "BitWeave" (57 : Nat) ({ cls := "Interleave", name := "shuffle3", desc := "(J)J" } : Jvm.MethodName)) ∈ lw_all := lw_g (lw_at lw_m0 134 rfl) rfl
theorem q140 : (Jvm.Cond.methodLink "BitWeave" (60 : Nat) ({ cls := "Interleave", name := "unshuffle3", desc := "(J)J" } : Jvm.MethodName)) ∈ lw_all := lw_g (lw_at lw_m0 140 rfl) rfl
theorem in_X0 : ∀ w ∈ wsX00, w ∈ lw_all := lw_in wsX00 [14] (by decide +kernel) (by decide +kernel)
/-! BitWeaveModel -/
set_option maxRecDepth 100000
def RX1 : String := "BitWeaveModel"
def TX1 : u_T := fun k => match k with
  | _ => ("BitWeaveModel", "pair", "[J", true)
def tyX1 : Nat → FieldType := fun k => match k with
  | _ => .array .long
abbrev wsX10 : List Cond := u_ws RX1 TX1 1
theorem nmX1 : ∀ a, a < 1 → ∀ b, b < 1 → a ≠ b → (TX1 a).2.1 ≠ (TX1 b).2.1 := by decide +kernel
theorem tyX1_ok : ∀ k, k < 1 → parseFieldDescriptor (TX1 k).2.2.1 = some (tyX1 k) := by decide +kernel
abbrev cX1_init : ByteArray := prog_3_method_1_code
def yX1_init : MethodName := ⟨RX1, "<init>", "()V"⟩
def dkwX1_init_0 : List UInt8 := [42, 183, 0, 1, 42, 5, 188, 11, 181, 0, 7, 177]
abbrev dktX1_init_0 : List UInt8 := dkwX1_init_0 ++ []
theorem dksX1_init_0 : cX1_init.data.toList.drop 0 = dktX1_init_0 := by decide +kernel
theorem dX1_init_0 : decode cX1_init 0 = .ok (.aload_n 0, 1) := dk_42 (dk_at dksX1_init_0 0 rfl rfl)
theorem dX1_init_1 : decode cX1_init 1 = .ok (.invokespecial 1, 3) := dk_183 0 1 (dk_at dksX1_init_0 1 rfl rfl)
theorem dX1_init_4 : decode cX1_init 4 = .ok (.aload_n 0, 1) := dk_42 (dk_at dksX1_init_0 4 rfl rfl)
theorem dX1_init_5 : decode cX1_init 5 = .ok (.iconst 2, 1) := dk_5 (dk_at dksX1_init_0 5 rfl rfl)
theorem dX1_init_6 : decode cX1_init 6 = .ok (.newarray .long, 2) := dk_188_11 (dk_at dksX1_init_0 6 rfl rfl)
theorem dX1_init_8 : decode cX1_init 8 = .ok (.putfield 7, 3) := dk_181 0 7 (dk_at dksX1_init_0 8 rfl rfl)
theorem dX1_init_11 : decode cX1_init 11 = .ok (.return_, 1) := dk_177 (dk_at dksX1_init_0 11 rfl rfl)
abbrev cX1_byteOut : ByteArray := prog_3_method_4_code
def yX1_byteOut : MethodName := ⟨RX1, "byteOut", "(I)I"⟩
def dkwX1_byteOut_0 : List UInt8 := [27, 17, 0, 255, 126, 133, 3, 16, 8, 184, 0, 15, 136, 172]
abbrev dktX1_byteOut_0 : List UInt8 := dkwX1_byteOut_0 ++ []
theorem dksX1_byteOut_0 : cX1_byteOut.data.toList.drop 0 = dktX1_byteOut_0 := by decide +kernel
theorem dX1_byteOut_0 : decode cX1_byteOut 0 = .ok (.iload_n 1, 1) := dk_27 (dk_at dksX1_byteOut_0 0 rfl rfl)
theorem dX1_byteOut_1 : decode cX1_byteOut 1 = .ok (.sipush 255, 3) := dk_17 0 255 (dk_at dksX1_byteOut_0 1 rfl rfl)
theorem dX1_byteOut_4 : decode cX1_byteOut 4 = .ok (.iand, 1) := dk_126 (dk_at dksX1_byteOut_0 4 rfl rfl)
theorem dX1_byteOut_5 : decode cX1_byteOut 5 = .ok (.i2l, 1) := dk_133 (dk_at dksX1_byteOut_0 5 rfl rfl)
theorem dX1_byteOut_6 : decode cX1_byteOut 6 = .ok (.iconst 0, 1) := dk_3 (dk_at dksX1_byteOut_0 6 rfl rfl)
theorem dX1_byteOut_7 : decode cX1_byteOut 7 = .ok (.bipush 8, 2) := dk_16 8 (dk_at dksX1_byteOut_0 7 rfl rfl)
theorem dX1_byteOut_9 : decode cX1_byteOut 9 = .ok (.invokestatic 15, 3) := dk_184 0 15 (dk_at dksX1_byteOut_0 9 rfl rfl)
theorem dX1_byteOut_12 : decode cX1_byteOut 12 = .ok (.l2i, 1) := dk_136 (dk_at dksX1_byteOut_0 12 rfl rfl)
theorem dX1_byteOut_13 : decode cX1_byteOut 13 = .ok (.ireturn, 1) := dk_172 (dk_at dksX1_byteOut_0 13 rfl rfl)
abbrev cX1_spread : ByteArray := prog_3_method_3_code
def yX1_spread : MethodName := ⟨RX1, "spread", "(JII)J"⟩
def dkwX1_spread_1 : List UInt8 := [21, 6, 104, 121, 129, 55, 4, 132, 6, 1, 167, 255, 229, 22, 4, 173]
abbrev dktX1_spread_1 : List UInt8 := dkwX1_spread_1 ++ []
def dkwX1_spread_0 : List UInt8 := [9, 55, 4, 3, 54, 6, 21, 6, 29, 162, 0, 27, 22, 4, 30, 28, 21, 6, 96, 125, 10, 127, 5]
abbrev dktX1_spread_0 : List UInt8 := dkwX1_spread_0 ++ dktX1_spread_1
theorem dksX1_spread_0 : cX1_spread.data.toList.drop 0 = dktX1_spread_0 := by decide +kernel
theorem dksX1_spread_1 : cX1_spread.data.toList.drop 23 = dktX1_spread_1 := dk_seg dksX1_spread_0 23 rfl rfl
theorem dX1_spread_0 : decode cX1_spread 0 = .ok (.lconst 0, 1) := dk_9 (dk_at dksX1_spread_0 0 rfl rfl)
theorem dX1_spread_1 : decode cX1_spread 1 = .ok (.lstore 4, 2) := dk_55 4 (dk_at dksX1_spread_0 1 rfl rfl)
theorem dX1_spread_3 : decode cX1_spread 3 = .ok (.iconst 0, 1) := dk_3 (dk_at dksX1_spread_0 3 rfl rfl)
theorem dX1_spread_4 : decode cX1_spread 4 = .ok (.istore 6, 2) := dk_54 6 (dk_at dksX1_spread_0 4 rfl rfl)
theorem dX1_spread_6 : decode cX1_spread 6 = .ok (.iload 6, 2) := dk_21 6 (dk_at dksX1_spread_0 6 rfl rfl)
theorem dX1_spread_8 : decode cX1_spread 8 = .ok (.iload_n 3, 1) := dk_29 (dk_at dksX1_spread_0 8 rfl rfl)
theorem dX1_spread_9 : decode cX1_spread 9 = .ok (.if_icmp .ge 27, 3) := dk_162 0 27 (dk_at dksX1_spread_0 9 rfl rfl)
theorem dX1_spread_12 : decode cX1_spread 12 = .ok (.lload 4, 2) := dk_22 4 (dk_at dksX1_spread_0 12 rfl rfl)
theorem dX1_spread_14 : decode cX1_spread 14 = .ok (.lload_n 0, 1) := dk_30 (dk_at dksX1_spread_0 14 rfl rfl)
theorem dX1_spread_15 : decode cX1_spread 15 = .ok (.iload_n 2, 1) := dk_28 (dk_at dksX1_spread_0 15 rfl rfl)
theorem dX1_spread_16 : decode cX1_spread 16 = .ok (.iload 6, 2) := dk_21 6 (dk_at dksX1_spread_0 16 rfl rfl)
theorem dX1_spread_18 : decode cX1_spread 18 = .ok (.iadd, 1) := dk_96 (dk_at dksX1_spread_0 18 rfl rfl)
theorem dX1_spread_19 : decode cX1_spread 19 = .ok (.lushr, 1) := dk_125 (dk_at dksX1_spread_0 19 rfl rfl)
theorem dX1_spread_20 : decode cX1_spread 20 = .ok (.lconst 1, 1) := dk_10 (dk_at dksX1_spread_0 20 rfl rfl)
theorem dX1_spread_21 : decode cX1_spread 21 = .ok (.land, 1) := dk_127 (dk_at dksX1_spread_0 21 rfl rfl)
theorem dX1_spread_22 : decode cX1_spread 22 = .ok (.iconst 2, 1) := dk_5 (dk_at dksX1_spread_0 22 rfl rfl)
theorem dX1_spread_23 : decode cX1_spread 23 = .ok (.iload 6, 2) := dk_21 6 (dk_at dksX1_spread_1 0 rfl rfl)
theorem dX1_spread_25 : decode cX1_spread 25 = .ok (.imul, 1) := dk_104 (dk_at dksX1_spread_1 2 rfl rfl)
theorem dX1_spread_26 : decode cX1_spread 26 = .ok (.lshl, 1) := dk_121 (dk_at dksX1_spread_1 3 rfl rfl)
theorem dX1_spread_27 : decode cX1_spread 27 = .ok (.lor, 1) := dk_129 (dk_at dksX1_spread_1 4 rfl rfl)
theorem dX1_spread_28 : decode cX1_spread 28 = .ok (.lstore 4, 2) := dk_55 4 (dk_at dksX1_spread_1 5 rfl rfl)
theorem dX1_spread_30 : decode cX1_spread 30 = .ok (.iinc 6 1, 3) := dk_132 6 1 (dk_at dksX1_spread_1 7 rfl rfl)
theorem dX1_spread_33 : decode cX1_spread 33 = .ok (.goto (-27), 3) := dk_167 255 229 (dk_at dksX1_spread_1 10 rfl rfl)
theorem dX1_spread_36 : decode cX1_spread 36 = .ok (.lload 4, 2) := dk_22 4 (dk_at dksX1_spread_1 13 rfl rfl)
theorem dX1_spread_38 : decode cX1_spread 38 = .ok (.lreturn, 1) := dk_173 (dk_at dksX1_spread_1 15 rfl rfl)
abbrev cX1_halfOut : ByteArray := prog_3_method_5_code
def yX1_halfOut : MethodName := ⟨RX1, "halfOut", "(I)I"⟩
def dkwX1_halfOut_0 : List UInt8 := [27, 18, 19, 126, 133, 3, 16, 16, 184, 0, 15, 136, 172]
abbrev dktX1_halfOut_0 : List UInt8 := dkwX1_halfOut_0 ++ []
theorem dksX1_halfOut_0 : cX1_halfOut.data.toList.drop 0 = dktX1_halfOut_0 := by decide +kernel
theorem dX1_halfOut_0 : decode cX1_halfOut 0 = .ok (.iload_n 1, 1) := dk_27 (dk_at dksX1_halfOut_0 0 rfl rfl)
theorem dX1_halfOut_1 : decode cX1_halfOut 1 = .ok (.ldc 19, 2) := dk_18 19 (dk_at dksX1_halfOut_0 1 rfl rfl)
theorem dX1_halfOut_3 : decode cX1_halfOut 3 = .ok (.iand, 1) := dk_126 (dk_at dksX1_halfOut_0 3 rfl rfl)
theorem dX1_halfOut_4 : decode cX1_halfOut 4 = .ok (.i2l, 1) := dk_133 (dk_at dksX1_halfOut_0 4 rfl rfl)
theorem dX1_halfOut_5 : decode cX1_halfOut 5 = .ok (.iconst 0, 1) := dk_3 (dk_at dksX1_halfOut_0 5 rfl rfl)
theorem dX1_halfOut_6 : decode cX1_halfOut 6 = .ok (.bipush 16, 2) := dk_16 16 (dk_at dksX1_halfOut_0 6 rfl rfl)
theorem dX1_halfOut_8 : decode cX1_halfOut 8 = .ok (.invokestatic 15, 3) := dk_184 0 15 (dk_at dksX1_halfOut_0 8 rfl rfl)
theorem dX1_halfOut_11 : decode cX1_halfOut 11 = .ok (.l2i, 1) := dk_136 (dk_at dksX1_halfOut_0 11 rfl rfl)
theorem dX1_halfOut_12 : decode cX1_halfOut 12 = .ok (.ireturn, 1) := dk_172 (dk_at dksX1_halfOut_0 12 rfl rfl)
abbrev cX1_wordOut : ByteArray := prog_3_method_6_code
def yX1_wordOut : MethodName := ⟨RX1, "wordOut", "(I)J"⟩
def dkwX1_wordOut_0 : List UInt8 := [27, 133, 20, 0, 13, 127, 3, 16, 32, 184, 0, 15, 173]
abbrev dktX1_wordOut_0 : List UInt8 := dkwX1_wordOut_0 ++ []
theorem dksX1_wordOut_0 : cX1_wordOut.data.toList.drop 0 = dktX1_wordOut_0 := by decide +kernel
theorem dX1_wordOut_0 : decode cX1_wordOut 0 = .ok (.iload_n 1, 1) := dk_27 (dk_at dksX1_wordOut_0 0 rfl rfl)
theorem dX1_wordOut_1 : decode cX1_wordOut 1 = .ok (.i2l, 1) := dk_133 (dk_at dksX1_wordOut_0 1 rfl rfl)
theorem dX1_wordOut_2 : decode cX1_wordOut 2 = .ok (.ldc2_w 13, 3) := dk_20 0 13 (dk_at dksX1_wordOut_0 2 rfl rfl)
theorem dX1_wordOut_5 : decode cX1_wordOut 5 = .ok (.land, 1) := dk_127 (dk_at dksX1_wordOut_0 5 rfl rfl)
theorem dX1_wordOut_6 : decode cX1_wordOut 6 = .ok (.iconst 0, 1) := dk_3 (dk_at dksX1_wordOut_0 6 rfl rfl)
theorem dX1_wordOut_7 : decode cX1_wordOut 7 = .ok (.bipush 32, 2) := dk_16 32 (dk_at dksX1_wordOut_0 7 rfl rfl)
theorem dX1_wordOut_9 : decode cX1_wordOut 9 = .ok (.invokestatic 15, 3) := dk_184 0 15 (dk_at dksX1_wordOut_0 9 rfl rfl)
theorem dX1_wordOut_12 : decode cX1_wordOut 12 = .ok (.lreturn, 1) := dk_173 (dk_at dksX1_wordOut_0 12 rfl rfl)
abbrev cX1_longOut : ByteArray := prog_3_method_7_code
def yX1_longOut : MethodName := ⟨RX1, "longOut", "(II)V"⟩
def dkwX1_longOut_1 : List UInt8 := [33, 16, 32, 16, 32, 184, 0, 15, 80, 177]
abbrev dktX1_longOut_1 : List UInt8 := dkwX1_longOut_1 ++ []
def dkwX1_longOut_0 : List UInt8 := [27, 28, 184, 0, 20, 66, 42, 180, 0, 7, 3, 33, 3, 16, 32, 184, 0, 15, 80, 42, 180, 0, 7, 4]
abbrev dktX1_longOut_0 : List UInt8 := dkwX1_longOut_0 ++ dktX1_longOut_1
theorem dksX1_longOut_0 : cX1_longOut.data.toList.drop 0 = dktX1_longOut_0 := by decide +kernel
theorem dksX1_longOut_1 : cX1_longOut.data.toList.drop 24 = dktX1_longOut_1 := dk_seg dksX1_longOut_0 24 rfl rfl
theorem dX1_longOut_0 : decode cX1_longOut 0 = .ok (.iload_n 1, 1) := dk_27 (dk_at dksX1_longOut_0 0 rfl rfl)
theorem dX1_longOut_1 : decode cX1_longOut 1 = .ok (.iload_n 2, 1) := dk_28 (dk_at dksX1_longOut_0 1 rfl rfl)
theorem dX1_longOut_2 : decode cX1_longOut 2 = .ok (.invokestatic 20, 3) := dk_184 0 20 (dk_at dksX1_longOut_0 2 rfl rfl)
theorem dX1_longOut_5 : decode cX1_longOut 5 = .ok (.lstore_n 3, 1) := dk_66 (dk_at dksX1_longOut_0 5 rfl rfl)
theorem dX1_longOut_6 : decode cX1_longOut 6 = .ok (.aload_n 0, 1) := dk_42 (dk_at dksX1_longOut_0 6 rfl rfl)
theorem dX1_longOut_7 : decode cX1_longOut 7 = .ok (.getfield 7, 3) := dk_180 0 7 (dk_at dksX1_longOut_0 7 rfl rfl)
theorem dX1_longOut_10 : decode cX1_longOut 10 = .ok (.iconst 0, 1) := dk_3 (dk_at dksX1_longOut_0 10 rfl rfl)
theorem dX1_longOut_11 : decode cX1_longOut 11 = .ok (.lload_n 3, 1) := dk_33 (dk_at dksX1_longOut_0 11 rfl rfl)
theorem dX1_longOut_12 : decode cX1_longOut 12 = .ok (.iconst 0, 1) := dk_3 (dk_at dksX1_longOut_0 12 rfl rfl)
theorem dX1_longOut_13 : decode cX1_longOut 13 = .ok (.bipush 32, 2) := dk_16 32 (dk_at dksX1_longOut_0 13 rfl rfl)
theorem dX1_longOut_15 : decode cX1_longOut 15 = .ok (.invokestatic 15, 3) := dk_184 0 15 (dk_at dksX1_longOut_0 15 rfl rfl)
theorem dX1_longOut_18 : decode cX1_longOut 18 = .ok (.lastore, 1) := dk_80 (dk_at dksX1_longOut_0 18 rfl rfl)
theorem dX1_longOut_19 : decode cX1_longOut 19 = .ok (.aload_n 0, 1) := dk_42 (dk_at dksX1_longOut_0 19 rfl rfl)
theorem dX1_longOut_20 : decode cX1_longOut 20 = .ok (.getfield 7, 3) := dk_180 0 7 (dk_at dksX1_longOut_0 20 rfl rfl)
theorem dX1_longOut_23 : decode cX1_longOut 23 = .ok (.iconst 1, 1) := dk_4 (dk_at dksX1_longOut_0 23 rfl rfl)
theorem dX1_longOut_24 : decode cX1_longOut 24 = .ok (.lload_n 3, 1) := dk_33 (dk_at dksX1_longOut_1 0 rfl rfl)
theorem dX1_longOut_25 : decode cX1_longOut 25 = .ok (.bipush 32, 2) := dk_16 32 (dk_at dksX1_longOut_1 1 rfl rfl)
theorem dX1_longOut_27 : decode cX1_longOut 27 = .ok (.bipush 32, 2) := dk_16 32 (dk_at dksX1_longOut_1 3 rfl rfl)
theorem dX1_longOut_29 : decode cX1_longOut 29 = .ok (.invokestatic 15, 3) := dk_184 0 15 (dk_at dksX1_longOut_1 5 rfl rfl)
theorem dX1_longOut_32 : decode cX1_longOut 32 = .ok (.lastore, 1) := dk_80 (dk_at dksX1_longOut_1 8 rfl rfl)
theorem dX1_longOut_33 : decode cX1_longOut 33 = .ok (.return_, 1) := dk_177 (dk_at dksX1_longOut_1 9 rfl rfl)
abbrev cX1_wide : ByteArray := prog_3_method_2_code
def yX1_wide : MethodName := ⟨RX1, "wide", "(II)J"⟩
def dkwX1_wide_0 : List UInt8 := [26, 133, 16, 32, 121, 27, 133, 20, 0, 13, 127, 129, 173]
abbrev dktX1_wide_0 : List UInt8 := dkwX1_wide_0 ++ []
theorem dksX1_wide_0 : cX1_wide.data.toList.drop 0 = dktX1_wide_0 := by decide +kernel
theorem dX1_wide_0 : decode cX1_wide 0 = .ok (.iload_n 0, 1) := dk_26 (dk_at dksX1_wide_0 0 rfl rfl)
theorem dX1_wide_1 : decode cX1_wide 1 = .ok (.i2l, 1) := dk_133 (dk_at dksX1_wide_0 1 rfl rfl)
theorem dX1_wide_2 : decode cX1_wide 2 = .ok (.bipush 32, 2) := dk_16 32 (dk_at dksX1_wide_0 2 rfl rfl)
theorem dX1_wide_4 : decode cX1_wide 4 = .ok (.lshl, 1) := dk_121 (dk_at dksX1_wide_0 4 rfl rfl)
theorem dX1_wide_5 : decode cX1_wide 5 = .ok (.iload_n 1, 1) := dk_27 (dk_at dksX1_wide_0 5 rfl rfl)
theorem dX1_wide_6 : decode cX1_wide 6 = .ok (.i2l, 1) := dk_133 (dk_at dksX1_wide_0 6 rfl rfl)
theorem dX1_wide_7 : decode cX1_wide 7 = .ok (.ldc2_w 13, 3) := dk_20 0 13 (dk_at dksX1_wide_0 7 rfl rfl)
theorem dX1_wide_10 : decode cX1_wide 10 = .ok (.land, 1) := dk_127 (dk_at dksX1_wide_0 10 rfl rfl)
theorem dX1_wide_11 : decode cX1_wide 11 = .ok (.lor, 1) := dk_129 (dk_at dksX1_wide_0 11 rfl rfl)
theorem dX1_wide_12 : decode cX1_wide 12 = .ok (.lreturn, 1) := dk_173 (dk_at dksX1_wide_0 12 rfl rfl)
abbrev cX1_pair : ByteArray := prog_3_method_8_code
def yX1_pair : MethodName := ⟨RX1, "pair", "(I)J"⟩
def dkwX1_pair_0 : List UInt8 := [42, 180, 0, 7, 27, 4, 126, 47, 173]
abbrev dktX1_pair_0 : List UInt8 := dkwX1_pair_0 ++ []
theorem dksX1_pair_0 : cX1_pair.data.toList.drop 0 = dktX1_pair_0 := by decide +kernel
theorem dX1_pair_0 : decode cX1_pair 0 = .ok (.aload_n 0, 1) := dk_42 (dk_at dksX1_pair_0 0 rfl rfl)
theorem dX1_pair_1 : decode cX1_pair 1 = .ok (.getfield 7, 3) := dk_180 0 7 (dk_at dksX1_pair_0 1 rfl rfl)
theorem dX1_pair_4 : decode cX1_pair 4 = .ok (.iload_n 1, 1) := dk_27 (dk_at dksX1_pair_0 4 rfl rfl)
theorem dX1_pair_5 : decode cX1_pair 5 = .ok (.iconst 1, 1) := dk_4 (dk_at dksX1_pair_0 5 rfl rfl)
theorem dX1_pair_6 : decode cX1_pair 6 = .ok (.iand, 1) := dk_126 (dk_at dksX1_pair_0 6 rfl rfl)
theorem dX1_pair_7 : decode cX1_pair 7 = .ok (.laload, 1) := dk_47 (dk_at dksX1_pair_0 7 rfl rfl)
theorem dX1_pair_8 : decode cX1_pair 8 = .ok (.lreturn, 1) := dk_173 (dk_at dksX1_pair_0 8 rfl rfl)
abbrev cX1_shuffle : ByteArray := prog_3_method_11_code
def yX1_shuffle : MethodName := ⟨RX1, "shuffle", "(I)I"⟩
def dkwX1_shuffle_0 : List UInt8 := [27, 133, 20, 0, 13, 127, 16, 32, 184, 0, 24, 136, 172]
abbrev dktX1_shuffle_0 : List UInt8 := dkwX1_shuffle_0 ++ []
theorem dksX1_shuffle_0 : cX1_shuffle.data.toList.drop 0 = dktX1_shuffle_0 := by decide +kernel
theorem dX1_shuffle_0 : decode cX1_shuffle 0 = .ok (.iload_n 1, 1) := dk_27 (dk_at dksX1_shuffle_0 0 rfl rfl)
theorem dX1_shuffle_1 : decode cX1_shuffle 1 = .ok (.i2l, 1) := dk_133 (dk_at dksX1_shuffle_0 1 rfl rfl)
theorem dX1_shuffle_2 : decode cX1_shuffle 2 = .ok (.ldc2_w 13, 3) := dk_20 0 13 (dk_at dksX1_shuffle_0 2 rfl rfl)
theorem dX1_shuffle_5 : decode cX1_shuffle 5 = .ok (.land, 1) := dk_127 (dk_at dksX1_shuffle_0 5 rfl rfl)
theorem dX1_shuffle_6 : decode cX1_shuffle 6 = .ok (.bipush 32, 2) := dk_16 32 (dk_at dksX1_shuffle_0 6 rfl rfl)
theorem dX1_shuffle_8 : decode cX1_shuffle 8 = .ok (.invokestatic 24, 3) := dk_184 0 24 (dk_at dksX1_shuffle_0 8 rfl rfl)
theorem dX1_shuffle_11 : decode cX1_shuffle 11 = .ok (.l2i, 1) := dk_136 (dk_at dksX1_shuffle_0 11 rfl rfl)
theorem dX1_shuffle_12 : decode cX1_shuffle 12 = .ok (.ireturn, 1) := dk_172 (dk_at dksX1_shuffle_0 12 rfl rfl)
abbrev cX1_weave : ByteArray := prog_3_method_9_code
def yX1_weave : MethodName := ⟨RX1, "weave", "(JI)J"⟩
def dkwX1_weave_0 : List UInt8 := [30, 3, 28, 5, 108, 184, 0, 15, 30, 28, 5, 108, 28, 5, 108, 184, 0, 15, 4, 121, 129, 173]
abbrev dktX1_weave_0 : List UInt8 := dkwX1_weave_0 ++ []
theorem dksX1_weave_0 : cX1_weave.data.toList.drop 0 = dktX1_weave_0 := by decide +kernel
theorem dX1_weave_0 : decode cX1_weave 0 = .ok (.lload_n 0, 1) := dk_30 (dk_at dksX1_weave_0 0 rfl rfl)
theorem dX1_weave_1 : decode cX1_weave 1 = .ok (.iconst 0, 1) := dk_3 (dk_at dksX1_weave_0 1 rfl rfl)
theorem dX1_weave_2 : decode cX1_weave 2 = .ok (.iload_n 2, 1) := dk_28 (dk_at dksX1_weave_0 2 rfl rfl)
theorem dX1_weave_3 : decode cX1_weave 3 = .ok (.iconst 2, 1) := dk_5 (dk_at dksX1_weave_0 3 rfl rfl)
theorem dX1_weave_4 : decode cX1_weave 4 = .ok (.idiv, 1) := dk_108 (dk_at dksX1_weave_0 4 rfl rfl)
theorem dX1_weave_5 : decode cX1_weave 5 = .ok (.invokestatic 15, 3) := dk_184 0 15 (dk_at dksX1_weave_0 5 rfl rfl)
theorem dX1_weave_8 : decode cX1_weave 8 = .ok (.lload_n 0, 1) := dk_30 (dk_at dksX1_weave_0 8 rfl rfl)
theorem dX1_weave_9 : decode cX1_weave 9 = .ok (.iload_n 2, 1) := dk_28 (dk_at dksX1_weave_0 9 rfl rfl)
theorem dX1_weave_10 : decode cX1_weave 10 = .ok (.iconst 2, 1) := dk_5 (dk_at dksX1_weave_0 10 rfl rfl)
theorem dX1_weave_11 : decode cX1_weave 11 = .ok (.idiv, 1) := dk_108 (dk_at dksX1_weave_0 11 rfl rfl)
theorem dX1_weave_12 : decode cX1_weave 12 = .ok (.iload_n 2, 1) := dk_28 (dk_at dksX1_weave_0 12 rfl rfl)
theorem dX1_weave_13 : decode cX1_weave 13 = .ok (.iconst 2, 1) := dk_5 (dk_at dksX1_weave_0 13 rfl rfl)
theorem dX1_weave_14 : decode cX1_weave 14 = .ok (.idiv, 1) := dk_108 (dk_at dksX1_weave_0 14 rfl rfl)
theorem dX1_weave_15 : decode cX1_weave 15 = .ok (.invokestatic 15, 3) := dk_184 0 15 (dk_at dksX1_weave_0 15 rfl rfl)
theorem dX1_weave_18 : decode cX1_weave 18 = .ok (.iconst 1, 1) := dk_4 (dk_at dksX1_weave_0 18 rfl rfl)
theorem dX1_weave_19 : decode cX1_weave 19 = .ok (.lshl, 1) := dk_121 (dk_at dksX1_weave_0 19 rfl rfl)
theorem dX1_weave_20 : decode cX1_weave 20 = .ok (.lor, 1) := dk_129 (dk_at dksX1_weave_0 20 rfl rfl)
theorem dX1_weave_21 : decode cX1_weave 21 = .ok (.lreturn, 1) := dk_173 (dk_at dksX1_weave_0 21 rfl rfl)
abbrev cX1_unshuffle : ByteArray := prog_3_method_12_code
def yX1_unshuffle : MethodName := ⟨RX1, "unshuffle", "(I)I"⟩
def dkwX1_unshuffle_0 : List UInt8 := [27, 133, 20, 0, 13, 127, 16, 32, 184, 0, 28, 136, 172]
abbrev dktX1_unshuffle_0 : List UInt8 := dkwX1_unshuffle_0 ++ []
theorem dksX1_unshuffle_0 : cX1_unshuffle.data.toList.drop 0 = dktX1_unshuffle_0 := by decide +kernel
theorem dX1_unshuffle_0 : decode cX1_unshuffle 0 = .ok (.iload_n 1, 1) := dk_27 (dk_at dksX1_unshuffle_0 0 rfl rfl)
theorem dX1_unshuffle_1 : decode cX1_unshuffle 1 = .ok (.i2l, 1) := dk_133 (dk_at dksX1_unshuffle_0 1 rfl rfl)
theorem dX1_unshuffle_2 : decode cX1_unshuffle 2 = .ok (.ldc2_w 13, 3) := dk_20 0 13 (dk_at dksX1_unshuffle_0 2 rfl rfl)
theorem dX1_unshuffle_5 : decode cX1_unshuffle 5 = .ok (.land, 1) := dk_127 (dk_at dksX1_unshuffle_0 5 rfl rfl)
theorem dX1_unshuffle_6 : decode cX1_unshuffle 6 = .ok (.bipush 32, 2) := dk_16 32 (dk_at dksX1_unshuffle_0 6 rfl rfl)
theorem dX1_unshuffle_8 : decode cX1_unshuffle 8 = .ok (.invokestatic 28, 3) := dk_184 0 28 (dk_at dksX1_unshuffle_0 8 rfl rfl)
theorem dX1_unshuffle_11 : decode cX1_unshuffle 11 = .ok (.l2i, 1) := dk_136 (dk_at dksX1_unshuffle_0 11 rfl rfl)
theorem dX1_unshuffle_12 : decode cX1_unshuffle 12 = .ok (.ireturn, 1) := dk_172 (dk_at dksX1_unshuffle_0 12 rfl rfl)
abbrev cX1_part : ByteArray := prog_3_method_10_code
def yX1_part : MethodName := ⟨RX1, "part", "(JI)J"⟩
def dkwX1_part_2 : List UInt8 := [167, 255, 213, 33, 173]
abbrev dktX1_part_2 : List UInt8 := dkwX1_part_2 ++ []
def dkwX1_part_1 : List UInt8 := [121, 129, 30, 5, 21, 5, 104, 4, 96, 125, 10, 127, 21, 5, 28, 5, 108, 96, 121, 129, 66, 132, 5, 1]
abbrev dktX1_part_1 : List UInt8 := dkwX1_part_1 ++ dktX1_part_2
def dkwX1_part_0 : List UInt8 := [9, 66, 3, 54, 5, 21, 5, 28, 5, 108, 162, 0, 41, 33, 30, 5, 21, 5, 104, 125, 10, 127, 21, 5]
abbrev dktX1_part_0 : List UInt8 := dkwX1_part_0 ++ dktX1_part_1
theorem dksX1_part_0 : cX1_part.data.toList.drop 0 = dktX1_part_0 := by decide +kernel
theorem dksX1_part_1 : cX1_part.data.toList.drop 24 = dktX1_part_1 := dk_seg dksX1_part_0 24 rfl rfl
theorem dksX1_part_2 : cX1_part.data.toList.drop 48 = dktX1_part_2 := dk_seg dksX1_part_1 24 rfl rfl
theorem dX1_part_0 : decode cX1_part 0 = .ok (.lconst 0, 1) := dk_9 (dk_at dksX1_part_0 0 rfl rfl)
theorem dX1_part_1 : decode cX1_part 1 = .ok (.lstore_n 3, 1) := dk_66 (dk_at dksX1_part_0 1 rfl rfl)
theorem dX1_part_2 : decode cX1_part 2 = .ok (.iconst 0, 1) := dk_3 (dk_at dksX1_part_0 2 rfl rfl)
theorem dX1_part_3 : decode cX1_part 3 = .ok (.istore 5, 2) := dk_54 5 (dk_at dksX1_part_0 3 rfl rfl)
theorem dX1_part_5 : decode cX1_part 5 = .ok (.iload 5, 2) := dk_21 5 (dk_at dksX1_part_0 5 rfl rfl)
theorem dX1_part_7 : decode cX1_part 7 = .ok (.iload_n 2, 1) := dk_28 (dk_at dksX1_part_0 7 rfl rfl)
theorem dX1_part_8 : decode cX1_part 8 = .ok (.iconst 2, 1) := dk_5 (dk_at dksX1_part_0 8 rfl rfl)
theorem dX1_part_9 : decode cX1_part 9 = .ok (.idiv, 1) := dk_108 (dk_at dksX1_part_0 9 rfl rfl)
theorem dX1_part_10 : decode cX1_part 10 = .ok (.if_icmp .ge 41, 3) := dk_162 0 41 (dk_at dksX1_part_0 10 rfl rfl)
theorem dX1_part_13 : decode cX1_part 13 = .ok (.lload_n 3, 1) := dk_33 (dk_at dksX1_part_0 13 rfl rfl)
theorem dX1_part_14 : decode cX1_part 14 = .ok (.lload_n 0, 1) := dk_30 (dk_at dksX1_part_0 14 rfl rfl)
theorem dX1_part_15 : decode cX1_part 15 = .ok (.iconst 2, 1) := dk_5 (dk_at dksX1_part_0 15 rfl rfl)
theorem dX1_part_16 : decode cX1_part 16 = .ok (.iload 5, 2) := dk_21 5 (dk_at dksX1_part_0 16 rfl rfl)
theorem dX1_part_18 : decode cX1_part 18 = .ok (.imul, 1) := dk_104 (dk_at dksX1_part_0 18 rfl rfl)
theorem dX1_part_19 : decode cX1_part 19 = .ok (.lushr, 1) := dk_125 (dk_at dksX1_part_0 19 rfl rfl)
theorem dX1_part_20 : decode cX1_part 20 = .ok (.lconst 1, 1) := dk_10 (dk_at dksX1_part_0 20 rfl rfl)
theorem dX1_part_21 : decode cX1_part 21 = .ok (.land, 1) := dk_127 (dk_at dksX1_part_0 21 rfl rfl)
theorem dX1_part_22 : decode cX1_part 22 = .ok (.iload 5, 2) := dk_21 5 (dk_at dksX1_part_0 22 rfl rfl)
theorem dX1_part_24 : decode cX1_part 24 = .ok (.lshl, 1) := dk_121 (dk_at dksX1_part_1 0 rfl rfl)
theorem dX1_part_25 : decode cX1_part 25 = .ok (.lor, 1) := dk_129 (dk_at dksX1_part_1 1 rfl rfl)
theorem dX1_part_26 : decode cX1_part 26 = .ok (.lload_n 0, 1) := dk_30 (dk_at dksX1_part_1 2 rfl rfl)
theorem dX1_part_27 : decode cX1_part 27 = .ok (.iconst 2, 1) := dk_5 (dk_at dksX1_part_1 3 rfl rfl)
theorem dX1_part_28 : decode cX1_part 28 = .ok (.iload 5, 2) := dk_21 5 (dk_at dksX1_part_1 4 rfl rfl)
theorem dX1_part_30 : decode cX1_part 30 = .ok (.imul, 1) := dk_104 (dk_at dksX1_part_1 6 rfl rfl)
theorem dX1_part_31 : decode cX1_part 31 = .ok (.iconst 1, 1) := dk_4 (dk_at dksX1_part_1 7 rfl rfl)
theorem dX1_part_32 : decode cX1_part 32 = .ok (.iadd, 1) := dk_96 (dk_at dksX1_part_1 8 rfl rfl)
theorem dX1_part_33 : decode cX1_part 33 = .ok (.lushr, 1) := dk_125 (dk_at dksX1_part_1 9 rfl rfl)
theorem dX1_part_34 : decode cX1_part 34 = .ok (.lconst 1, 1) := dk_10 (dk_at dksX1_part_1 10 rfl rfl)
theorem dX1_part_35 : decode cX1_part 35 = .ok (.land, 1) := dk_127 (dk_at dksX1_part_1 11 rfl rfl)
theorem dX1_part_36 : decode cX1_part 36 = .ok (.iload 5, 2) := dk_21 5 (dk_at dksX1_part_1 12 rfl rfl)
theorem dX1_part_38 : decode cX1_part 38 = .ok (.iload_n 2, 1) := dk_28 (dk_at dksX1_part_1 14 rfl rfl)
theorem dX1_part_39 : decode cX1_part 39 = .ok (.iconst 2, 1) := dk_5 (dk_at dksX1_part_1 15 rfl rfl)
theorem dX1_part_40 : decode cX1_part 40 = .ok (.idiv, 1) := dk_108 (dk_at dksX1_part_1 16 rfl rfl)
theorem dX1_part_41 : decode cX1_part 41 = .ok (.iadd, 1) := dk_96 (dk_at dksX1_part_1 17 rfl rfl)
theorem dX1_part_42 : decode cX1_part 42 = .ok (.lshl, 1) := dk_121 (dk_at dksX1_part_1 18 rfl rfl)
theorem dX1_part_43 : decode cX1_part 43 = .ok (.lor, 1) := dk_129 (dk_at dksX1_part_1 19 rfl rfl)
theorem dX1_part_44 : decode cX1_part 44 = .ok (.lstore_n 3, 1) := dk_66 (dk_at dksX1_part_1 20 rfl rfl)
theorem dX1_part_45 : decode cX1_part 45 = .ok (.iinc 5 1, 3) := dk_132 5 1 (dk_at dksX1_part_1 21 rfl rfl)
theorem dX1_part_48 : decode cX1_part 48 = .ok (.goto (-43), 3) := dk_167 255 213 (dk_at dksX1_part_2 0 rfl rfl)
theorem dX1_part_51 : decode cX1_part 51 = .ok (.lload_n 3, 1) := dk_33 (dk_at dksX1_part_2 3 rfl rfl)
theorem dX1_part_52 : decode cX1_part 52 = .ok (.lreturn, 1) := dk_173 (dk_at dksX1_part_2 4 rfl rfl)
abbrev cX1_longShuffle : ByteArray := prog_3_method_13_code
def yX1_longShuffle : MethodName := ⟨RX1, "longShuffle", "(II)J"⟩
def dkwX1_longShuffle_0 : List UInt8 := [27, 28, 184, 0, 20, 16, 64, 184, 0, 24, 173]
abbrev dktX1_longShuffle_0 : List UInt8 := dkwX1_longShuffle_0 ++ []
theorem dksX1_longShuffle_0 : cX1_longShuffle.data.toList.drop 0 = dktX1_longShuffle_0 := by decide +kernel
theorem dX1_longShuffle_0 : decode cX1_longShuffle 0 = .ok (.iload_n 1, 1) := dk_27 (dk_at dksX1_longShuffle_0 0 rfl rfl)
theorem dX1_longShuffle_1 : decode cX1_longShuffle 1 = .ok (.iload_n 2, 1) := dk_28 (dk_at dksX1_longShuffle_0 1 rfl rfl)
theorem dX1_longShuffle_2 : decode cX1_longShuffle 2 = .ok (.invokestatic 20, 3) := dk_184 0 20 (dk_at dksX1_longShuffle_0 2 rfl rfl)
theorem dX1_longShuffle_5 : decode cX1_longShuffle 5 = .ok (.bipush 64, 2) := dk_16 64 (dk_at dksX1_longShuffle_0 5 rfl rfl)
theorem dX1_longShuffle_7 : decode cX1_longShuffle 7 = .ok (.invokestatic 24, 3) := dk_184 0 24 (dk_at dksX1_longShuffle_0 7 rfl rfl)
theorem dX1_longShuffle_10 : decode cX1_longShuffle 10 = .ok (.lreturn, 1) := dk_173 (dk_at dksX1_longShuffle_0 10 rfl rfl)
abbrev cX1_longUnshuffle : ByteArray := prog_3_method_14_code
def yX1_longUnshuffle : MethodName := ⟨RX1, "longUnshuffle", "(II)J"⟩
def dkwX1_longUnshuffle_0 : List UInt8 := [27, 28, 184, 0, 20, 16, 64, 184, 0, 28, 173]
abbrev dktX1_longUnshuffle_0 : List UInt8 := dkwX1_longUnshuffle_0 ++ []
theorem dksX1_longUnshuffle_0 : cX1_longUnshuffle.data.toList.drop 0 = dktX1_longUnshuffle_0 := by decide +kernel
theorem dX1_longUnshuffle_0 : decode cX1_longUnshuffle 0 = .ok (.iload_n 1, 1) := dk_27 (dk_at dksX1_longUnshuffle_0 0 rfl rfl)
theorem dX1_longUnshuffle_1 : decode cX1_longUnshuffle 1 = .ok (.iload_n 2, 1) := dk_28 (dk_at dksX1_longUnshuffle_0 1 rfl rfl)
theorem dX1_longUnshuffle_2 : decode cX1_longUnshuffle 2 = .ok (.invokestatic 20, 3) := dk_184 0 20 (dk_at dksX1_longUnshuffle_0 2 rfl rfl)
theorem dX1_longUnshuffle_5 : decode cX1_longUnshuffle 5 = .ok (.bipush 64, 2) := dk_16 64 (dk_at dksX1_longUnshuffle_0 5 rfl rfl)
theorem dX1_longUnshuffle_7 : decode cX1_longUnshuffle 7 = .ok (.invokestatic 28, 3) := dk_184 0 28 (dk_at dksX1_longUnshuffle_0 7 rfl rfl)
theorem dX1_longUnshuffle_10 : decode cX1_longUnshuffle 10 = .ok (.lreturn, 1) := dk_173 (dk_at dksX1_longUnshuffle_0 10 rfl rfl)
abbrev cX1_there : ByteArray := prog_3_method_15_code
def yX1_there : MethodName := ⟨RX1, "there", "(I)I"⟩
theorem dX1_there_0 : decode cX1_there 0 = .ok (.iload_n 1, 1) := by decide +kernel
theorem dX1_there_1 : decode cX1_there 1 = .ok (.ireturn, 1) := by decide +kernel
abbrev cX1_longThere : ByteArray := prog_3_method_16_code
def yX1_longThere : MethodName := ⟨RX1, "longThere", "(II)J"⟩
def dkwX1_longThere_0 : List UInt8 := [27, 28, 184, 0, 20, 173]
abbrev dktX1_longThere_0 : List UInt8 := dkwX1_longThere_0 ++ []
theorem dksX1_longThere_0 : cX1_longThere.data.toList.drop 0 = dktX1_longThere_0 := by decide +kernel
theorem dX1_longThere_0 : decode cX1_longThere 0 = .ok (.iload_n 1, 1) := dk_27 (dk_at dksX1_longThere_0 0 rfl rfl)
theorem dX1_longThere_1 : decode cX1_longThere 1 = .ok (.iload_n 2, 1) := dk_28 (dk_at dksX1_longThere_0 1 rfl rfl)
theorem dX1_longThere_2 : decode cX1_longThere 2 = .ok (.invokestatic 20, 3) := dk_184 0 20 (dk_at dksX1_longThere_0 2 rfl rfl)
theorem dX1_longThere_5 : decode cX1_longThere 5 = .ok (.lreturn, 1) := dk_173 (dk_at dksX1_longThere_0 5 rfl rfl)
abbrev cX1_thrice : ByteArray := prog_3_method_17_code
def yX1_thrice : MethodName := ⟨RX1, "thrice", "(II)J"⟩
def dkwX1_thrice_0 : List UInt8 := [27, 28, 184, 0, 20, 173]
abbrev dktX1_thrice_0 : List UInt8 := dkwX1_thrice_0 ++ []
theorem dksX1_thrice_0 : cX1_thrice.data.toList.drop 0 = dktX1_thrice_0 := by decide +kernel
theorem dX1_thrice_0 : decode cX1_thrice 0 = .ok (.iload_n 1, 1) := dk_27 (dk_at dksX1_thrice_0 0 rfl rfl)
theorem dX1_thrice_1 : decode cX1_thrice 1 = .ok (.iload_n 2, 1) := dk_28 (dk_at dksX1_thrice_0 1 rfl rfl)
theorem dX1_thrice_2 : decode cX1_thrice 2 = .ok (.invokestatic 20, 3) := dk_184 0 20 (dk_at dksX1_thrice_0 2 rfl rfl)
theorem dX1_thrice_5 : decode cX1_thrice 5 = .ok (.lreturn, 1) := dk_173 (dk_at dksX1_thrice_0 5 rfl rfl)
theorem q2 : (Jvm.Cond.initialized "BitWeaveModel") ∈ lw_all := lw_g (lw_at lw_m0 2 rfl) rfl
theorem q145 : (Jvm.Cond.instantiable "BitWeaveModel" (1 : Nat)) ∈ lw_all := lw_g (lw_at lw_m0 145 rfl) rfl
theorem q147 : (Jvm.Cond.instanceMethod ({ cls := "BitWeaveModel", name := "<init>", desc := "()V" } : Jvm.MethodName)) ∈ lw_all := lw_g (lw_at lw_m0 147 rfl) rfl
theorem q148 : (Jvm.Cond.code ({ cls := "BitWeaveModel", name := "<init>", desc := "()V" } : Jvm.MethodName) prog_3_method_1_code (1 : Nat) (Option.none : Option Jvm.ClassFile.FieldType)) ∈ lw_all := lw_g (lw_at lw_m0 148 rfl) rfl
theorem q149 : (Jvm.Cond.methodLink "BitWeaveModel" (1 : Nat) ({ cls := "java/lang/Object", name := "<init>", desc := "()V" } : Jvm.MethodName)) ∈ lw_all := lw_g (lw_at lw_m0 149 rfl) rfl
theorem q150 : (Jvm.Cond.fieldLink "BitWeaveModel" (7 : Nat) "BitWeaveModel" "pair" "[J") ∈ lw_all := lw_g (lw_at lw_m0 150 rfl) rfl
theorem q151 : (Jvm.Cond.laysFinal "BitWeaveModel" "BitWeaveModel" "pair" "[J") ∈ lw_all := lw_g (lw_at lw_m0 151 rfl) rfl
theorem q152 : (Jvm.Cond.soleField "BitWeaveModel" "pair") ∈ lw_all := lw_g (lw_at lw_m0 152 rfl) rfl
theorem q153 : (Jvm.Cond.superclass "BitWeaveModel" "java/lang/Object") ∈ lw_all := lw_g (lw_at lw_m0 153 rfl) rfl
theorem q155 : (Jvm.Cond.instanceMethod ({ cls := "BitWeaveModel", name := "byteOut", desc := "(I)I" } : Jvm.MethodName)) ∈ lw_all := lw_g (lw_at lw_m0 155 rfl) rfl
theorem q156 : (Jvm.Cond.selects "BitWeaveModel" ({ cls := "BitWeaveModel", name := "byteOut", desc := "(I)I" } : Jvm.MethodName) ({ cls := "BitWeaveModel", name := "byteOut", desc := "(I)I" } : Jvm.MethodName)) ∈ lw_all := lw_g (lw_at lw_m0 156 rfl) rfl
theorem q157 : (Jvm.Cond.code ({ cls := "BitWeaveModel", name := "byteOut", desc := "(I)I" } : Jvm.MethodName) prog_3_method_4_code (2 : Nat) (Option.some Jvm.ClassFile.FieldType.int)) ∈ lw_all := lw_g (lw_at lw_m0 157 rfl) rfl
theorem q158 : (Jvm.Cond.methodLink "BitWeaveModel" (15 : Nat) ({ cls := "BitWeaveModel", name := "spread", desc := "(JII)J" } : Jvm.MethodName)) ∈ lw_all := lw_g (lw_at lw_m0 158 rfl) rfl
theorem q159 : (Jvm.Cond.static ({ cls := "BitWeaveModel", name := "spread", desc := "(JII)J" } : Jvm.MethodName)) ∈ lw_all := lw_g (lw_at lw_m0 159 rfl) rfl
theorem q160 : (Jvm.Cond.code ({ cls := "BitWeaveModel", name := "spread", desc := "(JII)J" } : Jvm.MethodName) prog_3_method_3_code (7 : Nat) (Option.some Jvm.ClassFile.FieldType.long)) ∈ lw_all := lw_g (lw_at lw_m0 160 rfl) rfl
theorem q162 : (Jvm.Cond.instanceMethod ({ cls := "BitWeaveModel", name := "halfOut", desc := "(I)I" } : Jvm.MethodName)) ∈ lw_all := lw_g (lw_at lw_m0 162 rfl) rfl
theorem q163 : (Jvm.Cond.selects "BitWeaveModel" ({ cls := "BitWeaveModel", name := "halfOut", desc := "(I)I" } : Jvm.MethodName) ({ cls := "BitWeaveModel", name := "halfOut", desc := "(I)I" } : Jvm.MethodName)) ∈ lw_all := lw_g (lw_at lw_m0 163 rfl) rfl
theorem q164 : (Jvm.Cond.code ({ cls := "BitWeaveModel", name := "halfOut", desc := "(I)I" } : Jvm.MethodName) prog_3_method_5_code (2 : Nat) (Option.some Jvm.ClassFile.FieldType.int)) ∈ lw_all := lw_g (lw_at lw_m0 164 rfl) rfl
theorem q165 : (Jvm.Cond.constant "BitWeaveModel" (19 : Nat) (65535 : Int32)) ∈ lw_all := lw_g (lw_at lw_m0 165 rfl) rfl
theorem q167 : (Jvm.Cond.instanceMethod ({ cls := "BitWeaveModel", name := "wordOut", desc := "(I)J" } : Jvm.MethodName)) ∈ lw_all := lw_g (lw_at lw_m0 167 rfl) rfl
theorem q168 : (Jvm.Cond.selects "BitWeaveModel" ({ cls := "BitWeaveModel", name := "wordOut", desc := "(I)J" } : Jvm.MethodName) ({ cls := "BitWeaveModel", name := "wordOut", desc := "(I)J" } : Jvm.MethodName)) ∈ lw_all := lw_g (lw_at lw_m0 168 rfl) rfl
theorem q169 : (Jvm.Cond.code ({ cls := "BitWeaveModel", name := "wordOut", desc := "(I)J" } : Jvm.MethodName) prog_3_method_6_code (2 : Nat) (Option.some Jvm.ClassFile.FieldType.long)) ∈ lw_all := lw_g (lw_at lw_m0 169 rfl) rfl
theorem q170 : (Jvm.Cond.constantLong "BitWeaveModel" (13 : Nat) (4294967295 : Int64)) ∈ lw_all := lw_g (lw_at lw_m0 170 rfl) rfl
theorem q172 : (Jvm.Cond.instanceMethod ({ cls := "BitWeaveModel", name := "longOut", desc := "(II)V" } : Jvm.MethodName)) ∈ lw_all := lw_g (lw_at lw_m0 172 rfl) rfl
theorem q173 : (Jvm.Cond.selects "BitWeaveModel" ({ cls := "BitWeaveModel", name := "longOut", desc := "(II)V" } : Jvm.MethodName) ({ cls := "BitWeaveModel", name := "longOut", desc := "(II)V" } : Jvm.MethodName)) ∈ lw_all := lw_g (lw_at lw_m0 173 rfl) rfl
theorem q174 : (Jvm.Cond.code ({ cls := "BitWeaveModel", name := "longOut", desc := "(II)V" } : Jvm.MethodName) prog_3_method_7_code (5 : Nat) (Option.none : Option Jvm.ClassFile.FieldType)) ∈ lw_all := lw_g (lw_at lw_m0 174 rfl) rfl
theorem q175 : (Jvm.Cond.methodLink "BitWeaveModel" (20 : Nat) ({ cls := "BitWeaveModel", name := "wide", desc := "(II)J" } : Jvm.MethodName)) ∈ lw_all := lw_g (lw_at lw_m0 175 rfl) rfl
theorem q176 : (Jvm.Cond.static ({ cls := "BitWeaveModel", name := "wide", desc := "(II)J" } : Jvm.MethodName)) ∈ lw_all := lw_g (lw_at lw_m0 176 rfl) rfl
theorem q177 : (Jvm.Cond.code ({ cls := "BitWeaveModel", name := "wide", desc := "(II)J" } : Jvm.MethodName) prog_3_method_2_code (2 : Nat) (Option.some Jvm.ClassFile.FieldType.long)) ∈ lw_all := lw_g (lw_at lw_m0 177 rfl) rfl
theorem q179 : (Jvm.Cond.instanceMethod ({ cls := "BitWeaveModel", name := "pair", desc := "(I)J" } : Jvm.MethodName)) ∈ lw_all := lw_g (lw_at lw_m0 179 rfl) rfl
theorem q180 : (Jvm.Cond.selects "BitWeaveModel" ({ cls := "BitWeaveModel", name := "pair", desc := "(I)J" } : Jvm.MethodName) ({ cls := "BitWeaveModel", name := "pair", desc := "(I)J" } : Jvm.MethodName)) ∈ lw_all := lw_g (lw_at lw_m0 180 rfl) rfl
theorem q181 : (Jvm.Cond.code ({ cls := "BitWeaveModel", name := "pair", desc := "(I)J" } : Jvm.MethodName) prog_3_method_8_code (2 : Nat) (Option.some Jvm.ClassFile.FieldType.long)) ∈ lw_all := lw_g (lw_at lw_m0 181 rfl) rfl
theorem q183 : (Jvm.Cond.instanceMethod ({ cls := "BitWeaveModel", name := "shuffle", desc := "(I)I" } : Jvm.MethodName)) ∈ lw_all := lw_g (lw_at lw_m0 183 rfl) rfl
theorem q184 : (Jvm.Cond.selects "BitWeaveModel" ({ cls := "BitWeaveModel", name := "shuffle", desc := "(I)I" } : Jvm.MethodName) ({ cls := "BitWeaveModel", name := "shuffle", desc := "(I)I" } : Jvm.MethodName)) ∈ lw_all := lw_g (lw_at lw_m0 184 rfl) rfl
theorem q185 : (Jvm.Cond.code ({ cls := "BitWeaveModel", name := "shuffle", desc := "(I)I" } : Jvm.MethodName) prog_3_method_11_code (2 : Nat) (Option.some Jvm.ClassFile.FieldType.int)) ∈ lw_all := lw_g (lw_at lw_m0 185 rfl) rfl
theorem q186 : (Jvm.Cond.methodLink "BitWeaveModel" (24 : Nat) ({ cls := "BitWeaveModel", name := "weave", desc := "(JI)J" } : Jvm.MethodName)) ∈ lw_all := lw_g (lw_at lw_m0 186 rfl) rfl
theorem q187 : (Jvm.Cond.static ({ cls := "BitWeaveModel", name := "weave", desc := "(JI)J" } : Jvm.MethodName)) ∈ lw_all := lw_g (lw_at lw_m0 187 rfl) rfl
theorem q188 : (Jvm.Cond.code ({ cls := "BitWeaveModel", name := "weave", desc := "(JI)J" } : Jvm.MethodName) prog_3_method_9_code (3 : Nat) (Option.some Jvm.ClassFile.FieldType.long)) ∈ lw_all := lw_g (lw_at lw_m0 188 rfl) rfl
theorem q190 : (Jvm.Cond.instanceMethod ({ cls := "BitWeaveModel", name := "unshuffle", desc := "(I)I" } : Jvm.MethodName)) ∈ lw_all := lw_g (lw_at lw_m0 190 rfl) rfl
theorem q191 : (Jvm.Cond.selects "BitWeaveModel" ({ cls := "BitWeaveModel", name := "unshuffle", desc := "(I)I" } : Jvm.MethodName) ({ cls := "BitWeaveModel", name := "unshuffle", desc := "(I)I" } : Jvm.MethodName)) ∈ lw_all := lw_g (lw_at lw_m0 191 rfl) rfl
theorem q192 : (Jvm.Cond.code ({ cls := "BitWeaveModel", name := "unshuffle", desc := "(I)I" } : Jvm.MethodName) prog_3_method_12_code (2 : Nat) (Option.some Jvm.ClassFile.FieldType.int)) ∈ lw_all := lw_g (lw_at lw_m0 192 rfl) rfl
theorem q193 : (Jvm.Cond.methodLink "BitWeaveModel" (28 : Nat) ({ cls := "BitWeaveModel", name := "part", desc := "(JI)J" } : Jvm.MethodName)) ∈ lw_all := lw_g (lw_at lw_m0 193 rfl) rfl
theorem q194 : (Jvm.Cond.static ({ cls := "BitWeaveModel", name := "part", desc := "(JI)J" } : Jvm.MethodName)) ∈ lw_all := lw_g (lw_at lw_m0 194 rfl) rfl
theorem q195 : (Jvm.Cond.code ({ cls := "BitWeaveModel", name := "part", desc := "(JI)J" } : Jvm.MethodName) prog_3_method_10_code (6 : Nat) (Option.some Jvm.ClassFile.FieldType.long)) ∈ lw_all := lw_g (lw_at lw_m0 195 rfl) rfl
theorem q197 : (Jvm.Cond.instanceMethod ({ cls := "BitWeaveModel", name := "longShuffle", desc := "(II)J" } : Jvm.MethodName)) ∈ lw_all := lw_g (lw_at lw_m0 197 rfl) rfl
theorem q198 : (Jvm.Cond.selects "BitWeaveModel" ({ cls := "BitWeaveModel", name := "longShuffle", desc := "(II)J" } : Jvm.MethodName) ({ cls := "BitWeaveModel", name := "longShuffle", desc := "(II)J" } : Jvm.MethodName)) ∈ lw_all := lw_g (lw_at lw_m0 198 rfl) rfl
theorem q199 : (Jvm.Cond.code ({ cls := "BitWeaveModel", name := "longShuffle", desc := "(II)J" } : Jvm.MethodName) prog_3_method_13_code (3 : Nat) (Option.some Jvm.ClassFile.FieldType.long)) ∈ lw_all := lw_g (lw_at lw_m0 199 rfl) rfl
theorem q201 : (Jvm.Cond.instanceMethod ({ cls := "BitWeaveModel", name := "longUnshuffle", desc := "(II)J" } : Jvm.MethodName)) ∈ lw_all := lw_g (lw_at lw_m0 201 rfl) rfl
theorem q202 : (Jvm.Cond.selects "BitWeaveModel" ({ cls := "BitWeaveModel", name := "longUnshuffle", desc := "(II)J" } : Jvm.MethodName) ({ cls := "BitWeaveModel", name := "longUnshuffle", desc := "(II)J" } : Jvm.MethodName)) ∈ lw_all := lw_g (lw_at lw_m0 202 rfl) rfl
theorem q203 : (Jvm.Cond.code ({ cls := "BitWeaveModel", name := "longUnshuffle", desc := "(II)J" } : Jvm.MethodName) prog_3_method_14_code (3 : Nat) (Option.some Jvm.ClassFile.FieldType.long)) ∈ lw_all := lw_g (lw_at lw_m0 203 rfl) rfl
theorem q205 : (Jvm.Cond.instanceMethod ({ cls := "BitWeaveModel", name := "there", desc := "(I)I" } : Jvm.MethodName)) ∈ lw_all := lw_g (lw_at lw_m0 205 rfl) rfl
theorem q206 : (Jvm.Cond.selects "BitWeaveModel" ({ cls := "BitWeaveModel", name := "there", desc := "(I)I" } : Jvm.MethodName) ({ cls := "BitWeaveModel", name := "there", desc := "(I)I" } : Jvm.MethodName)) ∈ lw_all := lw_g (lw_at lw_m0 206 rfl) rfl
theorem q207 : (Jvm.Cond.code ({ cls := "BitWeaveModel", name := "there", desc := "(I)I" } : Jvm.MethodName) prog_3_method_15_code (2 : Nat) (Option.some Jvm.ClassFile.FieldType.int)) ∈ lw_all := lw_g (lw_at lw_m0 207 rfl) rfl
theorem q209 : (Jvm.Cond.instanceMethod ({ cls := "BitWeaveModel", name := "longThere", desc := "(II)J" } : Jvm.MethodName)) ∈ lw_all := lw_g (lw_at lw_m0 209 rfl) rfl
theorem q210 : (Jvm.Cond.selects "BitWeaveModel" ({ cls := "BitWeaveModel", name := "longThere", desc := "(II)J" } : Jvm.MethodName) ({ cls := "BitWeaveModel", name := "longThere", desc := "(II)J" } : Jvm.MethodName)) ∈ lw_all := lw_g (lw_at lw_m0 210 rfl) rfl
theorem q211 : (Jvm.Cond.code ({ cls := "BitWeaveModel", name := "longThere", desc := "(II)J" } : Jvm.MethodName) prog_3_method_16_code (3 : Nat) (Option.some Jvm.ClassFile.FieldType.long)) ∈ lw_all := lw_g (lw_at lw_m0 211 rfl) rfl
theorem q213 : (Jvm.Cond.instanceMethod ({ cls := "BitWeaveModel", name := "thrice", desc := "(II)J" } : Jvm.MethodName)) ∈ lw_all := lw_g (lw_at lw_m0 213 rfl) rfl
theorem q214 : (Jvm.Cond.selects "BitWeaveModel" ({ cls := "BitWeaveModel", name := "thrice", desc := "(II)J" } : Jvm.MethodName) ({ cls := "BitWeaveModel", name := "thrice", desc := "(II)J" } : Jvm.MethodName)) ∈ lw_all := lw_g (lw_at lw_m0 214 rfl) rfl
theorem q215 : (Jvm.Cond.code ({ cls := "BitWeaveModel", name := "thrice", desc := "(II)J" } : Jvm.MethodName) prog_3_method_17_code (3 : Nat) (Option.some Jvm.ClassFile.FieldType.long)) ∈ lw_all := lw_g (lw_at lw_m0 215 rfl) rfl
theorem in_X1 : ∀ w ∈ wsX10, w ∈ lw_all := lw_in wsX10 [151] (by decide +kernel) (by decide +kernel)
/-! java/lang/Object -/
set_option maxRecDepth 100000
def RJ0 : String := "java/lang/Object"
abbrev cJ0_init : ByteArray := object_method_1_code
def yJ0_init : MethodName := ⟨RJ0, "<init>", "()V"⟩
theorem dJ0_init_0 : decode cJ0_init 0 = .ok (.return_, 1) := by decide +kernel
theorem q11 : (Jvm.Cond.instanceMethod ({ cls := "java/lang/Object", name := "<init>", desc := "()V" } : Jvm.MethodName)) ∈ lw_all := lw_g (lw_at lw_m0 11 rfl) rfl
theorem q12 : (Jvm.Cond.code ({ cls := "java/lang/Object", name := "<init>", desc := "()V" } : Jvm.MethodName) object_method_1_code (1 : Nat) (Option.none : Option Jvm.ClassFile.FieldType)) ∈ lw_all := lw_g (lw_at lw_m0 12 rfl) rfl
theorem q17 : (Jvm.Cond.arrayClass Jvm.ClassFile.FieldType.long) ∈ lw_all := lw_g (lw_at lw_m0 17 rfl) rfl
set_option maxRecDepth 100000
theorem q0 : (Jvm.Cond.initialized "BitWeaveLaw") ∈ lw_all := lw_g (lw_at lw_m0 0 rfl) rfl
set_option maxRecDepth 100000
theorem q5 : (Jvm.Cond.classLink "BitWeaveLaw" (7 : Nat) "BitWeave") ∈ lw_all := lw_g (lw_at lw_m0 5 rfl) rfl
theorem q7 : (Jvm.Cond.methodLink "BitWeaveLaw" (9 : Nat) ({ cls := "BitWeave", name := "<init>", desc := "()V" } : Jvm.MethodName)) ∈ lw_all := lw_g (lw_at lw_m0 7 rfl) rfl
theorem q18 : (Jvm.Cond.methodLink "BitWeaveLaw" (13 : Nat) ({ cls := "BitWeave", name := "byteOut", desc := "(I)I" } : Jvm.MethodName)) ∈ lw_all := lw_g (lw_at lw_m0 18 rfl) rfl
theorem q25 : (Jvm.Cond.methodLink "BitWeaveLaw" (18 : Nat) ({ cls := "BitWeave", name := "halfOut", desc := "(I)I" } : Jvm.MethodName)) ∈ lw_all := lw_g (lw_at lw_m0 25 rfl) rfl
theorem q37 : (Jvm.Cond.methodLink "BitWeaveLaw" (22 : Nat) ({ cls := "BitWeave", name := "wordOut", desc := "(I)J" } : Jvm.MethodName)) ∈ lw_all := lw_g (lw_at lw_m0 37 rfl) rfl
theorem q52 : (Jvm.Cond.methodLink "BitWeaveLaw" (27 : Nat) ({ cls := "BitWeave", name := "longOut", desc := "(II)V" } : Jvm.MethodName)) ∈ lw_all := lw_g (lw_at lw_m0 52 rfl) rfl
theorem q72 : (Jvm.Cond.methodLink "BitWeaveLaw" (32 : Nat) ({ cls := "BitWeave", name := "pair", desc := "(I)J" } : Jvm.MethodName)) ∈ lw_all := lw_g (lw_at lw_m0 72 rfl) rfl
theorem q76 : (Jvm.Cond.methodLink "BitWeaveLaw" (36 : Nat) ({ cls := "BitWeave", name := "shuffle", desc := "(I)I" } : Jvm.MethodName)) ∈ lw_all := lw_g (lw_at lw_m0 76 rfl) rfl
theorem q83 : (Jvm.Cond.methodLink "BitWeaveLaw" (40 : Nat) ({ cls := "BitWeave", name := "unshuffle", desc := "(I)I" } : Jvm.MethodName)) ∈ lw_all := lw_g (lw_at lw_m0 83 rfl) rfl
theorem q90 : (Jvm.Cond.methodLink "BitWeaveLaw" (44 : Nat) ({ cls := "BitWeave", name := "longShuffle", desc := "(II)J" } : Jvm.MethodName)) ∈ lw_all := lw_g (lw_at lw_m0 90 rfl) rfl
theorem q97 : (Jvm.Cond.methodLink "BitWeaveLaw" (49 : Nat) ({ cls := "BitWeave", name := "longUnshuffle", desc := "(II)J" } : Jvm.MethodName)) ∈ lw_all := lw_g (lw_at lw_m0 97 rfl) rfl
theorem q104 : (Jvm.Cond.methodLink "BitWeaveLaw" (53 : Nat) ({ cls := "BitWeave", name := "there", desc := "(I)I" } : Jvm.MethodName)) ∈ lw_all := lw_g (lw_at lw_m0 104 rfl) rfl
theorem q116 : (Jvm.Cond.methodLink "BitWeaveLaw" (57 : Nat) ({ cls := "BitWeave", name := "longThere", desc := "(II)J" } : Jvm.MethodName)) ∈ lw_all := lw_g (lw_at lw_m0 116 rfl) rfl
theorem q130 : (Jvm.Cond.methodLink "BitWeaveLaw" (61 : Nat) ({ cls := "BitWeave", name := "thrice", desc := "(II)J" } : Jvm.MethodName)) ∈ lw_all := lw_g (lw_at lw_m0 130 rfl) rfl
theorem q144 : (Jvm.Cond.classLink "BitWeaveLaw" (10 : Nat) "BitWeaveModel") ∈ lw_all := lw_g (lw_at lw_m0 144 rfl) rfl
theorem q146 : (Jvm.Cond.methodLink "BitWeaveLaw" (12 : Nat) ({ cls := "BitWeaveModel", name := "<init>", desc := "()V" } : Jvm.MethodName)) ∈ lw_all := lw_g (lw_at lw_m0 146 rfl) rfl
theorem q154 : (Jvm.Cond.methodLink "BitWeaveLaw" (17 : Nat) ({ cls := "BitWeaveModel", name := "byteOut", desc := "(I)I" } : Jvm.MethodName)) ∈ lw_all := lw_g (lw_at lw_m0 154 rfl) rfl
theorem q161 : (Jvm.Cond.methodLink "BitWeaveLaw" (21 : Nat) ({ cls := "BitWeaveModel", name := "halfOut", desc := "(I)I" } : Jvm.MethodName)) ∈ lw_all := lw_g (lw_at lw_m0 161 rfl) rfl
theorem q166 : (Jvm.Cond.methodLink "BitWeaveLaw" (26 : Nat) ({ cls := "BitWeaveModel", name := "wordOut", desc := "(I)J" } : Jvm.MethodName)) ∈ lw_all := lw_g (lw_at lw_m0 166 rfl) rfl
theorem q171 : (Jvm.Cond.methodLink "BitWeaveLaw" (31 : Nat) ({ cls := "BitWeaveModel", name := "longOut", desc := "(II)V" } : Jvm.MethodName)) ∈ lw_all := lw_g (lw_at lw_m0 171 rfl) rfl
theorem q178 : (Jvm.Cond.methodLink "BitWeaveLaw" (35 : Nat) ({ cls := "BitWeaveModel", name := "pair", desc := "(I)J" } : Jvm.MethodName)) ∈ lw_all := lw_g (lw_at lw_m0 178 rfl) rfl
theorem q182 : (Jvm.Cond.methodLink "BitWeaveLaw" (39 : Nat) ({ cls := "BitWeaveModel", name := "shuffle", desc := "(I)I" } : Jvm.MethodName)) ∈ lw_all := lw_g (lw_at lw_m0 182 rfl) rfl
theorem q189 : (Jvm.Cond.methodLink "BitWeaveLaw" (43 : Nat) ({ cls := "BitWeaveModel", name := "unshuffle", desc := "(I)I" } : Jvm.MethodName)) ∈ lw_all := lw_g (lw_at lw_m0 189 rfl) rfl
theorem q196 : (Jvm.Cond.methodLink "BitWeaveLaw" (48 : Nat) ({ cls := "BitWeaveModel", name := "longShuffle", desc := "(II)J" } : Jvm.MethodName)) ∈ lw_all := lw_g (lw_at lw_m0 196 rfl) rfl
theorem q200 : (Jvm.Cond.methodLink "BitWeaveLaw" (52 : Nat) ({ cls := "BitWeaveModel", name := "longUnshuffle", desc := "(II)J" } : Jvm.MethodName)) ∈ lw_all := lw_g (lw_at lw_m0 200 rfl) rfl
theorem q204 : (Jvm.Cond.methodLink "BitWeaveLaw" (56 : Nat) ({ cls := "BitWeaveModel", name := "there", desc := "(I)I" } : Jvm.MethodName)) ∈ lw_all := lw_g (lw_at lw_m0 204 rfl) rfl
theorem q208 : (Jvm.Cond.methodLink "BitWeaveLaw" (60 : Nat) ({ cls := "BitWeaveModel", name := "longThere", desc := "(II)J" } : Jvm.MethodName)) ∈ lw_all := lw_g (lw_at lw_m0 208 rfl) rfl
theorem q212 : (Jvm.Cond.methodLink "BitWeaveLaw" (64 : Nat) ({ cls := "BitWeaveModel", name := "thrice", desc := "(II)J" } : Jvm.MethodName)) ∈ lw_all := lw_g (lw_at lw_m0 212 rfl) rfl
end
section
/-! the law's own entry -/
set_option maxRecDepth 100000
abbrev cL_law : ByteArray := code
def dkwL_law_17 : List UInt8 := [167, 254, 101, 4, 172]
abbrev dktL_law_17 : List UInt8 := dkwL_law_17 ++ []
def dkwL_law_16 : List UInt8 := [44, 42, 29, 4, 96, 46, 42, 29, 5, 96, 46, 182, 0, 64, 148, 153, 0, 5, 3, 172, 132, 3, 6]
abbrev dktL_law_16 : List UInt8 := dkwL_law_16 ++ dktL_law_17
def dkwL_law_15 : List UInt8 := [46, 182, 0, 60, 148, 153, 0, 39, 3, 172, 43, 42, 29, 4, 96, 46, 42, 29, 5, 96, 46, 182, 0, 61]
abbrev dktL_law_15 : List UInt8 := dkwL_law_15 ++ dktL_law_16
def dkwL_law_14 : List UInt8 := [43, 42, 29, 4, 96, 46, 42, 29, 5, 96, 46, 182, 0, 57, 44, 42, 29, 4, 96, 46, 42, 29, 5, 96]
abbrev dktL_law_14 : List UInt8 := dkwL_law_14 ++ dktL_law_15
def dkwL_law_13 : List UInt8 := [172, 43, 42, 29, 4, 96, 46, 182, 0, 53, 44, 42, 29, 4, 96, 46, 182, 0, 56, 159, 0, 73, 3, 172]
abbrev dktL_law_13 : List UInt8 := dkwL_law_13 ++ dktL_law_14
def dkwL_law_12 : List UInt8 := [96, 46, 182, 0, 49, 44, 42, 29, 4, 96, 46, 42, 29, 5, 96, 46, 182, 0, 52, 148, 153, 0, 96, 3]
abbrev dktL_law_12 : List UInt8 := dkwL_law_12 ++ dktL_law_13
def dkwL_law_11 : List UInt8 := [46, 42, 29, 5, 96, 46, 182, 0, 48, 148, 153, 0, 130, 3, 172, 43, 42, 29, 4, 96, 46, 42, 29, 5]
abbrev dktL_law_11 : List UInt8 := dkwL_law_11 ++ dktL_law_12
def dkwL_law_10 : List UInt8 := [159, 0, 164, 3, 172, 43, 42, 29, 4, 96, 46, 42, 29, 5, 96, 46, 182, 0, 44, 44, 42, 29, 4, 96]
abbrev dktL_law_10 : List UInt8 := dkwL_law_10 ++ dktL_law_11
def dkwL_law_9 : List UInt8 := [159, 0, 187, 3, 172, 43, 42, 29, 4, 96, 46, 182, 0, 40, 44, 42, 29, 4, 96, 46, 182, 0, 43]
abbrev dktL_law_9 : List UInt8 := dkwL_law_9 ++ dktL_law_10
def dkwL_law_8 : List UInt8 := [148, 153, 0, 210, 3, 172, 43, 42, 29, 4, 96, 46, 182, 0, 36, 44, 42, 29, 4, 96, 46, 182, 0, 39]
abbrev dktL_law_8 : List UInt8 := dkwL_law_8 ++ dktL_law_9
def dkwL_law_7 : List UInt8 := [182, 0, 31, 167, 0, 232, 43, 42, 29, 4, 96, 46, 182, 0, 32, 44, 42, 29, 4, 96, 46, 182, 0, 35]
abbrev dktL_law_7 : List UInt8 := dkwL_law_7 ++ dktL_law_8
def dkwL_law_6 : List UInt8 := [29, 4, 96, 46, 42, 29, 5, 96, 46, 182, 0, 27, 44, 42, 29, 4, 96, 46, 42, 29, 5, 96, 46]
abbrev dktL_law_6 : List UInt8 := dkwL_law_6 ++ dktL_law_7
def dkwL_law_5 : List UInt8 := [29, 4, 96, 46, 182, 0, 22, 44, 42, 29, 4, 96, 46, 182, 0, 26, 148, 153, 1, 9, 3, 172, 43, 42]
abbrev dktL_law_5 : List UInt8 := dkwL_law_5 ++ dktL_law_6
def dkwL_law_4 : List UInt8 := [42, 29, 4, 96, 46, 182, 0, 18, 44, 42, 29, 4, 96, 46, 182, 0, 21, 159, 1, 33, 3, 172, 43, 42]
abbrev dktL_law_4 : List UInt8 := dkwL_law_4 ++ dktL_law_5
def dkwL_law_3 : List UInt8 := [43, 42, 29, 4, 96, 46, 182, 0, 13, 44, 42, 29, 4, 96, 46, 182, 0, 17, 159, 1, 56, 3, 172, 43]
abbrev dktL_law_3 : List UInt8 := dkwL_law_3 ++ dktL_law_4
def dkwL_law_2 : List UInt8 := [170, 0, 0, 0, 0, 1, 137, 0, 0, 0, 0, 0, 0, 0, 11, 0, 0, 0, 63, 0, 0, 0, 86, 0, 0, 0, 109, 0, 0, 0, 133, 0, 0, 0, 164, 0, 0, 0, 188, 0, 0, 0, 211, 0, 0, 0, 234, 0, 0, 1, 12, 0, 0, 1, 46, 0, 0, 1, 69, 0, 0, 1, 103]
abbrev dktL_law_2 : List UInt8 := dkwL_law_2 ++ dktL_law_3
def dkwL_law_1 : List UInt8 := [163, 1, 152, 42, 29, 46, 16, 15, 126]
abbrev dktL_law_1 : List UInt8 := dkwL_law_1 ++ dktL_law_2
def dkwL_law_0 : List UInt8 := [187, 0, 7, 89, 183, 0, 9, 76, 187, 0, 10, 89, 183, 0, 12, 77, 3, 62, 29, 42, 190, 16, 6, 100]
abbrev dktL_law_0 : List UInt8 := dkwL_law_0 ++ dktL_law_1
theorem dksL_law_0 : cL_law.data.toList.drop 0 = dktL_law_0 := by decide +kernel
theorem dksL_law_1 : cL_law.data.toList.drop 24 = dktL_law_1 := dk_seg dksL_law_0 24 rfl rfl
theorem dksL_law_2 : cL_law.data.toList.drop 33 = dktL_law_2 := dk_seg dksL_law_1 9 rfl rfl
theorem dksL_law_3 : cL_law.data.toList.drop 96 = dktL_law_3 := dk_seg dksL_law_2 63 rfl rfl
theorem dksL_law_4 : cL_law.data.toList.drop 120 = dktL_law_4 := dk_seg dksL_law_3 24 rfl rfl
theorem dksL_law_5 : cL_law.data.toList.drop 144 = dktL_law_5 := dk_seg dksL_law_4 24 rfl rfl
theorem dksL_law_6 : cL_law.data.toList.drop 168 = dktL_law_6 := dk_seg dksL_law_5 24 rfl rfl
theorem dksL_law_7 : cL_law.data.toList.drop 191 = dktL_law_7 := dk_seg dksL_law_6 23 rfl rfl
theorem dksL_law_8 : cL_law.data.toList.drop 215 = dktL_law_8 := dk_seg dksL_law_7 24 rfl rfl
theorem dksL_law_9 : cL_law.data.toList.drop 239 = dktL_law_9 := dk_seg dksL_law_8 24 rfl rfl
theorem dksL_law_10 : cL_law.data.toList.drop 262 = dktL_law_10 := dk_seg dksL_law_9 23 rfl rfl
theorem dksL_law_11 : cL_law.data.toList.drop 286 = dktL_law_11 := dk_seg dksL_law_10 24 rfl rfl
theorem dksL_law_12 : cL_law.data.toList.drop 310 = dktL_law_12 := dk_seg dksL_law_11 24 rfl rfl
theorem dksL_law_13 : cL_law.data.toList.drop 334 = dktL_law_13 := dk_seg dksL_law_12 24 rfl rfl
theorem dksL_law_14 : cL_law.data.toList.drop 358 = dktL_law_14 := dk_seg dksL_law_13 24 rfl rfl
theorem dksL_law_15 : cL_law.data.toList.drop 382 = dktL_law_15 := dk_seg dksL_law_14 24 rfl rfl
theorem dksL_law_16 : cL_law.data.toList.drop 406 = dktL_law_16 := dk_seg dksL_law_15 24 rfl rfl
theorem dksL_law_17 : cL_law.data.toList.drop 429 = dktL_law_17 := dk_seg dksL_law_16 23 rfl rfl
theorem dL_law_0 : decode cL_law 0 = .ok (.new 7, 3) := dk_187 0 7 (dk_at dksL_law_0 0 rfl rfl)
theorem dL_law_3 : decode cL_law 3 = .ok (.dup, 1) := dk_89 (dk_at dksL_law_0 3 rfl rfl)
theorem dL_law_4 : decode cL_law 4 = .ok (.invokespecial 9, 3) := dk_183 0 9 (dk_at dksL_law_0 4 rfl rfl)
theorem dL_law_7 : decode cL_law 7 = .ok (.astore_n 1, 1) := dk_76 (dk_at dksL_law_0 7 rfl rfl)
theorem dL_law_8 : decode cL_law 8 = .ok (.new 10, 3) := dk_187 0 10 (dk_at dksL_law_0 8 rfl rfl)
theorem dL_law_11 : decode cL_law 11 = .ok (.dup, 1) := dk_89 (dk_at dksL_law_0 11 rfl rfl)
theorem dL_law_12 : decode cL_law 12 = .ok (.invokespecial 12, 3) := dk_183 0 12 (dk_at dksL_law_0 12 rfl rfl)
theorem dL_law_15 : decode cL_law 15 = .ok (.astore_n 2, 1) := dk_77 (dk_at dksL_law_0 15 rfl rfl)
theorem dL_law_16 : decode cL_law 16 = .ok (.iconst 0, 1) := dk_3 (dk_at dksL_law_0 16 rfl rfl)
theorem dL_law_17 : decode cL_law 17 = .ok (.istore_n 3, 1) := dk_62 (dk_at dksL_law_0 17 rfl rfl)
theorem dL_law_18 : decode cL_law 18 = .ok (.iload_n 3, 1) := dk_29 (dk_at dksL_law_0 18 rfl rfl)
theorem dL_law_19 : decode cL_law 19 = .ok (.aload_n 0, 1) := dk_42 (dk_at dksL_law_0 19 rfl rfl)
theorem dL_law_20 : decode cL_law 20 = .ok (.arraylength, 1) := dk_190 (dk_at dksL_law_0 20 rfl rfl)
theorem dL_law_21 : decode cL_law 21 = .ok (.bipush 6, 2) := dk_16 6 (dk_at dksL_law_0 21 rfl rfl)
theorem dL_law_23 : decode cL_law 23 = .ok (.isub, 1) := dk_100 (dk_at dksL_law_0 23 rfl rfl)
theorem dL_law_24 : decode cL_law 24 = .ok (.if_icmp .gt 408, 3) := dk_163 1 152 (dk_at dksL_law_1 0 rfl rfl)
theorem dL_law_27 : decode cL_law 27 = .ok (.aload_n 0, 1) := dk_42 (dk_at dksL_law_1 3 rfl rfl)
theorem dL_law_28 : decode cL_law 28 = .ok (.iload_n 3, 1) := dk_29 (dk_at dksL_law_1 4 rfl rfl)
theorem dL_law_29 : decode cL_law 29 = .ok (.iaload, 1) := dk_46 (dk_at dksL_law_1 5 rfl rfl)
theorem dL_law_30 : decode cL_law 30 = .ok (.bipush 15, 2) := dk_16 15 (dk_at dksL_law_1 6 rfl rfl)
theorem dL_law_32 : decode cL_law 32 = .ok (.iand, 1) := dk_126 (dk_at dksL_law_1 8 rfl rfl)
theorem dL_law_33 : decode cL_law 33 = .ok (.tableswitch 393 0 11 #[63, 86, 109, 133, 164, 188, 211, 234, 268, 302, 325, 359], 63) := by decide +kernel
theorem dL_law_96 : decode cL_law 96 = .ok (.aload_n 1, 1) := dk_43 (dk_at dksL_law_3 0 rfl rfl)
theorem dL_law_97 : decode cL_law 97 = .ok (.aload_n 0, 1) := dk_42 (dk_at dksL_law_3 1 rfl rfl)
theorem dL_law_98 : decode cL_law 98 = .ok (.iload_n 3, 1) := dk_29 (dk_at dksL_law_3 2 rfl rfl)
theorem dL_law_99 : decode cL_law 99 = .ok (.iconst 1, 1) := dk_4 (dk_at dksL_law_3 3 rfl rfl)
theorem dL_law_100 : decode cL_law 100 = .ok (.iadd, 1) := dk_96 (dk_at dksL_law_3 4 rfl rfl)
theorem dL_law_101 : decode cL_law 101 = .ok (.iaload, 1) := dk_46 (dk_at dksL_law_3 5 rfl rfl)
theorem dL_law_102 : decode cL_law 102 = .ok (.invokevirtual 13, 3) := dk_182 0 13 (dk_at dksL_law_3 6 rfl rfl)
theorem dL_law_105 : decode cL_law 105 = .ok (.aload_n 2, 1) := dk_44 (dk_at dksL_law_3 9 rfl rfl)
theorem dL_law_106 : decode cL_law 106 = .ok (.aload_n 0, 1) := dk_42 (dk_at dksL_law_3 10 rfl rfl)
theorem dL_law_107 : decode cL_law 107 = .ok (.iload_n 3, 1) := dk_29 (dk_at dksL_law_3 11 rfl rfl)
theorem dL_law_108 : decode cL_law 108 = .ok (.iconst 1, 1) := dk_4 (dk_at dksL_law_3 12 rfl rfl)
theorem dL_law_109 : decode cL_law 109 = .ok (.iadd, 1) := dk_96 (dk_at dksL_law_3 13 rfl rfl)
theorem dL_law_110 : decode cL_law 110 = .ok (.iaload, 1) := dk_46 (dk_at dksL_law_3 14 rfl rfl)
theorem dL_law_111 : decode cL_law 111 = .ok (.invokevirtual 17, 3) := dk_182 0 17 (dk_at dksL_law_3 15 rfl rfl)
theorem dL_law_114 : decode cL_law 114 = .ok (.if_icmp .eq 312, 3) := dk_159 1 56 (dk_at dksL_law_3 18 rfl rfl)
theorem dL_law_117 : decode cL_law 117 = .ok (.iconst 0, 1) := dk_3 (dk_at dksL_law_3 21 rfl rfl)
theorem dL_law_118 : decode cL_law 118 = .ok (.ireturn, 1) := dk_172 (dk_at dksL_law_3 22 rfl rfl)
theorem dL_law_119 : decode cL_law 119 = .ok (.aload_n 1, 1) := dk_43 (dk_at dksL_law_3 23 rfl rfl)
theorem dL_law_120 : decode cL_law 120 = .ok (.aload_n 0, 1) := dk_42 (dk_at dksL_law_4 0 rfl rfl)
theorem dL_law_121 : decode cL_law 121 = .ok (.iload_n 3, 1) := dk_29 (dk_at dksL_law_4 1 rfl rfl)
theorem dL_law_122 : decode cL_law 122 = .ok (.iconst 1, 1) := dk_4 (dk_at dksL_law_4 2 rfl rfl)
theorem dL_law_123 : decode cL_law 123 = .ok (.iadd, 1) := dk_96 (dk_at dksL_law_4 3 rfl rfl)
theorem dL_law_124 : decode cL_law 124 = .ok (.iaload, 1) := dk_46 (dk_at dksL_law_4 4 rfl rfl)
theorem dL_law_125 : decode cL_law 125 = .ok (.invokevirtual 18, 3) := dk_182 0 18 (dk_at dksL_law_4 5 rfl rfl)
theorem dL_law_128 : decode cL_law 128 = .ok (.aload_n 2, 1) := dk_44 (dk_at dksL_law_4 8 rfl rfl)
theorem dL_law_129 : decode cL_law 129 = .ok (.aload_n 0, 1) := dk_42 (dk_at dksL_law_4 9 rfl rfl)
theorem dL_law_130 : decode cL_law 130 = .ok (.iload_n 3, 1) := dk_29 (dk_at dksL_law_4 10 rfl rfl)
theorem dL_law_131 : decode cL_law 131 = .ok (.iconst 1, 1) := dk_4 (dk_at dksL_law_4 11 rfl rfl)
theorem dL_law_132 : decode cL_law 132 = .ok (.iadd, 1) := dk_96 (dk_at dksL_law_4 12 rfl rfl)
theorem dL_law_133 : decode cL_law 133 = .ok (.iaload, 1) := dk_46 (dk_at dksL_law_4 13 rfl rfl)
theorem dL_law_134 : decode cL_law 134 = .ok (.invokevirtual 21, 3) := dk_182 0 21 (dk_at dksL_law_4 14 rfl rfl)
theorem dL_law_137 : decode cL_law 137 = .ok (.if_icmp .eq 289, 3) := dk_159 1 33 (dk_at dksL_law_4 17 rfl rfl)
theorem dL_law_140 : decode cL_law 140 = .ok (.iconst 0, 1) := dk_3 (dk_at dksL_law_4 20 rfl rfl)
theorem dL_law_141 : decode cL_law 141 = .ok (.ireturn, 1) := dk_172 (dk_at dksL_law_4 21 rfl rfl)
theorem dL_law_142 : decode cL_law 142 = .ok (.aload_n 1, 1) := dk_43 (dk_at dksL_law_4 22 rfl rfl)
theorem dL_law_143 : decode cL_law 143 = .ok (.aload_n 0, 1) := dk_42 (dk_at dksL_law_4 23 rfl rfl)
theorem dL_law_144 : decode cL_law 144 = .ok (.iload_n 3, 1) := dk_29 (dk_at dksL_law_5 0 rfl rfl)
theorem dL_law_145 : decode cL_law 145 = .ok (.iconst 1, 1) := dk_4 (dk_at dksL_law_5 1 rfl rfl)
theorem dL_law_146 : decode cL_law 146 = .ok (.iadd, 1) := dk_96 (dk_at dksL_law_5 2 rfl rfl)
theorem dL_law_147 : decode cL_law 147 = .ok (.iaload, 1) := dk_46 (dk_at dksL_law_5 3 rfl rfl)
theorem dL_law_148 : decode cL_law 148 = .ok (.invokevirtual 22, 3) := dk_182 0 22 (dk_at dksL_law_5 4 rfl rfl)
theorem dL_law_151 : decode cL_law 151 = .ok (.aload_n 2, 1) := dk_44 (dk_at dksL_law_5 7 rfl rfl)
theorem dL_law_152 : decode cL_law 152 = .ok (.aload_n 0, 1) := dk_42 (dk_at dksL_law_5 8 rfl rfl)
theorem dL_law_153 : decode cL_law 153 = .ok (.iload_n 3, 1) := dk_29 (dk_at dksL_law_5 9 rfl rfl)
theorem dL_law_154 : decode cL_law 154 = .ok (.iconst 1, 1) := dk_4 (dk_at dksL_law_5 10 rfl rfl)
theorem dL_law_155 : decode cL_law 155 = .ok (.iadd, 1) := dk_96 (dk_at dksL_law_5 11 rfl rfl)
theorem dL_law_156 : decode cL_law 156 = .ok (.iaload, 1) := dk_46 (dk_at dksL_law_5 12 rfl rfl)
theorem dL_law_157 : decode cL_law 157 = .ok (.invokevirtual 26, 3) := dk_182 0 26 (dk_at dksL_law_5 13 rfl rfl)
theorem dL_law_160 : decode cL_law 160 = .ok (.lcmp, 1) := dk_148 (dk_at dksL_law_5 16 rfl rfl)
theorem dL_law_161 : decode cL_law 161 = .ok (.ifCond .eq 265, 3) := dk_153 1 9 (dk_at dksL_law_5 17 rfl rfl)
theorem dL_law_164 : decode cL_law 164 = .ok (.iconst 0, 1) := dk_3 (dk_at dksL_law_5 20 rfl rfl)
theorem dL_law_165 : decode cL_law 165 = .ok (.ireturn, 1) := dk_172 (dk_at dksL_law_5 21 rfl rfl)
theorem dL_law_166 : decode cL_law 166 = .ok (.aload_n 1, 1) := dk_43 (dk_at dksL_law_5 22 rfl rfl)
theorem dL_law_167 : decode cL_law 167 = .ok (.aload_n 0, 1) := dk_42 (dk_at dksL_law_5 23 rfl rfl)
theorem dL_law_168 : decode cL_law 168 = .ok (.iload_n 3, 1) := dk_29 (dk_at dksL_law_6 0 rfl rfl)
theorem dL_law_169 : decode cL_law 169 = .ok (.iconst 1, 1) := dk_4 (dk_at dksL_law_6 1 rfl rfl)
theorem dL_law_170 : decode cL_law 170 = .ok (.iadd, 1) := dk_96 (dk_at dksL_law_6 2 rfl rfl)
theorem dL_law_171 : decode cL_law 171 = .ok (.iaload, 1) := dk_46 (dk_at dksL_law_6 3 rfl rfl)
theorem dL_law_172 : decode cL_law 172 = .ok (.aload_n 0, 1) := dk_42 (dk_at dksL_law_6 4 rfl rfl)
theorem dL_law_173 : decode cL_law 173 = .ok (.iload_n 3, 1) := dk_29 (dk_at dksL_law_6 5 rfl rfl)
theorem dL_law_174 : decode cL_law 174 = .ok (.iconst 2, 1) := dk_5 (dk_at dksL_law_6 6 rfl rfl)
theorem dL_law_175 : decode cL_law 175 = .ok (.iadd, 1) := dk_96 (dk_at dksL_law_6 7 rfl rfl)
theorem dL_law_176 : decode cL_law 176 = .ok (.iaload, 1) := dk_46 (dk_at dksL_law_6 8 rfl rfl)
theorem dL_law_177 : decode cL_law 177 = .ok (.invokevirtual 27, 3) := dk_182 0 27 (dk_at dksL_law_6 9 rfl rfl)
theorem dL_law_180 : decode cL_law 180 = .ok (.aload_n 2, 1) := dk_44 (dk_at dksL_law_6 12 rfl rfl)
theorem dL_law_181 : decode cL_law 181 = .ok (.aload_n 0, 1) := dk_42 (dk_at dksL_law_6 13 rfl rfl)
theorem dL_law_182 : decode cL_law 182 = .ok (.iload_n 3, 1) := dk_29 (dk_at dksL_law_6 14 rfl rfl)
theorem dL_law_183 : decode cL_law 183 = .ok (.iconst 1, 1) := dk_4 (dk_at dksL_law_6 15 rfl rfl)
theorem dL_law_184 : decode cL_law 184 = .ok (.iadd, 1) := dk_96 (dk_at dksL_law_6 16 rfl rfl)
theorem dL_law_185 : decode cL_law 185 = .ok (.iaload, 1) := dk_46 (dk_at dksL_law_6 17 rfl rfl)
theorem dL_law_186 : decode cL_law 186 = .ok (.aload_n 0, 1) := dk_42 (dk_at dksL_law_6 18 rfl rfl)
theorem dL_law_187 : decode cL_law 187 = .ok (.iload_n 3, 1) := dk_29 (dk_at dksL_law_6 19 rfl rfl)
theorem dL_law_188 : decode cL_law 188 = .ok (.iconst 2, 1) := dk_5 (dk_at dksL_law_6 20 rfl rfl)
theorem dL_law_189 : decode cL_law 189 = .ok (.iadd, 1) := dk_96 (dk_at dksL_law_6 21 rfl rfl)
theorem dL_law_190 : decode cL_law 190 = .ok (.iaload, 1) := dk_46 (dk_at dksL_law_6 22 rfl rfl)
theorem dL_law_191 : decode cL_law 191 = .ok (.invokevirtual 31, 3) := dk_182 0 31 (dk_at dksL_law_7 0 rfl rfl)
theorem dL_law_194 : decode cL_law 194 = .ok (.goto 232, 3) := dk_167 0 232 (dk_at dksL_law_7 3 rfl rfl)
theorem dL_law_197 : decode cL_law 197 = .ok (.aload_n 1, 1) := dk_43 (dk_at dksL_law_7 6 rfl rfl)
theorem dL_law_198 : decode cL_law 198 = .ok (.aload_n 0, 1) := dk_42 (dk_at dksL_law_7 7 rfl rfl)
theorem dL_law_199 : decode cL_law 199 = .ok (.iload_n 3, 1) := dk_29 (dk_at dksL_law_7 8 rfl rfl)
theorem dL_law_200 : decode cL_law 200 = .ok (.iconst 1, 1) := dk_4 (dk_at dksL_law_7 9 rfl rfl)
theorem dL_law_201 : decode cL_law 201 = .ok (.iadd, 1) := dk_96 (dk_at dksL_law_7 10 rfl rfl)
theorem dL_law_202 : decode cL_law 202 = .ok (.iaload, 1) := dk_46 (dk_at dksL_law_7 11 rfl rfl)
theorem dL_law_203 : decode cL_law 203 = .ok (.invokevirtual 32, 3) := dk_182 0 32 (dk_at dksL_law_7 12 rfl rfl)
theorem dL_law_206 : decode cL_law 206 = .ok (.aload_n 2, 1) := dk_44 (dk_at dksL_law_7 15 rfl rfl)
theorem dL_law_207 : decode cL_law 207 = .ok (.aload_n 0, 1) := dk_42 (dk_at dksL_law_7 16 rfl rfl)
theorem dL_law_208 : decode cL_law 208 = .ok (.iload_n 3, 1) := dk_29 (dk_at dksL_law_7 17 rfl rfl)
theorem dL_law_209 : decode cL_law 209 = .ok (.iconst 1, 1) := dk_4 (dk_at dksL_law_7 18 rfl rfl)
theorem dL_law_210 : decode cL_law 210 = .ok (.iadd, 1) := dk_96 (dk_at dksL_law_7 19 rfl rfl)
theorem dL_law_211 : decode cL_law 211 = .ok (.iaload, 1) := dk_46 (dk_at dksL_law_7 20 rfl rfl)
theorem dL_law_212 : decode cL_law 212 = .ok (.invokevirtual 35, 3) := dk_182 0 35 (dk_at dksL_law_7 21 rfl rfl)
theorem dL_law_215 : decode cL_law 215 = .ok (.lcmp, 1) := dk_148 (dk_at dksL_law_8 0 rfl rfl)
theorem dL_law_216 : decode cL_law 216 = .ok (.ifCond .eq 210, 3) := dk_153 0 210 (dk_at dksL_law_8 1 rfl rfl)
theorem dL_law_219 : decode cL_law 219 = .ok (.iconst 0, 1) := dk_3 (dk_at dksL_law_8 4 rfl rfl)
theorem dL_law_220 : decode cL_law 220 = .ok (.ireturn, 1) := dk_172 (dk_at dksL_law_8 5 rfl rfl)
theorem dL_law_221 : decode cL_law 221 = .ok (.aload_n 1, 1) := dk_43 (dk_at dksL_law_8 6 rfl rfl)
theorem dL_law_222 : decode cL_law 222 = .ok (.aload_n 0, 1) := dk_42 (dk_at dksL_law_8 7 rfl rfl)
theorem dL_law_223 : decode cL_law 223 = .ok (.iload_n 3, 1) := dk_29 (dk_at dksL_law_8 8 rfl rfl)
theorem dL_law_224 : decode cL_law 224 = .ok (.iconst 1, 1) := dk_4 (dk_at dksL_law_8 9 rfl rfl)
theorem dL_law_225 : decode cL_law 225 = .ok (.iadd, 1) := dk_96 (dk_at dksL_law_8 10 rfl rfl)
theorem dL_law_226 : decode cL_law 226 = .ok (.iaload, 1) := dk_46 (dk_at dksL_law_8 11 rfl rfl)
theorem dL_law_227 : decode cL_law 227 = .ok (.invokevirtual 36, 3) := dk_182 0 36 (dk_at dksL_law_8 12 rfl rfl)
theorem dL_law_230 : decode cL_law 230 = .ok (.aload_n 2, 1) := dk_44 (dk_at dksL_law_8 15 rfl rfl)
theorem dL_law_231 : decode cL_law 231 = .ok (.aload_n 0, 1) := dk_42 (dk_at dksL_law_8 16 rfl rfl)
theorem dL_law_232 : decode cL_law 232 = .ok (.iload_n 3, 1) := dk_29 (dk_at dksL_law_8 17 rfl rfl)
theorem dL_law_233 : decode cL_law 233 = .ok (.iconst 1, 1) := dk_4 (dk_at dksL_law_8 18 rfl rfl)
theorem dL_law_234 : decode cL_law 234 = .ok (.iadd, 1) := dk_96 (dk_at dksL_law_8 19 rfl rfl)
theorem dL_law_235 : decode cL_law 235 = .ok (.iaload, 1) := dk_46 (dk_at dksL_law_8 20 rfl rfl)
theorem dL_law_236 : decode cL_law 236 = .ok (.invokevirtual 39, 3) := dk_182 0 39 (dk_at dksL_law_8 21 rfl rfl)
theorem dL_law_239 : decode cL_law 239 = .ok (.if_icmp .eq 187, 3) := dk_159 0 187 (dk_at dksL_law_9 0 rfl rfl)
theorem dL_law_242 : decode cL_law 242 = .ok (.iconst 0, 1) := dk_3 (dk_at dksL_law_9 3 rfl rfl)
theorem dL_law_243 : decode cL_law 243 = .ok (.ireturn, 1) := dk_172 (dk_at dksL_law_9 4 rfl rfl)
theorem dL_law_244 : decode cL_law 244 = .ok (.aload_n 1, 1) := dk_43 (dk_at dksL_law_9 5 rfl rfl)
theorem dL_law_245 : decode cL_law 245 = .ok (.aload_n 0, 1) := dk_42 (dk_at dksL_law_9 6 rfl rfl)
theorem dL_law_246 : decode cL_law 246 = .ok (.iload_n 3, 1) := dk_29 (dk_at dksL_law_9 7 rfl rfl)
theorem dL_law_247 : decode cL_law 247 = .ok (.iconst 1, 1) := dk_4 (dk_at dksL_law_9 8 rfl rfl)
theorem dL_law_248 : decode cL_law 248 = .ok (.iadd, 1) := dk_96 (dk_at dksL_law_9 9 rfl rfl)
theorem dL_law_249 : decode cL_law 249 = .ok (.iaload, 1) := dk_46 (dk_at dksL_law_9 10 rfl rfl)
theorem dL_law_250 : decode cL_law 250 = .ok (.invokevirtual 40, 3) := dk_182 0 40 (dk_at dksL_law_9 11 rfl rfl)
theorem dL_law_253 : decode cL_law 253 = .ok (.aload_n 2, 1) := dk_44 (dk_at dksL_law_9 14 rfl rfl)
theorem dL_law_254 : decode cL_law 254 = .ok (.aload_n 0, 1) := dk_42 (dk_at dksL_law_9 15 rfl rfl)
theorem dL_law_255 : decode cL_law 255 = .ok (.iload_n 3, 1) := dk_29 (dk_at dksL_law_9 16 rfl rfl)
theorem dL_law_256 : decode cL_law 256 = .ok (.iconst 1, 1) := dk_4 (dk_at dksL_law_9 17 rfl rfl)
theorem dL_law_257 : decode cL_law 257 = .ok (.iadd, 1) := dk_96 (dk_at dksL_law_9 18 rfl rfl)
theorem dL_law_258 : decode cL_law 258 = .ok (.iaload, 1) := dk_46 (dk_at dksL_law_9 19 rfl rfl)
theorem dL_law_259 : decode cL_law 259 = .ok (.invokevirtual 43, 3) := dk_182 0 43 (dk_at dksL_law_9 20 rfl rfl)
theorem dL_law_262 : decode cL_law 262 = .ok (.if_icmp .eq 164, 3) := dk_159 0 164 (dk_at dksL_law_10 0 rfl rfl)
theorem dL_law_265 : decode cL_law 265 = .ok (.iconst 0, 1) := dk_3 (dk_at dksL_law_10 3 rfl rfl)
theorem dL_law_266 : decode cL_law 266 = .ok (.ireturn, 1) := dk_172 (dk_at dksL_law_10 4 rfl rfl)
theorem dL_law_267 : decode cL_law 267 = .ok (.aload_n 1, 1) := dk_43 (dk_at dksL_law_10 5 rfl rfl)
theorem dL_law_268 : decode cL_law 268 = .ok (.aload_n 0, 1) := dk_42 (dk_at dksL_law_10 6 rfl rfl)
theorem dL_law_269 : decode cL_law 269 = .ok (.iload_n 3, 1) := dk_29 (dk_at dksL_law_10 7 rfl rfl)
theorem dL_law_270 : decode cL_law 270 = .ok (.iconst 1, 1) := dk_4 (dk_at dksL_law_10 8 rfl rfl)
theorem dL_law_271 : decode cL_law 271 = .ok (.iadd, 1) := dk_96 (dk_at dksL_law_10 9 rfl rfl)
theorem dL_law_272 : decode cL_law 272 = .ok (.iaload, 1) := dk_46 (dk_at dksL_law_10 10 rfl rfl)
theorem dL_law_273 : decode cL_law 273 = .ok (.aload_n 0, 1) := dk_42 (dk_at dksL_law_10 11 rfl rfl)
theorem dL_law_274 : decode cL_law 274 = .ok (.iload_n 3, 1) := dk_29 (dk_at dksL_law_10 12 rfl rfl)
theorem dL_law_275 : decode cL_law 275 = .ok (.iconst 2, 1) := dk_5 (dk_at dksL_law_10 13 rfl rfl)
theorem dL_law_276 : decode cL_law 276 = .ok (.iadd, 1) := dk_96 (dk_at dksL_law_10 14 rfl rfl)
theorem dL_law_277 : decode cL_law 277 = .ok (.iaload, 1) := dk_46 (dk_at dksL_law_10 15 rfl rfl)
theorem dL_law_278 : decode cL_law 278 = .ok (.invokevirtual 44, 3) := dk_182 0 44 (dk_at dksL_law_10 16 rfl rfl)
theorem dL_law_281 : decode cL_law 281 = .ok (.aload_n 2, 1) := dk_44 (dk_at dksL_law_10 19 rfl rfl)
theorem dL_law_282 : decode cL_law 282 = .ok (.aload_n 0, 1) := dk_42 (dk_at dksL_law_10 20 rfl rfl)
theorem dL_law_283 : decode cL_law 283 = .ok (.iload_n 3, 1) := dk_29 (dk_at dksL_law_10 21 rfl rfl)
theorem dL_law_284 : decode cL_law 284 = .ok (.iconst 1, 1) := dk_4 (dk_at dksL_law_10 22 rfl rfl)
theorem dL_law_285 : decode cL_law 285 = .ok (.iadd, 1) := dk_96 (dk_at dksL_law_10 23 rfl rfl)
theorem dL_law_286 : decode cL_law 286 = .ok (.iaload, 1) := dk_46 (dk_at dksL_law_11 0 rfl rfl)
theorem dL_law_287 : decode cL_law 287 = .ok (.aload_n 0, 1) := dk_42 (dk_at dksL_law_11 1 rfl rfl)
theorem dL_law_288 : decode cL_law 288 = .ok (.iload_n 3, 1) := dk_29 (dk_at dksL_law_11 2 rfl rfl)
theorem dL_law_289 : decode cL_law 289 = .ok (.iconst 2, 1) := dk_5 (dk_at dksL_law_11 3 rfl rfl)
theorem dL_law_290 : decode cL_law 290 = .ok (.iadd, 1) := dk_96 (dk_at dksL_law_11 4 rfl rfl)
theorem dL_law_291 : decode cL_law 291 = .ok (.iaload, 1) := dk_46 (dk_at dksL_law_11 5 rfl rfl)
theorem dL_law_292 : decode cL_law 292 = .ok (.invokevirtual 48, 3) := dk_182 0 48 (dk_at dksL_law_11 6 rfl rfl)
theorem dL_law_295 : decode cL_law 295 = .ok (.lcmp, 1) := dk_148 (dk_at dksL_law_11 9 rfl rfl)
theorem dL_law_296 : decode cL_law 296 = .ok (.ifCond .eq 130, 3) := dk_153 0 130 (dk_at dksL_law_11 10 rfl rfl)
theorem dL_law_299 : decode cL_law 299 = .ok (.iconst 0, 1) := dk_3 (dk_at dksL_law_11 13 rfl rfl)
theorem dL_law_300 : decode cL_law 300 = .ok (.ireturn, 1) := dk_172 (dk_at dksL_law_11 14 rfl rfl)
theorem dL_law_301 : decode cL_law 301 = .ok (.aload_n 1, 1) := dk_43 (dk_at dksL_law_11 15 rfl rfl)
theorem dL_law_302 : decode cL_law 302 = .ok (.aload_n 0, 1) := dk_42 (dk_at dksL_law_11 16 rfl rfl)
theorem dL_law_303 : decode cL_law 303 = .ok (.iload_n 3, 1) := dk_29 (dk_at dksL_law_11 17 rfl rfl)
theorem dL_law_304 : decode cL_law 304 = .ok (.iconst 1, 1) := dk_4 (dk_at dksL_law_11 18 rfl rfl)
theorem dL_law_305 : decode cL_law 305 = .ok (.iadd, 1) := dk_96 (dk_at dksL_law_11 19 rfl rfl)
theorem dL_law_306 : decode cL_law 306 = .ok (.iaload, 1) := dk_46 (dk_at dksL_law_11 20 rfl rfl)
theorem dL_law_307 : decode cL_law 307 = .ok (.aload_n 0, 1) := dk_42 (dk_at dksL_law_11 21 rfl rfl)
theorem dL_law_308 : decode cL_law 308 = .ok (.iload_n 3, 1) := dk_29 (dk_at dksL_law_11 22 rfl rfl)
theorem dL_law_309 : decode cL_law 309 = .ok (.iconst 2, 1) := dk_5 (dk_at dksL_law_11 23 rfl rfl)
theorem dL_law_310 : decode cL_law 310 = .ok (.iadd, 1) := dk_96 (dk_at dksL_law_12 0 rfl rfl)
theorem dL_law_311 : decode cL_law 311 = .ok (.iaload, 1) := dk_46 (dk_at dksL_law_12 1 rfl rfl)
theorem dL_law_312 : decode cL_law 312 = .ok (.invokevirtual 49, 3) := dk_182 0 49 (dk_at dksL_law_12 2 rfl rfl)
theorem dL_law_315 : decode cL_law 315 = .ok (.aload_n 2, 1) := dk_44 (dk_at dksL_law_12 5 rfl rfl)
theorem dL_law_316 : decode cL_law 316 = .ok (.aload_n 0, 1) := dk_42 (dk_at dksL_law_12 6 rfl rfl)
theorem dL_law_317 : decode cL_law 317 = .ok (.iload_n 3, 1) := dk_29 (dk_at dksL_law_12 7 rfl rfl)
theorem dL_law_318 : decode cL_law 318 = .ok (.iconst 1, 1) := dk_4 (dk_at dksL_law_12 8 rfl rfl)
theorem dL_law_319 : decode cL_law 319 = .ok (.iadd, 1) := dk_96 (dk_at dksL_law_12 9 rfl rfl)
theorem dL_law_320 : decode cL_law 320 = .ok (.iaload, 1) := dk_46 (dk_at dksL_law_12 10 rfl rfl)
theorem dL_law_321 : decode cL_law 321 = .ok (.aload_n 0, 1) := dk_42 (dk_at dksL_law_12 11 rfl rfl)
theorem dL_law_322 : decode cL_law 322 = .ok (.iload_n 3, 1) := dk_29 (dk_at dksL_law_12 12 rfl rfl)
theorem dL_law_323 : decode cL_law 323 = .ok (.iconst 2, 1) := dk_5 (dk_at dksL_law_12 13 rfl rfl)
theorem dL_law_324 : decode cL_law 324 = .ok (.iadd, 1) := dk_96 (dk_at dksL_law_12 14 rfl rfl)
theorem dL_law_325 : decode cL_law 325 = .ok (.iaload, 1) := dk_46 (dk_at dksL_law_12 15 rfl rfl)
theorem dL_law_326 : decode cL_law 326 = .ok (.invokevirtual 52, 3) := dk_182 0 52 (dk_at dksL_law_12 16 rfl rfl)
theorem dL_law_329 : decode cL_law 329 = .ok (.lcmp, 1) := dk_148 (dk_at dksL_law_12 19 rfl rfl)
theorem dL_law_330 : decode cL_law 330 = .ok (.ifCond .eq 96, 3) := dk_153 0 96 (dk_at dksL_law_12 20 rfl rfl)
theorem dL_law_333 : decode cL_law 333 = .ok (.iconst 0, 1) := dk_3 (dk_at dksL_law_12 23 rfl rfl)
theorem dL_law_334 : decode cL_law 334 = .ok (.ireturn, 1) := dk_172 (dk_at dksL_law_13 0 rfl rfl)
theorem dL_law_335 : decode cL_law 335 = .ok (.aload_n 1, 1) := dk_43 (dk_at dksL_law_13 1 rfl rfl)
theorem dL_law_336 : decode cL_law 336 = .ok (.aload_n 0, 1) := dk_42 (dk_at dksL_law_13 2 rfl rfl)
theorem dL_law_337 : decode cL_law 337 = .ok (.iload_n 3, 1) := dk_29 (dk_at dksL_law_13 3 rfl rfl)
theorem dL_law_338 : decode cL_law 338 = .ok (.iconst 1, 1) := dk_4 (dk_at dksL_law_13 4 rfl rfl)
theorem dL_law_339 : decode cL_law 339 = .ok (.iadd, 1) := dk_96 (dk_at dksL_law_13 5 rfl rfl)
theorem dL_law_340 : decode cL_law 340 = .ok (.iaload, 1) := dk_46 (dk_at dksL_law_13 6 rfl rfl)
theorem dL_law_341 : decode cL_law 341 = .ok (.invokevirtual 53, 3) := dk_182 0 53 (dk_at dksL_law_13 7 rfl rfl)
theorem dL_law_344 : decode cL_law 344 = .ok (.aload_n 2, 1) := dk_44 (dk_at dksL_law_13 10 rfl rfl)
theorem dL_law_345 : decode cL_law 345 = .ok (.aload_n 0, 1) := dk_42 (dk_at dksL_law_13 11 rfl rfl)
theorem dL_law_346 : decode cL_law 346 = .ok (.iload_n 3, 1) := dk_29 (dk_at dksL_law_13 12 rfl rfl)
theorem dL_law_347 : decode cL_law 347 = .ok (.iconst 1, 1) := dk_4 (dk_at dksL_law_13 13 rfl rfl)
theorem dL_law_348 : decode cL_law 348 = .ok (.iadd, 1) := dk_96 (dk_at dksL_law_13 14 rfl rfl)
theorem dL_law_349 : decode cL_law 349 = .ok (.iaload, 1) := dk_46 (dk_at dksL_law_13 15 rfl rfl)
theorem dL_law_350 : decode cL_law 350 = .ok (.invokevirtual 56, 3) := dk_182 0 56 (dk_at dksL_law_13 16 rfl rfl)
theorem dL_law_353 : decode cL_law 353 = .ok (.if_icmp .eq 73, 3) := dk_159 0 73 (dk_at dksL_law_13 19 rfl rfl)
theorem dL_law_356 : decode cL_law 356 = .ok (.iconst 0, 1) := dk_3 (dk_at dksL_law_13 22 rfl rfl)
theorem dL_law_357 : decode cL_law 357 = .ok (.ireturn, 1) := dk_172 (dk_at dksL_law_13 23 rfl rfl)
theorem dL_law_358 : decode cL_law 358 = .ok (.aload_n 1, 1) := dk_43 (dk_at dksL_law_14 0 rfl rfl)
theorem dL_law_359 : decode cL_law 359 = .ok (.aload_n 0, 1) := dk_42 (dk_at dksL_law_14 1 rfl rfl)
theorem dL_law_360 : decode cL_law 360 = .ok (.iload_n 3, 1) := dk_29 (dk_at dksL_law_14 2 rfl rfl)
theorem dL_law_361 : decode cL_law 361 = .ok (.iconst 1, 1) := dk_4 (dk_at dksL_law_14 3 rfl rfl)
theorem dL_law_362 : decode cL_law 362 = .ok (.iadd, 1) := dk_96 (dk_at dksL_law_14 4 rfl rfl)
theorem dL_law_363 : decode cL_law 363 = .ok (.iaload, 1) := dk_46 (dk_at dksL_law_14 5 rfl rfl)
theorem dL_law_364 : decode cL_law 364 = .ok (.aload_n 0, 1) := dk_42 (dk_at dksL_law_14 6 rfl rfl)
theorem dL_law_365 : decode cL_law 365 = .ok (.iload_n 3, 1) := dk_29 (dk_at dksL_law_14 7 rfl rfl)
theorem dL_law_366 : decode cL_law 366 = .ok (.iconst 2, 1) := dk_5 (dk_at dksL_law_14 8 rfl rfl)
theorem dL_law_367 : decode cL_law 367 = .ok (.iadd, 1) := dk_96 (dk_at dksL_law_14 9 rfl rfl)
theorem dL_law_368 : decode cL_law 368 = .ok (.iaload, 1) := dk_46 (dk_at dksL_law_14 10 rfl rfl)
theorem dL_law_369 : decode cL_law 369 = .ok (.invokevirtual 57, 3) := dk_182 0 57 (dk_at dksL_law_14 11 rfl rfl)
theorem dL_law_372 : decode cL_law 372 = .ok (.aload_n 2, 1) := dk_44 (dk_at dksL_law_14 14 rfl rfl)
theorem dL_law_373 : decode cL_law 373 = .ok (.aload_n 0, 1) := dk_42 (dk_at dksL_law_14 15 rfl rfl)
theorem dL_law_374 : decode cL_law 374 = .ok (.iload_n 3, 1) := dk_29 (dk_at dksL_law_14 16 rfl rfl)
theorem dL_law_375 : decode cL_law 375 = .ok (.iconst 1, 1) := dk_4 (dk_at dksL_law_14 17 rfl rfl)
theorem dL_law_376 : decode cL_law 376 = .ok (.iadd, 1) := dk_96 (dk_at dksL_law_14 18 rfl rfl)
theorem dL_law_377 : decode cL_law 377 = .ok (.iaload, 1) := dk_46 (dk_at dksL_law_14 19 rfl rfl)
theorem dL_law_378 : decode cL_law 378 = .ok (.aload_n 0, 1) := dk_42 (dk_at dksL_law_14 20 rfl rfl)
theorem dL_law_379 : decode cL_law 379 = .ok (.iload_n 3, 1) := dk_29 (dk_at dksL_law_14 21 rfl rfl)
theorem dL_law_380 : decode cL_law 380 = .ok (.iconst 2, 1) := dk_5 (dk_at dksL_law_14 22 rfl rfl)
theorem dL_law_381 : decode cL_law 381 = .ok (.iadd, 1) := dk_96 (dk_at dksL_law_14 23 rfl rfl)
theorem dL_law_382 : decode cL_law 382 = .ok (.iaload, 1) := dk_46 (dk_at dksL_law_15 0 rfl rfl)
theorem dL_law_383 : decode cL_law 383 = .ok (.invokevirtual 60, 3) := dk_182 0 60 (dk_at dksL_law_15 1 rfl rfl)
theorem dL_law_386 : decode cL_law 386 = .ok (.lcmp, 1) := dk_148 (dk_at dksL_law_15 4 rfl rfl)
theorem dL_law_387 : decode cL_law 387 = .ok (.ifCond .eq 39, 3) := dk_153 0 39 (dk_at dksL_law_15 5 rfl rfl)
theorem dL_law_390 : decode cL_law 390 = .ok (.iconst 0, 1) := dk_3 (dk_at dksL_law_15 8 rfl rfl)
theorem dL_law_391 : decode cL_law 391 = .ok (.ireturn, 1) := dk_172 (dk_at dksL_law_15 9 rfl rfl)
theorem dL_law_392 : decode cL_law 392 = .ok (.aload_n 1, 1) := dk_43 (dk_at dksL_law_15 10 rfl rfl)
theorem dL_law_393 : decode cL_law 393 = .ok (.aload_n 0, 1) := dk_42 (dk_at dksL_law_15 11 rfl rfl)
theorem dL_law_394 : decode cL_law 394 = .ok (.iload_n 3, 1) := dk_29 (dk_at dksL_law_15 12 rfl rfl)
theorem dL_law_395 : decode cL_law 395 = .ok (.iconst 1, 1) := dk_4 (dk_at dksL_law_15 13 rfl rfl)
theorem dL_law_396 : decode cL_law 396 = .ok (.iadd, 1) := dk_96 (dk_at dksL_law_15 14 rfl rfl)
theorem dL_law_397 : decode cL_law 397 = .ok (.iaload, 1) := dk_46 (dk_at dksL_law_15 15 rfl rfl)
theorem dL_law_398 : decode cL_law 398 = .ok (.aload_n 0, 1) := dk_42 (dk_at dksL_law_15 16 rfl rfl)
theorem dL_law_399 : decode cL_law 399 = .ok (.iload_n 3, 1) := dk_29 (dk_at dksL_law_15 17 rfl rfl)
theorem dL_law_400 : decode cL_law 400 = .ok (.iconst 2, 1) := dk_5 (dk_at dksL_law_15 18 rfl rfl)
theorem dL_law_401 : decode cL_law 401 = .ok (.iadd, 1) := dk_96 (dk_at dksL_law_15 19 rfl rfl)
theorem dL_law_402 : decode cL_law 402 = .ok (.iaload, 1) := dk_46 (dk_at dksL_law_15 20 rfl rfl)
theorem dL_law_403 : decode cL_law 403 = .ok (.invokevirtual 61, 3) := dk_182 0 61 (dk_at dksL_law_15 21 rfl rfl)
theorem dL_law_406 : decode cL_law 406 = .ok (.aload_n 2, 1) := dk_44 (dk_at dksL_law_16 0 rfl rfl)
theorem dL_law_407 : decode cL_law 407 = .ok (.aload_n 0, 1) := dk_42 (dk_at dksL_law_16 1 rfl rfl)
theorem dL_law_408 : decode cL_law 408 = .ok (.iload_n 3, 1) := dk_29 (dk_at dksL_law_16 2 rfl rfl)
theorem dL_law_409 : decode cL_law 409 = .ok (.iconst 1, 1) := dk_4 (dk_at dksL_law_16 3 rfl rfl)
theorem dL_law_410 : decode cL_law 410 = .ok (.iadd, 1) := dk_96 (dk_at dksL_law_16 4 rfl rfl)
theorem dL_law_411 : decode cL_law 411 = .ok (.iaload, 1) := dk_46 (dk_at dksL_law_16 5 rfl rfl)
theorem dL_law_412 : decode cL_law 412 = .ok (.aload_n 0, 1) := dk_42 (dk_at dksL_law_16 6 rfl rfl)
theorem dL_law_413 : decode cL_law 413 = .ok (.iload_n 3, 1) := dk_29 (dk_at dksL_law_16 7 rfl rfl)
theorem dL_law_414 : decode cL_law 414 = .ok (.iconst 2, 1) := dk_5 (dk_at dksL_law_16 8 rfl rfl)
theorem dL_law_415 : decode cL_law 415 = .ok (.iadd, 1) := dk_96 (dk_at dksL_law_16 9 rfl rfl)
theorem dL_law_416 : decode cL_law 416 = .ok (.iaload, 1) := dk_46 (dk_at dksL_law_16 10 rfl rfl)
theorem dL_law_417 : decode cL_law 417 = .ok (.invokevirtual 64, 3) := dk_182 0 64 (dk_at dksL_law_16 11 rfl rfl)
theorem dL_law_420 : decode cL_law 420 = .ok (.lcmp, 1) := dk_148 (dk_at dksL_law_16 14 rfl rfl)
theorem dL_law_421 : decode cL_law 421 = .ok (.ifCond .eq 5, 3) := dk_153 0 5 (dk_at dksL_law_16 15 rfl rfl)
theorem dL_law_424 : decode cL_law 424 = .ok (.iconst 0, 1) := dk_3 (dk_at dksL_law_16 18 rfl rfl)
theorem dL_law_425 : decode cL_law 425 = .ok (.ireturn, 1) := dk_172 (dk_at dksL_law_16 19 rfl rfl)
theorem dL_law_426 : decode cL_law 426 = .ok (.iinc 3 6, 3) := dk_132 3 6 (dk_at dksL_law_16 20 rfl rfl)
theorem dL_law_429 : decode cL_law 429 = .ok (.goto (-411), 3) := dk_167 254 101 (dk_at dksL_law_17 0 rfl rfl)
theorem dL_law_432 : decode cL_law 432 = .ok (.iconst 1, 1) := dk_4 (dk_at dksL_law_17 3 rfl rfl)
theorem dL_law_433 : decode cL_law 433 = .ok (.ireturn, 1) := dk_172 (dk_at dksL_law_17 4 rfl rfl)
end
section
/-! PURE PART, no program in sight: bits of ints and longs, and what every method computes -/
def sl32 (a b : Int32) : Int32 := a <<< (b &&& 31)
def su32 (a b : Int32) : Int32 := (a.toUInt32 >>> (b.toUInt32 &&& Int32.toUInt32 31)).toInt32
def sl64 (a : Int64) (b : Int32) : Int64 := a <<< (b.toInt64 &&& 63)
def su64 (a : Int64) (b : Int32) : Int64 := (a.toUInt64 >>> (b.toInt64.toUInt64 &&& Int64.toUInt64 63)).toInt64
def bi (a : Int32) (i : Nat) : Bool := a.toBitVec.getLsbD i
def bl (a : Int64) (i : Nat) : Bool := a.toBitVec.getLsbD i
theorem bi_ext {a b : Int32} (h : ∀ i, i < 32 → bi a i = bi b i) : a = b := Int32.toBitVec_inj.mp (BitVec.eq_of_getLsbD_eq h)
theorem bl_ext {a b : Int64} (h : ∀ i, i < 64 → bl a i = bl b i) : a = b := Int64.toBitVec_inj.mp (BitVec.eq_of_getLsbD_eq h)
theorem bi_and (a b : Int32) (i : Nat) : bi (a &&& b) i = (bi a i && bi b i) := by
  unfold bi; rw [Int32.toBitVec_and, BitVec.getLsbD_and]
theorem bi_or (a b : Int32) (i : Nat) : bi (a ||| b) i = (bi a i || bi b i) := by
  unfold bi; rw [Int32.toBitVec_or, BitVec.getLsbD_or]
theorem bi_xor (a b : Int32) (i : Nat) : bi (a ^^^ b) i = (bi a i ^^ bi b i) := by
  unfold bi; rw [Int32.toBitVec_xor, BitVec.getLsbD_xor]
theorem bl_and (a b : Int64) (i : Nat) : bl (a &&& b) i = (bl a i && bl b i) := by
  unfold bl; rw [Int64.toBitVec_and, BitVec.getLsbD_and]
theorem bl_or (a b : Int64) (i : Nat) : bl (a ||| b) i = (bl a i || bl b i) := by
  unfold bl; rw [Int64.toBitVec_or, BitVec.getLsbD_or]
theorem bl_xor (a b : Int64) (i : Nat) : bl (a ^^^ b) i = (bl a i ^^ bl b i) := by
  unfold bl; rw [Int64.toBitVec_xor, BitVec.getLsbD_xor]
theorem bi_big (a : Int32) {i : Nat} (h : 32 ≤ i) : bi a i = false := BitVec.getLsbD_of_ge _ _ h
theorem bl_big (a : Int64) {i : Nat} (h : 64 ≤ i) : bl a i = false := BitVec.getLsbD_of_ge _ _ h
theorem am_sl32 : ∀ k, k < 32 → ((nI k &&& 31).toBitVec.smod 32).toNat = k := by decide +kernel
theorem am_su32 : ∀ k, k < 32 → (((nI k).toUInt32 &&& Int32.toUInt32 31).toBitVec % 32).toNat = k := by decide +kernel
theorem am_sl64 : ∀ k, k < 64 → (((nI k).toInt64 &&& 63).toBitVec.smod 64).toNat = k := by decide +kernel
theorem am_su64 : ∀ k, k < 64 → (((nI k).toInt64.toUInt64 &&& Int64.toUInt64 63).toBitVec % 64).toNat = k := by decide +kernel
theorem bi_sl (a : Int32) {b : Int32} {k : Nat} (hb : b = nI k) (hk : k < 32) (i : Nat) : bi (sl32 a b) i = (decide (i < 32) && !decide (i < k) && bi a (i - k)) := by
  subst hb
  unfold bi sl32
  rw [Int32.toBitVec_shiftLeft, BitVec.getLsbD_shiftLeft', am_sl32 k hk]
theorem bl_sl (a : Int64) {b : Int32} {k : Nat} (hb : b = nI k) (hk : k < 64) (i : Nat) : bl (sl64 a b) i = (decide (i < 64) && !decide (i < k) && bl a (i - k)) := by
  subst hb
  unfold bl sl64
  rw [Int64.toBitVec_shiftLeft, BitVec.getLsbD_shiftLeft', am_sl64 k hk]
theorem bi_su (a : Int32) {b : Int32} {k : Nat} (hb : b = nI k) (hk : k < 32) (i : Nat) : bi (su32 a b) i = bi a (k + i) := by
  subst hb
  unfold bi su32
  rw [UInt32.toBitVec_toInt32, UInt32.toBitVec_shiftRight, BitVec.ushiftRight_eq', BitVec.getLsbD_ushiftRight, am_su32 k hk]
  rfl
theorem bl_su (a : Int64) {b : Int32} {k : Nat} (hb : b = nI k) (hk : k < 64) (i : Nat) : bl (su64 a b) i = bl a (k + i) := by
  subst hb
  unfold bl su64
  rw [UInt64.toBitVec_toInt64, UInt64.toBitVec_shiftRight, BitVec.ushiftRight_eq', BitVec.getLsbD_ushiftRight, am_su64 k hk]
  rfl
theorem bl_up (a : Int32) {i : Nat} (h : i < 32) : bl a.toInt64 i = bi a i := by
  unfold bl bi
  rw [Int32.toBitVec_toInt64, BitVec.getLsbD_signExtend, if_pos h]
  simp; omega
theorem bi_dn (a : Int64) {i : Nat} (h : i < 32) : bi a.toInt32 i = bl a i := by
  unfold bl bi
  rw [Int64.toBitVec_toInt32, BitVec.getLsbD_signExtend, if_pos (by omega)]
  simp [h]
/-! bit-permute steps -/
def tpI (a m s : Int32) : Int32 := (a ^^^ su32 a s) &&& m
def bpI (a m s : Int32) : Int32 := (tpI a m s ^^^ sl32 (tpI a m s) s) ^^^ a
def tpL (a m : Int64) (s : Int32) : Int64 := (a ^^^ su64 a s) &&& m
def bpL (a m : Int64) (s : Int32) : Int64 := (tpL a m s ^^^ sl64 (tpL a m s) s) ^^^ a
/-- where the bit i comes from in a step by k over the mask m -/
def sgI (m : Int32) (k i : Nat) : Nat := if 32 ≤ i then i else if bi m i then k + i else if k ≤ i ∧ bi m (i - k) = true then i - k else i
def sgL (m : Int64) (k i : Nat) : Nat := if 64 ≤ i then i else if bl m i then k + i else if k ≤ i ∧ bl m (i - k) = true then i - k else i
def okI (m : Int32) (k : Nat) : Prop := ∀ i, i < 32 → ¬ (k ≤ i ∧ bi m i = true ∧ bi m (i - k) = true)
def okL (m : Int64) (k : Nat) : Prop := ∀ i, i < 64 → ¬ (k ≤ i ∧ bl m i = true ∧ bl m (i - k) = true)
theorem bi_step (a : Int32) {m : Int32} {s : Int32} {k : Nat} (hs : s = nI k) (hk : k < 32) (hd : okI m k) (i : Nat) : bi (bpI a m s) i = bi a (sgI m k i) := by
  unfold sgI
  by_cases h1 : 32 ≤ i
  · rw [if_pos h1, bi_big _ h1, bi_big _ h1]
  · rw [if_neg h1]
    have h1 : i < 32 := by omega
    have hd := hd i h1
    unfold bpI tpI
    rw [bi_xor, bi_xor, bi_sl _ hs hk, bi_and, bi_xor, bi_su _ hs hk, bi_and, bi_xor, bi_su _ hs hk, decide_eq_true h1]
    by_cases h2 : k ≤ i
    · rw [show k + (i - k) = i by omega, decide_eq_false (show ¬ i < k by omega)]
      by_cases e1 : bi m i = true
      · have e2 : bi m (i - k) = false := by
          cases e2 : bi m (i - k) with
          | false => rfl
          | true => exact absurd ⟨h2, e1, e2⟩ hd
        rw [if_pos e1, e1, e2]
        generalize bi a i = A
        generalize bi a (k + i) = B
        cases A <;> cases B <;> simp
      · rw [if_neg e1]
        have e1 : bi m i = false := by simpa using e1
        rw [e1]
        by_cases e2 : bi m (i - k) = true
        · rw [if_pos ⟨h2, e2⟩, e2]
          generalize bi a i = A
          generalize bi a (i - k) = B
          generalize bi a (k + i) = C
          cases A <;> cases B <;> cases C <;> rfl
        · rw [if_neg (fun h => e2 h.2)]
          have e2 : bi m (i - k) = false := by simpa using e2
          rw [e2]
          generalize bi a i = A
          generalize bi a (i - k) = B
          generalize bi a (k + i) = C
          cases A <;> cases B <;> cases C <;> rfl
    · rw [decide_eq_true (show i < k by omega), if_neg (show ¬ (k ≤ i ∧ bi m (i - k) = true) from fun h => h2 h.1)]
      by_cases e1 : bi m i = true
      · rw [if_pos e1, e1]
        generalize bi a i = A
        generalize bi a (k + i) = B
        cases A <;> cases B <;> simp
      · rw [if_neg e1]
        have e1 : bi m i = false := by simpa using e1
        rw [e1]
        generalize bi a i = A
        generalize bi a (k + i) = B
        cases A <;> cases B <;> simp
theorem bl_step (a : Int64) {m : Int64} {s : Int32} {k : Nat} (hs : s = nI k) (hk : k < 64) (hd : okL m k) (i : Nat) : bl (bpL a m s) i = bl a (sgL m k i) := by
  unfold sgL
  by_cases h1 : 64 ≤ i
  · rw [if_pos h1, bl_big _ h1, bl_big _ h1]
  · rw [if_neg h1]
    have h1 : i < 64 := by omega
    have hd := hd i h1
    unfold bpL tpL
    rw [bl_xor, bl_xor, bl_sl _ hs hk, bl_and, bl_xor, bl_su _ hs hk, bl_and, bl_xor, bl_su _ hs hk, decide_eq_true h1]
    by_cases h2 : k ≤ i
    · rw [show k + (i - k) = i by omega, decide_eq_false (show ¬ i < k by omega)]
      by_cases e1 : bl m i = true
      · have e2 : bl m (i - k) = false := by
          cases e2 : bl m (i - k) with
          | false => rfl
          | true => exact absurd ⟨h2, e1, e2⟩ hd
        rw [if_pos e1, e1, e2]
        generalize bl a i = A
        generalize bl a (k + i) = B
        cases A <;> cases B <;> simp
      · rw [if_neg e1]
        have e1 : bl m i = false := by simpa using e1
        rw [e1]
        by_cases e2 : bl m (i - k) = true
        · rw [if_pos ⟨h2, e2⟩, e2]
          generalize bl a i = A
          generalize bl a (i - k) = B
          generalize bl a (k + i) = C
          cases A <;> cases B <;> cases C <;> rfl
        · rw [if_neg (fun h => e2 h.2)]
          have e2 : bl m (i - k) = false := by simpa using e2
          rw [e2]
          generalize bl a i = A
          generalize bl a (i - k) = B
          generalize bl a (k + i) = C
          cases A <;> cases B <;> cases C <;> rfl
    · rw [decide_eq_true (show i < k by omega), if_neg (show ¬ (k ≤ i ∧ bl m (i - k) = true) from fun h => h2 h.1)]
      by_cases e1 : bl m i = true
      · rw [if_pos e1, e1]
        generalize bl a i = A
        generalize bl a (k + i) = B
        cases A <;> cases B <;> simp
      · rw [if_neg e1]
        have e1 : bl m i = false := by simpa using e1
        rw [e1]
        generalize bl a i = A
        generalize bl a (k + i) = B
        cases A <;> cases B <;> simp
end
section
/-! PURE PART 2: what the class's methods compute, bit by bit -/
def ob (b : Nat → Bool) (o : Option Nat) : Bool := match o with
  | none => false
  | some j => b j
theorem okI_65280 : okI 65280 8 := by unfold okI; decide +kernel
theorem okI_15728880 : okI 15728880 4 := by unfold okI; decide +kernel
theorem okI_202116108 : okI 202116108 2 := by unfold okI; decide +kernel
theorem okI_572662306 : okI 572662306 1 := by unfold okI; decide +kernel
theorem okI_11141290 : okI 11141290 7 := by unfold okI; decide +kernel
theorem okI_52428 : okI 52428 14 := by unfold okI; decide +kernel
theorem okL_4294901760 : okL 4294901760 16 := by unfold okL; decide +kernel
theorem okL_280375465148160 : okL 280375465148160 8 := by unfold okL; decide +kernel
theorem okL_67555025218437360 : okL 67555025218437360 4 := by unfold okL; decide +kernel
theorem okL_868082074056920076 : okL 868082074056920076 2 := by unfold okL; decide +kernel
theorem okL_2459565876494606882 : okL 2459565876494606882 1 := by unfold okL; decide +kernel
theorem okL_4278255360 : okL 4278255360 24 := by unfold okL; decide +kernel
theorem okL_57421771435671756 : okL 57421771435671756 6 := by unfold okL; decide +kernel
theorem okL_264913582878960 : okL 264913582878960 12 := by unfold okL; decide +kernel
theorem okL_723401728380766730 : okL 723401728380766730 3 := by unfold okL; decide +kernel
theorem okL_47851476196393130 : okL 47851476196393130 7 := by unfold okL; decide +kernel
theorem okL_225176545447116 : okL 225176545447116 14 := by unfold okL; decide +kernel
theorem okL_4042322160 : okL 4042322160 28 := by unfold okL; decide +kernel
def shI (x : Int32) : Int32 := bpI (bpI (bpI (bpI x 65280 8) 15728880 4) 202116108 2) 572662306 1
def shI_g (i : Nat) : Nat := sgI 65280 8 (sgI 15728880 4 (sgI 202116108 2 (sgI 572662306 1 i)))
theorem shI_bit (x : Int32) (i : Nat) : bi (shI x) i = bi x (shI_g i) := by
  unfold shI shI_g
  rw [bi_step _ (s := 1) (k := 1) rfl (by decide) okI_572662306, bi_step _ (s := 2) (k := 2) rfl (by decide) okI_202116108, bi_step _ (s := 4) (k := 4) rfl (by decide) okI_15728880, bi_step _ (s := 8) (k := 8) rfl (by decide) okI_65280]
def usI (x : Int32) : Int32 := bpI (bpI (bpI (bpI x 572662306 1) 202116108 2) 15728880 4) 65280 8
def usI_g (i : Nat) : Nat := sgI 572662306 1 (sgI 202116108 2 (sgI 15728880 4 (sgI 65280 8 i)))
theorem usI_bit (x : Int32) (i : Nat) : bi (usI x) i = bi x (usI_g i) := by
  unfold usI usI_g
  rw [bi_step _ (s := 8) (k := 8) rfl (by decide) okI_65280, bi_step _ (s := 4) (k := 4) rfl (by decide) okI_15728880, bi_step _ (s := 2) (k := 2) rfl (by decide) okI_202116108, bi_step _ (s := 1) (k := 1) rfl (by decide) okI_572662306]
def s2I (x : Int32) : Int32 := bpI (bpI (bpI (bpI x 11141290 7) 52428 14) 15728880 4) 65280 8
def s2I_g (i : Nat) : Nat := sgI 11141290 7 (sgI 52428 14 (sgI 15728880 4 (sgI 65280 8 i)))
theorem s2I_bit (x : Int32) (i : Nat) : bi (s2I x) i = bi x (s2I_g i) := by
  unfold s2I s2I_g
  rw [bi_step _ (s := 8) (k := 8) rfl (by decide) okI_65280, bi_step _ (s := 4) (k := 4) rfl (by decide) okI_15728880, bi_step _ (s := 14) (k := 14) rfl (by decide) okI_52428, bi_step _ (s := 7) (k := 7) rfl (by decide) okI_11141290]
def u2I (x : Int32) : Int32 := bpI (bpI (bpI (bpI x 65280 8) 15728880 4) 52428 14) 11141290 7
def u2I_g (i : Nat) : Nat := sgI 65280 8 (sgI 15728880 4 (sgI 52428 14 (sgI 11141290 7 i)))
theorem u2I_bit (x : Int32) (i : Nat) : bi (u2I x) i = bi x (u2I_g i) := by
  unfold u2I u2I_g
  rw [bi_step _ (s := 7) (k := 7) rfl (by decide) okI_11141290, bi_step _ (s := 14) (k := 14) rfl (by decide) okI_52428, bi_step _ (s := 4) (k := 4) rfl (by decide) okI_15728880, bi_step _ (s := 8) (k := 8) rfl (by decide) okI_65280]
def shL (x : Int64) : Int64 := bpL (bpL (bpL (bpL (bpL x 4294901760 16) 280375465148160 8) 67555025218437360 4) 868082074056920076 2) 2459565876494606882 1
def shL_g (i : Nat) : Nat := sgL 4294901760 16 (sgL 280375465148160 8 (sgL 67555025218437360 4 (sgL 868082074056920076 2 (sgL 2459565876494606882 1 i))))
theorem shL_bit (x : Int64) (i : Nat) : bl (shL x) i = bl x (shL_g i) := by
  unfold shL shL_g
  rw [bl_step _ (s := 1) (k := 1) rfl (by decide) okL_2459565876494606882, bl_step _ (s := 2) (k := 2) rfl (by decide) okL_868082074056920076, bl_step _ (s := 4) (k := 4) rfl (by decide) okL_67555025218437360, bl_step _ (s := 8) (k := 8) rfl (by decide) okL_280375465148160, bl_step _ (s := 16) (k := 16) rfl (by decide) okL_4294901760]
def usL (x : Int64) : Int64 := bpL (bpL (bpL (bpL (bpL x 2459565876494606882 1) 868082074056920076 2) 67555025218437360 4) 280375465148160 8) 4294901760 16
def usL_g (i : Nat) : Nat := sgL 2459565876494606882 1 (sgL 868082074056920076 2 (sgL 67555025218437360 4 (sgL 280375465148160 8 (sgL 4294901760 16 i))))
theorem usL_bit (x : Int64) (i : Nat) : bl (usL x) i = bl x (usL_g i) := by
  unfold usL usL_g
  rw [bl_step _ (s := 16) (k := 16) rfl (by decide) okL_4294901760, bl_step _ (s := 8) (k := 8) rfl (by decide) okL_280375465148160, bl_step _ (s := 4) (k := 4) rfl (by decide) okL_67555025218437360, bl_step _ (s := 2) (k := 2) rfl (by decide) okL_868082074056920076, bl_step _ (s := 1) (k := 1) rfl (by decide) okL_2459565876494606882]
def s2L (x : Int64) : Int64 := bpL (bpL (bpL (bpL x 4278255360 24) 57421771435671756 6) 264913582878960 12) 723401728380766730 3
def s2L_g (i : Nat) : Nat := sgL 4278255360 24 (sgL 57421771435671756 6 (sgL 264913582878960 12 (sgL 723401728380766730 3 i)))
theorem s2L_bit (x : Int64) (i : Nat) : bl (s2L x) i = bl x (s2L_g i) := by
  unfold s2L s2L_g
  rw [bl_step _ (s := 3) (k := 3) rfl (by decide) okL_723401728380766730, bl_step _ (s := 12) (k := 12) rfl (by decide) okL_264913582878960, bl_step _ (s := 6) (k := 6) rfl (by decide) okL_57421771435671756, bl_step _ (s := 24) (k := 24) rfl (by decide) okL_4278255360]
def u2L (x : Int64) : Int64 := bpL (bpL (bpL (bpL x 723401728380766730 3) 264913582878960 12) 57421771435671756 6) 4278255360 24
def u2L_g (i : Nat) : Nat := sgL 723401728380766730 3 (sgL 264913582878960 12 (sgL 57421771435671756 6 (sgL 4278255360 24 i)))
theorem u2L_bit (x : Int64) (i : Nat) : bl (u2L x) i = bl x (u2L_g i) := by
  unfold u2L u2L_g
  rw [bl_step _ (s := 24) (k := 24) rfl (by decide) okL_4278255360, bl_step _ (s := 6) (k := 6) rfl (by decide) okL_57421771435671756, bl_step _ (s := 12) (k := 12) rfl (by decide) okL_264913582878960, bl_step _ (s := 3) (k := 3) rfl (by decide) okL_723401728380766730]
def s3L (x : Int64) : Int64 := bpL (bpL (bpL x 47851476196393130 7) 225176545447116 14) 4042322160 28
def s3L_g (i : Nat) : Nat := sgL 47851476196393130 7 (sgL 225176545447116 14 (sgL 4042322160 28 i))
theorem s3L_bit (x : Int64) (i : Nat) : bl (s3L x) i = bl x (s3L_g i) := by
  unfold s3L s3L_g
  rw [bl_step _ (s := 28) (k := 28) rfl (by decide) okL_4042322160, bl_step _ (s := 14) (k := 14) rfl (by decide) okL_225176545447116, bl_step _ (s := 7) (k := 7) rfl (by decide) okL_47851476196393130]
theorem shI_t : ∀ i, i < 32 → shI_g i = if i % 2 = 0 then i / 2 else 16 + i / 2 := by decide +kernel
theorem usI_t : ∀ i, i < 32 → usI_g i = if i < 16 then 2 * i else 2 * (i - 16) + 1 := by decide +kernel
theorem shL_t : ∀ i, i < 64 → shL_g i = if i % 2 = 0 then i / 2 else 32 + i / 2 := by decide +kernel
theorem usL_t : ∀ i, i < 64 → usL_g i = if i < 32 then 2 * i else 2 * (i - 32) + 1 := by decide +kernel
theorem t2I_t : ∀ i, i < 32 → s2I_g (u2I_g i) = i := by decide +kernel
theorem t2L_t : ∀ i, i < 64 → s2L_g (u2L_g i) = i := by decide +kernel
theorem t3L_t : ∀ i, i < 64 → s3L_g (s3L_g i) = i := by decide +kernel
/-- shuffle2 there and back -/
theorem there_eq (x : Int32) : u2I (s2I x) = x := bi_ext fun i h => by rw [u2I_bit, s2I_bit, t2I_t i h]
theorem longThere_eq (x : Int64) : u2L (s2L x) = x := bl_ext fun i h => by rw [u2L_bit, s2L_bit, t2L_t i h]
theorem thrice_eq (x : Int64) : s3L (s3L x) = x := bl_ext fun i h => by rw [s3L_bit, s3L_bit, t3L_t i h]
/-! the expanding stages -/
def exI (a m s : Int32) : Int32 := (a ||| sl32 a s) &&& m
def exg (m : Int32) (k : Nat) (g : Nat → Option Nat) (i : Nat) : Option Nat := if i < 32 ∧ bi m i = true then (if (g i).isSome = true then g i else if k ≤ i then g (i - k) else none) else none
def exok (m : Int32) (k : Nat) (g : Nat → Option Nat) : Prop := ∀ i, i < 32 → ¬ (bi m i = true ∧ (g i).isSome = true ∧ k ≤ i ∧ (g (i - k)).isSome = true)
theorem ex_bit {b : Nat → Bool} {g : Nat → Option Nat} {a m s : Int32} {k : Nat} (hs : s = nI k) (hk : k < 32) (hg : ∀ i, bi a i = ob b (g i)) (hd : exok m k g) (i : Nat) : bi (exI a m s) i = ob b (exg m k g i) := by
  unfold exI exg
  rw [bi_and, bi_or, bi_sl _ hs hk, hg, hg]
  by_cases h1 : i < 32
  · have hd := hd i h1
    cases e1 : bi m i with
    | false => simp [ob]
    | true =>
      rw [if_pos ⟨h1, rfl⟩, decide_eq_true h1, Bool.and_true, Bool.true_and]
      by_cases h2 : k ≤ i
      · rw [decide_eq_false (show ¬ i < k by omega)]
        cases e2 : g i with
        | none => simp [ob, h2]
        | some j =>
          cases e3 : g (i - k) with
          | none => simp [ob]
          | some q => exact absurd ⟨e1, by rw [e2]; rfl, h2, by rw [e3]; rfl⟩ hd
      · rw [decide_eq_true (show i < k by omega)]
        cases e2 : g i with
        | none => simp [ob, h2]
        | some j => simp [ob]
  · rw [if_neg (fun h => h1 h.1)]
    have : bi m i = false := bi_big _ (by omega)
    rw [this]
    simp [ob]
def mkg (m : Int32) (i : Nat) : Option Nat := if bi m i = true then some i else none
theorem mk_bit (x m : Int32) (i : Nat) : bi (x &&& m) i = ob (bi x) (mkg m i) := by
  unfold mkg
  rw [bi_and]
  cases bi m i <;> simp [ob]
def e8I (x : Int32) : Int32 := exI (exI (exI (x &&& 255) 3855 4) 13107 2) 21845 1
def e16I (x : Int32) : Int32 := exI (exI (exI (exI (x &&& 65535) 16711935 8) 252645135 4) 858993459 2) 1431655765 1
theorem e8_bit (x : Int32) {i : Nat} (h : i < 32) : bi (e8I x) i = ob (bi x) (if i % 2 = 0 ∧ i / 2 < 8 then some (i / 2) else none) := by
  have h1 := ex_bit (m := 3855) (k := 4) (s := 4) rfl (by decide) (mk_bit x 255) (by unfold exok; decide +kernel)
  have h2 := ex_bit (m := 13107) (k := 2) (s := 2) rfl (by decide) h1 (by unfold exok; decide +kernel)
  have h3 := ex_bit (m := 21845) (k := 1) (s := 1) rfl (by decide) h2 (by unfold exok; decide +kernel)
  have t : ∀ i, i < 32 → exg 21845 1 (exg 13107 2 (exg 3855 4 (mkg 255))) i = if i % 2 = 0 ∧ i / 2 < 8 then some (i / 2) else none := by decide +kernel
  rw [← t i h]
  exact h3 i
theorem e16_bit (x : Int32) {i : Nat} (h : i < 32) : bi (e16I x) i = ob (bi x) (if i % 2 = 0 ∧ i / 2 < 16 then some (i / 2) else none) := by
  have h1 := ex_bit (m := 16711935) (k := 8) (s := 8) rfl (by decide) (mk_bit x 65535) (by unfold exok; decide +kernel)
  have h2 := ex_bit (m := 252645135) (k := 4) (s := 4) rfl (by decide) h1 (by unfold exok; decide +kernel)
  have h3 := ex_bit (m := 858993459) (k := 2) (s := 2) rfl (by decide) h2 (by unfold exok; decide +kernel)
  have h4 := ex_bit (m := 1431655765) (k := 1) (s := 1) rfl (by decide) h3 (by unfold exok; decide +kernel)
  have t : ∀ i, i < 32 → exg 1431655765 1 (exg 858993459 2 (exg 252645135 4 (exg 16711935 8 (mkg 65535)))) i = if i % 2 = 0 ∧ i / 2 < 16 then some (i / 2) else none := by decide +kernel
  rw [← t i h]
  exact h4 i
def e32L (x : Int32) : Int64 := sl64 ((su32 (shI x) 1).toInt64 &&& 1431655765) 32 ||| ((shI x).toInt64 &&& 1431655765)
def lo64 (x : Int64) : Int64 := shL x &&& 6148914691236517205
def hi64 (x : Int64) : Int64 := su64 (shL x) 1 &&& 6148914691236517205
def widL (h l : Int32) : Int64 := sl64 h.toInt64 32 ||| (l.toInt64 &&& 4294967295)
end
section
/-! PURE PART 3: what the reference's methods compute, and that both are one -/
def spr (x : Int64) (f : Int32) : Nat → Int64
  | 0 => 0
  | k + 1 => spr x f k ||| sl64 (su64 x (f + nI k) &&& 1) (2 * nI k)
def prt (x : Int64) (h : Int32) : Nat → Int64
  | 0 => 0
  | k + 1 => (prt x h k ||| sl64 (su64 x (2 * nI k) &&& 1) (nI k)) ||| sl64 (su64 x (2 * nI k + 1) &&& 1) (nI k + h)
def weaL (x : Int64) (k : Nat) : Int64 := spr x 0 k ||| sl64 (spr x (nI k) k) 1
theorem nI_dbl (k : Nat) : 2 * nI k = nI (2 * k) := (Int32.ofNat_mul 2 k).symm
theorem bl_zero (i : Nat) : bl 0 i = false := by
  unfold bl
  simp
theorem bl_one (i : Nat) : bl 1 i = decide (i = 0) := by
  unfold bl
  show (1#64).getLsbD i = _
  simp
/-- one bit taken out and laid elsewhere -/
theorem bl_take (x : Int64) {f t : Int32} {F T : Nat} (hf : f = nI F) (ht : t = nI T) (hF : F < 64) (hT : T < 64) (i : Nat) : bl (sl64 (su64 x f &&& 1) t) i = (decide (i = T) && bl x F) := by
  rw [bl_sl _ ht hT, bl_and, bl_su _ hf hF, bl_one]
  by_cases h : i = T
  · subst h
    simp [hT]
  · by_cases h2 : i < T
    · simp [h, h2]
    · have : ¬ i - T = 0 := by omega
      simp [h, this]
theorem bl_spr (x : Int64) {f : Int32} {F : Nat} (hf : f = nI F) (n : Nat) (hn : n ≤ 32) (hF : F + n ≤ 64) (i : Nat) : bl (spr x f n) i = ob (bl x) (if i % 2 = 0 ∧ i / 2 < n then some (F + i / 2) else none) := by
  induction n with
  | zero => rw [spr, bl_zero, if_neg (by omega)]; rfl
  | succ k ih =>
    rw [spr, bl_or, ih (by omega) (by omega), bl_take x (F := F + k) (T := 2 * k) (by rw [hf]; exact nI_add F k) (nI_dbl k) (by omega) (by omega)]
    by_cases h : i = 2 * k
    · rw [if_neg (by omega), if_pos (by omega), decide_eq_true h, show F + i / 2 = F + k by omega]
      simp [ob]
    · rw [decide_eq_false h]
      by_cases h2 : i % 2 = 0 ∧ i / 2 < k
      · rw [if_pos h2, if_pos (by omega)]; simp
      · rw [if_neg h2, if_neg (by omega)]; simp
theorem bl_prt (x : Int64) {h : Int32} {B : Nat} (hh : h = nI B) (hB : B ≤ 32) (n : Nat) (hn : n ≤ B) (i : Nat) : bl (prt x h n) i = ob (bl x) (if i < n then some (2 * i) else if B ≤ i ∧ i < B + n then some (2 * (i - B) + 1) else none) := by
  induction n with
  | zero => rw [prt, bl_zero, if_neg (by omega), if_neg (by omega)]; rfl
  | succ k ih =>
    rw [prt, bl_or, bl_or, ih (by omega), bl_take x (F := 2 * k) (T := k) (nI_dbl k) rfl (by omega) (by omega), bl_take x (F := 2 * k + 1) (T := k + B) (by rw [nI_dbl]; exact nI_1 _) (by rw [hh]; exact nI_add k B) (by omega) (by omega)]
    by_cases h1 : i = k
    · rw [if_neg (by omega), if_neg (by omega), if_pos (by omega), decide_eq_true h1, decide_eq_false (by omega), h1]
      simp [ob]
    · rw [decide_eq_false h1]
      by_cases h2 : i = k + B
      · rw [if_neg (by omega), if_neg (by omega), if_neg (by omega), if_pos (by omega), decide_eq_true h2, show 2 * (i - B) + 1 = 2 * k + 1 by omega]
        simp [ob]
      · rw [decide_eq_false h2]
        by_cases h3 : i < k
        · rw [if_pos h3, if_pos (by omega)]; simp
        · rw [if_neg h3, if_neg (show ¬ i < k + 1 by omega)]
          by_cases h4 : B ≤ i ∧ i < B + k
          · rw [if_pos h4, if_pos (by omega)]; simp
          · rw [if_neg h4, if_neg (by omega)]; simp
theorem ob_if (b : Nat → Bool) (c : Prop) [Decidable c] (j : Nat) : ob b (if c then some j else none) = (decide c && b j) := by
  by_cases h : c
  · rw [if_pos h, decide_eq_true h]; simp [ob]
  · rw [if_neg h, decide_eq_false h]; simp [ob]
theorem bi_255 : ∀ j, j < 8 → bi 255 j = true := by decide +kernel
theorem bi_65535 : ∀ j, j < 16 → bi 65535 j = true := by decide +kernel
theorem bl_m32 : ∀ j, j < 64 → bl 4294967295 j = decide (j < 32) := by decide +kernel
theorem bl_5 : ∀ j, j < 64 → bl 1431655765 j = (decide (j < 32) && decide (j % 2 = 0)) := by decide +kernel
theorem bl_55 : ∀ j, j < 64 → bl 6148914691236517205 j = decide (j % 2 = 0) := by decide +kernel
/-- an int made long, its upper half struck out -/
theorem bl_un (x : Int32) {j : Nat} (h : j < 64) : bl (x.toInt64 &&& 4294967295) j = (decide (j < 32) && bi x j) := by
  rw [bl_and, bl_m32 j h]
  by_cases h2 : j < 32
  · rw [bl_up x h2]; simp [h2]
  · simp [h2]
theorem byteOut_eq (x : Int32) : e8I x = (spr (x &&& 255).toInt64 0 8).toInt32 := bi_ext fun i h => by
  rw [e8_bit x h, bi_dn _ h, bl_spr _ (f := 0) (F := 0) rfl 8 (by decide) (by decide), ob_if, ob_if, Nat.zero_add]
  by_cases c : i % 2 = 0 ∧ i / 2 < 8
  · rw [bl_up _ (by omega), bi_and, bi_255 _ c.2, Bool.and_true]
  · rw [decide_eq_false c]; rfl
theorem halfOut_eq (x : Int32) : e16I x = (spr (x &&& 65535).toInt64 0 16).toInt32 := bi_ext fun i h => by
  rw [e16_bit x h, bi_dn _ h, bl_spr _ (f := 0) (F := 0) rfl 16 (by decide) (by decide), ob_if, ob_if, Nat.zero_add]
  by_cases c : i % 2 = 0 ∧ i / 2 < 16
  · rw [bl_up _ (by omega), bi_and, bi_65535 _ c.2, Bool.and_true]
  · rw [decide_eq_false c]; rfl
theorem wordOut_eq (x : Int32) : e32L x = spr (x.toInt64 &&& 4294967295) 0 32 := bl_ext fun i h => by
  rw [bl_spr _ (f := 0) (F := 0) rfl 32 (by decide) (by decide), ob_if, Nat.zero_add, bl_un _ (by omega)]
  unfold e32L
  rw [bl_or, bl_sl _ (b := 32) (k := 32) rfl (by decide), bl_and, bl_and, bl_5 i h, bl_5 (i - 32) (by omega)]
  by_cases h2 : i < 32
  · rw [bl_up _ h2, shI_bit, shI_t i h2]
    by_cases c : i % 2 = 0
    · rw [if_pos c]
      simp [h2, c, show i / 2 < 32 by omega]
    · simp [h2, c]
  · rw [bl_up _ (show i - 32 < 32 by omega), bi_su _ (b := 1) (k := 1) rfl (by decide)]
    by_cases c : i % 2 = 0
    · rw [shI_bit, shI_t _ (by omega), if_neg (by omega), show 16 + (1 + (i - 32)) / 2 = i / 2 by omega]
      simp [h2, h, c, show i / 2 < 32 by omega, show (i - 32) % 2 = 0 by omega, show i - 32 < 32 by omega]
    · simp [h2, c, show ¬ (i - 32) % 2 = 0 by omega]
theorem lo_eq (x : Int64) : lo64 x = spr x 0 32 := bl_ext fun i h => by
  rw [bl_spr _ (f := 0) (F := 0) rfl 32 (by decide) (by decide), ob_if, Nat.zero_add]
  unfold lo64
  rw [bl_and, bl_55 i h, shL_bit, shL_t i h]
  by_cases c : i % 2 = 0
  · rw [if_pos c]; simp [c, show i / 2 < 32 by omega]
  · simp [c]
theorem hi_eq (x : Int64) : hi64 x = spr x 32 32 := bl_ext fun i h => by
  rw [bl_spr _ (f := 32) (F := 32) rfl 32 (by decide) (by decide), ob_if]
  unfold hi64
  rw [bl_and, bl_55 i h, bl_su _ (b := 1) (k := 1) rfl (by decide), shL_bit]
  by_cases c : i % 2 = 0
  · rw [shL_t _ (by omega), if_neg (by omega), show 32 + (1 + i) / 2 = 32 + i / 2 by omega]; simp [c, show i / 2 < 32 by omega]
  · simp [c]
theorem bl_wea (x : Int64) (k : Nat) (hk : k ≤ 32) {i : Nat} (hi : i < 2 * k) : bl (weaL x k) i = bl x (if i % 2 = 0 then i / 2 else k + i / 2) := by
  unfold weaL
  rw [bl_or, bl_spr _ (f := 0) (F := 0) rfl k hk (by omega), bl_sl _ (b := 1) (k := 1) rfl (by decide), bl_spr _ (f := nI k) (F := k) rfl k hk (by omega), ob_if, ob_if, Nat.zero_add]
  by_cases c : i % 2 = 0
  · rw [if_pos c]
    by_cases h0 : i = 0
    · subst h0; simp [show 0 < k by omega]
    · simp [c, show i / 2 < k by omega, show ¬ (i - 1) % 2 = 0 by omega]
  · rw [if_neg c, show (i - 1) / 2 = i / 2 by omega]
    simp [c, show i / 2 < k by omega, show (i - 1) % 2 = 0 by omega, show ¬ i < 1 by omega, show i < 64 by omega]
theorem shuffle_eq (x : Int32) : shI x = (weaL (x.toInt64 &&& 4294967295) 16).toInt32 := bi_ext fun i h => by
  rw [bi_dn _ h, bl_wea _ 16 (by decide) (by omega), bl_un _ (by split <;> omega), shI_bit, shI_t i h, decide_eq_true (by split <;> omega), Bool.true_and]
theorem longShuffle_eq (x : Int64) : shL x = weaL x 32 := bl_ext fun i h => by
  rw [bl_wea _ 32 (by decide) (by omega), shL_bit, shL_t i h]
theorem ob_prt (b : Nat → Bool) {B i : Nat} (h : i < 2 * B) : ob b (if i < B then some (2 * i) else if B ≤ i ∧ i < B + B then some (2 * (i - B) + 1) else none) = b (if i < B then 2 * i else 2 * (i - B) + 1) := by
  by_cases c : i < B
  · rw [if_pos c, if_pos c]; rfl
  · rw [if_neg c, if_neg c, if_pos (by omega)]; rfl
theorem unshuffle_eq (x : Int32) : usI x = (prt (x.toInt64 &&& 4294967295) 16 16).toInt32 := bi_ext fun i h => by
  rw [bi_dn _ h, bl_prt _ (h := 16) (B := 16) rfl (by decide) 16 (by decide), ob_prt _ (by omega), bl_un _ (by split <;> omega), usI_bit, usI_t i h, decide_eq_true (by split <;> omega), Bool.true_and]
theorem longUnshuffle_eq (x : Int64) : usL x = prt x 32 32 := bl_ext fun i h => by
  rw [bl_prt _ (h := 32) (B := 32) rfl (by decide) 32 (by decide), ob_prt _ (by omega), usL_bit, usL_t i h]
end
section
/-! CONTRACTS 1 (printed by wip gen.py): OwnBits, Interleave (but expand64To128) -/
set_option maxHeartbeats 4000000 in
set_option maxRecDepth 100000 in
theorem metX3_bitPermuteStep (l : Launch) (xa : Int32) (xm : Int32) (xs : Int32) : Met l yX3_bitPermuteStep (ws_ yX3_bitPermuteStep cX3_bitPermuteStep 4 (some .int)) ({ frames := 0, cells := 0, slots := 0, locals := 0 }) (fun v _ => v = ([.int (xa), .int (xm), .int (xs)] : List Value).toArray) (vp_Si (fun r => r = bpI xa xm xs)) 0 0 (fun _ => False) := by
  refine Met.ofW (cc := cX3_bitPermuteStep) (maxL := 4) (ret := (some .int)) (by decide) rfl ?_
  intro p e s m args below meth c s₁ B hml hv
  obtain rfl := hv
  have hx := B.exec
  have hb := B.bytes
  have hr := B.returns
  have hts := atoms_spec (ws := ws_ yX3_bitPermuteStep cX3_bitPermuteStep 4 (some .int)) B.pre
  have hts : ∀ w ∈ lw_all, w.before _ s = true := fun w h => hts w (List.mem_cons_of_mem _ h)
  have hown : s.vm.findClass RX3 = some m.cls := findClass_of_methodNamed B.named
  have hlocks := B.notSynchronized
  have hl := lv_entry ([.int (xa), .int (xm), .int (xs)]) (n := 4) (Nat.le_of_ble_eq_true rfl)
  rw [lg_entry_eq]
  generalize (lg_sl ([.int (xa), .int (xm), .int (xs)]) ++ List.replicate (4 - (lg_sl ([.int (xa), .int (xm), .int (xs)])).length) Slot.unset).toArray = ls at hl ⊢
  have hl : lv_has ls 4 [(0, .int (xa)), (1, .int (xm)), (2, .int (xs))] := hl
  refine lv_iload_n hx hb dX3_bitPermuteStep_0 rfl (lv_at hl 0 rfl) ?_
  refine lv_iload_n hx hb dX3_bitPermuteStep_1 rfl (lv_at hl 0 rfl) ?_
  refine lv_iload_n hx hb dX3_bitPermuteStep_2 rfl (lv_at hl 2 rfl) ?_
  refine lv_iushr (v := (su32 xa xs)) hx hb dX3_bitPermuteStep_3 rfl ?_
  refine lv_ixor hx hb dX3_bitPermuteStep_4 ?_
  refine lv_iload_n hx hb dX3_bitPermuteStep_5 rfl (lv_at hl 1 rfl) ?_
  refine lv_iand hx hb dX3_bitPermuteStep_6 ?_
  refine lv_topi (x := ((xa ^^^ (su32 xa xs)) &&& xm)) (fun z1 ez1 => ?_)
  refine lv_istore_n (lv' := [(3, .int (z1)), (0, .int (xa)), (1, .int (xm)), (2, .int (xs))]) hx hb dX3_bitPermuteStep_7 rfl hl (by decide) rfl (fun ls hl => ?_)
  refine lv_iload_n hx hb dX3_bitPermuteStep_8 rfl (lv_at hl 0 rfl) ?_
  refine lv_iload_n hx hb dX3_bitPermuteStep_9 rfl (lv_at hl 0 rfl) ?_
  refine lv_iload_n hx hb dX3_bitPermuteStep_10 rfl (lv_at hl 3 rfl) ?_
  refine lv_ishl hx hb dX3_bitPermuteStep_11 ?_
  refine lv_ixor hx hb dX3_bitPermuteStep_12 ?_
  refine lv_iload_n hx hb dX3_bitPermuteStep_13 rfl (lv_at hl 1 rfl) ?_
  refine lv_ixor hx hb dX3_bitPermuteStep_14 ?_
  subst ez1
  exact W.iret hx hb hr (fun t ht hW => ⟨_, rfl, rfl, ht⟩) (fun q h => by cases h) dX3_bitPermuteStep_15
set_option maxHeartbeats 4000000 in
set_option maxRecDepth 100000 in
theorem metX3_bitPermuteStep_2 (l : Launch) (xa : Int64) (xm : Int64) (xs : Int32) : Met l yX3_bitPermuteStep_2 (ws_ yX3_bitPermuteStep_2 cX3_bitPermuteStep_2 7 (some .long)) ({ frames := 0, cells := 0, slots := 0, locals := 0 }) (fun v _ => v = ([.long (xa), .long (xm), .int (xs)] : List Value).toArray) (vp_Sl (fun r => r = bpL xa xm xs)) 0 0 (fun _ => False) := by
  refine Met.ofW (cc := cX3_bitPermuteStep_2) (maxL := 7) (ret := (some .long)) (by decide) rfl ?_
  intro p e s m args below meth c s₁ B hml hv
  obtain rfl := hv
  have hx := B.exec
  have hb := B.bytes
  have hr := B.returns
  have hts := atoms_spec (ws := ws_ yX3_bitPermuteStep_2 cX3_bitPermuteStep_2 7 (some .long)) B.pre
  have hts : ∀ w ∈ lw_all, w.before _ s = true := fun w h => hts w (List.mem_cons_of_mem _ h)
  have hown : s.vm.findClass RX3 = some m.cls := findClass_of_methodNamed B.named
  have hlocks := B.notSynchronized
  have hl := lv_entry ([.long (xa), .long (xm), .int (xs)]) (n := 7) (Nat.le_of_ble_eq_true rfl)
  rw [lg_entry_eq]
  generalize (lg_sl ([.long (xa), .long (xm), .int (xs)]) ++ List.replicate (7 - (lg_sl ([.long (xa), .long (xm), .int (xs)])).length) Slot.unset).toArray = ls at hl ⊢
  have hl : lv_has ls 7 [(0, .long (xa)), (2, .long (xm)), (4, .int (xs))] := hl
  refine lv_lload_n hx hb dX3_bitPermuteStep_2_0 rfl (lv_at hl 0 rfl) ?_
  refine lv_lload_n hx hb dX3_bitPermuteStep_2_1 rfl (lv_at hl 0 rfl) ?_
  refine lv_iload hx hb dX3_bitPermuteStep_2_2 (lv_at hl 2 rfl) ?_
  refine lv_lushr (v := (su64 xa xs)) hx hb dX3_bitPermuteStep_2_4 rfl ?_
  refine lv_lxor hx hb dX3_bitPermuteStep_2_5 ?_
  refine lv_lload_n hx hb dX3_bitPermuteStep_2_6 rfl (lv_at hl 1 rfl) ?_
  refine lv_land hx hb dX3_bitPermuteStep_2_7 ?_
  refine lv_topl (x := ((xa ^^^ (su64 xa xs)) &&& xm)) (fun z1 ez1 => ?_)
  refine lv_lstore (lv' := [(5, .long (z1)), (0, .long (xa)), (2, .long (xm)), (4, .int (xs))]) hx hb dX3_bitPermuteStep_2_8 hl (by decide) rfl (fun ls hl => ?_)
  refine lv_lload hx hb dX3_bitPermuteStep_2_10 (lv_at hl 0 rfl) ?_
  refine lv_lload hx hb dX3_bitPermuteStep_2_12 (lv_at hl 0 rfl) ?_
  refine lv_iload hx hb dX3_bitPermuteStep_2_14 (lv_at hl 3 rfl) ?_
  refine lv_lshl (v := (sl64 z1 xs)) hx hb dX3_bitPermuteStep_2_16 rfl ?_
  refine lv_lxor hx hb dX3_bitPermuteStep_2_17 ?_
  refine lv_lload_n hx hb dX3_bitPermuteStep_2_18 rfl (lv_at hl 1 rfl) ?_
  refine lv_lxor hx hb dX3_bitPermuteStep_2_19 ?_
  subst ez1
  exact W.lret hx hb hr (fun t ht hW => ⟨_, rfl, rfl, ht⟩) (fun q h => by cases h) dX3_bitPermuteStep_2_20
set_option maxHeartbeats 4000000 in
set_option maxRecDepth 100000 in
theorem metX2_expand8to16 (l : Launch) (xa : Int32) : Met l yX2_expand8to16 (ws_ yX2_expand8to16 cX2_expand8to16 1 (some .int)) ({ frames := 0, cells := 0, slots := 0, locals := 0 }) (fun v _ => v = ([.int (xa)] : List Value).toArray) (vp_Si (fun r => r = e8I xa)) 0 0 (fun _ => False) := by
  refine Met.ofW (cc := cX2_expand8to16) (maxL := 1) (ret := (some .int)) (by decide) rfl ?_
  intro p e s m args below meth c s₁ B hml hv
  obtain rfl := hv
  have hx := B.exec
  have hb := B.bytes
  have hr := B.returns
  have hts := atoms_spec (ws := ws_ yX2_expand8to16 cX2_expand8to16 1 (some .int)) B.pre
  have hts : ∀ w ∈ lw_all, w.before _ s = true := fun w h => hts w (List.mem_cons_of_mem _ h)
  have hown : s.vm.findClass RX2 = some m.cls := findClass_of_methodNamed B.named
  have hlocks := B.notSynchronized
  have hl := lv_entry ([.int (xa)]) (n := 1) (Nat.le_of_ble_eq_true rfl)
  rw [lg_entry_eq]
  generalize (lg_sl ([.int (xa)]) ++ List.replicate (1 - (lg_sl ([.int (xa)])).length) Slot.unset).toArray = ls at hl ⊢
  have hl : lv_has ls 1 [(0, .int (xa))] := hl
  refine lv_iload_n hx hb dX2_expand8to16_0 rfl (lv_at hl 0 rfl) ?_
  refine lv_sipush (v := 255) hx hb dX2_expand8to16_1 (by decide) ?_
  refine lv_iand hx hb dX2_expand8to16_4 ?_
  refine lv_topi (x := (xa &&& 255)) (fun z1 ez1 => ?_)
  refine lv_istore_n (lv' := [(0, .int (z1))]) hx hb dX2_expand8to16_5 rfl hl (by decide) rfl (fun ls hl => ?_)
  refine lv_iload_n hx hb dX2_expand8to16_6 rfl (lv_at hl 0 rfl) ?_
  refine lv_iload_n hx hb dX2_expand8to16_7 rfl (lv_at hl 0 rfl) ?_
  refine lv_iconst (v := 4) hx hb dX2_expand8to16_8 (by decide) ?_
  refine lv_ishl hx hb dX2_expand8to16_9 ?_
  refine lv_ior hx hb dX2_expand8to16_10 ?_
  refine lv_sipush (v := 3855) hx hb dX2_expand8to16_11 (by decide) ?_
  refine lv_iand hx hb dX2_expand8to16_14 ?_
  refine lv_topi (x := ((z1 ||| (sl32 z1 4)) &&& 3855)) (fun z2 ez2 => ?_)
  refine lv_istore_n (lv' := [(0, .int (z2))]) hx hb dX2_expand8to16_15 rfl hl (by decide) rfl (fun ls hl => ?_)
  refine lv_iload_n hx hb dX2_expand8to16_16 rfl (lv_at hl 0 rfl) ?_
  refine lv_iload_n hx hb dX2_expand8to16_17 rfl (lv_at hl 0 rfl) ?_
  refine lv_iconst (v := 2) hx hb dX2_expand8to16_18 (by decide) ?_
  refine lv_ishl hx hb dX2_expand8to16_19 ?_
  refine lv_ior hx hb dX2_expand8to16_20 ?_
  refine lv_sipush (v := 13107) hx hb dX2_expand8to16_21 (by decide) ?_
  refine lv_iand hx hb dX2_expand8to16_24 ?_
  refine lv_topi (x := ((z2 ||| (sl32 z2 2)) &&& 13107)) (fun z3 ez3 => ?_)
  refine lv_istore_n (lv' := [(0, .int (z3))]) hx hb dX2_expand8to16_25 rfl hl (by decide) rfl (fun ls hl => ?_)
  refine lv_iload_n hx hb dX2_expand8to16_26 rfl (lv_at hl 0 rfl) ?_
  refine lv_iload_n hx hb dX2_expand8to16_27 rfl (lv_at hl 0 rfl) ?_
  refine lv_iconst (v := 1) hx hb dX2_expand8to16_28 (by decide) ?_
  refine lv_ishl hx hb dX2_expand8to16_29 ?_
  refine lv_ior hx hb dX2_expand8to16_30 ?_
  refine lv_sipush (v := 21845) hx hb dX2_expand8to16_31 (by decide) ?_
  refine lv_iand hx hb dX2_expand8to16_34 ?_
  refine lv_topi (x := ((z3 ||| (sl32 z3 1)) &&& 21845)) (fun z4 ez4 => ?_)
  refine lv_istore_n (lv' := [(0, .int (z4))]) hx hb dX2_expand8to16_35 rfl hl (by decide) rfl (fun ls hl => ?_)
  refine lv_iload_n hx hb dX2_expand8to16_36 rfl (lv_at hl 0 rfl) ?_
  subst ez4
  subst ez3
  subst ez2
  subst ez1
  exact W.iret hx hb hr (fun t ht hW => ⟨_, rfl, rfl, ht⟩) (fun q h => by cases h) dX2_expand8to16_37
set_option maxHeartbeats 4000000 in
set_option maxRecDepth 100000 in
theorem metX2_expand16to32 (l : Launch) (xa : Int32) : Met l yX2_expand16to32 (ws_ yX2_expand16to32 cX2_expand16to32 1 (some .int)) ({ frames := 0, cells := 0, slots := 0, locals := 0 }) (fun v _ => v = ([.int (xa)] : List Value).toArray) (vp_Si (fun r => r = e16I xa)) 0 0 (fun _ => False) := by
  refine Met.ofW (cc := cX2_expand16to32) (maxL := 1) (ret := (some .int)) (by decide) rfl ?_
  intro p e s m args below meth c s₁ B hml hv
  obtain rfl := hv
  have hx := B.exec
  have hb := B.bytes
  have hr := B.returns
  have hts := atoms_spec (ws := ws_ yX2_expand16to32 cX2_expand16to32 1 (some .int)) B.pre
  have hts : ∀ w ∈ lw_all, w.before _ s = true := fun w h => hts w (List.mem_cons_of_mem _ h)
  have hown : s.vm.findClass RX2 = some m.cls := findClass_of_methodNamed B.named
  have hlocks := B.notSynchronized
  have hl := lv_entry ([.int (xa)]) (n := 1) (Nat.le_of_ble_eq_true rfl)
  rw [lg_entry_eq]
  generalize (lg_sl ([.int (xa)]) ++ List.replicate (1 - (lg_sl ([.int (xa)])).length) Slot.unset).toArray = ls at hl ⊢
  have hl : lv_has ls 1 [(0, .int (xa))] := hl
  refine lv_iload_n hx hb dX2_expand16to32_0 rfl (lv_at hl 0 rfl) ?_
  refine lv_ldc (v := 65535) hx hb hown (hts _ q32) dX2_expand16to32_1 ?_
  refine lv_iand hx hb dX2_expand16to32_3 ?_
  refine lv_topi (x := (xa &&& 65535)) (fun z1 ez1 => ?_)
  refine lv_istore_n (lv' := [(0, .int (z1))]) hx hb dX2_expand16to32_4 rfl hl (by decide) rfl (fun ls hl => ?_)
  refine lv_iload_n hx hb dX2_expand16to32_5 rfl (lv_at hl 0 rfl) ?_
  refine lv_iload_n hx hb dX2_expand16to32_6 rfl (lv_at hl 0 rfl) ?_
  refine lv_bipush (v := 8) hx hb dX2_expand16to32_7 (by decide) ?_
  refine lv_ishl hx hb dX2_expand16to32_9 ?_
  refine lv_ior hx hb dX2_expand16to32_10 ?_
  refine lv_ldc (v := 16711935) hx hb hown (hts _ q33) dX2_expand16to32_11 ?_
  refine lv_iand hx hb dX2_expand16to32_13 ?_
  refine lv_topi (x := ((z1 ||| (sl32 z1 8)) &&& 16711935)) (fun z2 ez2 => ?_)
  refine lv_istore_n (lv' := [(0, .int (z2))]) hx hb dX2_expand16to32_14 rfl hl (by decide) rfl (fun ls hl => ?_)
  refine lv_iload_n hx hb dX2_expand16to32_15 rfl (lv_at hl 0 rfl) ?_
  refine lv_iload_n hx hb dX2_expand16to32_16 rfl (lv_at hl 0 rfl) ?_
  refine lv_iconst (v := 4) hx hb dX2_expand16to32_17 (by decide) ?_
  refine lv_ishl hx hb dX2_expand16to32_18 ?_
  refine lv_ior hx hb dX2_expand16to32_19 ?_
  refine lv_ldc (v := 252645135) hx hb hown (hts _ q34) dX2_expand16to32_20 ?_
  refine lv_iand hx hb dX2_expand16to32_22 ?_
  refine lv_topi (x := ((z2 ||| (sl32 z2 4)) &&& 252645135)) (fun z3 ez3 => ?_)
  refine lv_istore_n (lv' := [(0, .int (z3))]) hx hb dX2_expand16to32_23 rfl hl (by decide) rfl (fun ls hl => ?_)
  refine lv_iload_n hx hb dX2_expand16to32_24 rfl (lv_at hl 0 rfl) ?_
  refine lv_iload_n hx hb dX2_expand16to32_25 rfl (lv_at hl 0 rfl) ?_
  refine lv_iconst (v := 2) hx hb dX2_expand16to32_26 (by decide) ?_
  refine lv_ishl hx hb dX2_expand16to32_27 ?_
  refine lv_ior hx hb dX2_expand16to32_28 ?_
  refine lv_ldc (v := 858993459) hx hb hown (hts _ q35) dX2_expand16to32_29 ?_
  refine lv_iand hx hb dX2_expand16to32_31 ?_
  refine lv_topi (x := ((z3 ||| (sl32 z3 2)) &&& 858993459)) (fun z4 ez4 => ?_)
  refine lv_istore_n (lv' := [(0, .int (z4))]) hx hb dX2_expand16to32_32 rfl hl (by decide) rfl (fun ls hl => ?_)
  refine lv_iload_n hx hb dX2_expand16to32_33 rfl (lv_at hl 0 rfl) ?_
  refine lv_iload_n hx hb dX2_expand16to32_34 rfl (lv_at hl 0 rfl) ?_
  refine lv_iconst (v := 1) hx hb dX2_expand16to32_35 (by decide) ?_
  refine lv_ishl hx hb dX2_expand16to32_36 ?_
  refine lv_ior hx hb dX2_expand16to32_37 ?_
  refine lv_ldc (v := 1431655765) hx hb hown (hts _ q36) dX2_expand16to32_38 ?_
  refine lv_iand hx hb dX2_expand16to32_40 ?_
  refine lv_topi (x := ((z4 ||| (sl32 z4 1)) &&& 1431655765)) (fun z5 ez5 => ?_)
  refine lv_istore_n (lv' := [(0, .int (z5))]) hx hb dX2_expand16to32_41 rfl hl (by decide) rfl (fun ls hl => ?_)
  refine lv_iload_n hx hb dX2_expand16to32_42 rfl (lv_at hl 0 rfl) ?_
  subst ez5
  subst ez4
  subst ez3
  subst ez2
  subst ez1
  exact W.iret hx hb hr (fun t ht hW => ⟨_, rfl, rfl, ht⟩) (fun q h => by cases h) dX2_expand16to32_43
set_option maxHeartbeats 4000000 in
set_option maxRecDepth 100000 in
theorem metX2_expand32to64 (l : Launch) (xa : Int32) : Met l yX2_expand32to64 (ws_ yX2_expand32to64 cX2_expand32to64 1 (some .long)) ({ frames := 1, cells := 0, slots := 0, locals := 23 }) (fun v _ => v = ([.int (xa)] : List Value).toArray) (vp_Sl (fun r => r = e32L xa)) 0 0 (fun _ => False) := by
  refine Met.ofW (cc := cX2_expand32to64) (maxL := 1) (ret := (some .long)) (by decide) rfl ?_
  intro p e s m args below meth c s₁ B hml hv
  obtain rfl := hv
  have hx := B.exec
  have hb := B.bytes
  have hr := B.returns
  have hts := atoms_spec (ws := ws_ yX2_expand32to64 cX2_expand32to64 1 (some .long)) B.pre
  have hts : ∀ w ∈ lw_all, w.before _ s = true := fun w h => hts w (List.mem_cons_of_mem _ h)
  have hown : s.vm.findClass RX2 = some m.cls := findClass_of_methodNamed B.named
  have hlocks := B.notSynchronized
  have hl := lv_entry ([.int (xa)]) (n := 1) (Nat.le_of_ble_eq_true rfl)
  rw [lg_entry_eq]
  generalize (lg_sl ([.int (xa)]) ++ List.replicate (1 - (lg_sl ([.int (xa)])).length) Slot.unset).toArray = ls at hl ⊢
  have hl : lv_has ls 1 [(0, .int (xa))] := hl
  refine lv_iload_n hx hb dX2_expand32to64_0 rfl (lv_at hl 0 rfl) ?_
  refine lv_ldc (v := 65280) hx hb hown (hts _ q44) dX2_expand32to64_1 ?_
  refine lv_bipush (v := 8) hx hb dX2_expand32to64_3 (by decide) ?_
  refine vp_callSi (W.runS (As := [.int (xa), .int (65280), .int (8)]) (rest := []) ⟨hx, hb, hml, hown, hts⟩ (metX3_bitPermuteStep l (xa) (65280) (8)) (va_cwS 3 hts (lw_S q45 q46 q4 q47) rfl rfl rfl (by decide +kernel) ⟨Nat.le_of_ble_eq_true rfl, Nat.le_of_ble_eq_true rfl⟩) preEq rfl rfl hl.1 rfl (lv_room (Nat.le_of_ble_eq_true rfl)) dX2_expand32to64_5 ⟨Nat.le_of_ble_eq_true rfl, Nat.le_of_ble_eq_true rfl⟩) (fun r1 er1 => ?_)
  have er1 : r1 = bpI (xa) (65280) (8) := er1
  refine lv_istore_n (lv' := [(0, .int (r1))]) hx hb dX2_expand32to64_8 rfl hl (by decide) rfl (fun ls hl => ?_)
  refine lv_iload_n hx hb dX2_expand32to64_9 rfl (lv_at hl 0 rfl) ?_
  refine lv_ldc (v := 15728880) hx hb hown (hts _ q48) dX2_expand32to64_10 ?_
  refine lv_iconst (v := 4) hx hb dX2_expand32to64_12 (by decide) ?_
  refine vp_callSi (W.runS (As := [.int (r1), .int (15728880), .int (4)]) (rest := []) ⟨hx, hb, hml, hown, hts⟩ (metX3_bitPermuteStep l (r1) (15728880) (4)) (va_cwS 3 hts (lw_S q45 q46 q4 q47) rfl rfl rfl (by decide +kernel) ⟨Nat.le_of_ble_eq_true rfl, Nat.le_of_ble_eq_true rfl⟩) preEq rfl rfl hl.1 rfl (lv_room (Nat.le_of_ble_eq_true rfl)) dX2_expand32to64_13 ⟨Nat.le_of_ble_eq_true rfl, Nat.le_of_ble_eq_true rfl⟩) (fun r2 er2 => ?_)
  have er2 : r2 = bpI (r1) (15728880) (4) := er2
  refine lv_istore_n (lv' := [(0, .int (r2))]) hx hb dX2_expand32to64_16 rfl hl (by decide) rfl (fun ls hl => ?_)
  refine lv_iload_n hx hb dX2_expand32to64_17 rfl (lv_at hl 0 rfl) ?_
  refine lv_ldc (v := 202116108) hx hb hown (hts _ q49) dX2_expand32to64_18 ?_
  refine lv_iconst (v := 2) hx hb dX2_expand32to64_20 (by decide) ?_
  refine vp_callSi (W.runS (As := [.int (r2), .int (202116108), .int (2)]) (rest := []) ⟨hx, hb, hml, hown, hts⟩ (metX3_bitPermuteStep l (r2) (202116108) (2)) (va_cwS 3 hts (lw_S q45 q46 q4 q47) rfl rfl rfl (by decide +kernel) ⟨Nat.le_of_ble_eq_true rfl, Nat.le_of_ble_eq_true rfl⟩) preEq rfl rfl hl.1 rfl (lv_room (Nat.le_of_ble_eq_true rfl)) dX2_expand32to64_21 ⟨Nat.le_of_ble_eq_true rfl, Nat.le_of_ble_eq_true rfl⟩) (fun r3 er3 => ?_)
  have er3 : r3 = bpI (r2) (202116108) (2) := er3
  refine lv_istore_n (lv' := [(0, .int (r3))]) hx hb dX2_expand32to64_24 rfl hl (by decide) rfl (fun ls hl => ?_)
  refine lv_iload_n hx hb dX2_expand32to64_25 rfl (lv_at hl 0 rfl) ?_
  refine lv_ldc (v := 572662306) hx hb hown (hts _ q50) dX2_expand32to64_26 ?_
  refine lv_iconst (v := 1) hx hb dX2_expand32to64_28 (by decide) ?_
  refine vp_callSi (W.runS (As := [.int (r3), .int (572662306), .int (1)]) (rest := []) ⟨hx, hb, hml, hown, hts⟩ (metX3_bitPermuteStep l (r3) (572662306) (1)) (va_cwS 3 hts (lw_S q45 q46 q4 q47) rfl rfl rfl (by decide +kernel) ⟨Nat.le_of_ble_eq_true rfl, Nat.le_of_ble_eq_true rfl⟩) preEq rfl rfl hl.1 rfl (lv_room (Nat.le_of_ble_eq_true rfl)) dX2_expand32to64_29 ⟨Nat.le_of_ble_eq_true rfl, Nat.le_of_ble_eq_true rfl⟩) (fun r4 er4 => ?_)
  have er4 : r4 = bpI (r3) (572662306) (1) := er4
  refine lv_istore_n (lv' := [(0, .int (r4))]) hx hb dX2_expand32to64_32 rfl hl (by decide) rfl (fun ls hl => ?_)
  refine lv_iload_n hx hb dX2_expand32to64_33 rfl (lv_at hl 0 rfl) ?_
  refine lv_iconst (v := 1) hx hb dX2_expand32to64_34 (by decide) ?_
  refine lv_iushr (v := (su32 r4 1)) hx hb dX2_expand32to64_35 rfl ?_
  refine lv_i2l (v := (su32 r4 1).toInt64) hx hb dX2_expand32to64_36 rfl ?_
  refine lv_ldc2 (v := 1431655765) hx hb hown (hts _ q51) dX2_expand32to64_37 ?_
  refine lv_land hx hb dX2_expand32to64_40 ?_
  refine lv_bipush (v := 32) hx hb dX2_expand32to64_41 (by decide) ?_
  refine lv_lshl (v := (sl64 ((su32 r4 1).toInt64 &&& 1431655765) 32)) hx hb dX2_expand32to64_43 rfl ?_
  refine lv_iload_n hx hb dX2_expand32to64_44 rfl (lv_at hl 0 rfl) ?_
  refine lv_i2l (v := r4.toInt64) hx hb dX2_expand32to64_45 rfl ?_
  refine lv_ldc2 (v := 1431655765) hx hb hown (hts _ q51) dX2_expand32to64_46 ?_
  refine lv_land hx hb dX2_expand32to64_49 ?_
  refine lv_lor hx hb dX2_expand32to64_50 ?_
  subst er4
  subst er3
  subst er2
  subst er1
  exact W.lret hx hb hr (fun t ht hW => ⟨_, rfl, rfl, ht⟩) (fun q h => by cases h) dX2_expand32to64_51
set_option maxHeartbeats 4000000 in
set_option maxRecDepth 100000 in
theorem metX2_shuffle (l : Launch) (xa : Int32) : Met l yX2_shuffle (ws_ yX2_shuffle cX2_shuffle 1 (some .int)) ({ frames := 1, cells := 0, slots := 0, locals := 23 }) (fun v _ => v = ([.int (xa)] : List Value).toArray) (vp_Si (fun r => r = shI xa)) 0 0 (fun _ => False) := by
  refine Met.ofW (cc := cX2_shuffle) (maxL := 1) (ret := (some .int)) (by decide) rfl ?_
  intro p e s m args below meth c s₁ B hml hv
  obtain rfl := hv
  have hx := B.exec
  have hb := B.bytes
  have hr := B.returns
  have hts := atoms_spec (ws := ws_ yX2_shuffle cX2_shuffle 1 (some .int)) B.pre
  have hts : ∀ w ∈ lw_all, w.before _ s = true := fun w h => hts w (List.mem_cons_of_mem _ h)
  have hown : s.vm.findClass RX2 = some m.cls := findClass_of_methodNamed B.named
  have hlocks := B.notSynchronized
  have hl := lv_entry ([.int (xa)]) (n := 1) (Nat.le_of_ble_eq_true rfl)
  rw [lg_entry_eq]
  generalize (lg_sl ([.int (xa)]) ++ List.replicate (1 - (lg_sl ([.int (xa)])).length) Slot.unset).toArray = ls at hl ⊢
  have hl : lv_has ls 1 [(0, .int (xa))] := hl
  refine lv_iload_n hx hb dX2_shuffle_0 rfl (lv_at hl 0 rfl) ?_
  refine lv_ldc (v := 65280) hx hb hown (hts _ q44) dX2_shuffle_1 ?_
  refine lv_bipush (v := 8) hx hb dX2_shuffle_3 (by decide) ?_
  refine vp_callSi (W.runS (As := [.int (xa), .int (65280), .int (8)]) (rest := []) ⟨hx, hb, hml, hown, hts⟩ (metX3_bitPermuteStep l (xa) (65280) (8)) (va_cwS 3 hts (lw_S q45 q46 q4 q47) rfl rfl rfl (by decide +kernel) ⟨Nat.le_of_ble_eq_true rfl, Nat.le_of_ble_eq_true rfl⟩) preEq rfl rfl hl.1 rfl (lv_room (Nat.le_of_ble_eq_true rfl)) dX2_shuffle_5 ⟨Nat.le_of_ble_eq_true rfl, Nat.le_of_ble_eq_true rfl⟩) (fun r1 er1 => ?_)
  have er1 : r1 = bpI (xa) (65280) (8) := er1
  refine lv_istore_n (lv' := [(0, .int (r1))]) hx hb dX2_shuffle_8 rfl hl (by decide) rfl (fun ls hl => ?_)
  refine lv_iload_n hx hb dX2_shuffle_9 rfl (lv_at hl 0 rfl) ?_
  refine lv_ldc (v := 15728880) hx hb hown (hts _ q48) dX2_shuffle_10 ?_
  refine lv_iconst (v := 4) hx hb dX2_shuffle_12 (by decide) ?_
  refine vp_callSi (W.runS (As := [.int (r1), .int (15728880), .int (4)]) (rest := []) ⟨hx, hb, hml, hown, hts⟩ (metX3_bitPermuteStep l (r1) (15728880) (4)) (va_cwS 3 hts (lw_S q45 q46 q4 q47) rfl rfl rfl (by decide +kernel) ⟨Nat.le_of_ble_eq_true rfl, Nat.le_of_ble_eq_true rfl⟩) preEq rfl rfl hl.1 rfl (lv_room (Nat.le_of_ble_eq_true rfl)) dX2_shuffle_13 ⟨Nat.le_of_ble_eq_true rfl, Nat.le_of_ble_eq_true rfl⟩) (fun r2 er2 => ?_)
  have er2 : r2 = bpI (r1) (15728880) (4) := er2
  refine lv_istore_n (lv' := [(0, .int (r2))]) hx hb dX2_shuffle_16 rfl hl (by decide) rfl (fun ls hl => ?_)
  refine lv_iload_n hx hb dX2_shuffle_17 rfl (lv_at hl 0 rfl) ?_
  refine lv_ldc (v := 202116108) hx hb hown (hts _ q49) dX2_shuffle_18 ?_
  refine lv_iconst (v := 2) hx hb dX2_shuffle_20 (by decide) ?_
  refine vp_callSi (W.runS (As := [.int (r2), .int (202116108), .int (2)]) (rest := []) ⟨hx, hb, hml, hown, hts⟩ (metX3_bitPermuteStep l (r2) (202116108) (2)) (va_cwS 3 hts (lw_S q45 q46 q4 q47) rfl rfl rfl (by decide +kernel) ⟨Nat.le_of_ble_eq_true rfl, Nat.le_of_ble_eq_true rfl⟩) preEq rfl rfl hl.1 rfl (lv_room (Nat.le_of_ble_eq_true rfl)) dX2_shuffle_21 ⟨Nat.le_of_ble_eq_true rfl, Nat.le_of_ble_eq_true rfl⟩) (fun r3 er3 => ?_)
  have er3 : r3 = bpI (r2) (202116108) (2) := er3
  refine lv_istore_n (lv' := [(0, .int (r3))]) hx hb dX2_shuffle_24 rfl hl (by decide) rfl (fun ls hl => ?_)
  refine lv_iload_n hx hb dX2_shuffle_25 rfl (lv_at hl 0 rfl) ?_
  refine lv_ldc (v := 572662306) hx hb hown (hts _ q50) dX2_shuffle_26 ?_
  refine lv_iconst (v := 1) hx hb dX2_shuffle_28 (by decide) ?_
  refine vp_callSi (W.runS (As := [.int (r3), .int (572662306), .int (1)]) (rest := []) ⟨hx, hb, hml, hown, hts⟩ (metX3_bitPermuteStep l (r3) (572662306) (1)) (va_cwS 3 hts (lw_S q45 q46 q4 q47) rfl rfl rfl (by decide +kernel) ⟨Nat.le_of_ble_eq_true rfl, Nat.le_of_ble_eq_true rfl⟩) preEq rfl rfl hl.1 rfl (lv_room (Nat.le_of_ble_eq_true rfl)) dX2_shuffle_29 ⟨Nat.le_of_ble_eq_true rfl, Nat.le_of_ble_eq_true rfl⟩) (fun r4 er4 => ?_)
  have er4 : r4 = bpI (r3) (572662306) (1) := er4
  refine lv_istore_n (lv' := [(0, .int (r4))]) hx hb dX2_shuffle_32 rfl hl (by decide) rfl (fun ls hl => ?_)
  refine lv_iload_n hx hb dX2_shuffle_33 rfl (lv_at hl 0 rfl) ?_
  subst er4
  subst er3
  subst er2
  subst er1
  exact W.iret hx hb hr (fun t ht hW => ⟨_, rfl, rfl, ht⟩) (fun q h => by cases h) dX2_shuffle_34
set_option maxHeartbeats 4000000 in
set_option maxRecDepth 100000 in
theorem metX2_shuffle_2 (l : Launch) (xa : Int64) : Met l yX2_shuffle_2 (ws_ yX2_shuffle_2 cX2_shuffle_2 2 (some .long)) ({ frames := 1, cells := 0, slots := 0, locals := 26 }) (fun v _ => v = ([.long (xa)] : List Value).toArray) (vp_Sl (fun r => r = shL xa)) 0 0 (fun _ => False) := by
  refine Met.ofW (cc := cX2_shuffle_2) (maxL := 2) (ret := (some .long)) (by decide) rfl ?_
  intro p e s m args below meth c s₁ B hml hv
  obtain rfl := hv
  have hx := B.exec
  have hb := B.bytes
  have hr := B.returns
  have hts := atoms_spec (ws := ws_ yX2_shuffle_2 cX2_shuffle_2 2 (some .long)) B.pre
  have hts : ∀ w ∈ lw_all, w.before _ s = true := fun w h => hts w (List.mem_cons_of_mem _ h)
  have hown : s.vm.findClass RX2 = some m.cls := findClass_of_methodNamed B.named
  have hlocks := B.notSynchronized
  have hl := lv_entry ([.long (xa)]) (n := 2) (Nat.le_of_ble_eq_true rfl)
  rw [lg_entry_eq]
  generalize (lg_sl ([.long (xa)]) ++ List.replicate (2 - (lg_sl ([.long (xa)])).length) Slot.unset).toArray = ls at hl ⊢
  have hl : lv_has ls 2 [(0, .long (xa))] := hl
  refine lv_lload_n hx hb dX2_shuffle_2_0 rfl (lv_at hl 0 rfl) ?_
  refine lv_ldc2 (v := 4294901760) hx hb hown (hts _ q63) dX2_shuffle_2_1 ?_
  refine lv_bipush (v := 16) hx hb dX2_shuffle_2_4 (by decide) ?_
  refine vp_callSl (W.runS (As := [.long (xa), .long (4294901760), .int (16)]) (rest := []) ⟨hx, hb, hml, hown, hts⟩ (metX3_bitPermuteStep_2 l (xa) (4294901760) (16)) (va_cwS 3 hts (lw_S q64 q65 q4 q66) rfl rfl rfl (by decide +kernel) ⟨Nat.le_of_ble_eq_true rfl, Nat.le_of_ble_eq_true rfl⟩) preEq rfl rfl hl.1 rfl (lv_room (Nat.le_of_ble_eq_true rfl)) dX2_shuffle_2_6 ⟨Nat.le_of_ble_eq_true rfl, Nat.le_of_ble_eq_true rfl⟩) (fun r1 er1 => ?_)
  have er1 : r1 = bpL (xa) (4294901760) (16) := er1
  refine lv_lstore_n (lv' := [(0, .long (r1))]) hx hb dX2_shuffle_2_9 rfl hl (by decide) rfl (fun ls hl => ?_)
  refine lv_lload_n hx hb dX2_shuffle_2_10 rfl (lv_at hl 0 rfl) ?_
  refine lv_ldc2 (v := 280375465148160) hx hb hown (hts _ q67) dX2_shuffle_2_11 ?_
  refine lv_bipush (v := 8) hx hb dX2_shuffle_2_14 (by decide) ?_
  refine vp_callSl (W.runS (As := [.long (r1), .long (280375465148160), .int (8)]) (rest := []) ⟨hx, hb, hml, hown, hts⟩ (metX3_bitPermuteStep_2 l (r1) (280375465148160) (8)) (va_cwS 3 hts (lw_S q64 q65 q4 q66) rfl rfl rfl (by decide +kernel) ⟨Nat.le_of_ble_eq_true rfl, Nat.le_of_ble_eq_true rfl⟩) preEq rfl rfl hl.1 rfl (lv_room (Nat.le_of_ble_eq_true rfl)) dX2_shuffle_2_16 ⟨Nat.le_of_ble_eq_true rfl, Nat.le_of_ble_eq_true rfl⟩) (fun r2 er2 => ?_)
  have er2 : r2 = bpL (r1) (280375465148160) (8) := er2
  refine lv_lstore_n (lv' := [(0, .long (r2))]) hx hb dX2_shuffle_2_19 rfl hl (by decide) rfl (fun ls hl => ?_)
  refine lv_lload_n hx hb dX2_shuffle_2_20 rfl (lv_at hl 0 rfl) ?_
  refine lv_ldc2 (v := 67555025218437360) hx hb hown (hts _ q68) dX2_shuffle_2_21 ?_
  refine lv_iconst (v := 4) hx hb dX2_shuffle_2_24 (by decide) ?_
  refine vp_callSl (W.runS (As := [.long (r2), .long (67555025218437360), .int (4)]) (rest := []) ⟨hx, hb, hml, hown, hts⟩ (metX3_bitPermuteStep_2 l (r2) (67555025218437360) (4)) (va_cwS 3 hts (lw_S q64 q65 q4 q66) rfl rfl rfl (by decide +kernel) ⟨Nat.le_of_ble_eq_true rfl, Nat.le_of_ble_eq_true rfl⟩) preEq rfl rfl hl.1 rfl (lv_room (Nat.le_of_ble_eq_true rfl)) dX2_shuffle_2_25 ⟨Nat.le_of_ble_eq_true rfl, Nat.le_of_ble_eq_true rfl⟩) (fun r3 er3 => ?_)
  have er3 : r3 = bpL (r2) (67555025218437360) (4) := er3
  refine lv_lstore_n (lv' := [(0, .long (r3))]) hx hb dX2_shuffle_2_28 rfl hl (by decide) rfl (fun ls hl => ?_)
  refine lv_lload_n hx hb dX2_shuffle_2_29 rfl (lv_at hl 0 rfl) ?_
  refine lv_ldc2 (v := 868082074056920076) hx hb hown (hts _ q69) dX2_shuffle_2_30 ?_
  refine lv_iconst (v := 2) hx hb dX2_shuffle_2_33 (by decide) ?_
  refine vp_callSl (W.runS (As := [.long (r3), .long (868082074056920076), .int (2)]) (rest := []) ⟨hx, hb, hml, hown, hts⟩ (metX3_bitPermuteStep_2 l (r3) (868082074056920076) (2)) (va_cwS 3 hts (lw_S q64 q65 q4 q66) rfl rfl rfl (by decide +kernel) ⟨Nat.le_of_ble_eq_true rfl, Nat.le_of_ble_eq_true rfl⟩) preEq rfl rfl hl.1 rfl (lv_room (Nat.le_of_ble_eq_true rfl)) dX2_shuffle_2_34 ⟨Nat.le_of_ble_eq_true rfl, Nat.le_of_ble_eq_true rfl⟩) (fun r4 er4 => ?_)
  have er4 : r4 = bpL (r3) (868082074056920076) (2) := er4
  refine lv_lstore_n (lv' := [(0, .long (r4))]) hx hb dX2_shuffle_2_37 rfl hl (by decide) rfl (fun ls hl => ?_)
  refine lv_lload_n hx hb dX2_shuffle_2_38 rfl (lv_at hl 0 rfl) ?_
  refine lv_ldc2 (v := 2459565876494606882) hx hb hown (hts _ q70) dX2_shuffle_2_39 ?_
  refine lv_iconst (v := 1) hx hb dX2_shuffle_2_42 (by decide) ?_
  refine vp_callSl (W.runS (As := [.long (r4), .long (2459565876494606882), .int (1)]) (rest := []) ⟨hx, hb, hml, hown, hts⟩ (metX3_bitPermuteStep_2 l (r4) (2459565876494606882) (1)) (va_cwS 3 hts (lw_S q64 q65 q4 q66) rfl rfl rfl (by decide +kernel) ⟨Nat.le_of_ble_eq_true rfl, Nat.le_of_ble_eq_true rfl⟩) preEq rfl rfl hl.1 rfl (lv_room (Nat.le_of_ble_eq_true rfl)) dX2_shuffle_2_43 ⟨Nat.le_of_ble_eq_true rfl, Nat.le_of_ble_eq_true rfl⟩) (fun r5 er5 => ?_)
  have er5 : r5 = bpL (r4) (2459565876494606882) (1) := er5
  refine lv_lstore_n (lv' := [(0, .long (r5))]) hx hb dX2_shuffle_2_46 rfl hl (by decide) rfl (fun ls hl => ?_)
  refine lv_lload_n hx hb dX2_shuffle_2_47 rfl (lv_at hl 0 rfl) ?_
  subst er5
  subst er4
  subst er3
  subst er2
  subst er1
  exact W.lret hx hb hr (fun t ht hW => ⟨_, rfl, rfl, ht⟩) (fun q h => by cases h) dX2_shuffle_2_48
set_option maxHeartbeats 4000000 in
set_option maxRecDepth 100000 in
theorem metX2_shuffle2 (l : Launch) (xa : Int32) : Met l yX2_shuffle2 (ws_ yX2_shuffle2 cX2_shuffle2 1 (some .int)) ({ frames := 1, cells := 0, slots := 0, locals := 23 }) (fun v _ => v = ([.int (xa)] : List Value).toArray) (vp_Si (fun r => r = s2I xa)) 0 0 (fun _ => False) := by
  refine Met.ofW (cc := cX2_shuffle2) (maxL := 1) (ret := (some .int)) (by decide) rfl ?_
  intro p e s m args below meth c s₁ B hml hv
  obtain rfl := hv
  have hx := B.exec
  have hb := B.bytes
  have hr := B.returns
  have hts := atoms_spec (ws := ws_ yX2_shuffle2 cX2_shuffle2 1 (some .int)) B.pre
  have hts : ∀ w ∈ lw_all, w.before _ s = true := fun w h => hts w (List.mem_cons_of_mem _ h)
  have hown : s.vm.findClass RX2 = some m.cls := findClass_of_methodNamed B.named
  have hlocks := B.notSynchronized
  have hl := lv_entry ([.int (xa)]) (n := 1) (Nat.le_of_ble_eq_true rfl)
  rw [lg_entry_eq]
  generalize (lg_sl ([.int (xa)]) ++ List.replicate (1 - (lg_sl ([.int (xa)])).length) Slot.unset).toArray = ls at hl ⊢
  have hl : lv_has ls 1 [(0, .int (xa))] := hl
  refine lv_iload_n hx hb dX2_shuffle2_0 rfl (lv_at hl 0 rfl) ?_
  refine lv_ldc (v := 11141290) hx hb hown (hts _ q111) dX2_shuffle2_1 ?_
  refine lv_bipush (v := 7) hx hb dX2_shuffle2_3 (by decide) ?_
  refine vp_callSi (W.runS (As := [.int (xa), .int (11141290), .int (7)]) (rest := []) ⟨hx, hb, hml, hown, hts⟩ (metX3_bitPermuteStep l (xa) (11141290) (7)) (va_cwS 3 hts (lw_S q45 q46 q4 q47) rfl rfl rfl (by decide +kernel) ⟨Nat.le_of_ble_eq_true rfl, Nat.le_of_ble_eq_true rfl⟩) preEq rfl rfl hl.1 rfl (lv_room (Nat.le_of_ble_eq_true rfl)) dX2_shuffle2_5 ⟨Nat.le_of_ble_eq_true rfl, Nat.le_of_ble_eq_true rfl⟩) (fun r1 er1 => ?_)
  have er1 : r1 = bpI (xa) (11141290) (7) := er1
  refine lv_istore_n (lv' := [(0, .int (r1))]) hx hb dX2_shuffle2_8 rfl hl (by decide) rfl (fun ls hl => ?_)
  refine lv_iload_n hx hb dX2_shuffle2_9 rfl (lv_at hl 0 rfl) ?_
  refine lv_ldc (v := 52428) hx hb hown (hts _ q112) dX2_shuffle2_10 ?_
  refine lv_bipush (v := 14) hx hb dX2_shuffle2_12 (by decide) ?_
  refine vp_callSi (W.runS (As := [.int (r1), .int (52428), .int (14)]) (rest := []) ⟨hx, hb, hml, hown, hts⟩ (metX3_bitPermuteStep l (r1) (52428) (14)) (va_cwS 3 hts (lw_S q45 q46 q4 q47) rfl rfl rfl (by decide +kernel) ⟨Nat.le_of_ble_eq_true rfl, Nat.le_of_ble_eq_true rfl⟩) preEq rfl rfl hl.1 rfl (lv_room (Nat.le_of_ble_eq_true rfl)) dX2_shuffle2_14 ⟨Nat.le_of_ble_eq_true rfl, Nat.le_of_ble_eq_true rfl⟩) (fun r2 er2 => ?_)
  have er2 : r2 = bpI (r1) (52428) (14) := er2
  refine lv_istore_n (lv' := [(0, .int (r2))]) hx hb dX2_shuffle2_17 rfl hl (by decide) rfl (fun ls hl => ?_)
  refine lv_iload_n hx hb dX2_shuffle2_18 rfl (lv_at hl 0 rfl) ?_
  refine lv_ldc (v := 15728880) hx hb hown (hts _ q48) dX2_shuffle2_19 ?_
  refine lv_iconst (v := 4) hx hb dX2_shuffle2_21 (by decide) ?_
  refine vp_callSi (W.runS (As := [.int (r2), .int (15728880), .int (4)]) (rest := []) ⟨hx, hb, hml, hown, hts⟩ (metX3_bitPermuteStep l (r2) (15728880) (4)) (va_cwS 3 hts (lw_S q45 q46 q4 q47) rfl rfl rfl (by decide +kernel) ⟨Nat.le_of_ble_eq_true rfl, Nat.le_of_ble_eq_true rfl⟩) preEq rfl rfl hl.1 rfl (lv_room (Nat.le_of_ble_eq_true rfl)) dX2_shuffle2_22 ⟨Nat.le_of_ble_eq_true rfl, Nat.le_of_ble_eq_true rfl⟩) (fun r3 er3 => ?_)
  have er3 : r3 = bpI (r2) (15728880) (4) := er3
  refine lv_istore_n (lv' := [(0, .int (r3))]) hx hb dX2_shuffle2_25 rfl hl (by decide) rfl (fun ls hl => ?_)
  refine lv_iload_n hx hb dX2_shuffle2_26 rfl (lv_at hl 0 rfl) ?_
  refine lv_ldc (v := 65280) hx hb hown (hts _ q44) dX2_shuffle2_27 ?_
  refine lv_bipush (v := 8) hx hb dX2_shuffle2_29 (by decide) ?_
  refine vp_callSi (W.runS (As := [.int (r3), .int (65280), .int (8)]) (rest := []) ⟨hx, hb, hml, hown, hts⟩ (metX3_bitPermuteStep l (r3) (65280) (8)) (va_cwS 3 hts (lw_S q45 q46 q4 q47) rfl rfl rfl (by decide +kernel) ⟨Nat.le_of_ble_eq_true rfl, Nat.le_of_ble_eq_true rfl⟩) preEq rfl rfl hl.1 rfl (lv_room (Nat.le_of_ble_eq_true rfl)) dX2_shuffle2_31 ⟨Nat.le_of_ble_eq_true rfl, Nat.le_of_ble_eq_true rfl⟩) (fun r4 er4 => ?_)
  have er4 : r4 = bpI (r3) (65280) (8) := er4
  refine lv_istore_n (lv' := [(0, .int (r4))]) hx hb dX2_shuffle2_34 rfl hl (by decide) rfl (fun ls hl => ?_)
  refine lv_iload_n hx hb dX2_shuffle2_35 rfl (lv_at hl 0 rfl) ?_
  subst er4
  subst er3
  subst er2
  subst er1
  exact W.iret hx hb hr (fun t ht hW => ⟨_, rfl, rfl, ht⟩) (fun q h => by cases h) dX2_shuffle2_36
set_option maxHeartbeats 4000000 in
set_option maxRecDepth 100000 in
theorem metX2_shuffle2_2 (l : Launch) (xa : Int64) : Met l yX2_shuffle2_2 (ws_ yX2_shuffle2_2 cX2_shuffle2_2 2 (some .long)) ({ frames := 1, cells := 0, slots := 0, locals := 26 }) (fun v _ => v = ([.long (xa)] : List Value).toArray) (vp_Sl (fun r => r = s2L xa)) 0 0 (fun _ => False) := by
  refine Met.ofW (cc := cX2_shuffle2_2) (maxL := 2) (ret := (some .long)) (by decide) rfl ?_
  intro p e s m args below meth c s₁ B hml hv
  obtain rfl := hv
  have hx := B.exec
  have hb := B.bytes
  have hr := B.returns
  have hts := atoms_spec (ws := ws_ yX2_shuffle2_2 cX2_shuffle2_2 2 (some .long)) B.pre
  have hts : ∀ w ∈ lw_all, w.before _ s = true := fun w h => hts w (List.mem_cons_of_mem _ h)
  have hown : s.vm.findClass RX2 = some m.cls := findClass_of_methodNamed B.named
  have hlocks := B.notSynchronized
  have hl := lv_entry ([.long (xa)]) (n := 2) (Nat.le_of_ble_eq_true rfl)
  rw [lg_entry_eq]
  generalize (lg_sl ([.long (xa)]) ++ List.replicate (2 - (lg_sl ([.long (xa)])).length) Slot.unset).toArray = ls at hl ⊢
  have hl : lv_has ls 2 [(0, .long (xa))] := hl
  refine lv_lload_n hx hb dX2_shuffle2_2_0 rfl (lv_at hl 0 rfl) ?_
  refine lv_ldc2 (v := 4278255360) hx hb hown (hts _ q123) dX2_shuffle2_2_1 ?_
  refine lv_bipush (v := 24) hx hb dX2_shuffle2_2_4 (by decide) ?_
  refine vp_callSl (W.runS (As := [.long (xa), .long (4278255360), .int (24)]) (rest := []) ⟨hx, hb, hml, hown, hts⟩ (metX3_bitPermuteStep_2 l (xa) (4278255360) (24)) (va_cwS 3 hts (lw_S q64 q65 q4 q66) rfl rfl rfl (by decide +kernel) ⟨Nat.le_of_ble_eq_true rfl, Nat.le_of_ble_eq_true rfl⟩) preEq rfl rfl hl.1 rfl (lv_room (Nat.le_of_ble_eq_true rfl)) dX2_shuffle2_2_6 ⟨Nat.le_of_ble_eq_true rfl, Nat.le_of_ble_eq_true rfl⟩) (fun r1 er1 => ?_)
  have er1 : r1 = bpL (xa) (4278255360) (24) := er1
  refine lv_lstore_n (lv' := [(0, .long (r1))]) hx hb dX2_shuffle2_2_9 rfl hl (by decide) rfl (fun ls hl => ?_)
  refine lv_lload_n hx hb dX2_shuffle2_2_10 rfl (lv_at hl 0 rfl) ?_
  refine lv_ldc2 (v := 57421771435671756) hx hb hown (hts _ q124) dX2_shuffle2_2_11 ?_
  refine lv_bipush (v := 6) hx hb dX2_shuffle2_2_14 (by decide) ?_
  refine vp_callSl (W.runS (As := [.long (r1), .long (57421771435671756), .int (6)]) (rest := []) ⟨hx, hb, hml, hown, hts⟩ (metX3_bitPermuteStep_2 l (r1) (57421771435671756) (6)) (va_cwS 3 hts (lw_S q64 q65 q4 q66) rfl rfl rfl (by decide +kernel) ⟨Nat.le_of_ble_eq_true rfl, Nat.le_of_ble_eq_true rfl⟩) preEq rfl rfl hl.1 rfl (lv_room (Nat.le_of_ble_eq_true rfl)) dX2_shuffle2_2_16 ⟨Nat.le_of_ble_eq_true rfl, Nat.le_of_ble_eq_true rfl⟩) (fun r2 er2 => ?_)
  have er2 : r2 = bpL (r1) (57421771435671756) (6) := er2
  refine lv_lstore_n (lv' := [(0, .long (r2))]) hx hb dX2_shuffle2_2_19 rfl hl (by decide) rfl (fun ls hl => ?_)
  refine lv_lload_n hx hb dX2_shuffle2_2_20 rfl (lv_at hl 0 rfl) ?_
  refine lv_ldc2 (v := 264913582878960) hx hb hown (hts _ q125) dX2_shuffle2_2_21 ?_
  refine lv_bipush (v := 12) hx hb dX2_shuffle2_2_24 (by decide) ?_
  refine vp_callSl (W.runS (As := [.long (r2), .long (264913582878960), .int (12)]) (rest := []) ⟨hx, hb, hml, hown, hts⟩ (metX3_bitPermuteStep_2 l (r2) (264913582878960) (12)) (va_cwS 3 hts (lw_S q64 q65 q4 q66) rfl rfl rfl (by decide +kernel) ⟨Nat.le_of_ble_eq_true rfl, Nat.le_of_ble_eq_true rfl⟩) preEq rfl rfl hl.1 rfl (lv_room (Nat.le_of_ble_eq_true rfl)) dX2_shuffle2_2_26 ⟨Nat.le_of_ble_eq_true rfl, Nat.le_of_ble_eq_true rfl⟩) (fun r3 er3 => ?_)
  have er3 : r3 = bpL (r2) (264913582878960) (12) := er3
  refine lv_lstore_n (lv' := [(0, .long (r3))]) hx hb dX2_shuffle2_2_29 rfl hl (by decide) rfl (fun ls hl => ?_)
  refine lv_lload_n hx hb dX2_shuffle2_2_30 rfl (lv_at hl 0 rfl) ?_
  refine lv_ldc2 (v := 723401728380766730) hx hb hown (hts _ q126) dX2_shuffle2_2_31 ?_
  refine lv_iconst (v := 3) hx hb dX2_shuffle2_2_34 (by decide) ?_
  refine vp_callSl (W.runS (As := [.long (r3), .long (723401728380766730), .int (3)]) (rest := []) ⟨hx, hb, hml, hown, hts⟩ (metX3_bitPermuteStep_2 l (r3) (723401728380766730) (3)) (va_cwS 3 hts (lw_S q64 q65 q4 q66) rfl rfl rfl (by decide +kernel) ⟨Nat.le_of_ble_eq_true rfl, Nat.le_of_ble_eq_true rfl⟩) preEq rfl rfl hl.1 rfl (lv_room (Nat.le_of_ble_eq_true rfl)) dX2_shuffle2_2_35 ⟨Nat.le_of_ble_eq_true rfl, Nat.le_of_ble_eq_true rfl⟩) (fun r4 er4 => ?_)
  have er4 : r4 = bpL (r3) (723401728380766730) (3) := er4
  refine lv_lstore_n (lv' := [(0, .long (r4))]) hx hb dX2_shuffle2_2_38 rfl hl (by decide) rfl (fun ls hl => ?_)
  refine lv_lload_n hx hb dX2_shuffle2_2_39 rfl (lv_at hl 0 rfl) ?_
  subst er4
  subst er3
  subst er2
  subst er1
  exact W.lret hx hb hr (fun t ht hW => ⟨_, rfl, rfl, ht⟩) (fun q h => by cases h) dX2_shuffle2_2_40
set_option maxHeartbeats 4000000 in
set_option maxRecDepth 100000 in
theorem metX2_shuffle3 (l : Launch) (xa : Int64) : Met l yX2_shuffle3 (ws_ yX2_shuffle3 cX2_shuffle3 2 (some .long)) ({ frames := 1, cells := 0, slots := 0, locals := 26 }) (fun v _ => v = ([.long (xa)] : List Value).toArray) (vp_Sl (fun r => r = s3L xa)) 0 0 (fun _ => False) := by
  refine Met.ofW (cc := cX2_shuffle3) (maxL := 2) (ret := (some .long)) (by decide) rfl ?_
  intro p e s m args below meth c s₁ B hml hv
  obtain rfl := hv
  have hx := B.exec
  have hb := B.bytes
  have hr := B.returns
  have hts := atoms_spec (ws := ws_ yX2_shuffle3 cX2_shuffle3 2 (some .long)) B.pre
  have hts : ∀ w ∈ lw_all, w.before _ s = true := fun w h => hts w (List.mem_cons_of_mem _ h)
  have hown : s.vm.findClass RX2 = some m.cls := findClass_of_methodNamed B.named
  have hlocks := B.notSynchronized
  have hl := lv_entry ([.long (xa)]) (n := 2) (Nat.le_of_ble_eq_true rfl)
  rw [lg_entry_eq]
  generalize (lg_sl ([.long (xa)]) ++ List.replicate (2 - (lg_sl ([.long (xa)])).length) Slot.unset).toArray = ls at hl ⊢
  have hl : lv_has ls 2 [(0, .long (xa))] := hl
  refine lv_lload_n hx hb dX2_shuffle3_0 rfl (lv_at hl 0 rfl) ?_
  refine lv_ldc2 (v := 47851476196393130) hx hb hown (hts _ q137) dX2_shuffle3_1 ?_
  refine lv_bipush (v := 7) hx hb dX2_shuffle3_4 (by decide) ?_
  refine vp_callSl (W.runS (As := [.long (xa), .long (47851476196393130), .int (7)]) (rest := []) ⟨hx, hb, hml, hown, hts⟩ (metX3_bitPermuteStep_2 l (xa) (47851476196393130) (7)) (va_cwS 3 hts (lw_S q64 q65 q4 q66) rfl rfl rfl (by decide +kernel) ⟨Nat.le_of_ble_eq_true rfl, Nat.le_of_ble_eq_true rfl⟩) preEq rfl rfl hl.1 rfl (lv_room (Nat.le_of_ble_eq_true rfl)) dX2_shuffle3_6 ⟨Nat.le_of_ble_eq_true rfl, Nat.le_of_ble_eq_true rfl⟩) (fun r1 er1 => ?_)
  have er1 : r1 = bpL (xa) (47851476196393130) (7) := er1
  refine lv_lstore_n (lv' := [(0, .long (r1))]) hx hb dX2_shuffle3_9 rfl hl (by decide) rfl (fun ls hl => ?_)
  refine lv_lload_n hx hb dX2_shuffle3_10 rfl (lv_at hl 0 rfl) ?_
  refine lv_ldc2 (v := 225176545447116) hx hb hown (hts _ q138) dX2_shuffle3_11 ?_
  refine lv_bipush (v := 14) hx hb dX2_shuffle3_14 (by decide) ?_
  refine vp_callSl (W.runS (As := [.long (r1), .long (225176545447116), .int (14)]) (rest := []) ⟨hx, hb, hml, hown, hts⟩ (metX3_bitPermuteStep_2 l (r1) (225176545447116) (14)) (va_cwS 3 hts (lw_S q64 q65 q4 q66) rfl rfl rfl (by decide +kernel) ⟨Nat.le_of_ble_eq_true rfl, Nat.le_of_ble_eq_true rfl⟩) preEq rfl rfl hl.1 rfl (lv_room (Nat.le_of_ble_eq_true rfl)) dX2_shuffle3_16 ⟨Nat.le_of_ble_eq_true rfl, Nat.le_of_ble_eq_true rfl⟩) (fun r2 er2 => ?_)
  have er2 : r2 = bpL (r1) (225176545447116) (14) := er2
  refine lv_lstore_n (lv' := [(0, .long (r2))]) hx hb dX2_shuffle3_19 rfl hl (by decide) rfl (fun ls hl => ?_)
  refine lv_lload_n hx hb dX2_shuffle3_20 rfl (lv_at hl 0 rfl) ?_
  refine lv_ldc2 (v := 4042322160) hx hb hown (hts _ q139) dX2_shuffle3_21 ?_
  refine lv_bipush (v := 28) hx hb dX2_shuffle3_24 (by decide) ?_
  refine vp_callSl (W.runS (As := [.long (r2), .long (4042322160), .int (28)]) (rest := []) ⟨hx, hb, hml, hown, hts⟩ (metX3_bitPermuteStep_2 l (r2) (4042322160) (28)) (va_cwS 3 hts (lw_S q64 q65 q4 q66) rfl rfl rfl (by decide +kernel) ⟨Nat.le_of_ble_eq_true rfl, Nat.le_of_ble_eq_true rfl⟩) preEq rfl rfl hl.1 rfl (lv_room (Nat.le_of_ble_eq_true rfl)) dX2_shuffle3_26 ⟨Nat.le_of_ble_eq_true rfl, Nat.le_of_ble_eq_true rfl⟩) (fun r3 er3 => ?_)
  have er3 : r3 = bpL (r2) (4042322160) (28) := er3
  refine lv_lstore_n (lv' := [(0, .long (r3))]) hx hb dX2_shuffle3_29 rfl hl (by decide) rfl (fun ls hl => ?_)
  refine lv_lload_n hx hb dX2_shuffle3_30 rfl (lv_at hl 0 rfl) ?_
  subst er3
  subst er2
  subst er1
  exact W.lret hx hb hr (fun t ht hW => ⟨_, rfl, rfl, ht⟩) (fun q h => by cases h) dX2_shuffle3_31
set_option maxHeartbeats 4000000 in
set_option maxRecDepth 100000 in
theorem metX2_unshuffle (l : Launch) (xa : Int32) : Met l yX2_unshuffle (ws_ yX2_unshuffle cX2_unshuffle 1 (some .int)) ({ frames := 1, cells := 0, slots := 0, locals := 23 }) (fun v _ => v = ([.int (xa)] : List Value).toArray) (vp_Si (fun r => r = usI xa)) 0 0 (fun _ => False) := by
  refine Met.ofW (cc := cX2_unshuffle) (maxL := 1) (ret := (some .int)) (by decide) rfl ?_
  intro p e s m args below meth c s₁ B hml hv
  obtain rfl := hv
  have hx := B.exec
  have hb := B.bytes
  have hr := B.returns
  have hts := atoms_spec (ws := ws_ yX2_unshuffle cX2_unshuffle 1 (some .int)) B.pre
  have hts : ∀ w ∈ lw_all, w.before _ s = true := fun w h => hts w (List.mem_cons_of_mem _ h)
  have hown : s.vm.findClass RX2 = some m.cls := findClass_of_methodNamed B.named
  have hlocks := B.notSynchronized
  have hl := lv_entry ([.int (xa)]) (n := 1) (Nat.le_of_ble_eq_true rfl)
  rw [lg_entry_eq]
  generalize (lg_sl ([.int (xa)]) ++ List.replicate (1 - (lg_sl ([.int (xa)])).length) Slot.unset).toArray = ls at hl ⊢
  have hl : lv_has ls 1 [(0, .int (xa))] := hl
  refine lv_iload_n hx hb dX2_unshuffle_0 rfl (lv_at hl 0 rfl) ?_
  refine lv_ldc (v := 572662306) hx hb hown (hts _ q50) dX2_unshuffle_1 ?_
  refine lv_iconst (v := 1) hx hb dX2_unshuffle_3 (by decide) ?_
  refine vp_callSi (W.runS (As := [.int (xa), .int (572662306), .int (1)]) (rest := []) ⟨hx, hb, hml, hown, hts⟩ (metX3_bitPermuteStep l (xa) (572662306) (1)) (va_cwS 3 hts (lw_S q45 q46 q4 q47) rfl rfl rfl (by decide +kernel) ⟨Nat.le_of_ble_eq_true rfl, Nat.le_of_ble_eq_true rfl⟩) preEq rfl rfl hl.1 rfl (lv_room (Nat.le_of_ble_eq_true rfl)) dX2_unshuffle_4 ⟨Nat.le_of_ble_eq_true rfl, Nat.le_of_ble_eq_true rfl⟩) (fun r1 er1 => ?_)
  have er1 : r1 = bpI (xa) (572662306) (1) := er1
  refine lv_istore_n (lv' := [(0, .int (r1))]) hx hb dX2_unshuffle_7 rfl hl (by decide) rfl (fun ls hl => ?_)
  refine lv_iload_n hx hb dX2_unshuffle_8 rfl (lv_at hl 0 rfl) ?_
  refine lv_ldc (v := 202116108) hx hb hown (hts _ q49) dX2_unshuffle_9 ?_
  refine lv_iconst (v := 2) hx hb dX2_unshuffle_11 (by decide) ?_
  refine vp_callSi (W.runS (As := [.int (r1), .int (202116108), .int (2)]) (rest := []) ⟨hx, hb, hml, hown, hts⟩ (metX3_bitPermuteStep l (r1) (202116108) (2)) (va_cwS 3 hts (lw_S q45 q46 q4 q47) rfl rfl rfl (by decide +kernel) ⟨Nat.le_of_ble_eq_true rfl, Nat.le_of_ble_eq_true rfl⟩) preEq rfl rfl hl.1 rfl (lv_room (Nat.le_of_ble_eq_true rfl)) dX2_unshuffle_12 ⟨Nat.le_of_ble_eq_true rfl, Nat.le_of_ble_eq_true rfl⟩) (fun r2 er2 => ?_)
  have er2 : r2 = bpI (r1) (202116108) (2) := er2
  refine lv_istore_n (lv' := [(0, .int (r2))]) hx hb dX2_unshuffle_15 rfl hl (by decide) rfl (fun ls hl => ?_)
  refine lv_iload_n hx hb dX2_unshuffle_16 rfl (lv_at hl 0 rfl) ?_
  refine lv_ldc (v := 15728880) hx hb hown (hts _ q48) dX2_unshuffle_17 ?_
  refine lv_iconst (v := 4) hx hb dX2_unshuffle_19 (by decide) ?_
  refine vp_callSi (W.runS (As := [.int (r2), .int (15728880), .int (4)]) (rest := []) ⟨hx, hb, hml, hown, hts⟩ (metX3_bitPermuteStep l (r2) (15728880) (4)) (va_cwS 3 hts (lw_S q45 q46 q4 q47) rfl rfl rfl (by decide +kernel) ⟨Nat.le_of_ble_eq_true rfl, Nat.le_of_ble_eq_true rfl⟩) preEq rfl rfl hl.1 rfl (lv_room (Nat.le_of_ble_eq_true rfl)) dX2_unshuffle_20 ⟨Nat.le_of_ble_eq_true rfl, Nat.le_of_ble_eq_true rfl⟩) (fun r3 er3 => ?_)
  have er3 : r3 = bpI (r2) (15728880) (4) := er3
  refine lv_istore_n (lv' := [(0, .int (r3))]) hx hb dX2_unshuffle_23 rfl hl (by decide) rfl (fun ls hl => ?_)
  refine lv_iload_n hx hb dX2_unshuffle_24 rfl (lv_at hl 0 rfl) ?_
  refine lv_ldc (v := 65280) hx hb hown (hts _ q44) dX2_unshuffle_25 ?_
  refine lv_bipush (v := 8) hx hb dX2_unshuffle_27 (by decide) ?_
  refine vp_callSi (W.runS (As := [.int (r3), .int (65280), .int (8)]) (rest := []) ⟨hx, hb, hml, hown, hts⟩ (metX3_bitPermuteStep l (r3) (65280) (8)) (va_cwS 3 hts (lw_S q45 q46 q4 q47) rfl rfl rfl (by decide +kernel) ⟨Nat.le_of_ble_eq_true rfl, Nat.le_of_ble_eq_true rfl⟩) preEq rfl rfl hl.1 rfl (lv_room (Nat.le_of_ble_eq_true rfl)) dX2_unshuffle_29 ⟨Nat.le_of_ble_eq_true rfl, Nat.le_of_ble_eq_true rfl⟩) (fun r4 er4 => ?_)
  have er4 : r4 = bpI (r3) (65280) (8) := er4
  refine lv_istore_n (lv' := [(0, .int (r4))]) hx hb dX2_unshuffle_32 rfl hl (by decide) rfl (fun ls hl => ?_)
  refine lv_iload_n hx hb dX2_unshuffle_33 rfl (lv_at hl 0 rfl) ?_
  subst er4
  subst er3
  subst er2
  subst er1
  exact W.iret hx hb hr (fun t ht hW => ⟨_, rfl, rfl, ht⟩) (fun q h => by cases h) dX2_unshuffle_34
set_option maxHeartbeats 4000000 in
set_option maxRecDepth 100000 in
theorem metX2_unshuffle_2 (l : Launch) (xa : Int64) : Met l yX2_unshuffle_2 (ws_ yX2_unshuffle_2 cX2_unshuffle_2 2 (some .long)) ({ frames := 1, cells := 0, slots := 0, locals := 26 }) (fun v _ => v = ([.long (xa)] : List Value).toArray) (vp_Sl (fun r => r = usL xa)) 0 0 (fun _ => False) := by
  refine Met.ofW (cc := cX2_unshuffle_2) (maxL := 2) (ret := (some .long)) (by decide) rfl ?_
  intro p e s m args below meth c s₁ B hml hv
  obtain rfl := hv
  have hx := B.exec
  have hb := B.bytes
  have hr := B.returns
  have hts := atoms_spec (ws := ws_ yX2_unshuffle_2 cX2_unshuffle_2 2 (some .long)) B.pre
  have hts : ∀ w ∈ lw_all, w.before _ s = true := fun w h => hts w (List.mem_cons_of_mem _ h)
  have hown : s.vm.findClass RX2 = some m.cls := findClass_of_methodNamed B.named
  have hlocks := B.notSynchronized
  have hl := lv_entry ([.long (xa)]) (n := 2) (Nat.le_of_ble_eq_true rfl)
  rw [lg_entry_eq]
  generalize (lg_sl ([.long (xa)]) ++ List.replicate (2 - (lg_sl ([.long (xa)])).length) Slot.unset).toArray = ls at hl ⊢
  have hl : lv_has ls 2 [(0, .long (xa))] := hl
  refine lv_lload_n hx hb dX2_unshuffle_2_0 rfl (lv_at hl 0 rfl) ?_
  refine lv_ldc2 (v := 2459565876494606882) hx hb hown (hts _ q70) dX2_unshuffle_2_1 ?_
  refine lv_iconst (v := 1) hx hb dX2_unshuffle_2_4 (by decide) ?_
  refine vp_callSl (W.runS (As := [.long (xa), .long (2459565876494606882), .int (1)]) (rest := []) ⟨hx, hb, hml, hown, hts⟩ (metX3_bitPermuteStep_2 l (xa) (2459565876494606882) (1)) (va_cwS 3 hts (lw_S q64 q65 q4 q66) rfl rfl rfl (by decide +kernel) ⟨Nat.le_of_ble_eq_true rfl, Nat.le_of_ble_eq_true rfl⟩) preEq rfl rfl hl.1 rfl (lv_room (Nat.le_of_ble_eq_true rfl)) dX2_unshuffle_2_5 ⟨Nat.le_of_ble_eq_true rfl, Nat.le_of_ble_eq_true rfl⟩) (fun r1 er1 => ?_)
  have er1 : r1 = bpL (xa) (2459565876494606882) (1) := er1
  refine lv_lstore_n (lv' := [(0, .long (r1))]) hx hb dX2_unshuffle_2_8 rfl hl (by decide) rfl (fun ls hl => ?_)
  refine lv_lload_n hx hb dX2_unshuffle_2_9 rfl (lv_at hl 0 rfl) ?_
  refine lv_ldc2 (v := 868082074056920076) hx hb hown (hts _ q69) dX2_unshuffle_2_10 ?_
  refine lv_iconst (v := 2) hx hb dX2_unshuffle_2_13 (by decide) ?_
  refine vp_callSl (W.runS (As := [.long (r1), .long (868082074056920076), .int (2)]) (rest := []) ⟨hx, hb, hml, hown, hts⟩ (metX3_bitPermuteStep_2 l (r1) (868082074056920076) (2)) (va_cwS 3 hts (lw_S q64 q65 q4 q66) rfl rfl rfl (by decide +kernel) ⟨Nat.le_of_ble_eq_true rfl, Nat.le_of_ble_eq_true rfl⟩) preEq rfl rfl hl.1 rfl (lv_room (Nat.le_of_ble_eq_true rfl)) dX2_unshuffle_2_14 ⟨Nat.le_of_ble_eq_true rfl, Nat.le_of_ble_eq_true rfl⟩) (fun r2 er2 => ?_)
  have er2 : r2 = bpL (r1) (868082074056920076) (2) := er2
  refine lv_lstore_n (lv' := [(0, .long (r2))]) hx hb dX2_unshuffle_2_17 rfl hl (by decide) rfl (fun ls hl => ?_)
  refine lv_lload_n hx hb dX2_unshuffle_2_18 rfl (lv_at hl 0 rfl) ?_
  refine lv_ldc2 (v := 67555025218437360) hx hb hown (hts _ q68) dX2_unshuffle_2_19 ?_
  refine lv_iconst (v := 4) hx hb dX2_unshuffle_2_22 (by decide) ?_
  refine vp_callSl (W.runS (As := [.long (r2), .long (67555025218437360), .int (4)]) (rest := []) ⟨hx, hb, hml, hown, hts⟩ (metX3_bitPermuteStep_2 l (r2) (67555025218437360) (4)) (va_cwS 3 hts (lw_S q64 q65 q4 q66) rfl rfl rfl (by decide +kernel) ⟨Nat.le_of_ble_eq_true rfl, Nat.le_of_ble_eq_true rfl⟩) preEq rfl rfl hl.1 rfl (lv_room (Nat.le_of_ble_eq_true rfl)) dX2_unshuffle_2_23 ⟨Nat.le_of_ble_eq_true rfl, Nat.le_of_ble_eq_true rfl⟩) (fun r3 er3 => ?_)
  have er3 : r3 = bpL (r2) (67555025218437360) (4) := er3
  refine lv_lstore_n (lv' := [(0, .long (r3))]) hx hb dX2_unshuffle_2_26 rfl hl (by decide) rfl (fun ls hl => ?_)
  refine lv_lload_n hx hb dX2_unshuffle_2_27 rfl (lv_at hl 0 rfl) ?_
  refine lv_ldc2 (v := 280375465148160) hx hb hown (hts _ q67) dX2_unshuffle_2_28 ?_
  refine lv_bipush (v := 8) hx hb dX2_unshuffle_2_31 (by decide) ?_
  refine vp_callSl (W.runS (As := [.long (r3), .long (280375465148160), .int (8)]) (rest := []) ⟨hx, hb, hml, hown, hts⟩ (metX3_bitPermuteStep_2 l (r3) (280375465148160) (8)) (va_cwS 3 hts (lw_S q64 q65 q4 q66) rfl rfl rfl (by decide +kernel) ⟨Nat.le_of_ble_eq_true rfl, Nat.le_of_ble_eq_true rfl⟩) preEq rfl rfl hl.1 rfl (lv_room (Nat.le_of_ble_eq_true rfl)) dX2_unshuffle_2_33 ⟨Nat.le_of_ble_eq_true rfl, Nat.le_of_ble_eq_true rfl⟩) (fun r4 er4 => ?_)
  have er4 : r4 = bpL (r3) (280375465148160) (8) := er4
  refine lv_lstore_n (lv' := [(0, .long (r4))]) hx hb dX2_unshuffle_2_36 rfl hl (by decide) rfl (fun ls hl => ?_)
  refine lv_lload_n hx hb dX2_unshuffle_2_37 rfl (lv_at hl 0 rfl) ?_
  refine lv_ldc2 (v := 4294901760) hx hb hown (hts _ q63) dX2_unshuffle_2_38 ?_
  refine lv_bipush (v := 16) hx hb dX2_unshuffle_2_41 (by decide) ?_
  refine vp_callSl (W.runS (As := [.long (r4), .long (4294901760), .int (16)]) (rest := []) ⟨hx, hb, hml, hown, hts⟩ (metX3_bitPermuteStep_2 l (r4) (4294901760) (16)) (va_cwS 3 hts (lw_S q64 q65 q4 q66) rfl rfl rfl (by decide +kernel) ⟨Nat.le_of_ble_eq_true rfl, Nat.le_of_ble_eq_true rfl⟩) preEq rfl rfl hl.1 rfl (lv_room (Nat.le_of_ble_eq_true rfl)) dX2_unshuffle_2_43 ⟨Nat.le_of_ble_eq_true rfl, Nat.le_of_ble_eq_true rfl⟩) (fun r5 er5 => ?_)
  have er5 : r5 = bpL (r4) (4294901760) (16) := er5
  refine lv_lstore_n (lv' := [(0, .long (r5))]) hx hb dX2_unshuffle_2_46 rfl hl (by decide) rfl (fun ls hl => ?_)
  refine lv_lload_n hx hb dX2_unshuffle_2_47 rfl (lv_at hl 0 rfl) ?_
  subst er5
  subst er4
  subst er3
  subst er2
  subst er1
  exact W.lret hx hb hr (fun t ht hW => ⟨_, rfl, rfl, ht⟩) (fun q h => by cases h) dX2_unshuffle_2_48
set_option maxHeartbeats 4000000 in
set_option maxRecDepth 100000 in
theorem metX2_unshuffle2 (l : Launch) (xa : Int32) : Met l yX2_unshuffle2 (ws_ yX2_unshuffle2 cX2_unshuffle2 1 (some .int)) ({ frames := 1, cells := 0, slots := 0, locals := 23 }) (fun v _ => v = ([.int (xa)] : List Value).toArray) (vp_Si (fun r => r = u2I xa)) 0 0 (fun _ => False) := by
  refine Met.ofW (cc := cX2_unshuffle2) (maxL := 1) (ret := (some .int)) (by decide) rfl ?_
  intro p e s m args below meth c s₁ B hml hv
  obtain rfl := hv
  have hx := B.exec
  have hb := B.bytes
  have hr := B.returns
  have hts := atoms_spec (ws := ws_ yX2_unshuffle2 cX2_unshuffle2 1 (some .int)) B.pre
  have hts : ∀ w ∈ lw_all, w.before _ s = true := fun w h => hts w (List.mem_cons_of_mem _ h)
  have hown : s.vm.findClass RX2 = some m.cls := findClass_of_methodNamed B.named
  have hlocks := B.notSynchronized
  have hl := lv_entry ([.int (xa)]) (n := 1) (Nat.le_of_ble_eq_true rfl)
  rw [lg_entry_eq]
  generalize (lg_sl ([.int (xa)]) ++ List.replicate (1 - (lg_sl ([.int (xa)])).length) Slot.unset).toArray = ls at hl ⊢
  have hl : lv_has ls 1 [(0, .int (xa))] := hl
  refine lv_iload_n hx hb dX2_unshuffle2_0 rfl (lv_at hl 0 rfl) ?_
  refine lv_ldc (v := 65280) hx hb hown (hts _ q44) dX2_unshuffle2_1 ?_
  refine lv_bipush (v := 8) hx hb dX2_unshuffle2_3 (by decide) ?_
  refine vp_callSi (W.runS (As := [.int (xa), .int (65280), .int (8)]) (rest := []) ⟨hx, hb, hml, hown, hts⟩ (metX3_bitPermuteStep l (xa) (65280) (8)) (va_cwS 3 hts (lw_S q45 q46 q4 q47) rfl rfl rfl (by decide +kernel) ⟨Nat.le_of_ble_eq_true rfl, Nat.le_of_ble_eq_true rfl⟩) preEq rfl rfl hl.1 rfl (lv_room (Nat.le_of_ble_eq_true rfl)) dX2_unshuffle2_5 ⟨Nat.le_of_ble_eq_true rfl, Nat.le_of_ble_eq_true rfl⟩) (fun r1 er1 => ?_)
  have er1 : r1 = bpI (xa) (65280) (8) := er1
  refine lv_istore_n (lv' := [(0, .int (r1))]) hx hb dX2_unshuffle2_8 rfl hl (by decide) rfl (fun ls hl => ?_)
  refine lv_iload_n hx hb dX2_unshuffle2_9 rfl (lv_at hl 0 rfl) ?_
  refine lv_ldc (v := 15728880) hx hb hown (hts _ q48) dX2_unshuffle2_10 ?_
  refine lv_iconst (v := 4) hx hb dX2_unshuffle2_12 (by decide) ?_
  refine vp_callSi (W.runS (As := [.int (r1), .int (15728880), .int (4)]) (rest := []) ⟨hx, hb, hml, hown, hts⟩ (metX3_bitPermuteStep l (r1) (15728880) (4)) (va_cwS 3 hts (lw_S q45 q46 q4 q47) rfl rfl rfl (by decide +kernel) ⟨Nat.le_of_ble_eq_true rfl, Nat.le_of_ble_eq_true rfl⟩) preEq rfl rfl hl.1 rfl (lv_room (Nat.le_of_ble_eq_true rfl)) dX2_unshuffle2_13 ⟨Nat.le_of_ble_eq_true rfl, Nat.le_of_ble_eq_true rfl⟩) (fun r2 er2 => ?_)
  have er2 : r2 = bpI (r1) (15728880) (4) := er2
  refine lv_istore_n (lv' := [(0, .int (r2))]) hx hb dX2_unshuffle2_16 rfl hl (by decide) rfl (fun ls hl => ?_)
  refine lv_iload_n hx hb dX2_unshuffle2_17 rfl (lv_at hl 0 rfl) ?_
  refine lv_ldc (v := 52428) hx hb hown (hts _ q112) dX2_unshuffle2_18 ?_
  refine lv_bipush (v := 14) hx hb dX2_unshuffle2_20 (by decide) ?_
  refine vp_callSi (W.runS (As := [.int (r2), .int (52428), .int (14)]) (rest := []) ⟨hx, hb, hml, hown, hts⟩ (metX3_bitPermuteStep l (r2) (52428) (14)) (va_cwS 3 hts (lw_S q45 q46 q4 q47) rfl rfl rfl (by decide +kernel) ⟨Nat.le_of_ble_eq_true rfl, Nat.le_of_ble_eq_true rfl⟩) preEq rfl rfl hl.1 rfl (lv_room (Nat.le_of_ble_eq_true rfl)) dX2_unshuffle2_22 ⟨Nat.le_of_ble_eq_true rfl, Nat.le_of_ble_eq_true rfl⟩) (fun r3 er3 => ?_)
  have er3 : r3 = bpI (r2) (52428) (14) := er3
  refine lv_istore_n (lv' := [(0, .int (r3))]) hx hb dX2_unshuffle2_25 rfl hl (by decide) rfl (fun ls hl => ?_)
  refine lv_iload_n hx hb dX2_unshuffle2_26 rfl (lv_at hl 0 rfl) ?_
  refine lv_ldc (v := 11141290) hx hb hown (hts _ q111) dX2_unshuffle2_27 ?_
  refine lv_bipush (v := 7) hx hb dX2_unshuffle2_29 (by decide) ?_
  refine vp_callSi (W.runS (As := [.int (r3), .int (11141290), .int (7)]) (rest := []) ⟨hx, hb, hml, hown, hts⟩ (metX3_bitPermuteStep l (r3) (11141290) (7)) (va_cwS 3 hts (lw_S q45 q46 q4 q47) rfl rfl rfl (by decide +kernel) ⟨Nat.le_of_ble_eq_true rfl, Nat.le_of_ble_eq_true rfl⟩) preEq rfl rfl hl.1 rfl (lv_room (Nat.le_of_ble_eq_true rfl)) dX2_unshuffle2_31 ⟨Nat.le_of_ble_eq_true rfl, Nat.le_of_ble_eq_true rfl⟩) (fun r4 er4 => ?_)
  have er4 : r4 = bpI (r3) (11141290) (7) := er4
  refine lv_istore_n (lv' := [(0, .int (r4))]) hx hb dX2_unshuffle2_34 rfl hl (by decide) rfl (fun ls hl => ?_)
  refine lv_iload_n hx hb dX2_unshuffle2_35 rfl (lv_at hl 0 rfl) ?_
  subst er4
  subst er3
  subst er2
  subst er1
  exact W.iret hx hb hr (fun t ht hW => ⟨_, rfl, rfl, ht⟩) (fun q h => by cases h) dX2_unshuffle2_36
set_option maxHeartbeats 4000000 in
set_option maxRecDepth 100000 in
theorem metX2_unshuffle2_2 (l : Launch) (xa : Int64) : Met l yX2_unshuffle2_2 (ws_ yX2_unshuffle2_2 cX2_unshuffle2_2 2 (some .long)) ({ frames := 1, cells := 0, slots := 0, locals := 26 }) (fun v _ => v = ([.long (xa)] : List Value).toArray) (vp_Sl (fun r => r = u2L xa)) 0 0 (fun _ => False) := by
  refine Met.ofW (cc := cX2_unshuffle2_2) (maxL := 2) (ret := (some .long)) (by decide) rfl ?_
  intro p e s m args below meth c s₁ B hml hv
  obtain rfl := hv
  have hx := B.exec
  have hb := B.bytes
  have hr := B.returns
  have hts := atoms_spec (ws := ws_ yX2_unshuffle2_2 cX2_unshuffle2_2 2 (some .long)) B.pre
  have hts : ∀ w ∈ lw_all, w.before _ s = true := fun w h => hts w (List.mem_cons_of_mem _ h)
  have hown : s.vm.findClass RX2 = some m.cls := findClass_of_methodNamed B.named
  have hlocks := B.notSynchronized
  have hl := lv_entry ([.long (xa)]) (n := 2) (Nat.le_of_ble_eq_true rfl)
  rw [lg_entry_eq]
  generalize (lg_sl ([.long (xa)]) ++ List.replicate (2 - (lg_sl ([.long (xa)])).length) Slot.unset).toArray = ls at hl ⊢
  have hl : lv_has ls 2 [(0, .long (xa))] := hl
  refine lv_lload_n hx hb dX2_unshuffle2_2_0 rfl (lv_at hl 0 rfl) ?_
  refine lv_ldc2 (v := 723401728380766730) hx hb hown (hts _ q126) dX2_unshuffle2_2_1 ?_
  refine lv_iconst (v := 3) hx hb dX2_unshuffle2_2_4 (by decide) ?_
  refine vp_callSl (W.runS (As := [.long (xa), .long (723401728380766730), .int (3)]) (rest := []) ⟨hx, hb, hml, hown, hts⟩ (metX3_bitPermuteStep_2 l (xa) (723401728380766730) (3)) (va_cwS 3 hts (lw_S q64 q65 q4 q66) rfl rfl rfl (by decide +kernel) ⟨Nat.le_of_ble_eq_true rfl, Nat.le_of_ble_eq_true rfl⟩) preEq rfl rfl hl.1 rfl (lv_room (Nat.le_of_ble_eq_true rfl)) dX2_unshuffle2_2_5 ⟨Nat.le_of_ble_eq_true rfl, Nat.le_of_ble_eq_true rfl⟩) (fun r1 er1 => ?_)
  have er1 : r1 = bpL (xa) (723401728380766730) (3) := er1
  refine lv_lstore_n (lv' := [(0, .long (r1))]) hx hb dX2_unshuffle2_2_8 rfl hl (by decide) rfl (fun ls hl => ?_)
  refine lv_lload_n hx hb dX2_unshuffle2_2_9 rfl (lv_at hl 0 rfl) ?_
  refine lv_ldc2 (v := 264913582878960) hx hb hown (hts _ q125) dX2_unshuffle2_2_10 ?_
  refine lv_bipush (v := 12) hx hb dX2_unshuffle2_2_13 (by decide) ?_
  refine vp_callSl (W.runS (As := [.long (r1), .long (264913582878960), .int (12)]) (rest := []) ⟨hx, hb, hml, hown, hts⟩ (metX3_bitPermuteStep_2 l (r1) (264913582878960) (12)) (va_cwS 3 hts (lw_S q64 q65 q4 q66) rfl rfl rfl (by decide +kernel) ⟨Nat.le_of_ble_eq_true rfl, Nat.le_of_ble_eq_true rfl⟩) preEq rfl rfl hl.1 rfl (lv_room (Nat.le_of_ble_eq_true rfl)) dX2_unshuffle2_2_15 ⟨Nat.le_of_ble_eq_true rfl, Nat.le_of_ble_eq_true rfl⟩) (fun r2 er2 => ?_)
  have er2 : r2 = bpL (r1) (264913582878960) (12) := er2
  refine lv_lstore_n (lv' := [(0, .long (r2))]) hx hb dX2_unshuffle2_2_18 rfl hl (by decide) rfl (fun ls hl => ?_)
  refine lv_lload_n hx hb dX2_unshuffle2_2_19 rfl (lv_at hl 0 rfl) ?_
  refine lv_ldc2 (v := 57421771435671756) hx hb hown (hts _ q124) dX2_unshuffle2_2_20 ?_
  refine lv_bipush (v := 6) hx hb dX2_unshuffle2_2_23 (by decide) ?_
  refine vp_callSl (W.runS (As := [.long (r2), .long (57421771435671756), .int (6)]) (rest := []) ⟨hx, hb, hml, hown, hts⟩ (metX3_bitPermuteStep_2 l (r2) (57421771435671756) (6)) (va_cwS 3 hts (lw_S q64 q65 q4 q66) rfl rfl rfl (by decide +kernel) ⟨Nat.le_of_ble_eq_true rfl, Nat.le_of_ble_eq_true rfl⟩) preEq rfl rfl hl.1 rfl (lv_room (Nat.le_of_ble_eq_true rfl)) dX2_unshuffle2_2_25 ⟨Nat.le_of_ble_eq_true rfl, Nat.le_of_ble_eq_true rfl⟩) (fun r3 er3 => ?_)
  have er3 : r3 = bpL (r2) (57421771435671756) (6) := er3
  refine lv_lstore_n (lv' := [(0, .long (r3))]) hx hb dX2_unshuffle2_2_28 rfl hl (by decide) rfl (fun ls hl => ?_)
  refine lv_lload_n hx hb dX2_unshuffle2_2_29 rfl (lv_at hl 0 rfl) ?_
  refine lv_ldc2 (v := 4278255360) hx hb hown (hts _ q123) dX2_unshuffle2_2_30 ?_
  refine lv_bipush (v := 24) hx hb dX2_unshuffle2_2_33 (by decide) ?_
  refine vp_callSl (W.runS (As := [.long (r3), .long (4278255360), .int (24)]) (rest := []) ⟨hx, hb, hml, hown, hts⟩ (metX3_bitPermuteStep_2 l (r3) (4278255360) (24)) (va_cwS 3 hts (lw_S q64 q65 q4 q66) rfl rfl rfl (by decide +kernel) ⟨Nat.le_of_ble_eq_true rfl, Nat.le_of_ble_eq_true rfl⟩) preEq rfl rfl hl.1 rfl (lv_room (Nat.le_of_ble_eq_true rfl)) dX2_unshuffle2_2_35 ⟨Nat.le_of_ble_eq_true rfl, Nat.le_of_ble_eq_true rfl⟩) (fun r4 er4 => ?_)
  have er4 : r4 = bpL (r3) (4278255360) (24) := er4
  refine lv_lstore_n (lv' := [(0, .long (r4))]) hx hb dX2_unshuffle2_2_38 rfl hl (by decide) rfl (fun ls hl => ?_)
  refine lv_lload_n hx hb dX2_unshuffle2_2_39 rfl (lv_at hl 0 rfl) ?_
  subst er4
  subst er3
  subst er2
  subst er1
  exact W.lret hx hb hr (fun t ht hW => ⟨_, rfl, rfl, ht⟩) (fun q h => by cases h) dX2_unshuffle2_2_40
set_option maxHeartbeats 4000000 in
set_option maxRecDepth 100000 in
theorem metX2_unshuffle3 (l : Launch) (xa : Int64) : Met l yX2_unshuffle3 (ws_ yX2_unshuffle3 cX2_unshuffle3 2 (some .long)) ({ frames := 2, cells := 0, slots := 0, locals := 47 }) (fun v _ => v = ([.long (xa)] : List Value).toArray) (vp_Sl (fun r => r = s3L xa)) 0 0 (fun _ => False) := by
  refine Met.ofW (cc := cX2_unshuffle3) (maxL := 2) (ret := (some .long)) (by decide) rfl ?_
  intro p e s m args below meth c s₁ B hml hv
  obtain rfl := hv
  have hx := B.exec
  have hb := B.bytes
  have hr := B.returns
  have hts := atoms_spec (ws := ws_ yX2_unshuffle3 cX2_unshuffle3 2 (some .long)) B.pre
  have hts : ∀ w ∈ lw_all, w.before _ s = true := fun w h => hts w (List.mem_cons_of_mem _ h)
  have hown : s.vm.findClass RX2 = some m.cls := findClass_of_methodNamed B.named
  have hlocks := B.notSynchronized
  have hl := lv_entry ([.long (xa)]) (n := 2) (Nat.le_of_ble_eq_true rfl)
  rw [lg_entry_eq]
  generalize (lg_sl ([.long (xa)]) ++ List.replicate (2 - (lg_sl ([.long (xa)])).length) Slot.unset).toArray = ls at hl ⊢
  have hl : lv_has ls 2 [(0, .long (xa))] := hl
  refine lv_lload_n hx hb dX2_unshuffle3_0 rfl (lv_at hl 0 rfl) ?_
  refine vp_callSl (W.runS (As := [.long (xa)]) (rest := []) ⟨hx, hb, hml, hown, hts⟩ (metX2_shuffle3 l (xa)) (va_cwS 1 hts (lw_S q143 q135 q3 q136) rfl rfl rfl (by decide +kernel) ⟨Nat.le_of_ble_eq_true rfl, Nat.le_of_ble_eq_true rfl⟩) preEq rfl rfl hl.1 rfl (lv_room (Nat.le_of_ble_eq_true rfl)) dX2_unshuffle3_1 ⟨Nat.le_of_ble_eq_true rfl, Nat.le_of_ble_eq_true rfl⟩) (fun r1 er1 => ?_)
  have er1 : r1 = s3L (xa) := er1
  subst er1
  exact W.lret hx hb hr (fun t ht hW => ⟨_, rfl, rfl, ht⟩) (fun q h => by cases h) dX2_unshuffle3_4
end
section
/-! CONTRACTS 2 (printed by wip gen.py): BitWeave (but the constructor, longOut, pair) -/
set_option maxHeartbeats 4000000 in
set_option maxRecDepth 100000 in
theorem metX0_wide (l : Launch) (xh : Int32) (xl : Int32) : Met l yX0_wide (ws_ yX0_wide cX0_wide 2 (some .long)) ({ frames := 0, cells := 0, slots := 0, locals := 0 }) (fun v _ => v = ([.int (xh), .int (xl)] : List Value).toArray) (vp_Sl (fun r => r = widL xh xl)) 0 0 (fun _ => False) := by
  refine Met.ofW (cc := cX0_wide) (maxL := 2) (ret := (some .long)) (by decide) rfl ?_
  intro p e s m args below meth c s₁ B hml hv
  obtain rfl := hv
  have hx := B.exec
  have hb := B.bytes
  have hr := B.returns
  have hts := atoms_spec (ws := ws_ yX0_wide cX0_wide 2 (some .long)) B.pre
  have hts : ∀ w ∈ lw_all, w.before _ s = true := fun w h => hts w (List.mem_cons_of_mem _ h)
  have hown : s.vm.findClass RX0 = some m.cls := findClass_of_methodNamed B.named
  have hlocks := B.notSynchronized
  have hl := lv_entry ([.int (xh), .int (xl)]) (n := 2) (Nat.le_of_ble_eq_true rfl)
  rw [lg_entry_eq]
  generalize (lg_sl ([.int (xh), .int (xl)]) ++ List.replicate (2 - (lg_sl ([.int (xh), .int (xl)])).length) Slot.unset).toArray = ls at hl ⊢
  have hl : lv_has ls 2 [(0, .int (xh)), (1, .int (xl))] := hl
  refine lv_iload_n hx hb dX0_wide_0 rfl (lv_at hl 0 rfl) ?_
  refine lv_i2l (v := xh.toInt64) hx hb dX0_wide_1 rfl ?_
  refine lv_bipush (v := 32) hx hb dX0_wide_2 (by decide) ?_
  refine lv_lshl (v := (sl64 xh.toInt64 32)) hx hb dX0_wide_4 rfl ?_
  refine lv_iload_n hx hb dX0_wide_5 rfl (lv_at hl 1 rfl) ?_
  refine lv_i2l (v := xl.toInt64) hx hb dX0_wide_6 rfl ?_
  refine lv_ldc2 (v := 4294967295) hx hb hown (hts _ q59) dX0_wide_7 ?_
  refine lv_land hx hb dX0_wide_10 ?_
  refine lv_lor hx hb dX0_wide_11 ?_
  exact W.lret hx hb hr (fun t ht hW => ⟨_, rfl, rfl, ht⟩) (fun q h => by cases h) dX0_wide_12
set_option maxHeartbeats 4000000 in
set_option maxRecDepth 100000 in
theorem metX0_byteOut (l : Launch) (h0 : Nat) (xa : Int32) : Met l yX0_byteOut (ws_ yX0_byteOut cX0_byteOut 2 (some .int)) ({ frames := 1, cells := 0, slots := 0, locals := 20 }) (fun v _ => v = ([.ref (h0), .int (xa)] : List Value).toArray) (vp_Si (fun r => r = e8I xa)) 0 0 (fun _ => False) := by
  refine Met.ofW (cc := cX0_byteOut) (maxL := 2) (ret := (some .int)) (by decide) rfl ?_
  intro p e s m args below meth c s₁ B hml hv
  obtain rfl := hv
  have hx := B.exec
  have hb := B.bytes
  have hr := B.returns
  have hts := atoms_spec (ws := ws_ yX0_byteOut cX0_byteOut 2 (some .int)) B.pre
  have hts : ∀ w ∈ lw_all, w.before _ s = true := fun w h => hts w (List.mem_cons_of_mem _ h)
  have hown : s.vm.findClass RX0 = some m.cls := findClass_of_methodNamed B.named
  have hlocks := B.notSynchronized
  have hl := lv_entry ([.ref (h0), .int (xa)]) (n := 2) (Nat.le_of_ble_eq_true rfl)
  rw [lg_entry_eq]
  generalize (lg_sl ([.ref (h0), .int (xa)]) ++ List.replicate (2 - (lg_sl ([.ref (h0), .int (xa)])).length) Slot.unset).toArray = ls at hl ⊢
  have hl : lv_has ls 2 [(0, .ref (h0)), (1, .int (xa))] := hl
  refine lv_iload_n hx hb dX0_byteOut_0 rfl (lv_at hl 1 rfl) ?_
  refine vp_callSi (W.runS (As := [.int (xa)]) (rest := []) ⟨hx, hb, hml, hown, hts⟩ (metX2_expand8to16 l (xa)) (va_cwS 1 hts (lw_S q22 q23 q3 q24) rfl rfl rfl (by decide +kernel) ⟨Nat.le_of_ble_eq_true rfl, Nat.le_of_ble_eq_true rfl⟩) preEq rfl rfl hl.1 rfl (lv_room (Nat.le_of_ble_eq_true rfl)) dX0_byteOut_1 ⟨Nat.le_of_ble_eq_true rfl, Nat.le_of_ble_eq_true rfl⟩) (fun r1 er1 => ?_)
  have er1 : r1 = e8I (xa) := er1
  subst er1
  exact W.iret hx hb hr (fun t ht hW => ⟨_, rfl, rfl, ht⟩) (fun q h => by cases h) dX0_byteOut_4
set_option maxHeartbeats 4000000 in
set_option maxRecDepth 100000 in
theorem metX0_halfOut (l : Launch) (h0 : Nat) (xa : Int32) : Met l yX0_halfOut (ws_ yX0_halfOut cX0_halfOut 2 (some .int)) ({ frames := 1, cells := 0, slots := 0, locals := 20 }) (fun v _ => v = ([.ref (h0), .int (xa)] : List Value).toArray) (vp_Si (fun r => r = e16I xa)) 0 0 (fun _ => False) := by
  refine Met.ofW (cc := cX0_halfOut) (maxL := 2) (ret := (some .int)) (by decide) rfl ?_
  intro p e s m args below meth c s₁ B hml hv
  obtain rfl := hv
  have hx := B.exec
  have hb := B.bytes
  have hr := B.returns
  have hts := atoms_spec (ws := ws_ yX0_halfOut cX0_halfOut 2 (some .int)) B.pre
  have hts : ∀ w ∈ lw_all, w.before _ s = true := fun w h => hts w (List.mem_cons_of_mem _ h)
  have hown : s.vm.findClass RX0 = some m.cls := findClass_of_methodNamed B.named
  have hlocks := B.notSynchronized
  have hl := lv_entry ([.ref (h0), .int (xa)]) (n := 2) (Nat.le_of_ble_eq_true rfl)
  rw [lg_entry_eq]
  generalize (lg_sl ([.ref (h0), .int (xa)]) ++ List.replicate (2 - (lg_sl ([.ref (h0), .int (xa)])).length) Slot.unset).toArray = ls at hl ⊢
  have hl : lv_has ls 2 [(0, .ref (h0)), (1, .int (xa))] := hl
  refine lv_iload_n hx hb dX0_halfOut_0 rfl (lv_at hl 1 rfl) ?_
  refine vp_callSi (W.runS (As := [.int (xa)]) (rest := []) ⟨hx, hb, hml, hown, hts⟩ (metX2_expand16to32 l (xa)) (va_cwS 1 hts (lw_S q29 q30 q3 q31) rfl rfl rfl (by decide +kernel) ⟨Nat.le_of_ble_eq_true rfl, Nat.le_of_ble_eq_true rfl⟩) preEq rfl rfl hl.1 rfl (lv_room (Nat.le_of_ble_eq_true rfl)) dX0_halfOut_1 ⟨Nat.le_of_ble_eq_true rfl, Nat.le_of_ble_eq_true rfl⟩) (fun r1 er1 => ?_)
  have er1 : r1 = e16I (xa) := er1
  subst er1
  exact W.iret hx hb hr (fun t ht hW => ⟨_, rfl, rfl, ht⟩) (fun q h => by cases h) dX0_halfOut_4
set_option maxHeartbeats 4000000 in
set_option maxRecDepth 100000 in
theorem metX0_shuffle (l : Launch) (h0 : Nat) (xa : Int32) : Met l yX0_shuffle (ws_ yX0_shuffle cX0_shuffle 2 (some .int)) ({ frames := 2, cells := 0, slots := 0, locals := 43 }) (fun v _ => v = ([.ref (h0), .int (xa)] : List Value).toArray) (vp_Si (fun r => r = shI xa)) 0 0 (fun _ => False) := by
  refine Met.ofW (cc := cX0_shuffle) (maxL := 2) (ret := (some .int)) (by decide) rfl ?_
  intro p e s m args below meth c s₁ B hml hv
  obtain rfl := hv
  have hx := B.exec
  have hb := B.bytes
  have hr := B.returns
  have hts := atoms_spec (ws := ws_ yX0_shuffle cX0_shuffle 2 (some .int)) B.pre
  have hts : ∀ w ∈ lw_all, w.before _ s = true := fun w h => hts w (List.mem_cons_of_mem _ h)
  have hown : s.vm.findClass RX0 = some m.cls := findClass_of_methodNamed B.named
  have hlocks := B.notSynchronized
  have hl := lv_entry ([.ref (h0), .int (xa)]) (n := 2) (Nat.le_of_ble_eq_true rfl)
  rw [lg_entry_eq]
  generalize (lg_sl ([.ref (h0), .int (xa)]) ++ List.replicate (2 - (lg_sl ([.ref (h0), .int (xa)])).length) Slot.unset).toArray = ls at hl ⊢
  have hl : lv_has ls 2 [(0, .ref (h0)), (1, .int (xa))] := hl
  refine lv_iload_n hx hb dX0_shuffle_0 rfl (lv_at hl 1 rfl) ?_
  refine vp_callSi (W.runS (As := [.int (xa)]) (rest := []) ⟨hx, hb, hml, hown, hts⟩ (metX2_shuffle l (xa)) (va_cwS 1 hts (lw_S q80 q81 q3 q82) rfl rfl rfl (by decide +kernel) ⟨Nat.le_of_ble_eq_true rfl, Nat.le_of_ble_eq_true rfl⟩) preEq rfl rfl hl.1 rfl (lv_room (Nat.le_of_ble_eq_true rfl)) dX0_shuffle_1 ⟨Nat.le_of_ble_eq_true rfl, Nat.le_of_ble_eq_true rfl⟩) (fun r1 er1 => ?_)
  have er1 : r1 = shI (xa) := er1
  subst er1
  exact W.iret hx hb hr (fun t ht hW => ⟨_, rfl, rfl, ht⟩) (fun q h => by cases h) dX0_shuffle_4
set_option maxHeartbeats 4000000 in
set_option maxRecDepth 100000 in
theorem metX0_unshuffle (l : Launch) (h0 : Nat) (xa : Int32) : Met l yX0_unshuffle (ws_ yX0_unshuffle cX0_unshuffle 2 (some .int)) ({ frames := 2, cells := 0, slots := 0, locals := 43 }) (fun v _ => v = ([.ref (h0), .int (xa)] : List Value).toArray) (vp_Si (fun r => r = usI xa)) 0 0 (fun _ => False) := by
  refine Met.ofW (cc := cX0_unshuffle) (maxL := 2) (ret := (some .int)) (by decide) rfl ?_
  intro p e s m args below meth c s₁ B hml hv
  obtain rfl := hv
  have hx := B.exec
  have hb := B.bytes
  have hr := B.returns
  have hts := atoms_spec (ws := ws_ yX0_unshuffle cX0_unshuffle 2 (some .int)) B.pre
  have hts : ∀ w ∈ lw_all, w.before _ s = true := fun w h => hts w (List.mem_cons_of_mem _ h)
  have hown : s.vm.findClass RX0 = some m.cls := findClass_of_methodNamed B.named
  have hlocks := B.notSynchronized
  have hl := lv_entry ([.ref (h0), .int (xa)]) (n := 2) (Nat.le_of_ble_eq_true rfl)
  rw [lg_entry_eq]
  generalize (lg_sl ([.ref (h0), .int (xa)]) ++ List.replicate (2 - (lg_sl ([.ref (h0), .int (xa)])).length) Slot.unset).toArray = ls at hl ⊢
  have hl : lv_has ls 2 [(0, .ref (h0)), (1, .int (xa))] := hl
  refine lv_iload_n hx hb dX0_unshuffle_0 rfl (lv_at hl 1 rfl) ?_
  refine vp_callSi (W.runS (As := [.int (xa)]) (rest := []) ⟨hx, hb, hml, hown, hts⟩ (metX2_unshuffle l (xa)) (va_cwS 1 hts (lw_S q87 q88 q3 q89) rfl rfl rfl (by decide +kernel) ⟨Nat.le_of_ble_eq_true rfl, Nat.le_of_ble_eq_true rfl⟩) preEq rfl rfl hl.1 rfl (lv_room (Nat.le_of_ble_eq_true rfl)) dX0_unshuffle_1 ⟨Nat.le_of_ble_eq_true rfl, Nat.le_of_ble_eq_true rfl⟩) (fun r1 er1 => ?_)
  have er1 : r1 = usI (xa) := er1
  subst er1
  exact W.iret hx hb hr (fun t ht hW => ⟨_, rfl, rfl, ht⟩) (fun q h => by cases h) dX0_unshuffle_4
set_option maxHeartbeats 4000000 in
set_option maxRecDepth 100000 in
theorem metX0_wordOut (l : Launch) (h0 : Nat) (xa : Int32) : Met l yX0_wordOut (ws_ yX0_wordOut cX0_wordOut 2 (some .long)) ({ frames := 2, cells := 0, slots := 0, locals := 43 }) (fun v _ => v = ([.ref (h0), .int (xa)] : List Value).toArray) (vp_Sl (fun r => r = e32L xa)) 0 0 (fun _ => False) := by
  refine Met.ofW (cc := cX0_wordOut) (maxL := 2) (ret := (some .long)) (by decide) rfl ?_
  intro p e s m args below meth c s₁ B hml hv
  obtain rfl := hv
  have hx := B.exec
  have hb := B.bytes
  have hr := B.returns
  have hts := atoms_spec (ws := ws_ yX0_wordOut cX0_wordOut 2 (some .long)) B.pre
  have hts : ∀ w ∈ lw_all, w.before _ s = true := fun w h => hts w (List.mem_cons_of_mem _ h)
  have hown : s.vm.findClass RX0 = some m.cls := findClass_of_methodNamed B.named
  have hlocks := B.notSynchronized
  have hl := lv_entry ([.ref (h0), .int (xa)]) (n := 2) (Nat.le_of_ble_eq_true rfl)
  rw [lg_entry_eq]
  generalize (lg_sl ([.ref (h0), .int (xa)]) ++ List.replicate (2 - (lg_sl ([.ref (h0), .int (xa)])).length) Slot.unset).toArray = ls at hl ⊢
  have hl : lv_has ls 2 [(0, .ref (h0)), (1, .int (xa))] := hl
  refine lv_iload_n hx hb dX0_wordOut_0 rfl (lv_at hl 1 rfl) ?_
  refine vp_callSl (W.runS (As := [.int (xa)]) (rest := []) ⟨hx, hb, hml, hown, hts⟩ (metX2_expand32to64 l (xa)) (va_cwS 1 hts (lw_S q41 q42 q3 q43) rfl rfl rfl (by decide +kernel) ⟨Nat.le_of_ble_eq_true rfl, Nat.le_of_ble_eq_true rfl⟩) preEq rfl rfl hl.1 rfl (lv_room (Nat.le_of_ble_eq_true rfl)) dX0_wordOut_1 ⟨Nat.le_of_ble_eq_true rfl, Nat.le_of_ble_eq_true rfl⟩) (fun r1 er1 => ?_)
  have er1 : r1 = e32L (xa) := er1
  subst er1
  exact W.lret hx hb hr (fun t ht hW => ⟨_, rfl, rfl, ht⟩) (fun q h => by cases h) dX0_wordOut_4
set_option maxHeartbeats 4000000 in
set_option maxRecDepth 100000 in
theorem metX0_there (l : Launch) (h0 : Nat) (xa : Int32) : Met l yX0_there (ws_ yX0_there cX0_there 2 (some .int)) ({ frames := 2, cells := 0, slots := 0, locals := 43 }) (fun v _ => v = ([.ref (h0), .int (xa)] : List Value).toArray) (vp_Si (fun r => r = u2I (s2I xa))) 0 0 (fun _ => False) := by
  refine Met.ofW (cc := cX0_there) (maxL := 2) (ret := (some .int)) (by decide) rfl ?_
  intro p e s m args below meth c s₁ B hml hv
  obtain rfl := hv
  have hx := B.exec
  have hb := B.bytes
  have hr := B.returns
  have hts := atoms_spec (ws := ws_ yX0_there cX0_there 2 (some .int)) B.pre
  have hts : ∀ w ∈ lw_all, w.before _ s = true := fun w h => hts w (List.mem_cons_of_mem _ h)
  have hown : s.vm.findClass RX0 = some m.cls := findClass_of_methodNamed B.named
  have hlocks := B.notSynchronized
  have hl := lv_entry ([.ref (h0), .int (xa)]) (n := 2) (Nat.le_of_ble_eq_true rfl)
  rw [lg_entry_eq]
  generalize (lg_sl ([.ref (h0), .int (xa)]) ++ List.replicate (2 - (lg_sl ([.ref (h0), .int (xa)])).length) Slot.unset).toArray = ls at hl ⊢
  have hl : lv_has ls 2 [(0, .ref (h0)), (1, .int (xa))] := hl
  refine lv_iload_n hx hb dX0_there_0 rfl (lv_at hl 1 rfl) ?_
  refine vp_callSi (W.runS (As := [.int (xa)]) (rest := []) ⟨hx, hb, hml, hown, hts⟩ (metX2_shuffle2 l (xa)) (va_cwS 1 hts (lw_S q108 q109 q3 q110) rfl rfl rfl (by decide +kernel) ⟨Nat.le_of_ble_eq_true rfl, Nat.le_of_ble_eq_true rfl⟩) preEq rfl rfl hl.1 rfl (lv_room (Nat.le_of_ble_eq_true rfl)) dX0_there_1 ⟨Nat.le_of_ble_eq_true rfl, Nat.le_of_ble_eq_true rfl⟩) (fun r1 er1 => ?_)
  have er1 : r1 = s2I (xa) := er1
  refine vp_callSi (W.runS (As := [.int (r1)]) (rest := []) ⟨hx, hb, hml, hown, hts⟩ (metX2_unshuffle2 l (r1)) (va_cwS 1 hts (lw_S q113 q114 q3 q115) rfl rfl rfl (by decide +kernel) ⟨Nat.le_of_ble_eq_true rfl, Nat.le_of_ble_eq_true rfl⟩) preEq rfl rfl hl.1 rfl (lv_room (Nat.le_of_ble_eq_true rfl)) dX0_there_4 ⟨Nat.le_of_ble_eq_true rfl, Nat.le_of_ble_eq_true rfl⟩) (fun r2 er2 => ?_)
  have er2 : r2 = u2I (r1) := er2
  subst er2
  subst er1
  exact W.iret hx hb hr (fun t ht hW => ⟨_, rfl, rfl, ht⟩) (fun q h => by cases h) dX0_there_7
set_option maxHeartbeats 4000000 in
set_option maxRecDepth 100000 in
theorem metX0_longShuffle (l : Launch) (h0 : Nat) (xh : Int32) (xl : Int32) : Met l yX0_longShuffle (ws_ yX0_longShuffle cX0_longShuffle 3 (some .long)) ({ frames := 2, cells := 0, slots := 0, locals := 47 }) (fun v _ => v = ([.ref (h0), .int (xh), .int (xl)] : List Value).toArray) (vp_Sl (fun r => r = shL (widL xh xl))) 0 0 (fun _ => False) := by
  refine Met.ofW (cc := cX0_longShuffle) (maxL := 3) (ret := (some .long)) (by decide) rfl ?_
  intro p e s m args below meth c s₁ B hml hv
  obtain rfl := hv
  have hx := B.exec
  have hb := B.bytes
  have hr := B.returns
  have hts := atoms_spec (ws := ws_ yX0_longShuffle cX0_longShuffle 3 (some .long)) B.pre
  have hts : ∀ w ∈ lw_all, w.before _ s = true := fun w h => hts w (List.mem_cons_of_mem _ h)
  have hown : s.vm.findClass RX0 = some m.cls := findClass_of_methodNamed B.named
  have hlocks := B.notSynchronized
  have hl := lv_entry ([.ref (h0), .int (xh), .int (xl)]) (n := 3) (Nat.le_of_ble_eq_true rfl)
  rw [lg_entry_eq]
  generalize (lg_sl ([.ref (h0), .int (xh), .int (xl)]) ++ List.replicate (3 - (lg_sl ([.ref (h0), .int (xh), .int (xl)])).length) Slot.unset).toArray = ls at hl ⊢
  have hl : lv_has ls 3 [(0, .ref (h0)), (1, .int (xh)), (2, .int (xl))] := hl
  refine lv_iload_n hx hb dX0_longShuffle_0 rfl (lv_at hl 1 rfl) ?_
  refine lv_iload_n hx hb dX0_longShuffle_1 rfl (lv_at hl 2 rfl) ?_
  refine vp_callSl (W.runS (As := [.int (xh), .int (xl)]) (rest := []) ⟨hx, hb, hml, hown, hts⟩ (metX0_wide l (xh) (xl)) (va_cwS 2 hts (lw_S q56 q57 q1 q58) rfl rfl rfl (by decide +kernel) ⟨Nat.le_of_ble_eq_true rfl, Nat.le_of_ble_eq_true rfl⟩) preEq rfl rfl hl.1 rfl (lv_room (Nat.le_of_ble_eq_true rfl)) dX0_longShuffle_2 ⟨Nat.le_of_ble_eq_true rfl, Nat.le_of_ble_eq_true rfl⟩) (fun r1 er1 => ?_)
  have er1 : r1 = widL (xh) (xl) := er1
  refine vp_callSl (W.runS (As := [.long (r1)]) (rest := []) ⟨hx, hb, hml, hown, hts⟩ (metX2_shuffle_2 l (r1)) (va_cwS 1 hts (lw_S q94 q95 q3 q96) rfl rfl rfl (by decide +kernel) ⟨Nat.le_of_ble_eq_true rfl, Nat.le_of_ble_eq_true rfl⟩) preEq rfl rfl hl.1 rfl (lv_room (Nat.le_of_ble_eq_true rfl)) dX0_longShuffle_5 ⟨Nat.le_of_ble_eq_true rfl, Nat.le_of_ble_eq_true rfl⟩) (fun r2 er2 => ?_)
  have er2 : r2 = shL (r1) := er2
  subst er2
  subst er1
  exact W.lret hx hb hr (fun t ht hW => ⟨_, rfl, rfl, ht⟩) (fun q h => by cases h) dX0_longShuffle_8
set_option maxHeartbeats 4000000 in
set_option maxRecDepth 100000 in
theorem metX0_longUnshuffle (l : Launch) (h0 : Nat) (xh : Int32) (xl : Int32) : Met l yX0_longUnshuffle (ws_ yX0_longUnshuffle cX0_longUnshuffle 3 (some .long)) ({ frames := 2, cells := 0, slots := 0, locals := 47 }) (fun v _ => v = ([.ref (h0), .int (xh), .int (xl)] : List Value).toArray) (vp_Sl (fun r => r = usL (widL xh xl))) 0 0 (fun _ => False) := by
  refine Met.ofW (cc := cX0_longUnshuffle) (maxL := 3) (ret := (some .long)) (by decide) rfl ?_
  intro p e s m args below meth c s₁ B hml hv
  obtain rfl := hv
  have hx := B.exec
  have hb := B.bytes
  have hr := B.returns
  have hts := atoms_spec (ws := ws_ yX0_longUnshuffle cX0_longUnshuffle 3 (some .long)) B.pre
  have hts : ∀ w ∈ lw_all, w.before _ s = true := fun w h => hts w (List.mem_cons_of_mem _ h)
  have hown : s.vm.findClass RX0 = some m.cls := findClass_of_methodNamed B.named
  have hlocks := B.notSynchronized
  have hl := lv_entry ([.ref (h0), .int (xh), .int (xl)]) (n := 3) (Nat.le_of_ble_eq_true rfl)
  rw [lg_entry_eq]
  generalize (lg_sl ([.ref (h0), .int (xh), .int (xl)]) ++ List.replicate (3 - (lg_sl ([.ref (h0), .int (xh), .int (xl)])).length) Slot.unset).toArray = ls at hl ⊢
  have hl : lv_has ls 3 [(0, .ref (h0)), (1, .int (xh)), (2, .int (xl))] := hl
  refine lv_iload_n hx hb dX0_longUnshuffle_0 rfl (lv_at hl 1 rfl) ?_
  refine lv_iload_n hx hb dX0_longUnshuffle_1 rfl (lv_at hl 2 rfl) ?_
  refine vp_callSl (W.runS (As := [.int (xh), .int (xl)]) (rest := []) ⟨hx, hb, hml, hown, hts⟩ (metX0_wide l (xh) (xl)) (va_cwS 2 hts (lw_S q56 q57 q1 q58) rfl rfl rfl (by decide +kernel) ⟨Nat.le_of_ble_eq_true rfl, Nat.le_of_ble_eq_true rfl⟩) preEq rfl rfl hl.1 rfl (lv_room (Nat.le_of_ble_eq_true rfl)) dX0_longUnshuffle_2 ⟨Nat.le_of_ble_eq_true rfl, Nat.le_of_ble_eq_true rfl⟩) (fun r1 er1 => ?_)
  have er1 : r1 = widL (xh) (xl) := er1
  refine vp_callSl (W.runS (As := [.long (r1)]) (rest := []) ⟨hx, hb, hml, hown, hts⟩ (metX2_unshuffle_2 l (r1)) (va_cwS 1 hts (lw_S q101 q102 q3 q103) rfl rfl rfl (by decide +kernel) ⟨Nat.le_of_ble_eq_true rfl, Nat.le_of_ble_eq_true rfl⟩) preEq rfl rfl hl.1 rfl (lv_room (Nat.le_of_ble_eq_true rfl)) dX0_longUnshuffle_5 ⟨Nat.le_of_ble_eq_true rfl, Nat.le_of_ble_eq_true rfl⟩) (fun r2 er2 => ?_)
  have er2 : r2 = usL (r1) := er2
  subst er2
  subst er1
  exact W.lret hx hb hr (fun t ht hW => ⟨_, rfl, rfl, ht⟩) (fun q h => by cases h) dX0_longUnshuffle_8
set_option maxHeartbeats 4000000 in
set_option maxRecDepth 100000 in
theorem metX0_longThere (l : Launch) (h0 : Nat) (xh : Int32) (xl : Int32) : Met l yX0_longThere (ws_ yX0_longThere cX0_longThere 3 (some .long)) ({ frames := 2, cells := 0, slots := 0, locals := 47 }) (fun v _ => v = ([.ref (h0), .int (xh), .int (xl)] : List Value).toArray) (vp_Sl (fun r => r = u2L (s2L (widL xh xl)))) 0 0 (fun _ => False) := by
  refine Met.ofW (cc := cX0_longThere) (maxL := 3) (ret := (some .long)) (by decide) rfl ?_
  intro p e s m args below meth c s₁ B hml hv
  obtain rfl := hv
  have hx := B.exec
  have hb := B.bytes
  have hr := B.returns
  have hts := atoms_spec (ws := ws_ yX0_longThere cX0_longThere 3 (some .long)) B.pre
  have hts : ∀ w ∈ lw_all, w.before _ s = true := fun w h => hts w (List.mem_cons_of_mem _ h)
  have hown : s.vm.findClass RX0 = some m.cls := findClass_of_methodNamed B.named
  have hlocks := B.notSynchronized
  have hl := lv_entry ([.ref (h0), .int (xh), .int (xl)]) (n := 3) (Nat.le_of_ble_eq_true rfl)
  rw [lg_entry_eq]
  generalize (lg_sl ([.ref (h0), .int (xh), .int (xl)]) ++ List.replicate (3 - (lg_sl ([.ref (h0), .int (xh), .int (xl)])).length) Slot.unset).toArray = ls at hl ⊢
  have hl : lv_has ls 3 [(0, .ref (h0)), (1, .int (xh)), (2, .int (xl))] := hl
  refine lv_iload_n hx hb dX0_longThere_0 rfl (lv_at hl 1 rfl) ?_
  refine lv_iload_n hx hb dX0_longThere_1 rfl (lv_at hl 2 rfl) ?_
  refine vp_callSl (W.runS (As := [.int (xh), .int (xl)]) (rest := []) ⟨hx, hb, hml, hown, hts⟩ (metX0_wide l (xh) (xl)) (va_cwS 2 hts (lw_S q56 q57 q1 q58) rfl rfl rfl (by decide +kernel) ⟨Nat.le_of_ble_eq_true rfl, Nat.le_of_ble_eq_true rfl⟩) preEq rfl rfl hl.1 rfl (lv_room (Nat.le_of_ble_eq_true rfl)) dX0_longThere_2 ⟨Nat.le_of_ble_eq_true rfl, Nat.le_of_ble_eq_true rfl⟩) (fun r1 er1 => ?_)
  have er1 : r1 = widL (xh) (xl) := er1
  refine vp_callSl (W.runS (As := [.long (r1)]) (rest := []) ⟨hx, hb, hml, hown, hts⟩ (metX2_shuffle2_2 l (r1)) (va_cwS 1 hts (lw_S q120 q121 q3 q122) rfl rfl rfl (by decide +kernel) ⟨Nat.le_of_ble_eq_true rfl, Nat.le_of_ble_eq_true rfl⟩) preEq rfl rfl hl.1 rfl (lv_room (Nat.le_of_ble_eq_true rfl)) dX0_longThere_5 ⟨Nat.le_of_ble_eq_true rfl, Nat.le_of_ble_eq_true rfl⟩) (fun r2 er2 => ?_)
  have er2 : r2 = s2L (r1) := er2
  refine vp_callSl (W.runS (As := [.long (r2)]) (rest := []) ⟨hx, hb, hml, hown, hts⟩ (metX2_unshuffle2_2 l (r2)) (va_cwS 1 hts (lw_S q127 q128 q3 q129) rfl rfl rfl (by decide +kernel) ⟨Nat.le_of_ble_eq_true rfl, Nat.le_of_ble_eq_true rfl⟩) preEq rfl rfl hl.1 rfl (lv_room (Nat.le_of_ble_eq_true rfl)) dX0_longThere_8 ⟨Nat.le_of_ble_eq_true rfl, Nat.le_of_ble_eq_true rfl⟩) (fun r3 er3 => ?_)
  have er3 : r3 = u2L (r2) := er3
  subst er3
  subst er2
  subst er1
  exact W.lret hx hb hr (fun t ht hW => ⟨_, rfl, rfl, ht⟩) (fun q h => by cases h) dX0_longThere_11
set_option maxHeartbeats 4000000 in
set_option maxRecDepth 100000 in
theorem metX0_thrice (l : Launch) (h0 : Nat) (xh : Int32) (xl : Int32) : Met l yX0_thrice (ws_ yX0_thrice cX0_thrice 3 (some .long)) ({ frames := 3, cells := 0, slots := 0, locals := 68 }) (fun v _ => v = ([.ref (h0), .int (xh), .int (xl)] : List Value).toArray) (vp_Sl (fun r => r = s3L (s3L (widL xh xl)))) 0 0 (fun _ => False) := by
  refine Met.ofW (cc := cX0_thrice) (maxL := 3) (ret := (some .long)) (by decide) rfl ?_
  intro p e s m args below meth c s₁ B hml hv
  obtain rfl := hv
  have hx := B.exec
  have hb := B.bytes
  have hr := B.returns
  have hts := atoms_spec (ws := ws_ yX0_thrice cX0_thrice 3 (some .long)) B.pre
  have hts : ∀ w ∈ lw_all, w.before _ s = true := fun w h => hts w (List.mem_cons_of_mem _ h)
  have hown : s.vm.findClass RX0 = some m.cls := findClass_of_methodNamed B.named
  have hlocks := B.notSynchronized
  have hl := lv_entry ([.ref (h0), .int (xh), .int (xl)]) (n := 3) (Nat.le_of_ble_eq_true rfl)
  rw [lg_entry_eq]
  generalize (lg_sl ([.ref (h0), .int (xh), .int (xl)]) ++ List.replicate (3 - (lg_sl ([.ref (h0), .int (xh), .int (xl)])).length) Slot.unset).toArray = ls at hl ⊢
  have hl : lv_has ls 3 [(0, .ref (h0)), (1, .int (xh)), (2, .int (xl))] := hl
  refine lv_iload_n hx hb dX0_thrice_0 rfl (lv_at hl 1 rfl) ?_
  refine lv_iload_n hx hb dX0_thrice_1 rfl (lv_at hl 2 rfl) ?_
  refine vp_callSl (W.runS (As := [.int (xh), .int (xl)]) (rest := []) ⟨hx, hb, hml, hown, hts⟩ (metX0_wide l (xh) (xl)) (va_cwS 2 hts (lw_S q56 q57 q1 q58) rfl rfl rfl (by decide +kernel) ⟨Nat.le_of_ble_eq_true rfl, Nat.le_of_ble_eq_true rfl⟩) preEq rfl rfl hl.1 rfl (lv_room (Nat.le_of_ble_eq_true rfl)) dX0_thrice_2 ⟨Nat.le_of_ble_eq_true rfl, Nat.le_of_ble_eq_true rfl⟩) (fun r1 er1 => ?_)
  have er1 : r1 = widL (xh) (xl) := er1
  refine vp_callSl (W.runS (As := [.long (r1)]) (rest := []) ⟨hx, hb, hml, hown, hts⟩ (metX2_shuffle3 l (r1)) (va_cwS 1 hts (lw_S q134 q135 q3 q136) rfl rfl rfl (by decide +kernel) ⟨Nat.le_of_ble_eq_true rfl, Nat.le_of_ble_eq_true rfl⟩) preEq rfl rfl hl.1 rfl (lv_room (Nat.le_of_ble_eq_true rfl)) dX0_thrice_5 ⟨Nat.le_of_ble_eq_true rfl, Nat.le_of_ble_eq_true rfl⟩) (fun r2 er2 => ?_)
  have er2 : r2 = s3L (r1) := er2
  refine vp_callSl (W.runS (As := [.long (r2)]) (rest := []) ⟨hx, hb, hml, hown, hts⟩ (metX2_unshuffle3 l (r2)) (va_cwS 1 hts (lw_S q140 q141 q3 q142) rfl rfl rfl (by decide +kernel) ⟨Nat.le_of_ble_eq_true rfl, Nat.le_of_ble_eq_true rfl⟩) preEq rfl rfl hl.1 rfl (lv_room (Nat.le_of_ble_eq_true rfl)) dX0_thrice_8 ⟨Nat.le_of_ble_eq_true rfl, Nat.le_of_ble_eq_true rfl⟩) (fun r3 er3 => ?_)
  have er3 : r3 = s3L (r2) := er3
  subst er3
  subst er2
  subst er1
  exact W.lret hx hb hr (fun t ht hW => ⟨_, rfl, rfl, ht⟩) (fun q h => by cases h) dX0_thrice_11
end
section
/-! CONTRACTS 3: the reference's two loops, spread and part -/
set_option maxHeartbeats 4000000 in
set_option maxRecDepth 100000 in
theorem spread_loop {p : Program} {l : Launch} {e : Env} {R : Room} {s : State} {m : MethodId} {args : Array Value} {below : List Frame} {meth : Method} {c : Code} {Q : State → Prop} (xa : Int64) (xf : Int32) (xn : Nat) (hn : xn < 2147483648) (hx : p.tables.exec = Jvm.exec) (hb : c.code = cX1_spread) (hgo : ∀ ls : Array Slot, lv_has ls 7 [(4, .long (spr xa xf xn)), (0, .long xa), (2, .int xf)] → W p l e R s m args below meth c s.heap [] 0 0 Q (F0 m 36 ls [])) :
    ∀ (n i : Nat), i ≤ xn → xn ≤ i + n → ∀ (ls : Array Slot), lv_has ls 7 [(6, .int (nI i)), (4, .long (spr xa xf i)), (0, .long xa), (2, .int xf), (3, .int (nI xn))] → W p l e R s m args below meth c s.heap [] 0 0 Q (F0 m 6 ls []) := by
  intro n
  induction n with
  | zero =>
    intro i hi hin ls hl
    have hi2 : i = xn := by omega
    subst hi2
    refine lv_iload hx hb dX1_spread_6 (lv_at hl 0 rfl) ?_
    refine lv_iload_n hx hb dX1_spread_8 rfl (lv_at hl 4 rfl) ?_
    refine lv_icmp_ge (tgt := 36) hx hb dX1_spread_9 (by decide) (fun c1 => ?_) (fun c1 => ?_)
    · exact hgo ls (lv_sub hl [1, 2, 3] rfl)
    · exact absurd (nI_le (Nat.le_refl i) (by omega)) c1
  | succ n ih =>
    intro i hi hin ls hl
    refine lv_iload hx hb dX1_spread_6 (lv_at hl 0 rfl) ?_
    refine lv_iload_n hx hb dX1_spread_8 rfl (lv_at hl 4 rfl) ?_
    refine lv_icmp_ge (tgt := 36) hx hb dX1_spread_9 (by decide) (fun c1 => ?_) (fun c1 => ?_)
    · have hi2 : i = xn := by
        rcases Nat.lt_or_ge i xn with q | q
        · exact absurd c1 (nI_ge q (by omega))
        · omega
      subst hi2
      exact hgo ls (lv_sub hl [1, 2, 3] rfl)
    · have hlt : i < xn := by
        rcases Nat.lt_or_ge i xn with q | q
        · exact q
        · exact absurd (nI_le q (by omega)) c1
      refine lv_lload hx hb dX1_spread_12 (lv_at hl 1 rfl) ?_
      refine lv_lload_n hx hb dX1_spread_14 rfl (lv_at hl 2 rfl) ?_
      refine lv_iload_n hx hb dX1_spread_15 rfl (lv_at hl 3 rfl) ?_
      refine lv_iload hx hb dX1_spread_16 (lv_at hl 0 rfl) ?_
      refine lv_iadd hx hb dX1_spread_18 ?_
      refine lv_lushr (v := su64 xa (xf + nI i)) hx hb dX1_spread_19 rfl ?_
      refine lv_lconst (v := 1) hx hb dX1_spread_20 (by decide) ?_
      refine lv_land hx hb dX1_spread_21 ?_
      refine lv_iconst (v := 2) hx hb dX1_spread_22 (by decide) ?_
      refine lv_iload hx hb dX1_spread_23 (lv_at hl 0 rfl) ?_
      refine lv_imul hx hb dX1_spread_25 ?_
      refine lv_lshl (v := sl64 (su64 xa (xf + nI i) &&& 1) (2 * nI i)) hx hb dX1_spread_26 rfl ?_
      refine lv_lor hx hb dX1_spread_27 ?_
      refine lv_lstore (lv' := [(4, .long (spr xa xf (i + 1))), (6, .int (nI i)), (0, .long xa), (2, .int xf), (3, .int (nI xn))]) hx hb dX1_spread_28 hl (by decide) rfl (fun ls hl => ?_)
      refine lv_iinc (v := nI (i + 1)) (lv' := [(6, .int (nI (i + 1))), (4, .long (spr xa xf (i + 1))), (0, .long xa), (2, .int xf), (3, .int (nI xn))]) hx hb dX1_spread_30 hl (k := 1) rfl (nI_1 i) (by decide) rfl (fun ls hl => ?_)
      refine lv_goto (tgt := 6) hx hb dX1_spread_33 (by decide) ?_
      exact ih (i + 1) (by omega) (by omega) ls hl
set_option maxHeartbeats 4000000 in
set_option maxRecDepth 100000 in
theorem metX1_spread (l : Launch) (xa : Int64) (xf : Int32) (xn : Nat) (hn : xn < 2147483648) : Met l yX1_spread (ws_ yX1_spread cX1_spread 7 (some .long)) ({ frames := 0, cells := 0, slots := 0, locals := 0 }) (fun v _ => v = ([.long xa, .int xf, .int (nI xn)] : List Value).toArray) (vp_Sl (fun r => r = spr xa xf xn)) 0 0 (fun _ => False) := by
  refine Met.ofW (cc := cX1_spread) (maxL := 7) (ret := (some .long)) (by decide) rfl ?_
  intro p e s m args below meth c s₁ B hml hv
  obtain rfl := hv
  have hx := B.exec
  have hb := B.bytes
  have hr := B.returns
  have hlocks := B.notSynchronized
  have hl := lv_entry ([.long xa, .int xf, .int (nI xn)]) (n := 7) (Nat.le_of_ble_eq_true rfl)
  rw [lg_entry_eq]
  generalize (lg_sl ([.long xa, .int xf, .int (nI xn)]) ++ List.replicate (7 - (lg_sl ([.long xa, .int xf, .int (nI xn)])).length) Slot.unset).toArray = ls at hl ⊢
  have hl : lv_has ls 7 [(0, .long xa), (2, .int xf), (3, .int (nI xn))] := hl
  refine lv_lconst (v := 0) hx hb dX1_spread_0 (by decide) ?_
  refine lv_lstore (lv' := [(4, .long 0), (0, .long xa), (2, .int xf), (3, .int (nI xn))]) hx hb dX1_spread_1 hl (by decide) rfl (fun ls hl => ?_)
  refine lv_iconst (v := 0) hx hb dX1_spread_3 (by decide) ?_
  refine lv_istore (lv' := [(6, .int 0), (4, .long 0), (0, .long xa), (2, .int xf), (3, .int (nI xn))]) hx hb dX1_spread_4 hl (by decide) rfl (fun ls hl => ?_)
  refine spread_loop xa xf xn hn hx hb (fun ls hl => ?_) xn 0 (Nat.zero_le _) (by omega) ls hl
  refine lv_lload hx hb dX1_spread_36 (lv_at hl 0 rfl) ?_
  exact W.lret hx hb hr (fun t ht hW => ⟨_, rfl, rfl, ht⟩) (fun q h => by cases h) dX1_spread_38
set_option maxHeartbeats 4000000 in
set_option maxRecDepth 100000 in
theorem part_loop {p : Program} {l : Launch} {e : Env} {R : Room} {s : State} {m : MethodId} {args : Array Value} {below : List Frame} {meth : Method} {c : Code} {Q : State → Prop} (xa : Int64) (xn : Int32) (xk : Nat) (hK : xn / 2 = nI xk) (hk : xk ≤ 32) (hx : p.tables.exec = Jvm.exec) (hb : c.code = cX1_part) (hgo : ∀ ls : Array Slot, lv_has ls 6 [(3, .long (prt xa (nI xk) xk)), (0, .long xa), (2, .int xn)] → W p l e R s m args below meth c s.heap [] 0 0 Q (F0 m 51 ls [])) :
    ∀ (n i : Nat), i ≤ xk → xk ≤ i + n → ∀ (ls : Array Slot), lv_has ls 6 [(5, .int (nI i)), (3, .long (prt xa (nI xk) i)), (0, .long xa), (2, .int xn)] → W p l e R s m args below meth c s.heap [] 0 0 Q (F0 m 5 ls []) := by
  intro n
  induction n with
  | zero =>
    intro i hi hin ls hl
    have hi2 : i = xk := by omega
    subst hi2
    refine lv_iload hx hb dX1_part_5 (lv_at hl 0 rfl) ?_
    refine lv_iload_n hx hb dX1_part_7 rfl (lv_at hl 3 rfl) ?_
    refine lv_iconst (v := 2) hx hb dX1_part_8 (by decide) ?_
    refine lv_idiv hx hb dX1_part_9 (by decide) ?_
    rw [hK]
    refine lv_icmp_ge (tgt := 51) hx hb dX1_part_10 (by decide) (fun c1 => ?_) (fun c1 => ?_)
    · exact hgo ls (lv_sub hl [1, 2, 3] rfl)
    · exact absurd (nI_le (Nat.le_refl i) (by omega)) c1
  | succ n ih =>
    intro i hi hin ls hl
    refine lv_iload hx hb dX1_part_5 (lv_at hl 0 rfl) ?_
    refine lv_iload_n hx hb dX1_part_7 rfl (lv_at hl 3 rfl) ?_
    refine lv_iconst (v := 2) hx hb dX1_part_8 (by decide) ?_
    refine lv_idiv hx hb dX1_part_9 (by decide) ?_
    rw [hK]
    refine lv_icmp_ge (tgt := 51) hx hb dX1_part_10 (by decide) (fun c1 => ?_) (fun c1 => ?_)
    · have hi2 : i = xk := by
        rcases Nat.lt_or_ge i xk with q | q
        · exact absurd c1 (nI_ge q (by omega))
        · omega
      subst hi2
      exact hgo ls (lv_sub hl [1, 2, 3] rfl)
    · have hlt : i < xk := by
        rcases Nat.lt_or_ge i xk with q | q
        · exact q
        · exact absurd (nI_le q (by omega)) c1
      refine lv_lload_n hx hb dX1_part_13 rfl (lv_at hl 1 rfl) ?_
      refine lv_lload_n hx hb dX1_part_14 rfl (lv_at hl 2 rfl) ?_
      refine lv_iconst (v := 2) hx hb dX1_part_15 (by decide) ?_
      refine lv_iload hx hb dX1_part_16 (lv_at hl 0 rfl) ?_
      refine lv_imul hx hb dX1_part_18 ?_
      refine lv_lushr (v := su64 xa (2 * nI i)) hx hb dX1_part_19 rfl ?_
      refine lv_lconst (v := 1) hx hb dX1_part_20 (by decide) ?_
      refine lv_land hx hb dX1_part_21 ?_
      refine lv_iload hx hb dX1_part_22 (lv_at hl 0 rfl) ?_
      refine lv_lshl (v := sl64 (su64 xa (2 * nI i) &&& 1) (nI i)) hx hb dX1_part_24 rfl ?_
      refine lv_lor hx hb dX1_part_25 ?_
      refine lv_lload_n hx hb dX1_part_26 rfl (lv_at hl 2 rfl) ?_
      refine lv_iconst (v := 2) hx hb dX1_part_27 (by decide) ?_
      refine lv_iload hx hb dX1_part_28 (lv_at hl 0 rfl) ?_
      refine lv_imul hx hb dX1_part_30 ?_
      refine lv_iconst (v := 1) hx hb dX1_part_31 (by decide) ?_
      refine lv_iadd hx hb dX1_part_32 ?_
      refine lv_lushr (v := su64 xa (2 * nI i + 1)) hx hb dX1_part_33 rfl ?_
      refine lv_lconst (v := 1) hx hb dX1_part_34 (by decide) ?_
      refine lv_land hx hb dX1_part_35 ?_
      refine lv_iload hx hb dX1_part_36 (lv_at hl 0 rfl) ?_
      refine lv_iload_n hx hb dX1_part_38 rfl (lv_at hl 3 rfl) ?_
      refine lv_iconst (v := 2) hx hb dX1_part_39 (by decide) ?_
      refine lv_idiv hx hb dX1_part_40 (by decide) ?_
      rw [hK]
      refine lv_iadd hx hb dX1_part_41 ?_
      refine lv_lshl (v := sl64 (su64 xa (2 * nI i + 1) &&& 1) (nI i + nI xk)) hx hb dX1_part_42 rfl ?_
      refine lv_lor hx hb dX1_part_43 ?_
      refine lv_lstore_n (lv' := [(3, .long (prt xa (nI xk) (i + 1))), (5, .int (nI i)), (0, .long xa), (2, .int xn)]) hx hb dX1_part_44 rfl hl (by decide) rfl (fun ls hl => ?_)
      refine lv_iinc (v := nI (i + 1)) (lv' := [(5, .int (nI (i + 1))), (3, .long (prt xa (nI xk) (i + 1))), (0, .long xa), (2, .int xn)]) hx hb dX1_part_45 hl (k := 1) rfl (nI_1 i) (by decide) rfl (fun ls hl => ?_)
      refine lv_goto (tgt := 5) hx hb dX1_part_48 (by decide) ?_
      exact ih (i + 1) (by omega) (by omega) ls hl
set_option maxHeartbeats 4000000 in
set_option maxRecDepth 100000 in
theorem metX1_part (l : Launch) (xa : Int64) (xn : Int32) (xk : Nat) (hK : xn / 2 = nI xk) (hk : xk ≤ 32) : Met l yX1_part (ws_ yX1_part cX1_part 6 (some .long)) ({ frames := 0, cells := 0, slots := 0, locals := 0 }) (fun v _ => v = ([.long xa, .int xn] : List Value).toArray) (vp_Sl (fun r => r = prt xa (nI xk) xk)) 0 0 (fun _ => False) := by
  refine Met.ofW (cc := cX1_part) (maxL := 6) (ret := (some .long)) (by decide) rfl ?_
  intro p e s m args below meth c s₁ B hml hv
  obtain rfl := hv
  have hx := B.exec
  have hb := B.bytes
  have hr := B.returns
  have hlocks := B.notSynchronized
  have hl := lv_entry ([.long xa, .int xn]) (n := 6) (Nat.le_of_ble_eq_true rfl)
  rw [lg_entry_eq]
  generalize (lg_sl ([.long xa, .int xn]) ++ List.replicate (6 - (lg_sl ([.long xa, .int xn])).length) Slot.unset).toArray = ls at hl ⊢
  have hl : lv_has ls 6 [(0, .long xa), (2, .int xn)] := hl
  refine lv_lconst (v := 0) hx hb dX1_part_0 (by decide) ?_
  refine lv_lstore_n (lv' := [(3, .long 0), (0, .long xa), (2, .int xn)]) hx hb dX1_part_1 rfl hl (by decide) rfl (fun ls hl => ?_)
  refine lv_iconst (v := 0) hx hb dX1_part_2 (by decide) ?_
  refine lv_istore (lv' := [(5, .int 0), (3, .long 0), (0, .long xa), (2, .int xn)]) hx hb dX1_part_3 hl (by decide) rfl (fun ls hl => ?_)
  refine part_loop xa xn xk hK hk hx hb (fun ls hl => ?_) xk 0 (Nat.zero_le _) (by omega) ls hl
  refine lv_lload_n hx hb dX1_part_51 rfl (lv_at hl 0 rfl) ?_
  exact W.lret hx hb hr (fun t ht hW => ⟨_, rfl, rfl, ht⟩) (fun q h => by cases h) dX1_part_52
end
section
/-! CONTRACTS 4 (printed by wip gen.py): BitWeaveModel, over spread and part -/
set_option maxHeartbeats 4000000 in
set_option maxRecDepth 100000 in
theorem metX1_wide (l : Launch) (xh : Int32) (xl : Int32) : Met l yX1_wide (ws_ yX1_wide cX1_wide 2 (some .long)) ({ frames := 0, cells := 0, slots := 0, locals := 0 }) (fun v _ => v = ([.int (xh), .int (xl)] : List Value).toArray) (vp_Sl (fun r => r = widL xh xl)) 0 0 (fun _ => False) := by
  refine Met.ofW (cc := cX1_wide) (maxL := 2) (ret := (some .long)) (by decide) rfl ?_
  intro p e s m args below meth c s₁ B hml hv
  obtain rfl := hv
  have hx := B.exec
  have hb := B.bytes
  have hr := B.returns
  have hts := atoms_spec (ws := ws_ yX1_wide cX1_wide 2 (some .long)) B.pre
  have hts : ∀ w ∈ lw_all, w.before _ s = true := fun w h => hts w (List.mem_cons_of_mem _ h)
  have hown : s.vm.findClass RX1 = some m.cls := findClass_of_methodNamed B.named
  have hlocks := B.notSynchronized
  have hl := lv_entry ([.int (xh), .int (xl)]) (n := 2) (Nat.le_of_ble_eq_true rfl)
  rw [lg_entry_eq]
  generalize (lg_sl ([.int (xh), .int (xl)]) ++ List.replicate (2 - (lg_sl ([.int (xh), .int (xl)])).length) Slot.unset).toArray = ls at hl ⊢
  have hl : lv_has ls 2 [(0, .int (xh)), (1, .int (xl))] := hl
  refine lv_iload_n hx hb dX1_wide_0 rfl (lv_at hl 0 rfl) ?_
  refine lv_i2l (v := xh.toInt64) hx hb dX1_wide_1 rfl ?_
  refine lv_bipush (v := 32) hx hb dX1_wide_2 (by decide) ?_
  refine lv_lshl (v := (sl64 xh.toInt64 32)) hx hb dX1_wide_4 rfl ?_
  refine lv_iload_n hx hb dX1_wide_5 rfl (lv_at hl 1 rfl) ?_
  refine lv_i2l (v := xl.toInt64) hx hb dX1_wide_6 rfl ?_
  refine lv_ldc2 (v := 4294967295) hx hb hown (hts _ q170) dX1_wide_7 ?_
  refine lv_land hx hb dX1_wide_10 ?_
  refine lv_lor hx hb dX1_wide_11 ?_
  exact W.lret hx hb hr (fun t ht hW => ⟨_, rfl, rfl, ht⟩) (fun q h => by cases h) dX1_wide_12
set_option maxHeartbeats 4000000 in
set_option maxRecDepth 100000 in
theorem metX1_weave (l : Launch) (xa : Int64) (xn : Int32) (xk : Nat) (hK : xn / 2 = nI xk) (hk : xk ≤ 32) : Met l yX1_weave (ws_ yX1_weave cX1_weave 3 (some .long)) ({ frames := 1, cells := 0, slots := 0, locals := 26 }) (fun v _ => v = ([.long (xa), .int (xn)] : List Value).toArray) (vp_Sl (fun r => r = weaL xa xk)) 0 0 (fun _ => False) := by
  refine Met.ofW (cc := cX1_weave) (maxL := 3) (ret := (some .long)) (by decide) rfl ?_
  intro p e s m args below meth c s₁ B hml hv
  obtain rfl := hv
  have hx := B.exec
  have hb := B.bytes
  have hr := B.returns
  have hts := atoms_spec (ws := ws_ yX1_weave cX1_weave 3 (some .long)) B.pre
  have hts : ∀ w ∈ lw_all, w.before _ s = true := fun w h => hts w (List.mem_cons_of_mem _ h)
  have hown : s.vm.findClass RX1 = some m.cls := findClass_of_methodNamed B.named
  have hlocks := B.notSynchronized
  have hl := lv_entry ([.long (xa), .int (xn)]) (n := 3) (Nat.le_of_ble_eq_true rfl)
  rw [lg_entry_eq]
  generalize (lg_sl ([.long (xa), .int (xn)]) ++ List.replicate (3 - (lg_sl ([.long (xa), .int (xn)])).length) Slot.unset).toArray = ls at hl ⊢
  have hl : lv_has ls 3 [(0, .long (xa)), (2, .int (xn))] := hl
  refine lv_lload_n hx hb dX1_weave_0 rfl (lv_at hl 0 rfl) ?_
  refine lv_iconst (v := 0) hx hb dX1_weave_1 (by decide) ?_
  refine lv_iload_n hx hb dX1_weave_2 rfl (lv_at hl 1 rfl) ?_
  refine lv_iconst (v := 2) hx hb dX1_weave_3 (by decide) ?_
  refine lv_idiv hx hb dX1_weave_4 (by decide) ?_
  rw [hK]
  refine vp_callSl (W.runS (As := [.long (xa), .int (0), .int (nI xk)]) (rest := []) ⟨hx, hb, hml, hown, hts⟩ (metX1_spread l (xa) (0) (xk) (by omega)) (va_cwS 3 hts (lw_S q158 q159 q2 q160) rfl rfl rfl (by decide +kernel) ⟨Nat.le_of_ble_eq_true rfl, Nat.le_of_ble_eq_true rfl⟩) preEq rfl rfl hl.1 rfl (lv_room (Nat.le_of_ble_eq_true rfl)) dX1_weave_5 ⟨Nat.le_of_ble_eq_true rfl, Nat.le_of_ble_eq_true rfl⟩) (fun r1 er1 => ?_)
  have er1 : r1 = spr (xa) (0) (xk) := er1
  refine lv_lload_n hx hb dX1_weave_8 rfl (lv_at hl 0 rfl) ?_
  refine lv_iload_n hx hb dX1_weave_9 rfl (lv_at hl 1 rfl) ?_
  refine lv_iconst (v := 2) hx hb dX1_weave_10 (by decide) ?_
  refine lv_idiv hx hb dX1_weave_11 (by decide) ?_
  rw [hK]
  refine lv_iload_n hx hb dX1_weave_12 rfl (lv_at hl 1 rfl) ?_
  refine lv_iconst (v := 2) hx hb dX1_weave_13 (by decide) ?_
  refine lv_idiv hx hb dX1_weave_14 (by decide) ?_
  rw [hK]
  refine vp_callSl (W.runS (As := [.long (xa), .int (nI xk), .int (nI xk)]) (rest := [.long (r1)]) ⟨hx, hb, hml, hown, hts⟩ (metX1_spread l (xa) (nI xk) (xk) (by omega)) (va_cwS 3 hts (lw_S q158 q159 q2 q160) rfl rfl rfl (by decide +kernel) ⟨Nat.le_of_ble_eq_true rfl, Nat.le_of_ble_eq_true rfl⟩) preEq rfl rfl hl.1 rfl (lv_room (Nat.le_of_ble_eq_true rfl)) dX1_weave_15 ⟨Nat.le_of_ble_eq_true rfl, Nat.le_of_ble_eq_true rfl⟩) (fun r2 er2 => ?_)
  have er2 : r2 = spr (xa) (nI xk) (xk) := er2
  refine lv_iconst (v := 1) hx hb dX1_weave_18 (by decide) ?_
  refine lv_lshl (v := (sl64 r2 1)) hx hb dX1_weave_19 rfl ?_
  refine lv_lor hx hb dX1_weave_20 ?_
  subst er2
  subst er1
  exact W.lret hx hb hr (fun t ht hW => ⟨_, rfl, rfl, ht⟩) (fun q h => by cases h) dX1_weave_21
set_option maxHeartbeats 4000000 in
set_option maxRecDepth 100000 in
theorem metX1_byteOut (l : Launch) (h0 : Nat) (xa : Int32) : Met l yX1_byteOut (ws_ yX1_byteOut cX1_byteOut 2 (some .int)) ({ frames := 1, cells := 0, slots := 0, locals := 26 }) (fun v _ => v = ([.ref (h0), .int (xa)] : List Value).toArray) (vp_Si (fun r => r = (spr (xa &&& 255).toInt64 0 8).toInt32)) 0 0 (fun _ => False) := by
  refine Met.ofW (cc := cX1_byteOut) (maxL := 2) (ret := (some .int)) (by decide) rfl ?_
  intro p e s m args below meth c s₁ B hml hv
  obtain rfl := hv
  have hx := B.exec
  have hb := B.bytes
  have hr := B.returns
  have hts := atoms_spec (ws := ws_ yX1_byteOut cX1_byteOut 2 (some .int)) B.pre
  have hts : ∀ w ∈ lw_all, w.before _ s = true := fun w h => hts w (List.mem_cons_of_mem _ h)
  have hown : s.vm.findClass RX1 = some m.cls := findClass_of_methodNamed B.named
  have hlocks := B.notSynchronized
  have hl := lv_entry ([.ref (h0), .int (xa)]) (n := 2) (Nat.le_of_ble_eq_true rfl)
  rw [lg_entry_eq]
  generalize (lg_sl ([.ref (h0), .int (xa)]) ++ List.replicate (2 - (lg_sl ([.ref (h0), .int (xa)])).length) Slot.unset).toArray = ls at hl ⊢
  have hl : lv_has ls 2 [(0, .ref (h0)), (1, .int (xa))] := hl
  refine lv_iload_n hx hb dX1_byteOut_0 rfl (lv_at hl 1 rfl) ?_
  refine lv_sipush (v := 255) hx hb dX1_byteOut_1 (by decide) ?_
  refine lv_iand hx hb dX1_byteOut_4 ?_
  refine lv_i2l (v := (xa &&& 255).toInt64) hx hb dX1_byteOut_5 rfl ?_
  refine lv_iconst (v := 0) hx hb dX1_byteOut_6 (by decide) ?_
  refine lv_bipush (v := 8) hx hb dX1_byteOut_7 (by decide) ?_
  refine vp_callSl (W.runS (As := [.long ((xa &&& 255).toInt64), .int (0), .int (8)]) (rest := []) ⟨hx, hb, hml, hown, hts⟩ (metX1_spread l ((xa &&& 255).toInt64) (0) (8) (by omega)) (va_cwS 3 hts (lw_S q158 q159 q2 q160) rfl rfl rfl (by decide +kernel) ⟨Nat.le_of_ble_eq_true rfl, Nat.le_of_ble_eq_true rfl⟩) preEq rfl rfl hl.1 rfl (lv_room (Nat.le_of_ble_eq_true rfl)) dX1_byteOut_9 ⟨Nat.le_of_ble_eq_true rfl, Nat.le_of_ble_eq_true rfl⟩) (fun r1 er1 => ?_)
  have er1 : r1 = spr ((xa &&& 255).toInt64) (0) (8) := er1
  refine lv_l2i (v := r1.toInt32) hx hb dX1_byteOut_12 rfl ?_
  subst er1
  exact W.iret hx hb hr (fun t ht hW => ⟨_, rfl, rfl, ht⟩) (fun q h => by cases h) dX1_byteOut_13
set_option maxHeartbeats 4000000 in
set_option maxRecDepth 100000 in
theorem metX1_halfOut (l : Launch) (h0 : Nat) (xa : Int32) : Met l yX1_halfOut (ws_ yX1_halfOut cX1_halfOut 2 (some .int)) ({ frames := 1, cells := 0, slots := 0, locals := 26 }) (fun v _ => v = ([.ref (h0), .int (xa)] : List Value).toArray) (vp_Si (fun r => r = (spr (xa &&& 65535).toInt64 0 16).toInt32)) 0 0 (fun _ => False) := by
  refine Met.ofW (cc := cX1_halfOut) (maxL := 2) (ret := (some .int)) (by decide) rfl ?_
  intro p e s m args below meth c s₁ B hml hv
  obtain rfl := hv
  have hx := B.exec
  have hb := B.bytes
  have hr := B.returns
  have hts := atoms_spec (ws := ws_ yX1_halfOut cX1_halfOut 2 (some .int)) B.pre
  have hts : ∀ w ∈ lw_all, w.before _ s = true := fun w h => hts w (List.mem_cons_of_mem _ h)
  have hown : s.vm.findClass RX1 = some m.cls := findClass_of_methodNamed B.named
  have hlocks := B.notSynchronized
  have hl := lv_entry ([.ref (h0), .int (xa)]) (n := 2) (Nat.le_of_ble_eq_true rfl)
  rw [lg_entry_eq]
  generalize (lg_sl ([.ref (h0), .int (xa)]) ++ List.replicate (2 - (lg_sl ([.ref (h0), .int (xa)])).length) Slot.unset).toArray = ls at hl ⊢
  have hl : lv_has ls 2 [(0, .ref (h0)), (1, .int (xa))] := hl
  refine lv_iload_n hx hb dX1_halfOut_0 rfl (lv_at hl 1 rfl) ?_
  refine lv_ldc (v := 65535) hx hb hown (hts _ q165) dX1_halfOut_1 ?_
  refine lv_iand hx hb dX1_halfOut_3 ?_
  refine lv_i2l (v := (xa &&& 65535).toInt64) hx hb dX1_halfOut_4 rfl ?_
  refine lv_iconst (v := 0) hx hb dX1_halfOut_5 (by decide) ?_
  refine lv_bipush (v := 16) hx hb dX1_halfOut_6 (by decide) ?_
  refine vp_callSl (W.runS (As := [.long ((xa &&& 65535).toInt64), .int (0), .int (16)]) (rest := []) ⟨hx, hb, hml, hown, hts⟩ (metX1_spread l ((xa &&& 65535).toInt64) (0) (16) (by omega)) (va_cwS 3 hts (lw_S q158 q159 q2 q160) rfl rfl rfl (by decide +kernel) ⟨Nat.le_of_ble_eq_true rfl, Nat.le_of_ble_eq_true rfl⟩) preEq rfl rfl hl.1 rfl (lv_room (Nat.le_of_ble_eq_true rfl)) dX1_halfOut_8 ⟨Nat.le_of_ble_eq_true rfl, Nat.le_of_ble_eq_true rfl⟩) (fun r1 er1 => ?_)
  have er1 : r1 = spr ((xa &&& 65535).toInt64) (0) (16) := er1
  refine lv_l2i (v := r1.toInt32) hx hb dX1_halfOut_11 rfl ?_
  subst er1
  exact W.iret hx hb hr (fun t ht hW => ⟨_, rfl, rfl, ht⟩) (fun q h => by cases h) dX1_halfOut_12
set_option maxHeartbeats 4000000 in
set_option maxRecDepth 100000 in
theorem metX1_wordOut (l : Launch) (h0 : Nat) (xa : Int32) : Met l yX1_wordOut (ws_ yX1_wordOut cX1_wordOut 2 (some .long)) ({ frames := 1, cells := 0, slots := 0, locals := 26 }) (fun v _ => v = ([.ref (h0), .int (xa)] : List Value).toArray) (vp_Sl (fun r => r = spr (xa.toInt64 &&& 4294967295) 0 32)) 0 0 (fun _ => False) := by
  refine Met.ofW (cc := cX1_wordOut) (maxL := 2) (ret := (some .long)) (by decide) rfl ?_
  intro p e s m args below meth c s₁ B hml hv
  obtain rfl := hv
  have hx := B.exec
  have hb := B.bytes
  have hr := B.returns
  have hts := atoms_spec (ws := ws_ yX1_wordOut cX1_wordOut 2 (some .long)) B.pre
  have hts : ∀ w ∈ lw_all, w.before _ s = true := fun w h => hts w (List.mem_cons_of_mem _ h)
  have hown : s.vm.findClass RX1 = some m.cls := findClass_of_methodNamed B.named
  have hlocks := B.notSynchronized
  have hl := lv_entry ([.ref (h0), .int (xa)]) (n := 2) (Nat.le_of_ble_eq_true rfl)
  rw [lg_entry_eq]
  generalize (lg_sl ([.ref (h0), .int (xa)]) ++ List.replicate (2 - (lg_sl ([.ref (h0), .int (xa)])).length) Slot.unset).toArray = ls at hl ⊢
  have hl : lv_has ls 2 [(0, .ref (h0)), (1, .int (xa))] := hl
  refine lv_iload_n hx hb dX1_wordOut_0 rfl (lv_at hl 1 rfl) ?_
  refine lv_i2l (v := xa.toInt64) hx hb dX1_wordOut_1 rfl ?_
  refine lv_ldc2 (v := 4294967295) hx hb hown (hts _ q170) dX1_wordOut_2 ?_
  refine lv_land hx hb dX1_wordOut_5 ?_
  refine lv_iconst (v := 0) hx hb dX1_wordOut_6 (by decide) ?_
  refine lv_bipush (v := 32) hx hb dX1_wordOut_7 (by decide) ?_
  refine vp_callSl (W.runS (As := [.long ((xa.toInt64 &&& 4294967295)), .int (0), .int (32)]) (rest := []) ⟨hx, hb, hml, hown, hts⟩ (metX1_spread l ((xa.toInt64 &&& 4294967295)) (0) (32) (by omega)) (va_cwS 3 hts (lw_S q158 q159 q2 q160) rfl rfl rfl (by decide +kernel) ⟨Nat.le_of_ble_eq_true rfl, Nat.le_of_ble_eq_true rfl⟩) preEq rfl rfl hl.1 rfl (lv_room (Nat.le_of_ble_eq_true rfl)) dX1_wordOut_9 ⟨Nat.le_of_ble_eq_true rfl, Nat.le_of_ble_eq_true rfl⟩) (fun r1 er1 => ?_)
  have er1 : r1 = spr ((xa.toInt64 &&& 4294967295)) (0) (32) := er1
  subst er1
  exact W.lret hx hb hr (fun t ht hW => ⟨_, rfl, rfl, ht⟩) (fun q h => by cases h) dX1_wordOut_12
set_option maxHeartbeats 4000000 in
set_option maxRecDepth 100000 in
theorem metX1_shuffle (l : Launch) (h0 : Nat) (xa : Int32) : Met l yX1_shuffle (ws_ yX1_shuffle cX1_shuffle 2 (some .int)) ({ frames := 2, cells := 0, slots := 0, locals := 48 }) (fun v _ => v = ([.ref (h0), .int (xa)] : List Value).toArray) (vp_Si (fun r => r = (weaL (xa.toInt64 &&& 4294967295) 16).toInt32)) 0 0 (fun _ => False) := by
  refine Met.ofW (cc := cX1_shuffle) (maxL := 2) (ret := (some .int)) (by decide) rfl ?_
  intro p e s m args below meth c s₁ B hml hv
  obtain rfl := hv
  have hx := B.exec
  have hb := B.bytes
  have hr := B.returns
  have hts := atoms_spec (ws := ws_ yX1_shuffle cX1_shuffle 2 (some .int)) B.pre
  have hts : ∀ w ∈ lw_all, w.before _ s = true := fun w h => hts w (List.mem_cons_of_mem _ h)
  have hown : s.vm.findClass RX1 = some m.cls := findClass_of_methodNamed B.named
  have hlocks := B.notSynchronized
  have hl := lv_entry ([.ref (h0), .int (xa)]) (n := 2) (Nat.le_of_ble_eq_true rfl)
  rw [lg_entry_eq]
  generalize (lg_sl ([.ref (h0), .int (xa)]) ++ List.replicate (2 - (lg_sl ([.ref (h0), .int (xa)])).length) Slot.unset).toArray = ls at hl ⊢
  have hl : lv_has ls 2 [(0, .ref (h0)), (1, .int (xa))] := hl
  refine lv_iload_n hx hb dX1_shuffle_0 rfl (lv_at hl 1 rfl) ?_
  refine lv_i2l (v := xa.toInt64) hx hb dX1_shuffle_1 rfl ?_
  refine lv_ldc2 (v := 4294967295) hx hb hown (hts _ q170) dX1_shuffle_2 ?_
  refine lv_land hx hb dX1_shuffle_5 ?_
  refine lv_bipush (v := 32) hx hb dX1_shuffle_6 (by decide) ?_
  refine vp_callSl (W.runS (As := [.long ((xa.toInt64 &&& 4294967295)), .int (32)]) (rest := []) ⟨hx, hb, hml, hown, hts⟩ (metX1_weave l ((xa.toInt64 &&& 4294967295)) (32) 16 (by decide) (by decide)) (va_cwS 2 hts (lw_S q186 q187 q2 q188) rfl rfl rfl (by decide +kernel) ⟨Nat.le_of_ble_eq_true rfl, Nat.le_of_ble_eq_true rfl⟩) preEq rfl rfl hl.1 rfl (lv_room (Nat.le_of_ble_eq_true rfl)) dX1_shuffle_8 ⟨Nat.le_of_ble_eq_true rfl, Nat.le_of_ble_eq_true rfl⟩) (fun r1 er1 => ?_)
  have er1 : r1 = weaL ((xa.toInt64 &&& 4294967295)) 16 := er1
  refine lv_l2i (v := r1.toInt32) hx hb dX1_shuffle_11 rfl ?_
  subst er1
  exact W.iret hx hb hr (fun t ht hW => ⟨_, rfl, rfl, ht⟩) (fun q h => by cases h) dX1_shuffle_12
set_option maxHeartbeats 4000000 in
set_option maxRecDepth 100000 in
theorem metX1_unshuffle (l : Launch) (h0 : Nat) (xa : Int32) : Met l yX1_unshuffle (ws_ yX1_unshuffle cX1_unshuffle 2 (some .int)) ({ frames := 1, cells := 0, slots := 0, locals := 25 }) (fun v _ => v = ([.ref (h0), .int (xa)] : List Value).toArray) (vp_Si (fun r => r = (prt (xa.toInt64 &&& 4294967295) 16 16).toInt32)) 0 0 (fun _ => False) := by
  refine Met.ofW (cc := cX1_unshuffle) (maxL := 2) (ret := (some .int)) (by decide) rfl ?_
  intro p e s m args below meth c s₁ B hml hv
  obtain rfl := hv
  have hx := B.exec
  have hb := B.bytes
  have hr := B.returns
  have hts := atoms_spec (ws := ws_ yX1_unshuffle cX1_unshuffle 2 (some .int)) B.pre
  have hts : ∀ w ∈ lw_all, w.before _ s = true := fun w h => hts w (List.mem_cons_of_mem _ h)
  have hown : s.vm.findClass RX1 = some m.cls := findClass_of_methodNamed B.named
  have hlocks := B.notSynchronized
  have hl := lv_entry ([.ref (h0), .int (xa)]) (n := 2) (Nat.le_of_ble_eq_true rfl)
  rw [lg_entry_eq]
  generalize (lg_sl ([.ref (h0), .int (xa)]) ++ List.replicate (2 - (lg_sl ([.ref (h0), .int (xa)])).length) Slot.unset).toArray = ls at hl ⊢
  have hl : lv_has ls 2 [(0, .ref (h0)), (1, .int (xa))] := hl
  refine lv_iload_n hx hb dX1_unshuffle_0 rfl (lv_at hl 1 rfl) ?_
  refine lv_i2l (v := xa.toInt64) hx hb dX1_unshuffle_1 rfl ?_
  refine lv_ldc2 (v := 4294967295) hx hb hown (hts _ q170) dX1_unshuffle_2 ?_
  refine lv_land hx hb dX1_unshuffle_5 ?_
  refine lv_bipush (v := 32) hx hb dX1_unshuffle_6 (by decide) ?_
  refine vp_callSl (W.runS (As := [.long ((xa.toInt64 &&& 4294967295)), .int (32)]) (rest := []) ⟨hx, hb, hml, hown, hts⟩ (metX1_part l ((xa.toInt64 &&& 4294967295)) (32) 16 (by decide) (by decide)) (va_cwS 2 hts (lw_S q193 q194 q2 q195) rfl rfl rfl (by decide +kernel) ⟨Nat.le_of_ble_eq_true rfl, Nat.le_of_ble_eq_true rfl⟩) preEq rfl rfl hl.1 rfl (lv_room (Nat.le_of_ble_eq_true rfl)) dX1_unshuffle_8 ⟨Nat.le_of_ble_eq_true rfl, Nat.le_of_ble_eq_true rfl⟩) (fun r1 er1 => ?_)
  have er1 : r1 = prt ((xa.toInt64 &&& 4294967295)) (nI 16) 16 := er1
  refine lv_l2i (v := r1.toInt32) hx hb dX1_unshuffle_11 rfl ?_
  subst er1
  exact W.iret hx hb hr (fun t ht hW => ⟨_, rfl, rfl, ht⟩) (fun q h => by cases h) dX1_unshuffle_12
set_option maxHeartbeats 4000000 in
set_option maxRecDepth 100000 in
theorem metX1_longShuffle (l : Launch) (h0 : Nat) (xh : Int32) (xl : Int32) : Met l yX1_longShuffle (ws_ yX1_longShuffle cX1_longShuffle 3 (some .long)) ({ frames := 2, cells := 0, slots := 0, locals := 48 }) (fun v _ => v = ([.ref (h0), .int (xh), .int (xl)] : List Value).toArray) (vp_Sl (fun r => r = weaL (widL xh xl) 32)) 0 0 (fun _ => False) := by
  refine Met.ofW (cc := cX1_longShuffle) (maxL := 3) (ret := (some .long)) (by decide) rfl ?_
  intro p e s m args below meth c s₁ B hml hv
  obtain rfl := hv
  have hx := B.exec
  have hb := B.bytes
  have hr := B.returns
  have hts := atoms_spec (ws := ws_ yX1_longShuffle cX1_longShuffle 3 (some .long)) B.pre
  have hts : ∀ w ∈ lw_all, w.before _ s = true := fun w h => hts w (List.mem_cons_of_mem _ h)
  have hown : s.vm.findClass RX1 = some m.cls := findClass_of_methodNamed B.named
  have hlocks := B.notSynchronized
  have hl := lv_entry ([.ref (h0), .int (xh), .int (xl)]) (n := 3) (Nat.le_of_ble_eq_true rfl)
  rw [lg_entry_eq]
  generalize (lg_sl ([.ref (h0), .int (xh), .int (xl)]) ++ List.replicate (3 - (lg_sl ([.ref (h0), .int (xh), .int (xl)])).length) Slot.unset).toArray = ls at hl ⊢
  have hl : lv_has ls 3 [(0, .ref (h0)), (1, .int (xh)), (2, .int (xl))] := hl
  refine lv_iload_n hx hb dX1_longShuffle_0 rfl (lv_at hl 1 rfl) ?_
  refine lv_iload_n hx hb dX1_longShuffle_1 rfl (lv_at hl 2 rfl) ?_
  refine vp_callSl (W.runS (As := [.int (xh), .int (xl)]) (rest := []) ⟨hx, hb, hml, hown, hts⟩ (metX1_wide l (xh) (xl)) (va_cwS 2 hts (lw_S q175 q176 q2 q177) rfl rfl rfl (by decide +kernel) ⟨Nat.le_of_ble_eq_true rfl, Nat.le_of_ble_eq_true rfl⟩) preEq rfl rfl hl.1 rfl (lv_room (Nat.le_of_ble_eq_true rfl)) dX1_longShuffle_2 ⟨Nat.le_of_ble_eq_true rfl, Nat.le_of_ble_eq_true rfl⟩) (fun r1 er1 => ?_)
  have er1 : r1 = widL (xh) (xl) := er1
  refine lv_bipush (v := 64) hx hb dX1_longShuffle_5 (by decide) ?_
  refine vp_callSl (W.runS (As := [.long (r1), .int (64)]) (rest := []) ⟨hx, hb, hml, hown, hts⟩ (metX1_weave l (r1) (64) 32 (by decide) (by decide)) (va_cwS 2 hts (lw_S q186 q187 q2 q188) rfl rfl rfl (by decide +kernel) ⟨Nat.le_of_ble_eq_true rfl, Nat.le_of_ble_eq_true rfl⟩) preEq rfl rfl hl.1 rfl (lv_room (Nat.le_of_ble_eq_true rfl)) dX1_longShuffle_7 ⟨Nat.le_of_ble_eq_true rfl, Nat.le_of_ble_eq_true rfl⟩) (fun r2 er2 => ?_)
  have er2 : r2 = weaL (r1) 32 := er2
  subst er2
  subst er1
  exact W.lret hx hb hr (fun t ht hW => ⟨_, rfl, rfl, ht⟩) (fun q h => by cases h) dX1_longShuffle_10
set_option maxHeartbeats 4000000 in
set_option maxRecDepth 100000 in
theorem metX1_longUnshuffle (l : Launch) (h0 : Nat) (xh : Int32) (xl : Int32) : Met l yX1_longUnshuffle (ws_ yX1_longUnshuffle cX1_longUnshuffle 3 (some .long)) ({ frames := 1, cells := 0, slots := 0, locals := 25 }) (fun v _ => v = ([.ref (h0), .int (xh), .int (xl)] : List Value).toArray) (vp_Sl (fun r => r = prt (widL xh xl) 32 32)) 0 0 (fun _ => False) := by
  refine Met.ofW (cc := cX1_longUnshuffle) (maxL := 3) (ret := (some .long)) (by decide) rfl ?_
  intro p e s m args below meth c s₁ B hml hv
  obtain rfl := hv
  have hx := B.exec
  have hb := B.bytes
  have hr := B.returns
  have hts := atoms_spec (ws := ws_ yX1_longUnshuffle cX1_longUnshuffle 3 (some .long)) B.pre
  have hts : ∀ w ∈ lw_all, w.before _ s = true := fun w h => hts w (List.mem_cons_of_mem _ h)
  have hown : s.vm.findClass RX1 = some m.cls := findClass_of_methodNamed B.named
  have hlocks := B.notSynchronized
  have hl := lv_entry ([.ref (h0), .int (xh), .int (xl)]) (n := 3) (Nat.le_of_ble_eq_true rfl)
  rw [lg_entry_eq]
  generalize (lg_sl ([.ref (h0), .int (xh), .int (xl)]) ++ List.replicate (3 - (lg_sl ([.ref (h0), .int (xh), .int (xl)])).length) Slot.unset).toArray = ls at hl ⊢
  have hl : lv_has ls 3 [(0, .ref (h0)), (1, .int (xh)), (2, .int (xl))] := hl
  refine lv_iload_n hx hb dX1_longUnshuffle_0 rfl (lv_at hl 1 rfl) ?_
  refine lv_iload_n hx hb dX1_longUnshuffle_1 rfl (lv_at hl 2 rfl) ?_
  refine vp_callSl (W.runS (As := [.int (xh), .int (xl)]) (rest := []) ⟨hx, hb, hml, hown, hts⟩ (metX1_wide l (xh) (xl)) (va_cwS 2 hts (lw_S q175 q176 q2 q177) rfl rfl rfl (by decide +kernel) ⟨Nat.le_of_ble_eq_true rfl, Nat.le_of_ble_eq_true rfl⟩) preEq rfl rfl hl.1 rfl (lv_room (Nat.le_of_ble_eq_true rfl)) dX1_longUnshuffle_2 ⟨Nat.le_of_ble_eq_true rfl, Nat.le_of_ble_eq_true rfl⟩) (fun r1 er1 => ?_)
  have er1 : r1 = widL (xh) (xl) := er1
  refine lv_bipush (v := 64) hx hb dX1_longUnshuffle_5 (by decide) ?_
  refine vp_callSl (W.runS (As := [.long (r1), .int (64)]) (rest := []) ⟨hx, hb, hml, hown, hts⟩ (metX1_part l (r1) (64) 32 (by decide) (by decide)) (va_cwS 2 hts (lw_S q193 q194 q2 q195) rfl rfl rfl (by decide +kernel) ⟨Nat.le_of_ble_eq_true rfl, Nat.le_of_ble_eq_true rfl⟩) preEq rfl rfl hl.1 rfl (lv_room (Nat.le_of_ble_eq_true rfl)) dX1_longUnshuffle_7 ⟨Nat.le_of_ble_eq_true rfl, Nat.le_of_ble_eq_true rfl⟩) (fun r2 er2 => ?_)
  have er2 : r2 = prt (r1) (nI 32) 32 := er2
  subst er2
  subst er1
  exact W.lret hx hb hr (fun t ht hW => ⟨_, rfl, rfl, ht⟩) (fun q h => by cases h) dX1_longUnshuffle_10
set_option maxHeartbeats 4000000 in
set_option maxRecDepth 100000 in
theorem metX1_there (l : Launch) (h0 : Nat) (xa : Int32) : Met l yX1_there (ws_ yX1_there cX1_there 2 (some .int)) ({ frames := 0, cells := 0, slots := 0, locals := 0 }) (fun v _ => v = ([.ref (h0), .int (xa)] : List Value).toArray) (vp_Si (fun r => r = xa)) 0 0 (fun _ => False) := by
  refine Met.ofW (cc := cX1_there) (maxL := 2) (ret := (some .int)) (by decide) rfl ?_
  intro p e s m args below meth c s₁ B hml hv
  obtain rfl := hv
  have hx := B.exec
  have hb := B.bytes
  have hr := B.returns
  have hts := atoms_spec (ws := ws_ yX1_there cX1_there 2 (some .int)) B.pre
  have hts : ∀ w ∈ lw_all, w.before _ s = true := fun w h => hts w (List.mem_cons_of_mem _ h)
  have hown : s.vm.findClass RX1 = some m.cls := findClass_of_methodNamed B.named
  have hlocks := B.notSynchronized
  have hl := lv_entry ([.ref (h0), .int (xa)]) (n := 2) (Nat.le_of_ble_eq_true rfl)
  rw [lg_entry_eq]
  generalize (lg_sl ([.ref (h0), .int (xa)]) ++ List.replicate (2 - (lg_sl ([.ref (h0), .int (xa)])).length) Slot.unset).toArray = ls at hl ⊢
  have hl : lv_has ls 2 [(0, .ref (h0)), (1, .int (xa))] := hl
  refine lv_iload_n hx hb dX1_there_0 rfl (lv_at hl 1 rfl) ?_
  exact W.iret hx hb hr (fun t ht hW => ⟨_, rfl, rfl, ht⟩) (fun q h => by cases h) dX1_there_1
set_option maxHeartbeats 4000000 in
set_option maxRecDepth 100000 in
theorem metX1_longThere (l : Launch) (h0 : Nat) (xh : Int32) (xl : Int32) : Met l yX1_longThere (ws_ yX1_longThere cX1_longThere 3 (some .long)) ({ frames := 1, cells := 0, slots := 0, locals := 21 }) (fun v _ => v = ([.ref (h0), .int (xh), .int (xl)] : List Value).toArray) (vp_Sl (fun r => r = widL xh xl)) 0 0 (fun _ => False) := by
  refine Met.ofW (cc := cX1_longThere) (maxL := 3) (ret := (some .long)) (by decide) rfl ?_
  intro p e s m args below meth c s₁ B hml hv
  obtain rfl := hv
  have hx := B.exec
  have hb := B.bytes
  have hr := B.returns
  have hts := atoms_spec (ws := ws_ yX1_longThere cX1_longThere 3 (some .long)) B.pre
  have hts : ∀ w ∈ lw_all, w.before _ s = true := fun w h => hts w (List.mem_cons_of_mem _ h)
  have hown : s.vm.findClass RX1 = some m.cls := findClass_of_methodNamed B.named
  have hlocks := B.notSynchronized
  have hl := lv_entry ([.ref (h0), .int (xh), .int (xl)]) (n := 3) (Nat.le_of_ble_eq_true rfl)
  rw [lg_entry_eq]
  generalize (lg_sl ([.ref (h0), .int (xh), .int (xl)]) ++ List.replicate (3 - (lg_sl ([.ref (h0), .int (xh), .int (xl)])).length) Slot.unset).toArray = ls at hl ⊢
  have hl : lv_has ls 3 [(0, .ref (h0)), (1, .int (xh)), (2, .int (xl))] := hl
  refine lv_iload_n hx hb dX1_longThere_0 rfl (lv_at hl 1 rfl) ?_
  refine lv_iload_n hx hb dX1_longThere_1 rfl (lv_at hl 2 rfl) ?_
  refine vp_callSl (W.runS (As := [.int (xh), .int (xl)]) (rest := []) ⟨hx, hb, hml, hown, hts⟩ (metX1_wide l (xh) (xl)) (va_cwS 2 hts (lw_S q175 q176 q2 q177) rfl rfl rfl (by decide +kernel) ⟨Nat.le_of_ble_eq_true rfl, Nat.le_of_ble_eq_true rfl⟩) preEq rfl rfl hl.1 rfl (lv_room (Nat.le_of_ble_eq_true rfl)) dX1_longThere_2 ⟨Nat.le_of_ble_eq_true rfl, Nat.le_of_ble_eq_true rfl⟩) (fun r1 er1 => ?_)
  have er1 : r1 = widL (xh) (xl) := er1
  subst er1
  exact W.lret hx hb hr (fun t ht hW => ⟨_, rfl, rfl, ht⟩) (fun q h => by cases h) dX1_longThere_5
set_option maxHeartbeats 4000000 in
set_option maxRecDepth 100000 in
theorem metX1_thrice (l : Launch) (h0 : Nat) (xh : Int32) (xl : Int32) : Met l yX1_thrice (ws_ yX1_thrice cX1_thrice 3 (some .long)) ({ frames := 1, cells := 0, slots := 0, locals := 21 }) (fun v _ => v = ([.ref (h0), .int (xh), .int (xl)] : List Value).toArray) (vp_Sl (fun r => r = widL xh xl)) 0 0 (fun _ => False) := by
  refine Met.ofW (cc := cX1_thrice) (maxL := 3) (ret := (some .long)) (by decide) rfl ?_
  intro p e s m args below meth c s₁ B hml hv
  obtain rfl := hv
  have hx := B.exec
  have hb := B.bytes
  have hr := B.returns
  have hts := atoms_spec (ws := ws_ yX1_thrice cX1_thrice 3 (some .long)) B.pre
  have hts : ∀ w ∈ lw_all, w.before _ s = true := fun w h => hts w (List.mem_cons_of_mem _ h)
  have hown : s.vm.findClass RX1 = some m.cls := findClass_of_methodNamed B.named
  have hlocks := B.notSynchronized
  have hl := lv_entry ([.ref (h0), .int (xh), .int (xl)]) (n := 3) (Nat.le_of_ble_eq_true rfl)
  rw [lg_entry_eq]
  generalize (lg_sl ([.ref (h0), .int (xh), .int (xl)]) ++ List.replicate (3 - (lg_sl ([.ref (h0), .int (xh), .int (xl)])).length) Slot.unset).toArray = ls at hl ⊢
  have hl : lv_has ls 3 [(0, .ref (h0)), (1, .int (xh)), (2, .int (xl))] := hl
  refine lv_iload_n hx hb dX1_thrice_0 rfl (lv_at hl 1 rfl) ?_
  refine lv_iload_n hx hb dX1_thrice_1 rfl (lv_at hl 2 rfl) ?_
  refine vp_callSl (W.runS (As := [.int (xh), .int (xl)]) (rest := []) ⟨hx, hb, hml, hown, hts⟩ (metX1_wide l (xh) (xl)) (va_cwS 2 hts (lw_S q175 q176 q2 q177) rfl rfl rfl (by decide +kernel) ⟨Nat.le_of_ble_eq_true rfl, Nat.le_of_ble_eq_true rfl⟩) preEq rfl rfl hl.1 rfl (lv_room (Nat.le_of_ble_eq_true rfl)) dX1_thrice_2 ⟨Nat.le_of_ble_eq_true rfl, Nat.le_of_ble_eq_true rfl⟩) (fun r1 er1 => ?_)
  have er1 : r1 = widL (xh) (xl) := er1
  subst er1
  exact W.lret hx hb hr (fun t ht hW => ⟨_, rfl, rfl, ht⟩) (fun q h => by cases h) dX1_thrice_5
end
section
/-! CONTRACTS 5 (printed by wip gen2.py): what has a world: constructors, expand64To128, longOut, pair -/
abbrev vwCl : List vw_C := [(RX0, TX0, 1), (RX1, TX1, 1)]
/-- the two longs of a pair behind longOut -/
def f2 (f : Nat → Int64) (x : Int64) : Nat → Int64 := vp_updL (vp_updL f 0 (spr x 0 32)) 1 (spr x 32 32)
theorem and_small (x : Int32) {k : Nat} (hk : k < 2 ^ 31) : ∃ n, n ≤ k ∧ x &&& nI k = nI n := by
  refine ⟨x.toBitVec.toNat &&& k, Nat.and_le_right, ?_⟩
  apply Int32.toBitVec_inj.mp
  rw [Int32.toBitVec_and]
  apply BitVec.eq_of_toNat_eq
  rw [BitVec.toNat_and]
  show _ = (BitVec.ofNat 32 _).toNat
  have h1 : (nI k).toBitVec.toNat = k := by
    show (BitVec.ofNat 32 k).toNat = k
    rw [BitVec.toNat_ofNat]
    exact Nat.mod_eq_of_lt (by omega)
  have h2 : x.toBitVec.toNat &&& k ≤ k := Nat.and_le_right
  rw [h1, BitVec.toNat_ofNat, Nat.mod_eq_of_lt (by omega)]
theorem in_and1 (x : Int32) : vp_in (x &&& 1) 2 := by
  obtain ⟨n, h1, h2⟩ := and_small x (k := 1) (by decide)
  have h3 : x &&& 1 = nI n := h2
  rw [h3]
  exact nI_in (by omega) (by decide)
abbrev BX0_init (dC : Nat → ClassId) (dI : Nat → Nat → Nat) (A : Nat → Prop) (h0 : Nat) (_ : Unit) (t : State) : Prop := ∃ (a : Nat) (d : ClassId), va_P (dC, dI) vwCl [(h0, .inr (0, [.ref a])), (a, .inl (d, 2, .inr (.inl (fun _ => 0))))] t.heap ∧ va_K (dC, dI) vwCl [(d, .long)] t ∧ va_D A [(h0, .inr (0, [.ref a])), (a, .inl (d, 2, .inr (.inl (fun _ => 0))))]
set_option maxHeartbeats 4000000 in
set_option maxRecDepth 100000 in
theorem metX0_init (l : Launch) (dC : Nat → ClassId) (dI : Nat → Nat → Nat) (h0 sz : Nat) : Met l yX0_init (ws_ yX0_init cX0_init 1 none) ({ frames := 1, cells := 1, slots := 2, locals := 12 }) (va_Pc [.ref h0] (fun U => U.heap.size = sz ∧ va_P (dC, dI) vwCl [(h0, .inr (0, [.null]))] U.heap ∧ va_K (dC, dI) vwCl [] U ∧ va_D (fun _ => True) [(h0, .inr (0, [.null]))])) (va_Qv (fun (_ : Unit) => True) (BX0_init dC dI (va_A [(h0, .inr (0, [.null]))] sz) h0) (va_A [(h0, .inr (0, [.null]))] sz)) 1 2 (va_A [(h0, .inr (0, [.null]))] sz) := by
  refine Met.ofW (cc := cX0_init) (maxL := 1) (ret := none) (by decide) rfl ?_
  intro p e s m args below meth c s₁ B hml hv
  obtain ⟨rfl, hsz, hP, hK, hD0⟩ := hv
  have hx := B.exec
  have hb := B.bytes
  have hr := B.returns
  have hts := atoms_spec (ws := ws_ yX0_init cX0_init 1 none) B.pre
  have hts : ∀ w ∈ lw_all, w.before _ s = true := fun w h => hts w (List.mem_cons_of_mem _ h)
  have hown : s.vm.findClass RX0 = some m.cls := findClass_of_methodNamed B.named
  have hlocks := B.notSynchronized
  have hin : meth.name = "<init>" := (name_of_methodNamed B.named B.method).1
  subst hsz
  have hD := hD0.self (sz := s.heap.size)
  generalize hAe : va_A [(h0, .inr (0, [.null]))] s.heap.size = A at hD ⊢
  have hA : ∀ q : Nat, s.heap.size ≤ q → A q := fun q h => by rw [← hAe]; exact Or.inr h
  have hS : va_S A s.heap s.heap [] := va_S.rf
  have hl := lv_entry ([.ref h0]) (n := 1) (Nat.le_of_ble_eq_true rfl)
  rw [lg_entry_eq]
  generalize (lg_sl ([.ref h0]) ++ List.replicate (1 - (lg_sl ([.ref h0])).length) Slot.unset).toArray = ls at hl ⊢
  have hl : lv_has ls 1 [(0, .ref h0)] := hl
  refine lv_aload_n hx hb dX0_init_0 rfl (lv_at hl 0 rfl) ?_
  refine W.objInit hx hb hown (hts _ q10) (hts _ q11) (hts _ q12) rfl (by rw [hml]; exact hl.1) rfl dX0_init_1 (Nat.le_of_ble_eq_true rfl) (Nat.le_of_ble_eq_true rfl) ?_
  refine W.eq (g2 := F0 m 4 ls []) rfl ?_
  refine lv_aload_n hx hb dX0_init_4 rfl (lv_at hl 0 rfl) ?_
  refine lv_iconst (v := 2) hx hb dX0_init_5 (by decide) ?_
  refine va_newa (atype := .long) (ty := .long) (N' := 2) (a0 := (2, .inr (.inl (fun _ => 0)))) hx hb (hts _ q17) rfl hK hP hD hS hA (fun _ => rfl) (by decide) (by decide) (Nat.le_of_ble_eq_true rfl) (Nat.le_of_ble_eq_true rfl) (Nat.le_of_ble_eq_true rfl) dX0_init_6 (fun a d H hK hP hD hS => ?_)
  have hP : va_P (dC, dI) vwCl [(h0, .inr (0, [.null])), (a, .inl (d, 2, .inr (.inl (fun _ => 0))))] H := hP
  have hD : va_D A [(h0, .inr (0, [.null])), (a, .inl (d, 2, .inr (.inl (fun _ => 0))))] := hD
  have hK : va_K (dC, dI) vwCl [(d, .long)] s := hK
  refine W.widen (k := 1) (n := 2) (Nat.le_of_ble_eq_true rfl) (Nat.le_of_ble_eq_true rfl) ?_
  refine va_putF (D := (dC, dI)) (ci := 0) (v := .ref a) (ty := .array .long) (C := RX0) (T := TX0) (N := 1) hx hb hts in_X0 tyX0 tyX0_ok nmX0 hown hK hP hD hS 0 rfl rfl 0 (by decide) (hts _ q13) (fun _ h9 => h9) rfl hin rfl (by decide +kernel) rfl rfl (Nat.le_of_ble_eq_true rfl) dX0_init_8 (fun H locs hP hD hS => ?_)
  have hP : va_P (dC, dI) vwCl [(h0, .inr (0, [.ref a])), (a, .inl (d, 2, .inr (.inl (fun _ => 0))))] H := hP
  have hD : va_D A [(h0, .inr (0, [.ref a])), (a, .inl (d, 2, .inr (.inl (fun _ => 0))))] := hD
  exact W.vret hx hb hr (fun t ht hW => ⟨⟨(), rfl, trivial, a, d, by rw [ht]; exact hP, va_K.moved hW.alike hK, hD⟩, hS.F ht⟩) hS.2.2 dX0_init_11
abbrev BX1_init (dC : Nat → ClassId) (dI : Nat → Nat → Nat) (A : Nat → Prop) (h0 : Nat) (_ : Unit) (t : State) : Prop := ∃ (a : Nat) (d : ClassId), va_P (dC, dI) vwCl [(h0, .inr (1, [.ref a])), (a, .inl (d, 2, .inr (.inl (fun _ => 0))))] t.heap ∧ va_K (dC, dI) vwCl [(d, .long)] t ∧ va_D A [(h0, .inr (1, [.ref a])), (a, .inl (d, 2, .inr (.inl (fun _ => 0))))]
set_option maxHeartbeats 4000000 in
set_option maxRecDepth 100000 in
theorem metX1_init (l : Launch) (dC : Nat → ClassId) (dI : Nat → Nat → Nat) (h0 sz : Nat) : Met l yX1_init (ws_ yX1_init cX1_init 1 none) ({ frames := 1, cells := 1, slots := 2, locals := 12 }) (va_Pc [.ref h0] (fun U => U.heap.size = sz ∧ va_P (dC, dI) vwCl [(h0, .inr (1, [.null]))] U.heap ∧ va_K (dC, dI) vwCl [] U ∧ va_D (fun _ => True) [(h0, .inr (1, [.null]))])) (va_Qv (fun (_ : Unit) => True) (BX1_init dC dI (va_A [(h0, .inr (1, [.null]))] sz) h0) (va_A [(h0, .inr (1, [.null]))] sz)) 1 2 (va_A [(h0, .inr (1, [.null]))] sz) := by
  refine Met.ofW (cc := cX1_init) (maxL := 1) (ret := none) (by decide) rfl ?_
  intro p e s m args below meth c s₁ B hml hv
  obtain ⟨rfl, hsz, hP, hK, hD0⟩ := hv
  have hx := B.exec
  have hb := B.bytes
  have hr := B.returns
  have hts := atoms_spec (ws := ws_ yX1_init cX1_init 1 none) B.pre
  have hts : ∀ w ∈ lw_all, w.before _ s = true := fun w h => hts w (List.mem_cons_of_mem _ h)
  have hown : s.vm.findClass RX1 = some m.cls := findClass_of_methodNamed B.named
  have hlocks := B.notSynchronized
  have hin : meth.name = "<init>" := (name_of_methodNamed B.named B.method).1
  subst hsz
  have hD := hD0.self (sz := s.heap.size)
  generalize hAe : va_A [(h0, .inr (1, [.null]))] s.heap.size = A at hD ⊢
  have hA : ∀ q : Nat, s.heap.size ≤ q → A q := fun q h => by rw [← hAe]; exact Or.inr h
  have hS : va_S A s.heap s.heap [] := va_S.rf
  have hl := lv_entry ([.ref h0]) (n := 1) (Nat.le_of_ble_eq_true rfl)
  rw [lg_entry_eq]
  generalize (lg_sl ([.ref h0]) ++ List.replicate (1 - (lg_sl ([.ref h0])).length) Slot.unset).toArray = ls at hl ⊢
  have hl : lv_has ls 1 [(0, .ref h0)] := hl
  refine lv_aload_n hx hb dX1_init_0 rfl (lv_at hl 0 rfl) ?_
  refine W.objInit hx hb hown (hts _ q149) (hts _ q11) (hts _ q12) rfl (by rw [hml]; exact hl.1) rfl dX1_init_1 (Nat.le_of_ble_eq_true rfl) (Nat.le_of_ble_eq_true rfl) ?_
  refine W.eq (g2 := F0 m 4 ls []) rfl ?_
  refine lv_aload_n hx hb dX1_init_4 rfl (lv_at hl 0 rfl) ?_
  refine lv_iconst (v := 2) hx hb dX1_init_5 (by decide) ?_
  refine va_newa (atype := .long) (ty := .long) (N' := 2) (a0 := (2, .inr (.inl (fun _ => 0)))) hx hb (hts _ q17) rfl hK hP hD hS hA (fun _ => rfl) (by decide) (by decide) (Nat.le_of_ble_eq_true rfl) (Nat.le_of_ble_eq_true rfl) (Nat.le_of_ble_eq_true rfl) dX1_init_6 (fun a d H hK hP hD hS => ?_)
  have hP : va_P (dC, dI) vwCl [(h0, .inr (1, [.null])), (a, .inl (d, 2, .inr (.inl (fun _ => 0))))] H := hP
  have hD : va_D A [(h0, .inr (1, [.null])), (a, .inl (d, 2, .inr (.inl (fun _ => 0))))] := hD
  have hK : va_K (dC, dI) vwCl [(d, .long)] s := hK
  refine W.widen (k := 1) (n := 2) (Nat.le_of_ble_eq_true rfl) (Nat.le_of_ble_eq_true rfl) ?_
  refine va_putF (D := (dC, dI)) (ci := 1) (v := .ref a) (ty := .array .long) (C := RX1) (T := TX1) (N := 1) hx hb hts in_X1 tyX1 tyX1_ok nmX1 hown hK hP hD hS 0 rfl rfl 0 (by decide) (hts _ q150) (fun _ h9 => h9) rfl hin rfl (by decide +kernel) rfl rfl (Nat.le_of_ble_eq_true rfl) dX1_init_8 (fun H locs hP hD hS => ?_)
  have hP : va_P (dC, dI) vwCl [(h0, .inr (1, [.ref a])), (a, .inl (d, 2, .inr (.inl (fun _ => 0))))] H := hP
  have hD : va_D A [(h0, .inr (1, [.ref a])), (a, .inl (d, 2, .inr (.inl (fun _ => 0))))] := hD
  exact W.vret hx hb hr (fun t ht hW => ⟨⟨(), rfl, trivial, a, d, by rw [ht]; exact hP, va_K.moved hW.alike hK, hD⟩, hS.F ht⟩) hS.2.2 dX1_init_11
set_option maxHeartbeats 4000000 in
set_option maxRecDepth 100000 in
theorem metX0_pair (l : Launch) (dC : Nat → ClassId) (dI : Nat → Nat → Nat) (h0 a : Nat) (d : ClassId) (f : Nat → Int64) (sz : Nat) (xi : Int32) : Met l yX0_pair (ws_ yX0_pair cX0_pair 2 (some .long)) ({ frames := 0, cells := 0, slots := 0, locals := 0 }) (va_Pc [.ref h0, .int xi] (fun U => U.heap.size = sz ∧ va_P (dC, dI) vwCl [(h0, .inr (0, [.ref a])), (a, .inl (d, 2, .inr (.inl f)))] U.heap ∧ va_K (dC, dI) vwCl [(d, .long)] U ∧ va_D (fun _ => True) [(h0, .inr (0, [.ref a])), (a, .inl (d, 2, .inr (.inl f)))])) (vp_Sl (fun r => r = f (xi &&& 1).toNatClampNeg)) 0 0 (fun _ => False) := by
  refine Met.ofW (cc := cX0_pair) (maxL := 2) (ret := (some .long)) (by decide) rfl ?_
  intro p e s m args below meth c s₁ B hml hv
  obtain ⟨rfl, hsz, hP, hK, hD0⟩ := hv
  have hx := B.exec
  have hb := B.bytes
  have hr := B.returns
  have hts := atoms_spec (ws := ws_ yX0_pair cX0_pair 2 (some .long)) B.pre
  have hts : ∀ w ∈ lw_all, w.before _ s = true := fun w h => hts w (List.mem_cons_of_mem _ h)
  have hown : s.vm.findClass RX0 = some m.cls := findClass_of_methodNamed B.named
  have hlocks := B.notSynchronized
  subst hsz
  have hD := hD0.self (sz := s.heap.size)
  have hl := lv_entry ([.ref h0, .int xi]) (n := 2) (Nat.le_of_ble_eq_true rfl)
  rw [lg_entry_eq]
  generalize (lg_sl ([.ref h0, .int xi]) ++ List.replicate (2 - (lg_sl ([.ref h0, .int xi])).length) Slot.unset).toArray = ls at hl ⊢
  have hl : lv_has ls 2 [(0, .ref h0), (1, .int xi)] := hl
  refine lv_aload_n hx hb dX0_pair_0 rfl (lv_at hl 0 rfl) ?_
  refine va_get (D := (dC, dI)) (ci := 0) (v := .ref a) (C := RX0) (T := TX0) (N := 1) hx hb hts in_X0 hown hK hP 0 rfl rfl 0 (by decide) (hts _ q13) (fun _ h9 => h9) rfl dX0_pair_1 ?_
  refine lv_iload_n hx hb dX0_pair_4 rfl (lv_at hl 1 rfl) ?_
  refine lv_iconst (v := 1) hx hb dX0_pair_5 (by decide) ?_
  refine lv_iand hx hb dX0_pair_6 ?_
  refine va_lald hx hb hK hP 1 0 rfl rfl (in_and1 xi) dX0_pair_7 ?_
  exact W.lret hx hb hr (fun t ht hW => ⟨_, rfl, rfl, ht⟩) (fun q h => by cases h) dX0_pair_8
set_option maxHeartbeats 4000000 in
set_option maxRecDepth 100000 in
theorem metX1_pair (l : Launch) (dC : Nat → ClassId) (dI : Nat → Nat → Nat) (h0 a : Nat) (d : ClassId) (f : Nat → Int64) (sz : Nat) (xi : Int32) : Met l yX1_pair (ws_ yX1_pair cX1_pair 2 (some .long)) ({ frames := 0, cells := 0, slots := 0, locals := 0 }) (va_Pc [.ref h0, .int xi] (fun U => U.heap.size = sz ∧ va_P (dC, dI) vwCl [(h0, .inr (1, [.ref a])), (a, .inl (d, 2, .inr (.inl f)))] U.heap ∧ va_K (dC, dI) vwCl [(d, .long)] U ∧ va_D (fun _ => True) [(h0, .inr (1, [.ref a])), (a, .inl (d, 2, .inr (.inl f)))])) (vp_Sl (fun r => r = f (xi &&& 1).toNatClampNeg)) 0 0 (fun _ => False) := by
  refine Met.ofW (cc := cX1_pair) (maxL := 2) (ret := (some .long)) (by decide) rfl ?_
  intro p e s m args below meth c s₁ B hml hv
  obtain ⟨rfl, hsz, hP, hK, hD0⟩ := hv
  have hx := B.exec
  have hb := B.bytes
  have hr := B.returns
  have hts := atoms_spec (ws := ws_ yX1_pair cX1_pair 2 (some .long)) B.pre
  have hts : ∀ w ∈ lw_all, w.before _ s = true := fun w h => hts w (List.mem_cons_of_mem _ h)
  have hown : s.vm.findClass RX1 = some m.cls := findClass_of_methodNamed B.named
  have hlocks := B.notSynchronized
  subst hsz
  have hD := hD0.self (sz := s.heap.size)
  have hl := lv_entry ([.ref h0, .int xi]) (n := 2) (Nat.le_of_ble_eq_true rfl)
  rw [lg_entry_eq]
  generalize (lg_sl ([.ref h0, .int xi]) ++ List.replicate (2 - (lg_sl ([.ref h0, .int xi])).length) Slot.unset).toArray = ls at hl ⊢
  have hl : lv_has ls 2 [(0, .ref h0), (1, .int xi)] := hl
  refine lv_aload_n hx hb dX1_pair_0 rfl (lv_at hl 0 rfl) ?_
  refine va_get (D := (dC, dI)) (ci := 1) (v := .ref a) (C := RX1) (T := TX1) (N := 1) hx hb hts in_X1 hown hK hP 0 rfl rfl 0 (by decide) (hts _ q150) (fun _ h9 => h9) rfl dX1_pair_1 ?_
  refine lv_iload_n hx hb dX1_pair_4 rfl (lv_at hl 1 rfl) ?_
  refine lv_iconst (v := 1) hx hb dX1_pair_5 (by decide) ?_
  refine lv_iand hx hb dX1_pair_6 ?_
  refine va_lald hx hb hK hP 1 0 rfl rfl (in_and1 xi) dX1_pair_7 ?_
  exact W.lret hx hb hr (fun t ht hW => ⟨_, rfl, rfl, ht⟩) (fun q h => by cases h) dX1_pair_8
set_option maxHeartbeats 4000000 in
set_option maxRecDepth 100000 in
theorem metX2_expand64To128 (l : Launch) (dC : Nat → ClassId) (dI : Nat → Nat → Nat) (a : Nat) (d : ClassId) (f : Nat → Int64) (sz : Nat) (xa : Int64) : Met l yX2_expand64To128 (ws_ yX2_expand64To128 cX2_expand64To128 4 none) ({ frames := 1, cells := 0, slots := 0, locals := 26 }) (va_Pc [.long xa, .ref a, .int 0] (fun U => U.heap.size = sz ∧ va_P (dC, dI) vwCl [(a, .inl (d, 2, .inr (.inl f)))] U.heap ∧ va_K (dC, dI) vwCl [(d, .long)] U ∧ va_D (fun _ => True) [(a, .inl (d, 2, .inr (.inl f)))])) (va_Qv (fun (_ : Unit) => True) (fun _ t => va_P (dC, dI) vwCl [(a, .inl (d, 2, .inr (.inl (f2 f xa))))] t.heap ∧ va_K (dC, dI) vwCl [(d, .long)] t ∧ va_D (va_A [(a, .inl (d, 2, .inr (.inl f)))] sz) [(a, .inl (d, 2, .inr (.inl (f2 f xa))))]) (va_A [(a, .inl (d, 2, .inr (.inl f)))] sz)) 0 0 (va_A [(a, .inl (d, 2, .inr (.inl f)))] sz) := by
  refine Met.ofW (cc := cX2_expand64To128) (maxL := 4) (ret := none) (by decide) rfl ?_
  intro p e s m args below meth c s₁ B hml hv
  obtain ⟨rfl, hsz, hP, hK, hD0⟩ := hv
  have hx := B.exec
  have hb := B.bytes
  have hr := B.returns
  have hts := atoms_spec (ws := ws_ yX2_expand64To128 cX2_expand64To128 4 none) B.pre
  have hts : ∀ w ∈ lw_all, w.before _ s = true := fun w h => hts w (List.mem_cons_of_mem _ h)
  have hown : s.vm.findClass RX2 = some m.cls := findClass_of_methodNamed B.named
  have hlocks := B.notSynchronized
  subst hsz
  have hD := hD0.self (sz := s.heap.size)
  generalize hAe : va_A [(a, .inl (d, 2, .inr (.inl f)))] s.heap.size = A at hD ⊢
  have hA : ∀ q : Nat, s.heap.size ≤ q → A q := fun q h => by rw [← hAe]; exact Or.inr h
  have hS : va_S A s.heap s.heap [] := va_S.rf
  have hl := lv_entry ([.long xa, .ref a, .int 0]) (n := 4) (Nat.le_of_ble_eq_true rfl)
  rw [lg_entry_eq]
  generalize (lg_sl ([.long xa, .ref a, .int 0]) ++ List.replicate (4 - (lg_sl ([.long xa, .ref a, .int 0])).length) Slot.unset).toArray = ls at hl ⊢
  have hl : lv_has ls 4 [(0, .long xa), (2, .ref a), (3, .int 0)] := hl
  refine lv_lload_n hx hb dX2_expand64To128_0 rfl (lv_at hl 0 rfl) ?_
  refine lv_ldc2 (v := 4294901760) hx hb hown (hts _ q63) dX2_expand64To128_1 ?_
  refine lv_bipush (v := 16) hx hb dX2_expand64To128_4 (by decide) ?_
  refine vp_callSl (W.runS (As := [.long xa, .long 4294901760, .int 16]) (rest := []) ⟨hx, hb, hml, hown, hts⟩ (metX3_bitPermuteStep_2 l xa 4294901760 16) (va_cwS 3 hts (lw_S q64 q65 q4 q66) rfl rfl rfl (by decide +kernel) ⟨Nat.le_of_ble_eq_true rfl, Nat.le_of_ble_eq_true rfl⟩) preEq rfl rfl hl.1 rfl (lv_room (Nat.le_of_ble_eq_true rfl)) dX2_expand64To128_6 ⟨Nat.le_of_ble_eq_true rfl, Nat.le_of_ble_eq_true rfl⟩) (fun r1 er1 => ?_)
  have er1 : r1 = bpL xa 4294901760 16 := er1
  refine lv_lstore_n (lv' := [(0, .long r1), (2, .ref a), (3, .int 0)]) hx hb dX2_expand64To128_9 rfl hl (by decide) rfl (fun ls hl => ?_)
  refine lv_lload_n hx hb dX2_expand64To128_10 rfl (lv_at hl 0 rfl) ?_
  refine lv_ldc2 (v := 280375465148160) hx hb hown (hts _ q67) dX2_expand64To128_11 ?_
  refine lv_bipush (v := 8) hx hb dX2_expand64To128_14 (by decide) ?_
  refine vp_callSl (W.runS (As := [.long r1, .long 280375465148160, .int 8]) (rest := []) ⟨hx, hb, hml, hown, hts⟩ (metX3_bitPermuteStep_2 l r1 280375465148160 8) (va_cwS 3 hts (lw_S q64 q65 q4 q66) rfl rfl rfl (by decide +kernel) ⟨Nat.le_of_ble_eq_true rfl, Nat.le_of_ble_eq_true rfl⟩) preEq rfl rfl hl.1 rfl (lv_room (Nat.le_of_ble_eq_true rfl)) dX2_expand64To128_16 ⟨Nat.le_of_ble_eq_true rfl, Nat.le_of_ble_eq_true rfl⟩) (fun r2 er2 => ?_)
  have er2 : r2 = bpL r1 280375465148160 8 := er2
  refine lv_lstore_n (lv' := [(0, .long r2), (2, .ref a), (3, .int 0)]) hx hb dX2_expand64To128_19 rfl hl (by decide) rfl (fun ls hl => ?_)
  refine lv_lload_n hx hb dX2_expand64To128_20 rfl (lv_at hl 0 rfl) ?_
  refine lv_ldc2 (v := 67555025218437360) hx hb hown (hts _ q68) dX2_expand64To128_21 ?_
  refine lv_iconst (v := 4) hx hb dX2_expand64To128_24 (by decide) ?_
  refine vp_callSl (W.runS (As := [.long r2, .long 67555025218437360, .int 4]) (rest := []) ⟨hx, hb, hml, hown, hts⟩ (metX3_bitPermuteStep_2 l r2 67555025218437360 4) (va_cwS 3 hts (lw_S q64 q65 q4 q66) rfl rfl rfl (by decide +kernel) ⟨Nat.le_of_ble_eq_true rfl, Nat.le_of_ble_eq_true rfl⟩) preEq rfl rfl hl.1 rfl (lv_room (Nat.le_of_ble_eq_true rfl)) dX2_expand64To128_25 ⟨Nat.le_of_ble_eq_true rfl, Nat.le_of_ble_eq_true rfl⟩) (fun r3 er3 => ?_)
  have er3 : r3 = bpL r2 67555025218437360 4 := er3
  refine lv_lstore_n (lv' := [(0, .long r3), (2, .ref a), (3, .int 0)]) hx hb dX2_expand64To128_28 rfl hl (by decide) rfl (fun ls hl => ?_)
  refine lv_lload_n hx hb dX2_expand64To128_29 rfl (lv_at hl 0 rfl) ?_
  refine lv_ldc2 (v := 868082074056920076) hx hb hown (hts _ q69) dX2_expand64To128_30 ?_
  refine lv_iconst (v := 2) hx hb dX2_expand64To128_33 (by decide) ?_
  refine vp_callSl (W.runS (As := [.long r3, .long 868082074056920076, .int 2]) (rest := []) ⟨hx, hb, hml, hown, hts⟩ (metX3_bitPermuteStep_2 l r3 868082074056920076 2) (va_cwS 3 hts (lw_S q64 q65 q4 q66) rfl rfl rfl (by decide +kernel) ⟨Nat.le_of_ble_eq_true rfl, Nat.le_of_ble_eq_true rfl⟩) preEq rfl rfl hl.1 rfl (lv_room (Nat.le_of_ble_eq_true rfl)) dX2_expand64To128_34 ⟨Nat.le_of_ble_eq_true rfl, Nat.le_of_ble_eq_true rfl⟩) (fun r4 er4 => ?_)
  have er4 : r4 = bpL r3 868082074056920076 2 := er4
  refine lv_lstore_n (lv' := [(0, .long r4), (2, .ref a), (3, .int 0)]) hx hb dX2_expand64To128_37 rfl hl (by decide) rfl (fun ls hl => ?_)
  refine lv_lload_n hx hb dX2_expand64To128_38 rfl (lv_at hl 0 rfl) ?_
  refine lv_ldc2 (v := 2459565876494606882) hx hb hown (hts _ q70) dX2_expand64To128_39 ?_
  refine lv_iconst (v := 1) hx hb dX2_expand64To128_42 (by decide) ?_
  refine vp_callSl (W.runS (As := [.long r4, .long 2459565876494606882, .int 1]) (rest := []) ⟨hx, hb, hml, hown, hts⟩ (metX3_bitPermuteStep_2 l r4 2459565876494606882 1) (va_cwS 3 hts (lw_S q64 q65 q4 q66) rfl rfl rfl (by decide +kernel) ⟨Nat.le_of_ble_eq_true rfl, Nat.le_of_ble_eq_true rfl⟩) preEq rfl rfl hl.1 rfl (lv_room (Nat.le_of_ble_eq_true rfl)) dX2_expand64To128_43 ⟨Nat.le_of_ble_eq_true rfl, Nat.le_of_ble_eq_true rfl⟩) (fun r5 er5 => ?_)
  have er5 : r5 = bpL r4 2459565876494606882 1 := er5
  refine lv_lstore_n (lv' := [(0, .long r5), (2, .ref a), (3, .int 0)]) hx hb dX2_expand64To128_46 rfl hl (by decide) rfl (fun ls hl => ?_)
  have e5 : r5 = shL xa := by rw [er5, er4, er3, er2, er1]; rfl
  refine lv_aload_n hx hb dX2_expand64To128_47 rfl (lv_at hl 1 rfl) ?_
  refine lv_iload_n hx hb dX2_expand64To128_48 rfl (lv_at hl 2 rfl) ?_
  refine lv_lload_n hx hb dX2_expand64To128_49 rfl (lv_at hl 0 rfl) ?_
  refine lv_ldc2 (v := 6148914691236517205) hx hb hown (hts _ q71) dX2_expand64To128_50 ?_
  refine lv_land hx hb dX2_expand64To128_53 ?_
  refine lv_topl (fun z1 ez1 => ?_)
  have ez1 : z1 = spr xa 0 32 := by rw [ez1, e5]; exact lo_eq xa
  refine va_last hx hb hK hP hD hS 0 0 rfl rfl (by unfold vp_in; decide) dX2_expand64To128_54 (fun H locs hP hD hS => ?_)
  have hP : va_P (dC, dI) vwCl [(a, .inl (d, 2, .inr (.inl (vp_updL f 0 z1))))] H := hP
  have hD : va_D A [(a, .inl (d, 2, .inr (.inl (vp_updL f 0 z1))))] := hD
  refine lv_aload_n hx hb dX2_expand64To128_55 rfl (lv_at hl 1 rfl) ?_
  refine lv_iload_n hx hb dX2_expand64To128_56 rfl (lv_at hl 2 rfl) ?_
  refine lv_iconst (v := 1) hx hb dX2_expand64To128_57 (by decide) ?_
  refine lv_iadd hx hb dX2_expand64To128_58 ?_
  refine lv_lload_n hx hb dX2_expand64To128_59 rfl (lv_at hl 0 rfl) ?_
  refine lv_iconst (v := 1) hx hb dX2_expand64To128_60 (by decide) ?_
  refine lv_lushr (v := su64 r5 1) hx hb dX2_expand64To128_61 rfl ?_
  refine lv_ldc2 (v := 6148914691236517205) hx hb hown (hts _ q71) dX2_expand64To128_62 ?_
  refine lv_land hx hb dX2_expand64To128_65 ?_
  refine lv_topl (fun z2 ez2 => ?_)
  have ez2 : z2 = spr xa 32 32 := by rw [ez2, e5]; exact hi_eq xa
  refine va_last hx hb hK hP hD hS 0 0 rfl rfl (by unfold vp_in; decide) dX2_expand64To128_66 (fun H locs hP hD hS => ?_)
  have hP : va_P (dC, dI) vwCl [(a, .inl (d, 2, .inr (.inl (vp_updL (vp_updL f 0 z1) 1 z2))))] H := hP
  have hD : va_D A [(a, .inl (d, 2, .inr (.inl (vp_updL (vp_updL f 0 z1) 1 z2))))] := hD
  subst ez1
  subst ez2
  exact W.vret hx hb hr (fun t ht hW => ⟨⟨(), rfl, trivial, by rw [ht]; exact hP, va_K.moved hW.alike hK, hD⟩, hS.F ht⟩) hS.2.2 dX2_expand64To128_67
set_option maxHeartbeats 4000000 in
set_option maxRecDepth 100000 in
theorem metX0_longOut (l : Launch) (dC : Nat → ClassId) (dI : Nat → Nat → Nat) (h0 a : Nat) (d : ClassId) (f : Nat → Int64) (sz : Nat) (xh xl : Int32) : Met l yX0_longOut (ws_ yX0_longOut cX0_longOut 3 none) ({ frames := 2, cells := 0, slots := 0, locals := 49 }) (va_Pc [.ref h0, .int xh, .int xl] (fun U => U.heap.size = sz ∧ va_P (dC, dI) vwCl [(h0, .inr (0, [.ref a])), (a, .inl (d, 2, .inr (.inl f)))] U.heap ∧ va_K (dC, dI) vwCl [(d, .long)] U ∧ va_D (fun _ => True) [(h0, .inr (0, [.ref a])), (a, .inl (d, 2, .inr (.inl f)))])) (va_Qv (fun (_ : Unit) => True) (fun _ t => va_P (dC, dI) vwCl [(h0, .inr (0, [.ref a])), (a, .inl (d, 2, .inr (.inl (f2 f (widL xh xl)))))] t.heap ∧ va_K (dC, dI) vwCl [(d, .long)] t ∧ va_D (va_A [(h0, .inr (0, [.ref a])), (a, .inl (d, 2, .inr (.inl f)))] sz) [(h0, .inr (0, [.ref a])), (a, .inl (d, 2, .inr (.inl (f2 f (widL xh xl)))))]) (va_A [(h0, .inr (0, [.ref a])), (a, .inl (d, 2, .inr (.inl f)))] sz)) 0 0 (va_A [(h0, .inr (0, [.ref a])), (a, .inl (d, 2, .inr (.inl f)))] sz) := by
  refine Met.ofW (cc := cX0_longOut) (maxL := 3) (ret := none) (by decide) rfl ?_
  intro p e s m args below meth c s₁ B hml hv
  obtain ⟨rfl, hsz, hP, hK, hD0⟩ := hv
  have hx := B.exec
  have hb := B.bytes
  have hr := B.returns
  have hts := atoms_spec (ws := ws_ yX0_longOut cX0_longOut 3 none) B.pre
  have hts : ∀ w ∈ lw_all, w.before _ s = true := fun w h => hts w (List.mem_cons_of_mem _ h)
  have hown : s.vm.findClass RX0 = some m.cls := findClass_of_methodNamed B.named
  have hlocks := B.notSynchronized
  subst hsz
  have hD := hD0.self (sz := s.heap.size)
  generalize hAe : va_A [(h0, .inr (0, [.ref a])), (a, .inl (d, 2, .inr (.inl f)))] s.heap.size = A at hD ⊢
  have hA : ∀ q : Nat, s.heap.size ≤ q → A q := fun q h => by rw [← hAe]; exact Or.inr h
  have hS : va_S A s.heap s.heap [] := va_S.rf
  have hl := lv_entry ([.ref h0, .int xh, .int xl]) (n := 3) (Nat.le_of_ble_eq_true rfl)
  rw [lg_entry_eq]
  generalize (lg_sl ([.ref h0, .int xh, .int xl]) ++ List.replicate (3 - (lg_sl ([.ref h0, .int xh, .int xl])).length) Slot.unset).toArray = ls at hl ⊢
  have hl : lv_has ls 3 [(0, .ref h0), (1, .int xh), (2, .int xl)] := hl
  refine lv_iload_n hx hb dX0_longOut_0 rfl (lv_at hl 1 rfl) ?_
  refine lv_iload_n hx hb dX0_longOut_1 rfl (lv_at hl 2 rfl) ?_
  refine vp_callSl (W.runS (As := [.int xh, .int xl]) (rest := []) ⟨hx, hb, hml, hown, hts⟩ (metX0_wide l xh xl) (va_cwS 2 hts (lw_S q56 q57 q1 q58) rfl rfl rfl (by decide +kernel) ⟨Nat.le_of_ble_eq_true rfl, Nat.le_of_ble_eq_true rfl⟩) preEq rfl rfl hl.1 rfl (lv_room (Nat.le_of_ble_eq_true rfl)) dX0_longOut_2 ⟨Nat.le_of_ble_eq_true rfl, Nat.le_of_ble_eq_true rfl⟩) (fun r1 er1 => ?_)
  have er1 : r1 = widL xh xl := er1
  refine lv_aload_n hx hb dX0_longOut_5 rfl (lv_at hl 0 rfl) ?_
  refine va_get (D := (dC, dI)) (ci := 0) (v := .ref a) (C := RX0) (T := TX0) (N := 1) hx hb hts in_X0 hown hK hP 0 rfl rfl 0 (by decide) (hts _ q13) (fun _ h9 => h9) rfl dX0_longOut_6 ?_
  refine lv_iconst (v := 0) hx hb dX0_longOut_9 (by decide) ?_
  generalize hH : s.heap = H at hP hS ⊢
  have hPc := hP.sub (ws' := [(a, .inl (d, 2, .inr (.inl f)))]) [1] rfl
  have hDc := hD.sub (ws' := [(a, .inl (d, 2, .inr (.inl f)))]) [1] (by decide) rfl
  have hKc := hK.sub (tys' := [(d, .long)]) [0] rfl
  have hFc := va_free (wc := [(a, .inl (d, 2, .inr (.inl f)))]) hD hS (fun q h => hA q (by rw [hH]; exact h)) [1] rfl
  refine va_callv (va_runS (As := [.long r1, .ref a, .int 0]) (rest := []) ⟨hx, hb, hml, hown, hts⟩ (metX2_expand64To128 l dC dI a d f H.size r1) (va_cwS 3 hts (lw_S q60 q61 q3 q62) rfl rfl rfl (by decide +kernel) ⟨Nat.le_of_ble_eq_true rfl, Nat.le_of_ble_eq_true rfl⟩) ⟨fun a U g mk q => by obtain ⟨q0, q1, qP, qK, qD⟩ := q; exact ⟨q0, q1, qP, va_K.moved (u := U) (U := U.calling g mk a) (Vm.Alike.refl U.vm) qK, qD⟩, fun U hU hW => ⟨rfl, by rw [hU], by rw [hU]; exact hPc, va_K.moved hW.alike hKc, hDc.weaken (fun _ _ _ _ => trivial)⟩⟩ rfl rfl hl.1 rfl (lv_room (Nat.le_of_ble_eq_true rfl)) dX0_longOut_10 ⟨Nat.le_of_ble_eq_true rfl, Nat.le_of_ble_eq_true rfl⟩) hS (fun q _ h => hFc q h) hFc (fun u t H1 locs ht hvm hw1 hB hz1 hk1 hS2 => ?_)
  obtain ⟨hP1, hK1, hD1⟩ := hB
  rw [ht] at hP1
  obtain ⟨hP2, hD2⟩ := va_join (wr := [(h0, .inr (0, [.ref a]))]) (w1 := [(a, .inl (d, 2, .inr (.inl (f2 f r1))))]) hP hD [1] [0] rfl rfl (by decide) (by decide) hk1 hFc hP1 hD1
  subst er1
  subst hH
  have hP3 : va_P (dC, dI) vwCl [(h0, .inr (0, [.ref a])), (a, .inl (d, 2, .inr (.inl (f2 f (widL xh xl)))))] H1 := hP2
  have hD3 : va_D A [(h0, .inr (0, [.ref a])), (a, .inl (d, 2, .inr (.inl (f2 f (widL xh xl)))))] := hD2
  exact W.vret hx hb hr (fun t ht hW => ⟨⟨(), rfl, trivial, by rw [ht]; exact hP3, va_K.moved hW.alike hK, hD3⟩, hS2.F ht⟩) hS2.2.2 dX0_longOut_13
set_option maxHeartbeats 4000000 in
set_option maxRecDepth 100000 in
theorem metX1_longOut (l : Launch) (dC : Nat → ClassId) (dI : Nat → Nat → Nat) (h0 a : Nat) (d : ClassId) (f : Nat → Int64) (sz : Nat) (xh xl : Int32) : Met l yX1_longOut (ws_ yX1_longOut cX1_longOut 5 none) ({ frames := 1, cells := 0, slots := 0, locals := 26 }) (va_Pc [.ref h0, .int xh, .int xl] (fun U => U.heap.size = sz ∧ va_P (dC, dI) vwCl [(h0, .inr (1, [.ref a])), (a, .inl (d, 2, .inr (.inl f)))] U.heap ∧ va_K (dC, dI) vwCl [(d, .long)] U ∧ va_D (fun _ => True) [(h0, .inr (1, [.ref a])), (a, .inl (d, 2, .inr (.inl f)))])) (va_Qv (fun (_ : Unit) => True) (fun _ t => va_P (dC, dI) vwCl [(h0, .inr (1, [.ref a])), (a, .inl (d, 2, .inr (.inl (f2 f (widL xh xl)))))] t.heap ∧ va_K (dC, dI) vwCl [(d, .long)] t ∧ va_D (va_A [(h0, .inr (1, [.ref a])), (a, .inl (d, 2, .inr (.inl f)))] sz) [(h0, .inr (1, [.ref a])), (a, .inl (d, 2, .inr (.inl (f2 f (widL xh xl)))))]) (va_A [(h0, .inr (1, [.ref a])), (a, .inl (d, 2, .inr (.inl f)))] sz)) 0 0 (va_A [(h0, .inr (1, [.ref a])), (a, .inl (d, 2, .inr (.inl f)))] sz) := by
  refine Met.ofW (cc := cX1_longOut) (maxL := 5) (ret := none) (by decide) rfl ?_
  intro p e s m args below meth c s₁ B hml hv
  obtain ⟨rfl, hsz, hP, hK, hD0⟩ := hv
  have hx := B.exec
  have hb := B.bytes
  have hr := B.returns
  have hts := atoms_spec (ws := ws_ yX1_longOut cX1_longOut 5 none) B.pre
  have hts : ∀ w ∈ lw_all, w.before _ s = true := fun w h => hts w (List.mem_cons_of_mem _ h)
  have hown : s.vm.findClass RX1 = some m.cls := findClass_of_methodNamed B.named
  have hlocks := B.notSynchronized
  subst hsz
  have hD := hD0.self (sz := s.heap.size)
  generalize hAe : va_A [(h0, .inr (1, [.ref a])), (a, .inl (d, 2, .inr (.inl f)))] s.heap.size = A at hD ⊢
  have hA : ∀ q : Nat, s.heap.size ≤ q → A q := fun q h => by rw [← hAe]; exact Or.inr h
  have hS : va_S A s.heap s.heap [] := va_S.rf
  have hl := lv_entry ([.ref h0, .int xh, .int xl]) (n := 5) (Nat.le_of_ble_eq_true rfl)
  rw [lg_entry_eq]
  generalize (lg_sl ([.ref h0, .int xh, .int xl]) ++ List.replicate (5 - (lg_sl ([.ref h0, .int xh, .int xl])).length) Slot.unset).toArray = ls at hl ⊢
  have hl : lv_has ls 5 [(0, .ref h0), (1, .int xh), (2, .int xl)] := hl
  refine lv_iload_n hx hb dX1_longOut_0 rfl (lv_at hl 1 rfl) ?_
  refine lv_iload_n hx hb dX1_longOut_1 rfl (lv_at hl 2 rfl) ?_
  refine vp_callSl (W.runS (As := [.int xh, .int xl]) (rest := []) ⟨hx, hb, hml, hown, hts⟩ (metX1_wide l xh xl) (va_cwS 2 hts (lw_S q175 q176 q2 q177) rfl rfl rfl (by decide +kernel) ⟨Nat.le_of_ble_eq_true rfl, Nat.le_of_ble_eq_true rfl⟩) preEq rfl rfl hl.1 rfl (lv_room (Nat.le_of_ble_eq_true rfl)) dX1_longOut_2 ⟨Nat.le_of_ble_eq_true rfl, Nat.le_of_ble_eq_true rfl⟩) (fun r1 er1 => ?_)
  have er1 : r1 = widL xh xl := er1
  refine lv_lstore_n (lv' := [(3, .long r1), (0, .ref h0), (1, .int xh), (2, .int xl)]) hx hb dX1_longOut_5 rfl hl (by decide) rfl (fun ls hl => ?_)
  refine lv_aload_n hx hb dX1_longOut_6 rfl (lv_at hl 1 rfl) ?_
  refine va_get (D := (dC, dI)) (ci := 1) (v := .ref a) (C := RX1) (T := TX1) (N := 1) hx hb hts in_X1 hown hK hP 0 rfl rfl 0 (by decide) (hts _ q150) (fun _ h9 => h9) rfl dX1_longOut_7 ?_
  refine lv_iconst (v := 0) hx hb dX1_longOut_10 (by decide) ?_
  refine lv_lload_n hx hb dX1_longOut_11 rfl (lv_at hl 0 rfl) ?_
  refine lv_iconst (v := 0) hx hb dX1_longOut_12 (by decide) ?_
  refine lv_bipush (v := 32) hx hb dX1_longOut_13 (by decide) ?_
  refine vp_callSl (W.runS (As := [.long r1, .int 0, .int 32]) (rest := [.int 0, .ref a]) ⟨hx, hb, hml, hown, hts⟩ (metX1_spread l r1 0 32 (by decide)) (va_cwS 3 hts (lw_S q158 q159 q2 q160) rfl rfl rfl (by decide +kernel) ⟨Nat.le_of_ble_eq_true rfl, Nat.le_of_ble_eq_true rfl⟩) preEq rfl rfl hl.1 rfl (lv_room (Nat.le_of_ble_eq_true rfl)) dX1_longOut_15 ⟨Nat.le_of_ble_eq_true rfl, Nat.le_of_ble_eq_true rfl⟩) (fun r2 er2 => ?_)
  have er2 : r2 = spr r1 0 32 := er2
  refine va_last hx hb hK hP hD hS 1 0 rfl rfl (by unfold vp_in; decide) dX1_longOut_18 (fun H locs hP hD hS => ?_)
  have hP : va_P (dC, dI) vwCl [(h0, .inr (1, [.ref a])), (a, .inl (d, 2, .inr (.inl (vp_updL f 0 r2))))] H := hP
  have hD : va_D A [(h0, .inr (1, [.ref a])), (a, .inl (d, 2, .inr (.inl (vp_updL f 0 r2))))] := hD
  refine lv_aload_n hx hb dX1_longOut_19 rfl (lv_at hl 1 rfl) ?_
  refine va_get (D := (dC, dI)) (ci := 1) (v := .ref a) (C := RX1) (T := TX1) (N := 1) hx hb hts in_X1 hown hK hP 0 rfl rfl 0 (by decide) (hts _ q150) (fun _ h9 => h9) rfl dX1_longOut_20 ?_
  refine lv_iconst (v := 1) hx hb dX1_longOut_23 (by decide) ?_
  refine lv_lload_n hx hb dX1_longOut_24 rfl (lv_at hl 0 rfl) ?_
  refine lv_bipush (v := 32) hx hb dX1_longOut_25 (by decide) ?_
  refine lv_bipush (v := 32) hx hb dX1_longOut_27 (by decide) ?_
  refine vp_callSl (W.runS (As := [.long r1, .int 32, .int 32]) (rest := [.int 1, .ref a]) ⟨hx, hb, hml, hown, hts⟩ (metX1_spread l r1 32 32 (by decide)) (va_cwS 3 hts (lw_S q158 q159 q2 q160) rfl rfl rfl (by decide +kernel) ⟨Nat.le_of_ble_eq_true rfl, Nat.le_of_ble_eq_true rfl⟩) preEq rfl rfl hl.1 rfl (lv_room (Nat.le_of_ble_eq_true rfl)) dX1_longOut_29 ⟨Nat.le_of_ble_eq_true rfl, Nat.le_of_ble_eq_true rfl⟩) (fun r3 er3 => ?_)
  have er3 : r3 = spr r1 32 32 := er3
  refine va_last hx hb hK hP hD hS 1 0 rfl rfl (by unfold vp_in; decide) dX1_longOut_32 (fun H locs hP hD hS => ?_)
  have hP : va_P (dC, dI) vwCl [(h0, .inr (1, [.ref a])), (a, .inl (d, 2, .inr (.inl (vp_updL (vp_updL f 0 r2) 1 r3))))] H := hP
  have hD : va_D A [(h0, .inr (1, [.ref a])), (a, .inl (d, 2, .inr (.inl (vp_updL (vp_updL f 0 r2) 1 r3))))] := hD
  subst er3
  subst er2
  subst er1
  exact W.vret hx hb hr (fun t ht hW => ⟨⟨(), rfl, trivial, by rw [ht]; exact hP, va_K.moved hW.alike hK, hD⟩, hS.F ht⟩) hS.2.2 dX1_longOut_33
end
section
/-! THE LAW's CASES (printed by wip gen3.py) -/
def R_law : String := "BitWeaveLaw"
theorem cmp_self (x : Int64) : lg_cmp x x = 0 := by
  unfold lg_cmp
  rw [if_neg (Int64.lt_irrefl), if_pos rfl]
set_option maxHeartbeats 4000000 in
set_option maxRecDepth 100000 in
theorem case_byteOut {p : Program} {l : Launch} {e : Env} {s : State} {m : MethodId} {below : List Frame} {meth : Method} {c : Code} {Q : State → Prop} {dC : Nat → ClassId} {dI : Nat → Nat → Nat} {b L : Nat} {xs : Nat → Int32} (hx : p.tables.exec = Jvm.exec) (hb : c.code = cL_law) (hml : c.maxLocals = 4) (hown : s.vm.findClass R_law = some m.cls) (hts : ∀ w ∈ lw_all, w.before #[Value.ref b] s = true) (hX : va_X b L xs s s.heap) (hbl : b < s.heap.size) {qx ax qm am : Nat} {dx dm : ClassId} {f : Nat → Int64} {x3 : Int32} {H : Heap} {locs : List Loc} {ls : Array Slot} (h1 : vp_in (x3 + 1) L) (h2 : vp_in (x3 + 2) L) (hK : va_K (dC, dI) vwCl [(dx, .long), (dm, .long)] s) (hP : va_P (dC, dI) vwCl [(qx, .inr (0, [.ref ax])), (ax, .inl (dx, 2, .inr (.inl f))), (qm, .inr (1, [.ref am])), (am, .inl (dm, 2, .inr (.inl f)))] H) (hD : va_D (fun q : Nat => s.heap.size ≤ q) [(qx, .inr (0, [.ref ax])), (ax, .inl (dx, 2, .inr (.inl f))), (qm, .inr (1, [.ref am])), (am, .inl (dm, 2, .inr (.inl f)))]) (hS : va_S (fun q : Nat => s.heap.size ≤ q) s.heap H locs) (hl : lv_has ls 4 [(3, .int x3), (2, .ref qm), (1, .ref qx), (0, .ref b)]) (K : W p l e room_1 s m #[Value.ref b] below meth c H locs 4 6 Q (F0 m 426 ls [])) : W p l e room_1 s m #[Value.ref b] below meth c H locs 4 6 Q (F0 m 96 ls []) := by
  have hbA : ¬ (fun q : Nat => s.heap.size ≤ q) b := Nat.not_le.mpr hbl
  have hA : ∀ q : Nat, s.heap.size ≤ q → (fun q : Nat => s.heap.size ≤ q) q := fun _ h => h
  refine lv_aload_n hx hb dL_law_96 rfl (lv_at hl 2 rfl) ?_
  refine lv_aload_n hx hb dL_law_97 rfl (lv_at hl 3 rfl) ?_
  refine lv_iload_n hx hb dL_law_98 rfl (lv_at hl 0 rfl) ?_
  refine lv_iconst (v := 1) hx hb dL_law_99 (by decide) ?_
  refine lv_iadd hx hb dL_law_100 ?_
  refine va_sld hx hb hX hbl hbA hS h1 dL_law_101 ?_
  refine vp_callSi (W.runV (b := qx) (As := [.int (xs (x3 + 1).toNatClampNeg)]) (rest := []) ⟨hx, hb, hml, hown, hts⟩ (metX0_byteOut l qx (xs (x3 + 1).toNatClampNeg)) (cwV 1 hts (lw_V q18 q19 q20 q1 q21) rfl rfl rfl (by decide +kernel) ⟨Nat.le_of_ble_eq_true rfl, Nat.le_of_ble_eq_true rfl⟩) ⟨fun _ _ _ _ q => q, va_recv hK hP (ci := 0) (q0 := 0) rfl rfl, fun U hU hW => rfl⟩ rfl rfl hl.1 rfl (lv_room (Nat.le_of_ble_eq_true rfl)) dL_law_102 ⟨Nat.le_of_ble_eq_true rfl, Nat.le_of_ble_eq_true rfl⟩) (fun r0 er0 => ?_)
  have er0 : r0 = e8I (xs (x3 + 1).toNatClampNeg) := er0
  refine lv_aload_n hx hb dL_law_105 rfl (lv_at hl 1 rfl) ?_
  refine lv_aload_n hx hb dL_law_106 rfl (lv_at hl 3 rfl) ?_
  refine lv_iload_n hx hb dL_law_107 rfl (lv_at hl 0 rfl) ?_
  refine lv_iconst (v := 1) hx hb dL_law_108 (by decide) ?_
  refine lv_iadd hx hb dL_law_109 ?_
  refine va_sld hx hb hX hbl hbA hS h1 dL_law_110 ?_
  refine vp_callSi (W.runV (b := qm) (As := [.int (xs (x3 + 1).toNatClampNeg)]) (rest := [.int r0]) ⟨hx, hb, hml, hown, hts⟩ (metX1_byteOut l qm (xs (x3 + 1).toNatClampNeg)) (cwV 1 hts (lw_V q154 q155 q156 q2 q157) rfl rfl rfl (by decide +kernel) ⟨Nat.le_of_ble_eq_true rfl, Nat.le_of_ble_eq_true rfl⟩) ⟨fun _ _ _ _ q => q, va_recv hK hP (ci := 1) (q0 := 2) rfl rfl, fun U hU hW => rfl⟩ rfl rfl hl.1 rfl (lv_room (Nat.le_of_ble_eq_true rfl)) dL_law_111 ⟨Nat.le_of_ble_eq_true rfl, Nat.le_of_ble_eq_true rfl⟩) (fun r1 er1 => ?_)
  have er1 : r1 = (spr ((xs (x3 + 1).toNatClampNeg) &&& 255).toInt64 0 8).toInt32 := er1
  refine lv_icmp_eq (tgt := 426) hx hb dL_law_114 (by decide) (fun c1 => K) (fun c1 => ?_)
  exact absurd (by rw [er0, er1]; exact byteOut_eq (xs (x3 + 1).toNatClampNeg)) c1
set_option maxHeartbeats 4000000 in
set_option maxRecDepth 100000 in
theorem case_halfOut {p : Program} {l : Launch} {e : Env} {s : State} {m : MethodId} {below : List Frame} {meth : Method} {c : Code} {Q : State → Prop} {dC : Nat → ClassId} {dI : Nat → Nat → Nat} {b L : Nat} {xs : Nat → Int32} (hx : p.tables.exec = Jvm.exec) (hb : c.code = cL_law) (hml : c.maxLocals = 4) (hown : s.vm.findClass R_law = some m.cls) (hts : ∀ w ∈ lw_all, w.before #[Value.ref b] s = true) (hX : va_X b L xs s s.heap) (hbl : b < s.heap.size) {qx ax qm am : Nat} {dx dm : ClassId} {f : Nat → Int64} {x3 : Int32} {H : Heap} {locs : List Loc} {ls : Array Slot} (h1 : vp_in (x3 + 1) L) (h2 : vp_in (x3 + 2) L) (hK : va_K (dC, dI) vwCl [(dx, .long), (dm, .long)] s) (hP : va_P (dC, dI) vwCl [(qx, .inr (0, [.ref ax])), (ax, .inl (dx, 2, .inr (.inl f))), (qm, .inr (1, [.ref am])), (am, .inl (dm, 2, .inr (.inl f)))] H) (hD : va_D (fun q : Nat => s.heap.size ≤ q) [(qx, .inr (0, [.ref ax])), (ax, .inl (dx, 2, .inr (.inl f))), (qm, .inr (1, [.ref am])), (am, .inl (dm, 2, .inr (.inl f)))]) (hS : va_S (fun q : Nat => s.heap.size ≤ q) s.heap H locs) (hl : lv_has ls 4 [(3, .int x3), (2, .ref qm), (1, .ref qx), (0, .ref b)]) (K : W p l e room_1 s m #[Value.ref b] below meth c H locs 4 6 Q (F0 m 426 ls [])) : W p l e room_1 s m #[Value.ref b] below meth c H locs 4 6 Q (F0 m 119 ls []) := by
  have hbA : ¬ (fun q : Nat => s.heap.size ≤ q) b := Nat.not_le.mpr hbl
  have hA : ∀ q : Nat, s.heap.size ≤ q → (fun q : Nat => s.heap.size ≤ q) q := fun _ h => h
  refine lv_aload_n hx hb dL_law_119 rfl (lv_at hl 2 rfl) ?_
  refine lv_aload_n hx hb dL_law_120 rfl (lv_at hl 3 rfl) ?_
  refine lv_iload_n hx hb dL_law_121 rfl (lv_at hl 0 rfl) ?_
  refine lv_iconst (v := 1) hx hb dL_law_122 (by decide) ?_
  refine lv_iadd hx hb dL_law_123 ?_
  refine va_sld hx hb hX hbl hbA hS h1 dL_law_124 ?_
  refine vp_callSi (W.runV (b := qx) (As := [.int (xs (x3 + 1).toNatClampNeg)]) (rest := []) ⟨hx, hb, hml, hown, hts⟩ (metX0_halfOut l qx (xs (x3 + 1).toNatClampNeg)) (cwV 1 hts (lw_V q25 q26 q27 q1 q28) rfl rfl rfl (by decide +kernel) ⟨Nat.le_of_ble_eq_true rfl, Nat.le_of_ble_eq_true rfl⟩) ⟨fun _ _ _ _ q => q, va_recv hK hP (ci := 0) (q0 := 0) rfl rfl, fun U hU hW => rfl⟩ rfl rfl hl.1 rfl (lv_room (Nat.le_of_ble_eq_true rfl)) dL_law_125 ⟨Nat.le_of_ble_eq_true rfl, Nat.le_of_ble_eq_true rfl⟩) (fun r0 er0 => ?_)
  have er0 : r0 = e16I (xs (x3 + 1).toNatClampNeg) := er0
  refine lv_aload_n hx hb dL_law_128 rfl (lv_at hl 1 rfl) ?_
  refine lv_aload_n hx hb dL_law_129 rfl (lv_at hl 3 rfl) ?_
  refine lv_iload_n hx hb dL_law_130 rfl (lv_at hl 0 rfl) ?_
  refine lv_iconst (v := 1) hx hb dL_law_131 (by decide) ?_
  refine lv_iadd hx hb dL_law_132 ?_
  refine va_sld hx hb hX hbl hbA hS h1 dL_law_133 ?_
  refine vp_callSi (W.runV (b := qm) (As := [.int (xs (x3 + 1).toNatClampNeg)]) (rest := [.int r0]) ⟨hx, hb, hml, hown, hts⟩ (metX1_halfOut l qm (xs (x3 + 1).toNatClampNeg)) (cwV 1 hts (lw_V q161 q162 q163 q2 q164) rfl rfl rfl (by decide +kernel) ⟨Nat.le_of_ble_eq_true rfl, Nat.le_of_ble_eq_true rfl⟩) ⟨fun _ _ _ _ q => q, va_recv hK hP (ci := 1) (q0 := 2) rfl rfl, fun U hU hW => rfl⟩ rfl rfl hl.1 rfl (lv_room (Nat.le_of_ble_eq_true rfl)) dL_law_134 ⟨Nat.le_of_ble_eq_true rfl, Nat.le_of_ble_eq_true rfl⟩) (fun r1 er1 => ?_)
  have er1 : r1 = (spr ((xs (x3 + 1).toNatClampNeg) &&& 65535).toInt64 0 16).toInt32 := er1
  refine lv_icmp_eq (tgt := 426) hx hb dL_law_137 (by decide) (fun c1 => K) (fun c1 => ?_)
  exact absurd (by rw [er0, er1]; exact halfOut_eq (xs (x3 + 1).toNatClampNeg)) c1
set_option maxHeartbeats 4000000 in
set_option maxRecDepth 100000 in
theorem case_wordOut {p : Program} {l : Launch} {e : Env} {s : State} {m : MethodId} {below : List Frame} {meth : Method} {c : Code} {Q : State → Prop} {dC : Nat → ClassId} {dI : Nat → Nat → Nat} {b L : Nat} {xs : Nat → Int32} (hx : p.tables.exec = Jvm.exec) (hb : c.code = cL_law) (hml : c.maxLocals = 4) (hown : s.vm.findClass R_law = some m.cls) (hts : ∀ w ∈ lw_all, w.before #[Value.ref b] s = true) (hX : va_X b L xs s s.heap) (hbl : b < s.heap.size) {qx ax qm am : Nat} {dx dm : ClassId} {f : Nat → Int64} {x3 : Int32} {H : Heap} {locs : List Loc} {ls : Array Slot} (h1 : vp_in (x3 + 1) L) (h2 : vp_in (x3 + 2) L) (hK : va_K (dC, dI) vwCl [(dx, .long), (dm, .long)] s) (hP : va_P (dC, dI) vwCl [(qx, .inr (0, [.ref ax])), (ax, .inl (dx, 2, .inr (.inl f))), (qm, .inr (1, [.ref am])), (am, .inl (dm, 2, .inr (.inl f)))] H) (hD : va_D (fun q : Nat => s.heap.size ≤ q) [(qx, .inr (0, [.ref ax])), (ax, .inl (dx, 2, .inr (.inl f))), (qm, .inr (1, [.ref am])), (am, .inl (dm, 2, .inr (.inl f)))]) (hS : va_S (fun q : Nat => s.heap.size ≤ q) s.heap H locs) (hl : lv_has ls 4 [(3, .int x3), (2, .ref qm), (1, .ref qx), (0, .ref b)]) (K : W p l e room_1 s m #[Value.ref b] below meth c H locs 4 6 Q (F0 m 426 ls [])) : W p l e room_1 s m #[Value.ref b] below meth c H locs 4 6 Q (F0 m 142 ls []) := by
  have hbA : ¬ (fun q : Nat => s.heap.size ≤ q) b := Nat.not_le.mpr hbl
  have hA : ∀ q : Nat, s.heap.size ≤ q → (fun q : Nat => s.heap.size ≤ q) q := fun _ h => h
  refine lv_aload_n hx hb dL_law_142 rfl (lv_at hl 2 rfl) ?_
  refine lv_aload_n hx hb dL_law_143 rfl (lv_at hl 3 rfl) ?_
  refine lv_iload_n hx hb dL_law_144 rfl (lv_at hl 0 rfl) ?_
  refine lv_iconst (v := 1) hx hb dL_law_145 (by decide) ?_
  refine lv_iadd hx hb dL_law_146 ?_
  refine va_sld hx hb hX hbl hbA hS h1 dL_law_147 ?_
  refine vp_callSl (W.runV (b := qx) (As := [.int (xs (x3 + 1).toNatClampNeg)]) (rest := []) ⟨hx, hb, hml, hown, hts⟩ (metX0_wordOut l qx (xs (x3 + 1).toNatClampNeg)) (cwV 1 hts (lw_V q37 q38 q39 q1 q40) rfl rfl rfl (by decide +kernel) ⟨Nat.le_of_ble_eq_true rfl, Nat.le_of_ble_eq_true rfl⟩) ⟨fun _ _ _ _ q => q, va_recv hK hP (ci := 0) (q0 := 0) rfl rfl, fun U hU hW => rfl⟩ rfl rfl hl.1 rfl (lv_room (Nat.le_of_ble_eq_true rfl)) dL_law_148 ⟨Nat.le_of_ble_eq_true rfl, Nat.le_of_ble_eq_true rfl⟩) (fun r0 er0 => ?_)
  have er0 : r0 = e32L (xs (x3 + 1).toNatClampNeg) := er0
  refine lv_aload_n hx hb dL_law_151 rfl (lv_at hl 1 rfl) ?_
  refine lv_aload_n hx hb dL_law_152 rfl (lv_at hl 3 rfl) ?_
  refine lv_iload_n hx hb dL_law_153 rfl (lv_at hl 0 rfl) ?_
  refine lv_iconst (v := 1) hx hb dL_law_154 (by decide) ?_
  refine lv_iadd hx hb dL_law_155 ?_
  refine va_sld hx hb hX hbl hbA hS h1 dL_law_156 ?_
  refine vp_callSl (W.runV (b := qm) (As := [.int (xs (x3 + 1).toNatClampNeg)]) (rest := [.long r0]) ⟨hx, hb, hml, hown, hts⟩ (metX1_wordOut l qm (xs (x3 + 1).toNatClampNeg)) (cwV 1 hts (lw_V q166 q167 q168 q2 q169) rfl rfl rfl (by decide +kernel) ⟨Nat.le_of_ble_eq_true rfl, Nat.le_of_ble_eq_true rfl⟩) ⟨fun _ _ _ _ q => q, va_recv hK hP (ci := 1) (q0 := 2) rfl rfl, fun U hU hW => rfl⟩ rfl rfl hl.1 rfl (lv_room (Nat.le_of_ble_eq_true rfl)) dL_law_157 ⟨Nat.le_of_ble_eq_true rfl, Nat.le_of_ble_eq_true rfl⟩) (fun r1 er1 => ?_)
  have er1 : r1 = spr ((xs (x3 + 1).toNatClampNeg).toInt64 &&& 4294967295) 0 32 := er1
  refine W.lcmp hx hb dL_law_160 ?_
  refine lv_if_eq (tgt := 426) hx hb dL_law_161 (by decide) (fun c1 => K) (fun c1 => ?_)
  exact absurd (by rw [show r0 = r1 by rw [er0, er1]; exact wordOut_eq (xs (x3 + 1).toNatClampNeg)]; exact cmp_self _) c1
set_option maxHeartbeats 4000000 in
set_option maxRecDepth 100000 in
theorem case_longOut {p : Program} {l : Launch} {e : Env} {s : State} {m : MethodId} {below : List Frame} {meth : Method} {c : Code} {Q : State → Prop} {dC : Nat → ClassId} {dI : Nat → Nat → Nat} {b L : Nat} {xs : Nat → Int32} (hx : p.tables.exec = Jvm.exec) (hb : c.code = cL_law) (hml : c.maxLocals = 4) (hown : s.vm.findClass R_law = some m.cls) (hts : ∀ w ∈ lw_all, w.before #[Value.ref b] s = true) (hX : va_X b L xs s s.heap) (hbl : b < s.heap.size) {qx ax qm am : Nat} {dx dm : ClassId} {f : Nat → Int64} {x3 : Int32} {H : Heap} {locs : List Loc} {ls : Array Slot} (h1 : vp_in (x3 + 1) L) (h2 : vp_in (x3 + 2) L) (hK : va_K (dC, dI) vwCl [(dx, .long), (dm, .long)] s) (hP : va_P (dC, dI) vwCl [(qx, .inr (0, [.ref ax])), (ax, .inl (dx, 2, .inr (.inl f))), (qm, .inr (1, [.ref am])), (am, .inl (dm, 2, .inr (.inl f)))] H) (hD : va_D (fun q : Nat => s.heap.size ≤ q) [(qx, .inr (0, [.ref ax])), (ax, .inl (dx, 2, .inr (.inl f))), (qm, .inr (1, [.ref am])), (am, .inl (dm, 2, .inr (.inl f)))]) (hS : va_S (fun q : Nat => s.heap.size ≤ q) s.heap H locs) (hl : lv_has ls 4 [(3, .int x3), (2, .ref qm), (1, .ref qx), (0, .ref b)]) (K : ∀ (H : Heap) (locs : List Loc), va_P (dC, dI) vwCl [(qx, .inr (0, [.ref ax])), (ax, .inl (dx, 2, .inr (.inl (f2 f (widL (xs (x3 + 1).toNatClampNeg) (xs (x3 + 2).toNatClampNeg)))))), (qm, .inr (1, [.ref am])), (am, .inl (dm, 2, .inr (.inl (f2 f (widL (xs (x3 + 1).toNatClampNeg) (xs (x3 + 2).toNatClampNeg))))))] H → va_D (fun q : Nat => s.heap.size ≤ q) [(qx, .inr (0, [.ref ax])), (ax, .inl (dx, 2, .inr (.inl (f2 f (widL (xs (x3 + 1).toNatClampNeg) (xs (x3 + 2).toNatClampNeg)))))), (qm, .inr (1, [.ref am])), (am, .inl (dm, 2, .inr (.inl (f2 f (widL (xs (x3 + 1).toNatClampNeg) (xs (x3 + 2).toNatClampNeg))))))] → va_S (fun q : Nat => s.heap.size ≤ q) s.heap H locs → W p l e room_1 s m #[Value.ref b] below meth c H locs 4 6 Q (F0 m 426 ls [])) : W p l e room_1 s m #[Value.ref b] below meth c H locs 4 6 Q (F0 m 166 ls []) := by
  have hbA : ¬ (fun q : Nat => s.heap.size ≤ q) b := Nat.not_le.mpr hbl
  have hA : ∀ q : Nat, s.heap.size ≤ q → (fun q : Nat => s.heap.size ≤ q) q := fun _ h => h
  refine lv_aload_n hx hb dL_law_166 rfl (lv_at hl 2 rfl) ?_
  refine lv_aload_n hx hb dL_law_167 rfl (lv_at hl 3 rfl) ?_
  refine lv_iload_n hx hb dL_law_168 rfl (lv_at hl 0 rfl) ?_
  refine lv_iconst (v := 1) hx hb dL_law_169 (by decide) ?_
  refine lv_iadd hx hb dL_law_170 ?_
  refine va_sld hx hb hX hbl hbA hS h1 dL_law_171 ?_
  refine lv_aload_n hx hb dL_law_172 rfl (lv_at hl 3 rfl) ?_
  refine lv_iload_n hx hb dL_law_173 rfl (lv_at hl 0 rfl) ?_
  refine lv_iconst (v := 2) hx hb dL_law_174 (by decide) ?_
  refine lv_iadd hx hb dL_law_175 ?_
  refine va_sld hx hb hX hbl hbA hS h2 dL_law_176 ?_
  have hPc := hP.sub (ws' := [(qx, .inr (0, [.ref ax])), (ax, .inl (dx, 2, .inr (.inl f)))]) [0, 1] rfl
  have hDc := hD.sub (ws' := [(qx, .inr (0, [.ref ax])), (ax, .inl (dx, 2, .inr (.inl f)))]) [0, 1] (by decide) rfl
  have hKc := hK.sub (tys' := [(dx, .long)]) [0] rfl
  have hFc := va_free (wc := [(qx, .inr (0, [.ref ax])), (ax, .inl (dx, 2, .inr (.inl f)))]) hD hS hA [0, 1] rfl
  refine va_callv (va_runV (b := qx) (As := [.int (xs (x3 + 1).toNatClampNeg), .int (xs (x3 + 2).toNatClampNeg)]) (rest := []) ⟨hx, hb, hml, hown, hts⟩ (metX0_longOut l dC dI qx ax dx f H.size (xs (x3 + 1).toNatClampNeg) (xs (x3 + 2).toNatClampNeg)) (cwV 2 hts (lw_V q52 q53 q54 q1 q55) rfl rfl rfl (by decide +kernel) ⟨Nat.le_of_ble_eq_true rfl, Nat.le_of_ble_eq_true rfl⟩) ⟨fun a U g mk q => by obtain ⟨q0, q1, qP, qK, qD⟩ := q; exact ⟨q0, q1, qP, va_K.moved (u := U) (U := U.calling g mk a) (Vm.Alike.refl U.vm) qK, qD⟩, va_recv hKc hPc (ci := 0) (q0 := 0) rfl rfl, fun U hU hW => ⟨rfl, by rw [hU], by rw [hU]; exact hPc, va_K.moved hW.alike hKc, hDc.weaken (fun _ _ _ _ => trivial)⟩⟩ rfl rfl hl.1 rfl (lv_room (Nat.le_of_ble_eq_true rfl)) dL_law_177 ⟨Nat.le_of_ble_eq_true rfl, Nat.le_of_ble_eq_true rfl⟩) hS (fun q _ h => hFc q h) hFc (fun u t H1 locs ht hvm hw1 hB hz1 hk1 hS => ?_)
  obtain ⟨hP1, hK1, hD1⟩ := hB
  rw [ht] at hP1
  obtain ⟨hP, hD⟩ := va_join (wr := [(qm, .inr (1, [.ref am])), (am, .inl (dm, 2, .inr (.inl f)))]) (w1 := [(qx, .inr (0, [.ref ax])), (ax, .inl (dx, 2, .inr (.inl (f2 f (widL (xs (x3 + 1).toNatClampNeg) (xs (x3 + 2).toNatClampNeg))))))]) hP hD [0, 1] [2, 3] rfl rfl (by decide) (by decide) hk1 hFc hP1 hD1
  have hP : va_P (dC, dI) vwCl ([(qm, .inr (1, [.ref am])), (am, .inl (dm, 2, .inr (.inl f)))] ++ [(qx, .inr (0, [.ref ax])), (ax, .inl (dx, 2, .inr (.inl (f2 f (widL (xs (x3 + 1).toNatClampNeg) (xs (x3 + 2).toNatClampNeg))))))]) H1 := hP
  have hD : va_D (fun q : Nat => s.heap.size ≤ q) ([(qm, .inr (1, [.ref am])), (am, .inl (dm, 2, .inr (.inl f)))] ++ [(qx, .inr (0, [.ref ax])), (ax, .inl (dx, 2, .inr (.inl (f2 f (widL (xs (x3 + 1).toNatClampNeg) (xs (x3 + 2).toNatClampNeg))))))]) := hD
  generalize H1 = H at hP hS ⊢
  refine lv_aload_n hx hb dL_law_180 rfl (lv_at hl 1 rfl) ?_
  refine lv_aload_n hx hb dL_law_181 rfl (lv_at hl 3 rfl) ?_
  refine lv_iload_n hx hb dL_law_182 rfl (lv_at hl 0 rfl) ?_
  refine lv_iconst (v := 1) hx hb dL_law_183 (by decide) ?_
  refine lv_iadd hx hb dL_law_184 ?_
  refine va_sld hx hb hX hbl hbA hS h1 dL_law_185 ?_
  refine lv_aload_n hx hb dL_law_186 rfl (lv_at hl 3 rfl) ?_
  refine lv_iload_n hx hb dL_law_187 rfl (lv_at hl 0 rfl) ?_
  refine lv_iconst (v := 2) hx hb dL_law_188 (by decide) ?_
  refine lv_iadd hx hb dL_law_189 ?_
  refine va_sld hx hb hX hbl hbA hS h2 dL_law_190 ?_
  have hPc := hP.sub (ws' := [(qm, .inr (1, [.ref am])), (am, .inl (dm, 2, .inr (.inl f)))]) [0, 1] rfl
  have hDc := hD.sub (ws' := [(qm, .inr (1, [.ref am])), (am, .inl (dm, 2, .inr (.inl f)))]) [0, 1] (by decide) rfl
  have hKc := hK.sub (tys' := [(dm, .long)]) [1] rfl
  have hFc := va_free (wc := [(qm, .inr (1, [.ref am])), (am, .inl (dm, 2, .inr (.inl f)))]) hD hS hA [0, 1] rfl
  refine va_callv (va_runV (b := qm) (As := [.int (xs (x3 + 1).toNatClampNeg), .int (xs (x3 + 2).toNatClampNeg)]) (rest := []) ⟨hx, hb, hml, hown, hts⟩ (metX1_longOut l dC dI qm am dm f H.size (xs (x3 + 1).toNatClampNeg) (xs (x3 + 2).toNatClampNeg)) (cwV 2 hts (lw_V q171 q172 q173 q2 q174) rfl rfl rfl (by decide +kernel) ⟨Nat.le_of_ble_eq_true rfl, Nat.le_of_ble_eq_true rfl⟩) ⟨fun a U g mk q => by obtain ⟨q0, q1, qP, qK, qD⟩ := q; exact ⟨q0, q1, qP, va_K.moved (u := U) (U := U.calling g mk a) (Vm.Alike.refl U.vm) qK, qD⟩, va_recv hKc hPc (ci := 1) (q0 := 0) rfl rfl, fun U hU hW => ⟨rfl, by rw [hU], by rw [hU]; exact hPc, va_K.moved hW.alike hKc, hDc.weaken (fun _ _ _ _ => trivial)⟩⟩ rfl rfl hl.1 rfl (lv_room (Nat.le_of_ble_eq_true rfl)) dL_law_191 ⟨Nat.le_of_ble_eq_true rfl, Nat.le_of_ble_eq_true rfl⟩) hS (fun q _ h => hFc q h) hFc (fun u t H1 locs ht hvm hw1 hB hz1 hk1 hS => ?_)
  obtain ⟨hP1, hK1, hD1⟩ := hB
  rw [ht] at hP1
  obtain ⟨hP, hD⟩ := va_join (wr := [(qx, .inr (0, [.ref ax])), (ax, .inl (dx, 2, .inr (.inl (f2 f (widL (xs (x3 + 1).toNatClampNeg) (xs (x3 + 2).toNatClampNeg))))))]) (w1 := [(qm, .inr (1, [.ref am])), (am, .inl (dm, 2, .inr (.inl (f2 f (widL (xs (x3 + 1).toNatClampNeg) (xs (x3 + 2).toNatClampNeg))))))]) hP hD [0, 1] [2, 3] rfl rfl (by decide) (by decide) hk1 hFc hP1 hD1
  have hP : va_P (dC, dI) vwCl ([(qx, .inr (0, [.ref ax])), (ax, .inl (dx, 2, .inr (.inl (f2 f (widL (xs (x3 + 1).toNatClampNeg) (xs (x3 + 2).toNatClampNeg))))))] ++ [(qm, .inr (1, [.ref am])), (am, .inl (dm, 2, .inr (.inl (f2 f (widL (xs (x3 + 1).toNatClampNeg) (xs (x3 + 2).toNatClampNeg))))))]) H1 := hP
  have hD : va_D (fun q : Nat => s.heap.size ≤ q) ([(qx, .inr (0, [.ref ax])), (ax, .inl (dx, 2, .inr (.inl (f2 f (widL (xs (x3 + 1).toNatClampNeg) (xs (x3 + 2).toNatClampNeg))))))] ++ [(qm, .inr (1, [.ref am])), (am, .inl (dm, 2, .inr (.inl (f2 f (widL (xs (x3 + 1).toNatClampNeg) (xs (x3 + 2).toNatClampNeg))))))]) := hD
  generalize H1 = H at hP hS ⊢
  refine lv_goto (tgt := 426) hx hb dL_law_194 (by decide) ?_
  exact K H locs (hP.sub [0, 1, 2, 3] rfl) (hD.sub [0, 1, 2, 3] (by decide) rfl) hS
set_option maxHeartbeats 4000000 in
set_option maxRecDepth 100000 in
theorem case_pair {p : Program} {l : Launch} {e : Env} {s : State} {m : MethodId} {below : List Frame} {meth : Method} {c : Code} {Q : State → Prop} {dC : Nat → ClassId} {dI : Nat → Nat → Nat} {b L : Nat} {xs : Nat → Int32} (hx : p.tables.exec = Jvm.exec) (hb : c.code = cL_law) (hml : c.maxLocals = 4) (hown : s.vm.findClass R_law = some m.cls) (hts : ∀ w ∈ lw_all, w.before #[Value.ref b] s = true) (hX : va_X b L xs s s.heap) (hbl : b < s.heap.size) {qx ax qm am : Nat} {dx dm : ClassId} {f : Nat → Int64} {x3 : Int32} {H : Heap} {locs : List Loc} {ls : Array Slot} (h1 : vp_in (x3 + 1) L) (h2 : vp_in (x3 + 2) L) (hK : va_K (dC, dI) vwCl [(dx, .long), (dm, .long)] s) (hP : va_P (dC, dI) vwCl [(qx, .inr (0, [.ref ax])), (ax, .inl (dx, 2, .inr (.inl f))), (qm, .inr (1, [.ref am])), (am, .inl (dm, 2, .inr (.inl f)))] H) (hD : va_D (fun q : Nat => s.heap.size ≤ q) [(qx, .inr (0, [.ref ax])), (ax, .inl (dx, 2, .inr (.inl f))), (qm, .inr (1, [.ref am])), (am, .inl (dm, 2, .inr (.inl f)))]) (hS : va_S (fun q : Nat => s.heap.size ≤ q) s.heap H locs) (hl : lv_has ls 4 [(3, .int x3), (2, .ref qm), (1, .ref qx), (0, .ref b)]) (K : W p l e room_1 s m #[Value.ref b] below meth c H locs 4 6 Q (F0 m 426 ls [])) : W p l e room_1 s m #[Value.ref b] below meth c H locs 4 6 Q (F0 m 197 ls []) := by
  have hbA : ¬ (fun q : Nat => s.heap.size ≤ q) b := Nat.not_le.mpr hbl
  have hA : ∀ q : Nat, s.heap.size ≤ q → (fun q : Nat => s.heap.size ≤ q) q := fun _ h => h
  refine lv_aload_n hx hb dL_law_197 rfl (lv_at hl 2 rfl) ?_
  refine lv_aload_n hx hb dL_law_198 rfl (lv_at hl 3 rfl) ?_
  refine lv_iload_n hx hb dL_law_199 rfl (lv_at hl 0 rfl) ?_
  refine lv_iconst (v := 1) hx hb dL_law_200 (by decide) ?_
  refine lv_iadd hx hb dL_law_201 ?_
  refine va_sld hx hb hX hbl hbA hS h1 dL_law_202 ?_
  have hPc := hP.sub (ws' := [(qx, .inr (0, [.ref ax])), (ax, .inl (dx, 2, .inr (.inl f)))]) [0, 1] rfl
  have hDc := hD.sub (ws' := [(qx, .inr (0, [.ref ax])), (ax, .inl (dx, 2, .inr (.inl f)))]) [0, 1] (by decide) rfl
  have hKc := hK.sub (tys' := [(dx, .long)]) [0] rfl
  refine vp_callSl (W.runV (b := qx) (As := [.int (xs (x3 + 1).toNatClampNeg)]) (rest := []) ⟨hx, hb, hml, hown, hts⟩ (metX0_pair l dC dI qx ax dx f H.size (xs (x3 + 1).toNatClampNeg)) (cwV 1 hts (lw_V q72 q73 q74 q1 q75) rfl rfl rfl (by decide +kernel) ⟨Nat.le_of_ble_eq_true rfl, Nat.le_of_ble_eq_true rfl⟩) ⟨fun a U g mk q => by obtain ⟨q0, q1, qP, qK, qD⟩ := q; exact ⟨q0, q1, qP, va_K.moved (u := U) (U := U.calling g mk a) (Vm.Alike.refl U.vm) qK, qD⟩, va_recv hKc hPc (ci := 0) (q0 := 0) rfl rfl, fun U hU hW => ⟨rfl, by rw [hU], by rw [hU]; exact hPc, va_K.moved hW.alike hKc, hDc.weaken (fun _ _ _ _ => trivial)⟩⟩ rfl rfl hl.1 rfl (lv_room (Nat.le_of_ble_eq_true rfl)) dL_law_203 ⟨Nat.le_of_ble_eq_true rfl, Nat.le_of_ble_eq_true rfl⟩) (fun r0 er0 => ?_)
  have er0 : r0 = f ((xs (x3 + 1).toNatClampNeg) &&& 1).toNatClampNeg := er0
  refine lv_aload_n hx hb dL_law_206 rfl (lv_at hl 1 rfl) ?_
  refine lv_aload_n hx hb dL_law_207 rfl (lv_at hl 3 rfl) ?_
  refine lv_iload_n hx hb dL_law_208 rfl (lv_at hl 0 rfl) ?_
  refine lv_iconst (v := 1) hx hb dL_law_209 (by decide) ?_
  refine lv_iadd hx hb dL_law_210 ?_
  refine va_sld hx hb hX hbl hbA hS h1 dL_law_211 ?_
  have hPc := hP.sub (ws' := [(qm, .inr (1, [.ref am])), (am, .inl (dm, 2, .inr (.inl f)))]) [2, 3] rfl
  have hDc := hD.sub (ws' := [(qm, .inr (1, [.ref am])), (am, .inl (dm, 2, .inr (.inl f)))]) [2, 3] (by decide) rfl
  have hKc := hK.sub (tys' := [(dm, .long)]) [1] rfl
  refine vp_callSl (W.runV (b := qm) (As := [.int (xs (x3 + 1).toNatClampNeg)]) (rest := [.long r0]) ⟨hx, hb, hml, hown, hts⟩ (metX1_pair l dC dI qm am dm f H.size (xs (x3 + 1).toNatClampNeg)) (cwV 1 hts (lw_V q178 q179 q180 q2 q181) rfl rfl rfl (by decide +kernel) ⟨Nat.le_of_ble_eq_true rfl, Nat.le_of_ble_eq_true rfl⟩) ⟨fun a U g mk q => by obtain ⟨q0, q1, qP, qK, qD⟩ := q; exact ⟨q0, q1, qP, va_K.moved (u := U) (U := U.calling g mk a) (Vm.Alike.refl U.vm) qK, qD⟩, va_recv hKc hPc (ci := 1) (q0 := 0) rfl rfl, fun U hU hW => ⟨rfl, by rw [hU], by rw [hU]; exact hPc, va_K.moved hW.alike hKc, hDc.weaken (fun _ _ _ _ => trivial)⟩⟩ rfl rfl hl.1 rfl (lv_room (Nat.le_of_ble_eq_true rfl)) dL_law_212 ⟨Nat.le_of_ble_eq_true rfl, Nat.le_of_ble_eq_true rfl⟩) (fun r1 er1 => ?_)
  have er1 : r1 = f ((xs (x3 + 1).toNatClampNeg) &&& 1).toNatClampNeg := er1
  refine W.lcmp hx hb dL_law_215 ?_
  refine lv_if_eq (tgt := 426) hx hb dL_law_216 (by decide) (fun c1 => K) (fun c1 => ?_)
  exact absurd (by rw [show r0 = r1 by rw [er0, er1]]; exact cmp_self _) c1
set_option maxHeartbeats 4000000 in
set_option maxRecDepth 100000 in
theorem case_shuffle {p : Program} {l : Launch} {e : Env} {s : State} {m : MethodId} {below : List Frame} {meth : Method} {c : Code} {Q : State → Prop} {dC : Nat → ClassId} {dI : Nat → Nat → Nat} {b L : Nat} {xs : Nat → Int32} (hx : p.tables.exec = Jvm.exec) (hb : c.code = cL_law) (hml : c.maxLocals = 4) (hown : s.vm.findClass R_law = some m.cls) (hts : ∀ w ∈ lw_all, w.before #[Value.ref b] s = true) (hX : va_X b L xs s s.heap) (hbl : b < s.heap.size) {qx ax qm am : Nat} {dx dm : ClassId} {f : Nat → Int64} {x3 : Int32} {H : Heap} {locs : List Loc} {ls : Array Slot} (h1 : vp_in (x3 + 1) L) (h2 : vp_in (x3 + 2) L) (hK : va_K (dC, dI) vwCl [(dx, .long), (dm, .long)] s) (hP : va_P (dC, dI) vwCl [(qx, .inr (0, [.ref ax])), (ax, .inl (dx, 2, .inr (.inl f))), (qm, .inr (1, [.ref am])), (am, .inl (dm, 2, .inr (.inl f)))] H) (hD : va_D (fun q : Nat => s.heap.size ≤ q) [(qx, .inr (0, [.ref ax])), (ax, .inl (dx, 2, .inr (.inl f))), (qm, .inr (1, [.ref am])), (am, .inl (dm, 2, .inr (.inl f)))]) (hS : va_S (fun q : Nat => s.heap.size ≤ q) s.heap H locs) (hl : lv_has ls 4 [(3, .int x3), (2, .ref qm), (1, .ref qx), (0, .ref b)]) (K : W p l e room_1 s m #[Value.ref b] below meth c H locs 4 6 Q (F0 m 426 ls [])) : W p l e room_1 s m #[Value.ref b] below meth c H locs 4 6 Q (F0 m 221 ls []) := by
  have hbA : ¬ (fun q : Nat => s.heap.size ≤ q) b := Nat.not_le.mpr hbl
  have hA : ∀ q : Nat, s.heap.size ≤ q → (fun q : Nat => s.heap.size ≤ q) q := fun _ h => h
  refine lv_aload_n hx hb dL_law_221 rfl (lv_at hl 2 rfl) ?_
  refine lv_aload_n hx hb dL_law_222 rfl (lv_at hl 3 rfl) ?_
  refine lv_iload_n hx hb dL_law_223 rfl (lv_at hl 0 rfl) ?_
  refine lv_iconst (v := 1) hx hb dL_law_224 (by decide) ?_
  refine lv_iadd hx hb dL_law_225 ?_
  refine va_sld hx hb hX hbl hbA hS h1 dL_law_226 ?_
  refine vp_callSi (W.runV (b := qx) (As := [.int (xs (x3 + 1).toNatClampNeg)]) (rest := []) ⟨hx, hb, hml, hown, hts⟩ (metX0_shuffle l qx (xs (x3 + 1).toNatClampNeg)) (cwV 1 hts (lw_V q76 q77 q78 q1 q79) rfl rfl rfl (by decide +kernel) ⟨Nat.le_of_ble_eq_true rfl, Nat.le_of_ble_eq_true rfl⟩) ⟨fun _ _ _ _ q => q, va_recv hK hP (ci := 0) (q0 := 0) rfl rfl, fun U hU hW => rfl⟩ rfl rfl hl.1 rfl (lv_room (Nat.le_of_ble_eq_true rfl)) dL_law_227 ⟨Nat.le_of_ble_eq_true rfl, Nat.le_of_ble_eq_true rfl⟩) (fun r0 er0 => ?_)
  have er0 : r0 = shI (xs (x3 + 1).toNatClampNeg) := er0
  refine lv_aload_n hx hb dL_law_230 rfl (lv_at hl 1 rfl) ?_
  refine lv_aload_n hx hb dL_law_231 rfl (lv_at hl 3 rfl) ?_
  refine lv_iload_n hx hb dL_law_232 rfl (lv_at hl 0 rfl) ?_
  refine lv_iconst (v := 1) hx hb dL_law_233 (by decide) ?_
  refine lv_iadd hx hb dL_law_234 ?_
  refine va_sld hx hb hX hbl hbA hS h1 dL_law_235 ?_
  refine vp_callSi (W.runV (b := qm) (As := [.int (xs (x3 + 1).toNatClampNeg)]) (rest := [.int r0]) ⟨hx, hb, hml, hown, hts⟩ (metX1_shuffle l qm (xs (x3 + 1).toNatClampNeg)) (cwV 1 hts (lw_V q182 q183 q184 q2 q185) rfl rfl rfl (by decide +kernel) ⟨Nat.le_of_ble_eq_true rfl, Nat.le_of_ble_eq_true rfl⟩) ⟨fun _ _ _ _ q => q, va_recv hK hP (ci := 1) (q0 := 2) rfl rfl, fun U hU hW => rfl⟩ rfl rfl hl.1 rfl (lv_room (Nat.le_of_ble_eq_true rfl)) dL_law_236 ⟨Nat.le_of_ble_eq_true rfl, Nat.le_of_ble_eq_true rfl⟩) (fun r1 er1 => ?_)
  have er1 : r1 = (weaL ((xs (x3 + 1).toNatClampNeg).toInt64 &&& 4294967295) 16).toInt32 := er1
  refine lv_icmp_eq (tgt := 426) hx hb dL_law_239 (by decide) (fun c1 => K) (fun c1 => ?_)
  exact absurd (by rw [er0, er1]; exact shuffle_eq (xs (x3 + 1).toNatClampNeg)) c1
set_option maxHeartbeats 4000000 in
set_option maxRecDepth 100000 in
theorem case_unshuffle {p : Program} {l : Launch} {e : Env} {s : State} {m : MethodId} {below : List Frame} {meth : Method} {c : Code} {Q : State → Prop} {dC : Nat → ClassId} {dI : Nat → Nat → Nat} {b L : Nat} {xs : Nat → Int32} (hx : p.tables.exec = Jvm.exec) (hb : c.code = cL_law) (hml : c.maxLocals = 4) (hown : s.vm.findClass R_law = some m.cls) (hts : ∀ w ∈ lw_all, w.before #[Value.ref b] s = true) (hX : va_X b L xs s s.heap) (hbl : b < s.heap.size) {qx ax qm am : Nat} {dx dm : ClassId} {f : Nat → Int64} {x3 : Int32} {H : Heap} {locs : List Loc} {ls : Array Slot} (h1 : vp_in (x3 + 1) L) (h2 : vp_in (x3 + 2) L) (hK : va_K (dC, dI) vwCl [(dx, .long), (dm, .long)] s) (hP : va_P (dC, dI) vwCl [(qx, .inr (0, [.ref ax])), (ax, .inl (dx, 2, .inr (.inl f))), (qm, .inr (1, [.ref am])), (am, .inl (dm, 2, .inr (.inl f)))] H) (hD : va_D (fun q : Nat => s.heap.size ≤ q) [(qx, .inr (0, [.ref ax])), (ax, .inl (dx, 2, .inr (.inl f))), (qm, .inr (1, [.ref am])), (am, .inl (dm, 2, .inr (.inl f)))]) (hS : va_S (fun q : Nat => s.heap.size ≤ q) s.heap H locs) (hl : lv_has ls 4 [(3, .int x3), (2, .ref qm), (1, .ref qx), (0, .ref b)]) (K : W p l e room_1 s m #[Value.ref b] below meth c H locs 4 6 Q (F0 m 426 ls [])) : W p l e room_1 s m #[Value.ref b] below meth c H locs 4 6 Q (F0 m 244 ls []) := by
  have hbA : ¬ (fun q : Nat => s.heap.size ≤ q) b := Nat.not_le.mpr hbl
  have hA : ∀ q : Nat, s.heap.size ≤ q → (fun q : Nat => s.heap.size ≤ q) q := fun _ h => h
  refine lv_aload_n hx hb dL_law_244 rfl (lv_at hl 2 rfl) ?_
  refine lv_aload_n hx hb dL_law_245 rfl (lv_at hl 3 rfl) ?_
  refine lv_iload_n hx hb dL_law_246 rfl (lv_at hl 0 rfl) ?_
  refine lv_iconst (v := 1) hx hb dL_law_247 (by decide) ?_
  refine lv_iadd hx hb dL_law_248 ?_
  refine va_sld hx hb hX hbl hbA hS h1 dL_law_249 ?_
  refine vp_callSi (W.runV (b := qx) (As := [.int (xs (x3 + 1).toNatClampNeg)]) (rest := []) ⟨hx, hb, hml, hown, hts⟩ (metX0_unshuffle l qx (xs (x3 + 1).toNatClampNeg)) (cwV 1 hts (lw_V q83 q84 q85 q1 q86) rfl rfl rfl (by decide +kernel) ⟨Nat.le_of_ble_eq_true rfl, Nat.le_of_ble_eq_true rfl⟩) ⟨fun _ _ _ _ q => q, va_recv hK hP (ci := 0) (q0 := 0) rfl rfl, fun U hU hW => rfl⟩ rfl rfl hl.1 rfl (lv_room (Nat.le_of_ble_eq_true rfl)) dL_law_250 ⟨Nat.le_of_ble_eq_true rfl, Nat.le_of_ble_eq_true rfl⟩) (fun r0 er0 => ?_)
  have er0 : r0 = usI (xs (x3 + 1).toNatClampNeg) := er0
  refine lv_aload_n hx hb dL_law_253 rfl (lv_at hl 1 rfl) ?_
  refine lv_aload_n hx hb dL_law_254 rfl (lv_at hl 3 rfl) ?_
  refine lv_iload_n hx hb dL_law_255 rfl (lv_at hl 0 rfl) ?_
  refine lv_iconst (v := 1) hx hb dL_law_256 (by decide) ?_
  refine lv_iadd hx hb dL_law_257 ?_
  refine va_sld hx hb hX hbl hbA hS h1 dL_law_258 ?_
  refine vp_callSi (W.runV (b := qm) (As := [.int (xs (x3 + 1).toNatClampNeg)]) (rest := [.int r0]) ⟨hx, hb, hml, hown, hts⟩ (metX1_unshuffle l qm (xs (x3 + 1).toNatClampNeg)) (cwV 1 hts (lw_V q189 q190 q191 q2 q192) rfl rfl rfl (by decide +kernel) ⟨Nat.le_of_ble_eq_true rfl, Nat.le_of_ble_eq_true rfl⟩) ⟨fun _ _ _ _ q => q, va_recv hK hP (ci := 1) (q0 := 2) rfl rfl, fun U hU hW => rfl⟩ rfl rfl hl.1 rfl (lv_room (Nat.le_of_ble_eq_true rfl)) dL_law_259 ⟨Nat.le_of_ble_eq_true rfl, Nat.le_of_ble_eq_true rfl⟩) (fun r1 er1 => ?_)
  have er1 : r1 = (prt ((xs (x3 + 1).toNatClampNeg).toInt64 &&& 4294967295) 16 16).toInt32 := er1
  refine lv_icmp_eq (tgt := 426) hx hb dL_law_262 (by decide) (fun c1 => K) (fun c1 => ?_)
  exact absurd (by rw [er0, er1]; exact unshuffle_eq (xs (x3 + 1).toNatClampNeg)) c1
set_option maxHeartbeats 4000000 in
set_option maxRecDepth 100000 in
theorem case_longShuffle {p : Program} {l : Launch} {e : Env} {s : State} {m : MethodId} {below : List Frame} {meth : Method} {c : Code} {Q : State → Prop} {dC : Nat → ClassId} {dI : Nat → Nat → Nat} {b L : Nat} {xs : Nat → Int32} (hx : p.tables.exec = Jvm.exec) (hb : c.code = cL_law) (hml : c.maxLocals = 4) (hown : s.vm.findClass R_law = some m.cls) (hts : ∀ w ∈ lw_all, w.before #[Value.ref b] s = true) (hX : va_X b L xs s s.heap) (hbl : b < s.heap.size) {qx ax qm am : Nat} {dx dm : ClassId} {f : Nat → Int64} {x3 : Int32} {H : Heap} {locs : List Loc} {ls : Array Slot} (h1 : vp_in (x3 + 1) L) (h2 : vp_in (x3 + 2) L) (hK : va_K (dC, dI) vwCl [(dx, .long), (dm, .long)] s) (hP : va_P (dC, dI) vwCl [(qx, .inr (0, [.ref ax])), (ax, .inl (dx, 2, .inr (.inl f))), (qm, .inr (1, [.ref am])), (am, .inl (dm, 2, .inr (.inl f)))] H) (hD : va_D (fun q : Nat => s.heap.size ≤ q) [(qx, .inr (0, [.ref ax])), (ax, .inl (dx, 2, .inr (.inl f))), (qm, .inr (1, [.ref am])), (am, .inl (dm, 2, .inr (.inl f)))]) (hS : va_S (fun q : Nat => s.heap.size ≤ q) s.heap H locs) (hl : lv_has ls 4 [(3, .int x3), (2, .ref qm), (1, .ref qx), (0, .ref b)]) (K : W p l e room_1 s m #[Value.ref b] below meth c H locs 4 6 Q (F0 m 426 ls [])) : W p l e room_1 s m #[Value.ref b] below meth c H locs 4 6 Q (F0 m 267 ls []) := by
  have hbA : ¬ (fun q : Nat => s.heap.size ≤ q) b := Nat.not_le.mpr hbl
  have hA : ∀ q : Nat, s.heap.size ≤ q → (fun q : Nat => s.heap.size ≤ q) q := fun _ h => h
  refine lv_aload_n hx hb dL_law_267 rfl (lv_at hl 2 rfl) ?_
  refine lv_aload_n hx hb dL_law_268 rfl (lv_at hl 3 rfl) ?_
  refine lv_iload_n hx hb dL_law_269 rfl (lv_at hl 0 rfl) ?_
  refine lv_iconst (v := 1) hx hb dL_law_270 (by decide) ?_
  refine lv_iadd hx hb dL_law_271 ?_
  refine va_sld hx hb hX hbl hbA hS h1 dL_law_272 ?_
  refine lv_aload_n hx hb dL_law_273 rfl (lv_at hl 3 rfl) ?_
  refine lv_iload_n hx hb dL_law_274 rfl (lv_at hl 0 rfl) ?_
  refine lv_iconst (v := 2) hx hb dL_law_275 (by decide) ?_
  refine lv_iadd hx hb dL_law_276 ?_
  refine va_sld hx hb hX hbl hbA hS h2 dL_law_277 ?_
  refine vp_callSl (W.runV (b := qx) (As := [.int (xs (x3 + 1).toNatClampNeg), .int (xs (x3 + 2).toNatClampNeg)]) (rest := []) ⟨hx, hb, hml, hown, hts⟩ (metX0_longShuffle l qx (xs (x3 + 1).toNatClampNeg) (xs (x3 + 2).toNatClampNeg)) (cwV 2 hts (lw_V q90 q91 q92 q1 q93) rfl rfl rfl (by decide +kernel) ⟨Nat.le_of_ble_eq_true rfl, Nat.le_of_ble_eq_true rfl⟩) ⟨fun _ _ _ _ q => q, va_recv hK hP (ci := 0) (q0 := 0) rfl rfl, fun U hU hW => rfl⟩ rfl rfl hl.1 rfl (lv_room (Nat.le_of_ble_eq_true rfl)) dL_law_278 ⟨Nat.le_of_ble_eq_true rfl, Nat.le_of_ble_eq_true rfl⟩) (fun r0 er0 => ?_)
  have er0 : r0 = shL (widL (xs (x3 + 1).toNatClampNeg) (xs (x3 + 2).toNatClampNeg)) := er0
  refine lv_aload_n hx hb dL_law_281 rfl (lv_at hl 1 rfl) ?_
  refine lv_aload_n hx hb dL_law_282 rfl (lv_at hl 3 rfl) ?_
  refine lv_iload_n hx hb dL_law_283 rfl (lv_at hl 0 rfl) ?_
  refine lv_iconst (v := 1) hx hb dL_law_284 (by decide) ?_
  refine lv_iadd hx hb dL_law_285 ?_
  refine va_sld hx hb hX hbl hbA hS h1 dL_law_286 ?_
  refine lv_aload_n hx hb dL_law_287 rfl (lv_at hl 3 rfl) ?_
  refine lv_iload_n hx hb dL_law_288 rfl (lv_at hl 0 rfl) ?_
  refine lv_iconst (v := 2) hx hb dL_law_289 (by decide) ?_
  refine lv_iadd hx hb dL_law_290 ?_
  refine va_sld hx hb hX hbl hbA hS h2 dL_law_291 ?_
  refine vp_callSl (W.runV (b := qm) (As := [.int (xs (x3 + 1).toNatClampNeg), .int (xs (x3 + 2).toNatClampNeg)]) (rest := [.long r0]) ⟨hx, hb, hml, hown, hts⟩ (metX1_longShuffle l qm (xs (x3 + 1).toNatClampNeg) (xs (x3 + 2).toNatClampNeg)) (cwV 2 hts (lw_V q196 q197 q198 q2 q199) rfl rfl rfl (by decide +kernel) ⟨Nat.le_of_ble_eq_true rfl, Nat.le_of_ble_eq_true rfl⟩) ⟨fun _ _ _ _ q => q, va_recv hK hP (ci := 1) (q0 := 2) rfl rfl, fun U hU hW => rfl⟩ rfl rfl hl.1 rfl (lv_room (Nat.le_of_ble_eq_true rfl)) dL_law_292 ⟨Nat.le_of_ble_eq_true rfl, Nat.le_of_ble_eq_true rfl⟩) (fun r1 er1 => ?_)
  have er1 : r1 = weaL (widL (xs (x3 + 1).toNatClampNeg) (xs (x3 + 2).toNatClampNeg)) 32 := er1
  refine W.lcmp hx hb dL_law_295 ?_
  refine lv_if_eq (tgt := 426) hx hb dL_law_296 (by decide) (fun c1 => K) (fun c1 => ?_)
  exact absurd (by rw [show r0 = r1 by rw [er0, er1]; exact longShuffle_eq (widL (xs (x3 + 1).toNatClampNeg) (xs (x3 + 2).toNatClampNeg))]; exact cmp_self _) c1
set_option maxHeartbeats 4000000 in
set_option maxRecDepth 100000 in
theorem case_longUnshuffle {p : Program} {l : Launch} {e : Env} {s : State} {m : MethodId} {below : List Frame} {meth : Method} {c : Code} {Q : State → Prop} {dC : Nat → ClassId} {dI : Nat → Nat → Nat} {b L : Nat} {xs : Nat → Int32} (hx : p.tables.exec = Jvm.exec) (hb : c.code = cL_law) (hml : c.maxLocals = 4) (hown : s.vm.findClass R_law = some m.cls) (hts : ∀ w ∈ lw_all, w.before #[Value.ref b] s = true) (hX : va_X b L xs s s.heap) (hbl : b < s.heap.size) {qx ax qm am : Nat} {dx dm : ClassId} {f : Nat → Int64} {x3 : Int32} {H : Heap} {locs : List Loc} {ls : Array Slot} (h1 : vp_in (x3 + 1) L) (h2 : vp_in (x3 + 2) L) (hK : va_K (dC, dI) vwCl [(dx, .long), (dm, .long)] s) (hP : va_P (dC, dI) vwCl [(qx, .inr (0, [.ref ax])), (ax, .inl (dx, 2, .inr (.inl f))), (qm, .inr (1, [.ref am])), (am, .inl (dm, 2, .inr (.inl f)))] H) (hD : va_D (fun q : Nat => s.heap.size ≤ q) [(qx, .inr (0, [.ref ax])), (ax, .inl (dx, 2, .inr (.inl f))), (qm, .inr (1, [.ref am])), (am, .inl (dm, 2, .inr (.inl f)))]) (hS : va_S (fun q : Nat => s.heap.size ≤ q) s.heap H locs) (hl : lv_has ls 4 [(3, .int x3), (2, .ref qm), (1, .ref qx), (0, .ref b)]) (K : W p l e room_1 s m #[Value.ref b] below meth c H locs 4 6 Q (F0 m 426 ls [])) : W p l e room_1 s m #[Value.ref b] below meth c H locs 4 6 Q (F0 m 301 ls []) := by
  have hbA : ¬ (fun q : Nat => s.heap.size ≤ q) b := Nat.not_le.mpr hbl
  have hA : ∀ q : Nat, s.heap.size ≤ q → (fun q : Nat => s.heap.size ≤ q) q := fun _ h => h
  refine lv_aload_n hx hb dL_law_301 rfl (lv_at hl 2 rfl) ?_
  refine lv_aload_n hx hb dL_law_302 rfl (lv_at hl 3 rfl) ?_
  refine lv_iload_n hx hb dL_law_303 rfl (lv_at hl 0 rfl) ?_
  refine lv_iconst (v := 1) hx hb dL_law_304 (by decide) ?_
  refine lv_iadd hx hb dL_law_305 ?_
  refine va_sld hx hb hX hbl hbA hS h1 dL_law_306 ?_
  refine lv_aload_n hx hb dL_law_307 rfl (lv_at hl 3 rfl) ?_
  refine lv_iload_n hx hb dL_law_308 rfl (lv_at hl 0 rfl) ?_
  refine lv_iconst (v := 2) hx hb dL_law_309 (by decide) ?_
  refine lv_iadd hx hb dL_law_310 ?_
  refine va_sld hx hb hX hbl hbA hS h2 dL_law_311 ?_
  refine vp_callSl (W.runV (b := qx) (As := [.int (xs (x3 + 1).toNatClampNeg), .int (xs (x3 + 2).toNatClampNeg)]) (rest := []) ⟨hx, hb, hml, hown, hts⟩ (metX0_longUnshuffle l qx (xs (x3 + 1).toNatClampNeg) (xs (x3 + 2).toNatClampNeg)) (cwV 2 hts (lw_V q97 q98 q99 q1 q100) rfl rfl rfl (by decide +kernel) ⟨Nat.le_of_ble_eq_true rfl, Nat.le_of_ble_eq_true rfl⟩) ⟨fun _ _ _ _ q => q, va_recv hK hP (ci := 0) (q0 := 0) rfl rfl, fun U hU hW => rfl⟩ rfl rfl hl.1 rfl (lv_room (Nat.le_of_ble_eq_true rfl)) dL_law_312 ⟨Nat.le_of_ble_eq_true rfl, Nat.le_of_ble_eq_true rfl⟩) (fun r0 er0 => ?_)
  have er0 : r0 = usL (widL (xs (x3 + 1).toNatClampNeg) (xs (x3 + 2).toNatClampNeg)) := er0
  refine lv_aload_n hx hb dL_law_315 rfl (lv_at hl 1 rfl) ?_
  refine lv_aload_n hx hb dL_law_316 rfl (lv_at hl 3 rfl) ?_
  refine lv_iload_n hx hb dL_law_317 rfl (lv_at hl 0 rfl) ?_
  refine lv_iconst (v := 1) hx hb dL_law_318 (by decide) ?_
  refine lv_iadd hx hb dL_law_319 ?_
  refine va_sld hx hb hX hbl hbA hS h1 dL_law_320 ?_
  refine lv_aload_n hx hb dL_law_321 rfl (lv_at hl 3 rfl) ?_
  refine lv_iload_n hx hb dL_law_322 rfl (lv_at hl 0 rfl) ?_
  refine lv_iconst (v := 2) hx hb dL_law_323 (by decide) ?_
  refine lv_iadd hx hb dL_law_324 ?_
  refine va_sld hx hb hX hbl hbA hS h2 dL_law_325 ?_
  refine vp_callSl (W.runV (b := qm) (As := [.int (xs (x3 + 1).toNatClampNeg), .int (xs (x3 + 2).toNatClampNeg)]) (rest := [.long r0]) ⟨hx, hb, hml, hown, hts⟩ (metX1_longUnshuffle l qm (xs (x3 + 1).toNatClampNeg) (xs (x3 + 2).toNatClampNeg)) (cwV 2 hts (lw_V q200 q201 q202 q2 q203) rfl rfl rfl (by decide +kernel) ⟨Nat.le_of_ble_eq_true rfl, Nat.le_of_ble_eq_true rfl⟩) ⟨fun _ _ _ _ q => q, va_recv hK hP (ci := 1) (q0 := 2) rfl rfl, fun U hU hW => rfl⟩ rfl rfl hl.1 rfl (lv_room (Nat.le_of_ble_eq_true rfl)) dL_law_326 ⟨Nat.le_of_ble_eq_true rfl, Nat.le_of_ble_eq_true rfl⟩) (fun r1 er1 => ?_)
  have er1 : r1 = prt (widL (xs (x3 + 1).toNatClampNeg) (xs (x3 + 2).toNatClampNeg)) 32 32 := er1
  refine W.lcmp hx hb dL_law_329 ?_
  refine lv_if_eq (tgt := 426) hx hb dL_law_330 (by decide) (fun c1 => K) (fun c1 => ?_)
  exact absurd (by rw [show r0 = r1 by rw [er0, er1]; exact longUnshuffle_eq (widL (xs (x3 + 1).toNatClampNeg) (xs (x3 + 2).toNatClampNeg))]; exact cmp_self _) c1
set_option maxHeartbeats 4000000 in
set_option maxRecDepth 100000 in
theorem case_there {p : Program} {l : Launch} {e : Env} {s : State} {m : MethodId} {below : List Frame} {meth : Method} {c : Code} {Q : State → Prop} {dC : Nat → ClassId} {dI : Nat → Nat → Nat} {b L : Nat} {xs : Nat → Int32} (hx : p.tables.exec = Jvm.exec) (hb : c.code = cL_law) (hml : c.maxLocals = 4) (hown : s.vm.findClass R_law = some m.cls) (hts : ∀ w ∈ lw_all, w.before #[Value.ref b] s = true) (hX : va_X b L xs s s.heap) (hbl : b < s.heap.size) {qx ax qm am : Nat} {dx dm : ClassId} {f : Nat → Int64} {x3 : Int32} {H : Heap} {locs : List Loc} {ls : Array Slot} (h1 : vp_in (x3 + 1) L) (h2 : vp_in (x3 + 2) L) (hK : va_K (dC, dI) vwCl [(dx, .long), (dm, .long)] s) (hP : va_P (dC, dI) vwCl [(qx, .inr (0, [.ref ax])), (ax, .inl (dx, 2, .inr (.inl f))), (qm, .inr (1, [.ref am])), (am, .inl (dm, 2, .inr (.inl f)))] H) (hD : va_D (fun q : Nat => s.heap.size ≤ q) [(qx, .inr (0, [.ref ax])), (ax, .inl (dx, 2, .inr (.inl f))), (qm, .inr (1, [.ref am])), (am, .inl (dm, 2, .inr (.inl f)))]) (hS : va_S (fun q : Nat => s.heap.size ≤ q) s.heap H locs) (hl : lv_has ls 4 [(3, .int x3), (2, .ref qm), (1, .ref qx), (0, .ref b)]) (K : W p l e room_1 s m #[Value.ref b] below meth c H locs 4 6 Q (F0 m 426 ls [])) : W p l e room_1 s m #[Value.ref b] below meth c H locs 4 6 Q (F0 m 335 ls []) := by
  have hbA : ¬ (fun q : Nat => s.heap.size ≤ q) b := Nat.not_le.mpr hbl
  have hA : ∀ q : Nat, s.heap.size ≤ q → (fun q : Nat => s.heap.size ≤ q) q := fun _ h => h
  refine lv_aload_n hx hb dL_law_335 rfl (lv_at hl 2 rfl) ?_
  refine lv_aload_n hx hb dL_law_336 rfl (lv_at hl 3 rfl) ?_
  refine lv_iload_n hx hb dL_law_337 rfl (lv_at hl 0 rfl) ?_
  refine lv_iconst (v := 1) hx hb dL_law_338 (by decide) ?_
  refine lv_iadd hx hb dL_law_339 ?_
  refine va_sld hx hb hX hbl hbA hS h1 dL_law_340 ?_
  refine vp_callSi (W.runV (b := qx) (As := [.int (xs (x3 + 1).toNatClampNeg)]) (rest := []) ⟨hx, hb, hml, hown, hts⟩ (metX0_there l qx (xs (x3 + 1).toNatClampNeg)) (cwV 1 hts (lw_V q104 q105 q106 q1 q107) rfl rfl rfl (by decide +kernel) ⟨Nat.le_of_ble_eq_true rfl, Nat.le_of_ble_eq_true rfl⟩) ⟨fun _ _ _ _ q => q, va_recv hK hP (ci := 0) (q0 := 0) rfl rfl, fun U hU hW => rfl⟩ rfl rfl hl.1 rfl (lv_room (Nat.le_of_ble_eq_true rfl)) dL_law_341 ⟨Nat.le_of_ble_eq_true rfl, Nat.le_of_ble_eq_true rfl⟩) (fun r0 er0 => ?_)
  have er0 : r0 = u2I (s2I (xs (x3 + 1).toNatClampNeg)) := er0
  refine lv_aload_n hx hb dL_law_344 rfl (lv_at hl 1 rfl) ?_
  refine lv_aload_n hx hb dL_law_345 rfl (lv_at hl 3 rfl) ?_
  refine lv_iload_n hx hb dL_law_346 rfl (lv_at hl 0 rfl) ?_
  refine lv_iconst (v := 1) hx hb dL_law_347 (by decide) ?_
  refine lv_iadd hx hb dL_law_348 ?_
  refine va_sld hx hb hX hbl hbA hS h1 dL_law_349 ?_
  refine vp_callSi (W.runV (b := qm) (As := [.int (xs (x3 + 1).toNatClampNeg)]) (rest := [.int r0]) ⟨hx, hb, hml, hown, hts⟩ (metX1_there l qm (xs (x3 + 1).toNatClampNeg)) (cwV 1 hts (lw_V q204 q205 q206 q2 q207) rfl rfl rfl (by decide +kernel) ⟨Nat.le_of_ble_eq_true rfl, Nat.le_of_ble_eq_true rfl⟩) ⟨fun _ _ _ _ q => q, va_recv hK hP (ci := 1) (q0 := 2) rfl rfl, fun U hU hW => rfl⟩ rfl rfl hl.1 rfl (lv_room (Nat.le_of_ble_eq_true rfl)) dL_law_350 ⟨Nat.le_of_ble_eq_true rfl, Nat.le_of_ble_eq_true rfl⟩) (fun r1 er1 => ?_)
  have er1 : r1 = xs (x3 + 1).toNatClampNeg := er1
  refine lv_icmp_eq (tgt := 426) hx hb dL_law_353 (by decide) (fun c1 => K) (fun c1 => ?_)
  exact absurd (by rw [er0, er1]; exact there_eq (xs (x3 + 1).toNatClampNeg)) c1
set_option maxHeartbeats 4000000 in
set_option maxRecDepth 100000 in
theorem case_longThere {p : Program} {l : Launch} {e : Env} {s : State} {m : MethodId} {below : List Frame} {meth : Method} {c : Code} {Q : State → Prop} {dC : Nat → ClassId} {dI : Nat → Nat → Nat} {b L : Nat} {xs : Nat → Int32} (hx : p.tables.exec = Jvm.exec) (hb : c.code = cL_law) (hml : c.maxLocals = 4) (hown : s.vm.findClass R_law = some m.cls) (hts : ∀ w ∈ lw_all, w.before #[Value.ref b] s = true) (hX : va_X b L xs s s.heap) (hbl : b < s.heap.size) {qx ax qm am : Nat} {dx dm : ClassId} {f : Nat → Int64} {x3 : Int32} {H : Heap} {locs : List Loc} {ls : Array Slot} (h1 : vp_in (x3 + 1) L) (h2 : vp_in (x3 + 2) L) (hK : va_K (dC, dI) vwCl [(dx, .long), (dm, .long)] s) (hP : va_P (dC, dI) vwCl [(qx, .inr (0, [.ref ax])), (ax, .inl (dx, 2, .inr (.inl f))), (qm, .inr (1, [.ref am])), (am, .inl (dm, 2, .inr (.inl f)))] H) (hD : va_D (fun q : Nat => s.heap.size ≤ q) [(qx, .inr (0, [.ref ax])), (ax, .inl (dx, 2, .inr (.inl f))), (qm, .inr (1, [.ref am])), (am, .inl (dm, 2, .inr (.inl f)))]) (hS : va_S (fun q : Nat => s.heap.size ≤ q) s.heap H locs) (hl : lv_has ls 4 [(3, .int x3), (2, .ref qm), (1, .ref qx), (0, .ref b)]) (K : W p l e room_1 s m #[Value.ref b] below meth c H locs 4 6 Q (F0 m 426 ls [])) : W p l e room_1 s m #[Value.ref b] below meth c H locs 4 6 Q (F0 m 358 ls []) := by
  have hbA : ¬ (fun q : Nat => s.heap.size ≤ q) b := Nat.not_le.mpr hbl
  have hA : ∀ q : Nat, s.heap.size ≤ q → (fun q : Nat => s.heap.size ≤ q) q := fun _ h => h
  refine lv_aload_n hx hb dL_law_358 rfl (lv_at hl 2 rfl) ?_
  refine lv_aload_n hx hb dL_law_359 rfl (lv_at hl 3 rfl) ?_
  refine lv_iload_n hx hb dL_law_360 rfl (lv_at hl 0 rfl) ?_
  refine lv_iconst (v := 1) hx hb dL_law_361 (by decide) ?_
  refine lv_iadd hx hb dL_law_362 ?_
  refine va_sld hx hb hX hbl hbA hS h1 dL_law_363 ?_
  refine lv_aload_n hx hb dL_law_364 rfl (lv_at hl 3 rfl) ?_
  refine lv_iload_n hx hb dL_law_365 rfl (lv_at hl 0 rfl) ?_
  refine lv_iconst (v := 2) hx hb dL_law_366 (by decide) ?_
  refine lv_iadd hx hb dL_law_367 ?_
  refine va_sld hx hb hX hbl hbA hS h2 dL_law_368 ?_
  refine vp_callSl (W.runV (b := qx) (As := [.int (xs (x3 + 1).toNatClampNeg), .int (xs (x3 + 2).toNatClampNeg)]) (rest := []) ⟨hx, hb, hml, hown, hts⟩ (metX0_longThere l qx (xs (x3 + 1).toNatClampNeg) (xs (x3 + 2).toNatClampNeg)) (cwV 2 hts (lw_V q116 q117 q118 q1 q119) rfl rfl rfl (by decide +kernel) ⟨Nat.le_of_ble_eq_true rfl, Nat.le_of_ble_eq_true rfl⟩) ⟨fun _ _ _ _ q => q, va_recv hK hP (ci := 0) (q0 := 0) rfl rfl, fun U hU hW => rfl⟩ rfl rfl hl.1 rfl (lv_room (Nat.le_of_ble_eq_true rfl)) dL_law_369 ⟨Nat.le_of_ble_eq_true rfl, Nat.le_of_ble_eq_true rfl⟩) (fun r0 er0 => ?_)
  have er0 : r0 = u2L (s2L (widL (xs (x3 + 1).toNatClampNeg) (xs (x3 + 2).toNatClampNeg))) := er0
  refine lv_aload_n hx hb dL_law_372 rfl (lv_at hl 1 rfl) ?_
  refine lv_aload_n hx hb dL_law_373 rfl (lv_at hl 3 rfl) ?_
  refine lv_iload_n hx hb dL_law_374 rfl (lv_at hl 0 rfl) ?_
  refine lv_iconst (v := 1) hx hb dL_law_375 (by decide) ?_
  refine lv_iadd hx hb dL_law_376 ?_
  refine va_sld hx hb hX hbl hbA hS h1 dL_law_377 ?_
  refine lv_aload_n hx hb dL_law_378 rfl (lv_at hl 3 rfl) ?_
  refine lv_iload_n hx hb dL_law_379 rfl (lv_at hl 0 rfl) ?_
  refine lv_iconst (v := 2) hx hb dL_law_380 (by decide) ?_
  refine lv_iadd hx hb dL_law_381 ?_
  refine va_sld hx hb hX hbl hbA hS h2 dL_law_382 ?_
  refine vp_callSl (W.runV (b := qm) (As := [.int (xs (x3 + 1).toNatClampNeg), .int (xs (x3 + 2).toNatClampNeg)]) (rest := [.long r0]) ⟨hx, hb, hml, hown, hts⟩ (metX1_longThere l qm (xs (x3 + 1).toNatClampNeg) (xs (x3 + 2).toNatClampNeg)) (cwV 2 hts (lw_V q208 q209 q210 q2 q211) rfl rfl rfl (by decide +kernel) ⟨Nat.le_of_ble_eq_true rfl, Nat.le_of_ble_eq_true rfl⟩) ⟨fun _ _ _ _ q => q, va_recv hK hP (ci := 1) (q0 := 2) rfl rfl, fun U hU hW => rfl⟩ rfl rfl hl.1 rfl (lv_room (Nat.le_of_ble_eq_true rfl)) dL_law_383 ⟨Nat.le_of_ble_eq_true rfl, Nat.le_of_ble_eq_true rfl⟩) (fun r1 er1 => ?_)
  have er1 : r1 = widL (xs (x3 + 1).toNatClampNeg) (xs (x3 + 2).toNatClampNeg) := er1
  refine W.lcmp hx hb dL_law_386 ?_
  refine lv_if_eq (tgt := 426) hx hb dL_law_387 (by decide) (fun c1 => K) (fun c1 => ?_)
  exact absurd (by rw [show r0 = r1 by rw [er0, er1]; exact longThere_eq (widL (xs (x3 + 1).toNatClampNeg) (xs (x3 + 2).toNatClampNeg))]; exact cmp_self _) c1
set_option maxHeartbeats 4000000 in
set_option maxRecDepth 100000 in
theorem case_thrice {p : Program} {l : Launch} {e : Env} {s : State} {m : MethodId} {below : List Frame} {meth : Method} {c : Code} {Q : State → Prop} {dC : Nat → ClassId} {dI : Nat → Nat → Nat} {b L : Nat} {xs : Nat → Int32} (hx : p.tables.exec = Jvm.exec) (hb : c.code = cL_law) (hml : c.maxLocals = 4) (hown : s.vm.findClass R_law = some m.cls) (hts : ∀ w ∈ lw_all, w.before #[Value.ref b] s = true) (hX : va_X b L xs s s.heap) (hbl : b < s.heap.size) {qx ax qm am : Nat} {dx dm : ClassId} {f : Nat → Int64} {x3 : Int32} {H : Heap} {locs : List Loc} {ls : Array Slot} (h1 : vp_in (x3 + 1) L) (h2 : vp_in (x3 + 2) L) (hK : va_K (dC, dI) vwCl [(dx, .long), (dm, .long)] s) (hP : va_P (dC, dI) vwCl [(qx, .inr (0, [.ref ax])), (ax, .inl (dx, 2, .inr (.inl f))), (qm, .inr (1, [.ref am])), (am, .inl (dm, 2, .inr (.inl f)))] H) (hD : va_D (fun q : Nat => s.heap.size ≤ q) [(qx, .inr (0, [.ref ax])), (ax, .inl (dx, 2, .inr (.inl f))), (qm, .inr (1, [.ref am])), (am, .inl (dm, 2, .inr (.inl f)))]) (hS : va_S (fun q : Nat => s.heap.size ≤ q) s.heap H locs) (hl : lv_has ls 4 [(3, .int x3), (2, .ref qm), (1, .ref qx), (0, .ref b)]) (K : W p l e room_1 s m #[Value.ref b] below meth c H locs 4 6 Q (F0 m 426 ls [])) : W p l e room_1 s m #[Value.ref b] below meth c H locs 4 6 Q (F0 m 392 ls []) := by
  have hbA : ¬ (fun q : Nat => s.heap.size ≤ q) b := Nat.not_le.mpr hbl
  have hA : ∀ q : Nat, s.heap.size ≤ q → (fun q : Nat => s.heap.size ≤ q) q := fun _ h => h
  refine lv_aload_n hx hb dL_law_392 rfl (lv_at hl 2 rfl) ?_
  refine lv_aload_n hx hb dL_law_393 rfl (lv_at hl 3 rfl) ?_
  refine lv_iload_n hx hb dL_law_394 rfl (lv_at hl 0 rfl) ?_
  refine lv_iconst (v := 1) hx hb dL_law_395 (by decide) ?_
  refine lv_iadd hx hb dL_law_396 ?_
  refine va_sld hx hb hX hbl hbA hS h1 dL_law_397 ?_
  refine lv_aload_n hx hb dL_law_398 rfl (lv_at hl 3 rfl) ?_
  refine lv_iload_n hx hb dL_law_399 rfl (lv_at hl 0 rfl) ?_
  refine lv_iconst (v := 2) hx hb dL_law_400 (by decide) ?_
  refine lv_iadd hx hb dL_law_401 ?_
  refine va_sld hx hb hX hbl hbA hS h2 dL_law_402 ?_
  refine vp_callSl (W.runV (b := qx) (As := [.int (xs (x3 + 1).toNatClampNeg), .int (xs (x3 + 2).toNatClampNeg)]) (rest := []) ⟨hx, hb, hml, hown, hts⟩ (metX0_thrice l qx (xs (x3 + 1).toNatClampNeg) (xs (x3 + 2).toNatClampNeg)) (cwV 2 hts (lw_V q130 q131 q132 q1 q133) rfl rfl rfl (by decide +kernel) ⟨Nat.le_of_ble_eq_true rfl, Nat.le_of_ble_eq_true rfl⟩) ⟨fun _ _ _ _ q => q, va_recv hK hP (ci := 0) (q0 := 0) rfl rfl, fun U hU hW => rfl⟩ rfl rfl hl.1 rfl (lv_room (Nat.le_of_ble_eq_true rfl)) dL_law_403 ⟨Nat.le_of_ble_eq_true rfl, Nat.le_of_ble_eq_true rfl⟩) (fun r0 er0 => ?_)
  have er0 : r0 = s3L (s3L (widL (xs (x3 + 1).toNatClampNeg) (xs (x3 + 2).toNatClampNeg))) := er0
  refine lv_aload_n hx hb dL_law_406 rfl (lv_at hl 1 rfl) ?_
  refine lv_aload_n hx hb dL_law_407 rfl (lv_at hl 3 rfl) ?_
  refine lv_iload_n hx hb dL_law_408 rfl (lv_at hl 0 rfl) ?_
  refine lv_iconst (v := 1) hx hb dL_law_409 (by decide) ?_
  refine lv_iadd hx hb dL_law_410 ?_
  refine va_sld hx hb hX hbl hbA hS h1 dL_law_411 ?_
  refine lv_aload_n hx hb dL_law_412 rfl (lv_at hl 3 rfl) ?_
  refine lv_iload_n hx hb dL_law_413 rfl (lv_at hl 0 rfl) ?_
  refine lv_iconst (v := 2) hx hb dL_law_414 (by decide) ?_
  refine lv_iadd hx hb dL_law_415 ?_
  refine va_sld hx hb hX hbl hbA hS h2 dL_law_416 ?_
  refine vp_callSl (W.runV (b := qm) (As := [.int (xs (x3 + 1).toNatClampNeg), .int (xs (x3 + 2).toNatClampNeg)]) (rest := [.long r0]) ⟨hx, hb, hml, hown, hts⟩ (metX1_thrice l qm (xs (x3 + 1).toNatClampNeg) (xs (x3 + 2).toNatClampNeg)) (cwV 2 hts (lw_V q212 q213 q214 q2 q215) rfl rfl rfl (by decide +kernel) ⟨Nat.le_of_ble_eq_true rfl, Nat.le_of_ble_eq_true rfl⟩) ⟨fun _ _ _ _ q => q, va_recv hK hP (ci := 1) (q0 := 2) rfl rfl, fun U hU hW => rfl⟩ rfl rfl hl.1 rfl (lv_room (Nat.le_of_ble_eq_true rfl)) dL_law_417 ⟨Nat.le_of_ble_eq_true rfl, Nat.le_of_ble_eq_true rfl⟩) (fun r1 er1 => ?_)
  have er1 : r1 = widL (xs (x3 + 1).toNatClampNeg) (xs (x3 + 2).toNatClampNeg) := er1
  refine W.lcmp hx hb dL_law_420 ?_
  refine lv_if_eq (tgt := 426) hx hb dL_law_421 (by decide) (fun c1 => K) (fun c1 => ?_)
  exact absurd (by rw [show r0 = r1 by rw [er0, er1]; exact thrice_eq (widL (xs (x3 + 1).toNatClampNeg) (xs (x3 + 2).toNatClampNeg))]; exact cmp_self _) c1
end
section
/-! THE LAW: its loop, its start, and the skeleton (STARTING TEXT: all but le6_of, law_step, law_loop, the proof of whole_start) -/
def lw_P (b : Addr) (xs : List Int32) (args : Array Value) (s : State) : Prop := args = #[.ref b] ∧ s.IntsAt b xs ∧ xs.length ≤ 384 ∧ (Jvm.Cond.and given_1 narrow_1).before args s = true
def lw_Q (_ : Array Value) (s : State) (o : Outcome) (t : State) : Prop := o = .returned (some (.int 1)) ∧ Framed s o t [] 600000 7290000
def lw_Z (below : List Frame) (a : Array Value) (s : State) : State → Prop := fun t => ∃ o, t.status = .running ∧ Ended t below o ∧ lw_Q a s o t
/-- the law's own end, with 1 on the stack, nothing written that was there before, its room as the claim has it -/
theorem lw_ret {p : Program} {l : Launch} {e : Env} {s : State} {m : MethodId} {below : List Frame} {meth : Method} {c : Code} {b : Nat} (hx : p.tables.exec = Jvm.exec) (hb : c.code = code) (hr : meth.sig.returnType = ret) (hlocks : meth.locks = false) {pc : Nat} {H : Heap} {ls : Array Slot} (hdg : decode code pc = .ok (.ireturn, 1)) : W p l e room_1 s m #[Value.ref b] below meth c H [] 600000 7290000 (lw_Z below #[Value.ref b] s) (F0 m pc ls [.int 1]) := by
  intro T hT X
  obtain ⟨fs, hret, hrun, hended, hW, hframe⟩ := X.leave (v := some (.int 1)) (hlocks := hlocks) (fun h => by rw [hr] at h; cases h)
  have hmeth' : T.vm.method? m = some meth := X.method'
  refine ⟨T.setFrames fs, ?_, .returned (some (.int 1)), hrun, hended, rfl, ⟨_, rfl⟩, hW, hframe⟩
  jvm_step X.here [X.here.top, hx, hb, hdg, hmeth', hr, ret, narrow_b1]
  (try refine ⟨rfl, ?_⟩); (try refine ⟨rfl, ?_⟩)
  first | (intro acts; rw [hret _ acts rfl rfl rfl]) | rw [hret _ _ rfl rfl rfl]
  exact Steps.refl _
/-- what holds at the law's entry: the machine, the code, the tables' words (any of lw_tbl by 'hts w (by decide +kernel)'), the script of L ints xs at the cell b, what the Statement gives of the start (any of its parts by flat_of_before) -/
def lw_At (p : Program) (s : State) (m : MethodId) (meth : Method) (c : Code) (b L : Nat) (xs : Nat → Int32) : Prop :=
  p.tables.exec = Jvm.exec ∧ c.code = code ∧ meth.sig.returnType = ret ∧ c.maxLocals = 4 ∧ s.vm.findClass R_law = some m.cls ∧ (∀ w ∈ lw_tbl, w.before #[Value.ref b] s = true) ∧ va_X b L xs s s.heap ∧ b < s.heap.size ∧ meth.locks = false ∧ (Jvm.Cond.and given_1 narrow_1).before #[Value.ref b] s = true
theorem le6_of {L i : Nat} (hL : L ≤ 384) (hi : i ≤ 384) (h : ¬ (Int32.ofNat L - 6 < nI i)) : i + 6 ≤ L := by
  rcases Nat.lt_or_ge L 6 with q | q
  · have h1 : ∀ L, L < 6 → Int32.ofNat L - 6 < 0 := by decide +kernel
    exact absurd (Int32.lt_of_lt_of_le (h1 L q) (nI_pos' (by omega))) h
  · have h1 : Int32.ofNat L - 6 = nI (L - 6) := by
      have h2 : nI (L - 6) + nI 6 = nI L := by rw [nI_add]; congr 1; omega
      show nI L - nI 6 = _
      rw [← h2, Int32.add_sub_cancel]
    rw [h1] at h
    rcases Nat.lt_or_ge (L - 6) i with z | z
    · exact absurd (nI_lt z (by omega)) h
    · omega
set_option maxHeartbeats 4000000 in
set_option maxRecDepth 100000 in
/-- one round of the law's loop -/
theorem law_step {p : Program} {l : Launch} {e : Env} {s : State} {m : MethodId} {below : List Frame} {meth : Method} {c : Code} {dC : Nat → ClassId} {dI : Nat → Nat → Nat} {b L : Nat} {xs : Nat → Int32} (hL : L ≤ 384) (C0 : lw_At p s m meth c b L xs) {qx ax qm am : Nat} {dx dm : ClassId} (hK : va_K (dC, dI) vwCl [(dx, .long), (dm, .long)] s) (i : Nat) (hi : i ≤ 384) (next : i + 6 ≤ L → ∀ (f : Nat → Int64) (H : Heap) (locs : List Loc), va_P (dC, dI) vwCl [(qx, .inr (0, [.ref ax])), (ax, .inl (dx, 2, .inr (.inl (f)))), (qm, .inr (1, [.ref am])), (am, .inl (dm, 2, .inr (.inl (f))))] H → va_D (fun q : Nat => s.heap.size ≤ q) [(qx, .inr (0, [.ref ax])), (ax, .inl (dx, 2, .inr (.inl (f)))), (qm, .inr (1, [.ref am])), (am, .inl (dm, 2, .inr (.inl (f))))] → va_S (fun q : Nat => s.heap.size ≤ q) s.heap H locs → ∀ ls : Array Slot, lv_has ls 4 [(3, .int (nI (i + 6))), (2, .ref qm), (1, .ref qx), (0, .ref b)] → W p l e room_1 s m #[Value.ref b] below meth c H locs 4 6 (lw_Z below #[Value.ref b] s) (F0 m 18 ls [])) : ∀ (f : Nat → Int64) (H : Heap) (locs : List Loc), va_P (dC, dI) vwCl [(qx, .inr (0, [.ref ax])), (ax, .inl (dx, 2, .inr (.inl (f)))), (qm, .inr (1, [.ref am])), (am, .inl (dm, 2, .inr (.inl (f))))] H → va_D (fun q : Nat => s.heap.size ≤ q) [(qx, .inr (0, [.ref ax])), (ax, .inl (dx, 2, .inr (.inl (f)))), (qm, .inr (1, [.ref am])), (am, .inl (dm, 2, .inr (.inl (f))))] → va_S (fun q : Nat => s.heap.size ≤ q) s.heap H locs → ∀ ls : Array Slot, lv_has ls 4 [(3, .int (nI (i))), (2, .ref qm), (1, .ref qx), (0, .ref b)] → W p l e room_1 s m #[Value.ref b] below meth c H locs 4 6 (lw_Z below #[Value.ref b] s) (F0 m 18 ls []) := by
  intro f H locs hP hD hS ls hl
  obtain ⟨hx, hb, hr, hml, hown, hts0, hX, hbl, hlocks, hgv⟩ := id C0
  have hb : c.code = cL_law := hb
  have hts : ∀ w ∈ lw_all, w.before #[Value.ref b] s = true := fun w h => hts0 w (lw_all_tbl h)
  have hbA : ¬ (fun q : Nat => s.heap.size ≤ q) b := Nat.not_le.mpr hbl
  refine lv_iload_n hx hb dL_law_18 rfl (lv_at hl 0 rfl) ?_
  refine lv_aload_n hx hb dL_law_19 rfl (lv_at hl 3 rfl) ?_
  refine va_slen hx hb hX hbl hbA hS dL_law_20 ?_
  refine lv_bipush (v := 6) hx hb dL_law_21 (by decide) ?_
  refine lv_isub hx hb dL_law_23 ?_
  refine lv_icmp_gt (tgt := 432) hx hb dL_law_24 (by decide) (fun c1 => ?_) (fun c1 => ?_)
  · refine lv_iconst (v := 1) hx hb dL_law_432 (by decide) ?_
    refine va_forget (fun q h => hS.2.2 q h) ?_
    refine W.widen (k := 600000) (n := 7290000) (Nat.le_of_ble_eq_true rfl) (Nat.le_of_ble_eq_true rfl) ?_
    exact lw_ret hx hb hr hlocks dL_law_433
  · have hi6 : i + 6 ≤ L := le6_of hL hi c1
    have h0 : vp_in (nI i) L := vp_in_nI (by omega) (by omega)
    have h1 : vp_in (nI i + 1) L := by rw [nI_1]; exact vp_in_nI (by omega) (by omega)
    have h2 : vp_in (nI i + 2) L := by
      have e2 : nI i + 2 = nI (i + 2) := nI_add i 2
      rw [e2]; exact vp_in_nI (by omega) (by omega)
    have tail : ∀ (f : Nat → Int64) (H : Heap) (locs : List Loc), va_P (dC, dI) vwCl [(qx, .inr (0, [.ref ax])), (ax, .inl (dx, 2, .inr (.inl (f)))), (qm, .inr (1, [.ref am])), (am, .inl (dm, 2, .inr (.inl (f))))] H → va_D (fun q : Nat => s.heap.size ≤ q) [(qx, .inr (0, [.ref ax])), (ax, .inl (dx, 2, .inr (.inl (f)))), (qm, .inr (1, [.ref am])), (am, .inl (dm, 2, .inr (.inl (f))))] → va_S (fun q : Nat => s.heap.size ≤ q) s.heap H locs → W p l e room_1 s m #[Value.ref b] below meth c H locs 4 6 (lw_Z below #[Value.ref b] s) (F0 m 426 ls []) := by
      intro f H locs hP hD hS
      refine lv_iinc (v := nI (i + 6)) (lv' := [(3, .int (nI (i + 6))), (2, .ref qm), (1, .ref qx), (0, .ref b)]) hx hb dL_law_426 hl (k := 0) rfl (nI_add i 6) (by decide) rfl (fun ls hl => ?_)
      refine lv_goto (tgt := 18) hx hb dL_law_429 (by decide) ?_
      exact next hi6 f H locs hP hD hS ls hl
    refine lv_aload_n hx hb dL_law_27 rfl (lv_at hl 3 rfl) ?_
    refine lv_iload_n hx hb dL_law_28 rfl (lv_at hl 0 rfl) ?_
    refine va_sld hx hb hX hbl hbA hS h0 dL_law_29 ?_
    refine lv_bipush (v := 15) hx hb dL_law_30 (by decide) ?_
    refine lv_iand hx hb dL_law_32 ?_
    refine lv_topi (fun y ey => ?_)
    obtain ⟨k, hk, ek⟩ := and_small (xs (nI i).toNatClampNeg) (k := 15) (by decide)
    have ey : y = nI k := ey.trans ek
    subst ey
    rcases (show k = 0 ∨ k = 1 ∨ k = 2 ∨ k = 3 ∨ k = 4 ∨ k = 5 ∨ k = 6 ∨ k = 7 ∨ k = 8 ∨ k = 9 ∨ k = 10 ∨ k = 11 ∨ k = 12 ∨ k = 13 ∨ k = 14 ∨ k = 15 by omega) with rfl | rfl | rfl | rfl | rfl | rfl | rfl | rfl | rfl | rfl | rfl | rfl | rfl | rfl | rfl | rfl
    · exact lv_tableIn (off := 63) (tgt := 96) hx hb dL_law_33 (by decide) (by decide) (by decide) (by decide) (case_byteOut hx hb hml hown hts hX hbl h1 h2 hK hP hD hS hl (tail f H locs hP hD hS))
    · exact lv_tableIn (off := 86) (tgt := 119) hx hb dL_law_33 (by decide) (by decide) (by decide) (by decide) (case_halfOut hx hb hml hown hts hX hbl h1 h2 hK hP hD hS hl (tail f H locs hP hD hS))
    · exact lv_tableIn (off := 109) (tgt := 142) hx hb dL_law_33 (by decide) (by decide) (by decide) (by decide) (case_wordOut hx hb hml hown hts hX hbl h1 h2 hK hP hD hS hl (tail f H locs hP hD hS))
    · exact lv_tableIn (off := 133) (tgt := 166) hx hb dL_law_33 (by decide) (by decide) (by decide) (by decide) (case_longOut hx hb hml hown hts hX hbl h1 h2 hK hP hD hS hl (fun H locs hP hD hS => tail _ H locs hP hD hS))
    · exact lv_tableIn (off := 164) (tgt := 197) hx hb dL_law_33 (by decide) (by decide) (by decide) (by decide) (case_pair hx hb hml hown hts hX hbl h1 h2 hK hP hD hS hl (tail f H locs hP hD hS))
    · exact lv_tableIn (off := 188) (tgt := 221) hx hb dL_law_33 (by decide) (by decide) (by decide) (by decide) (case_shuffle hx hb hml hown hts hX hbl h1 h2 hK hP hD hS hl (tail f H locs hP hD hS))
    · exact lv_tableIn (off := 211) (tgt := 244) hx hb dL_law_33 (by decide) (by decide) (by decide) (by decide) (case_unshuffle hx hb hml hown hts hX hbl h1 h2 hK hP hD hS hl (tail f H locs hP hD hS))
    · exact lv_tableIn (off := 234) (tgt := 267) hx hb dL_law_33 (by decide) (by decide) (by decide) (by decide) (case_longShuffle hx hb hml hown hts hX hbl h1 h2 hK hP hD hS hl (tail f H locs hP hD hS))
    · exact lv_tableIn (off := 268) (tgt := 301) hx hb dL_law_33 (by decide) (by decide) (by decide) (by decide) (case_longUnshuffle hx hb hml hown hts hX hbl h1 h2 hK hP hD hS hl (tail f H locs hP hD hS))
    · exact lv_tableIn (off := 302) (tgt := 335) hx hb dL_law_33 (by decide) (by decide) (by decide) (by decide) (case_there hx hb hml hown hts hX hbl h1 h2 hK hP hD hS hl (tail f H locs hP hD hS))
    · exact lv_tableIn (off := 325) (tgt := 358) hx hb dL_law_33 (by decide) (by decide) (by decide) (by decide) (case_longThere hx hb hml hown hts hX hbl h1 h2 hK hP hD hS hl (tail f H locs hP hD hS))
    · exact lv_tableIn (off := 359) (tgt := 392) hx hb dL_law_33 (by decide) (by decide) (by decide) (by decide) (case_thrice hx hb hml hown hts hX hbl h1 h2 hK hP hD hS hl (tail f H locs hP hD hS))
    · exact lv_tableOut (tgt := 426) hx hb dL_law_33 (by decide) (by decide) (tail f H locs hP hD hS)
    · exact lv_tableOut (tgt := 426) hx hb dL_law_33 (by decide) (by decide) (tail f H locs hP hD hS)
    · exact lv_tableOut (tgt := 426) hx hb dL_law_33 (by decide) (by decide) (tail f H locs hP hD hS)
    · exact lv_tableOut (tgt := 426) hx hb dL_law_33 (by decide) (by decide) (tail f H locs hP hD hS)
theorem law_loop {p : Program} {l : Launch} {e : Env} {s : State} {m : MethodId} {below : List Frame} {meth : Method} {c : Code} {dC : Nat → ClassId} {dI : Nat → Nat → Nat} {b L : Nat} {xs : Nat → Int32} (hL : L ≤ 384) (C0 : lw_At p s m meth c b L xs) {qx ax qm am : Nat} {dx dm : ClassId} (hK : va_K (dC, dI) vwCl [(dx, .long), (dm, .long)] s) : ∀ (n i : Nat), L ≤ i + n → i ≤ 384 → ∀ (f : Nat → Int64) (H : Heap) (locs : List Loc), va_P (dC, dI) vwCl [(qx, .inr (0, [.ref ax])), (ax, .inl (dx, 2, .inr (.inl (f)))), (qm, .inr (1, [.ref am])), (am, .inl (dm, 2, .inr (.inl (f))))] H → va_D (fun q : Nat => s.heap.size ≤ q) [(qx, .inr (0, [.ref ax])), (ax, .inl (dx, 2, .inr (.inl (f)))), (qm, .inr (1, [.ref am])), (am, .inl (dm, 2, .inr (.inl (f))))] → va_S (fun q : Nat => s.heap.size ≤ q) s.heap H locs → ∀ ls : Array Slot, lv_has ls 4 [(3, .int (nI (i))), (2, .ref qm), (1, .ref qx), (0, .ref b)] → W p l e room_1 s m #[Value.ref b] below meth c H locs 4 6 (lw_Z below #[Value.ref b] s) (F0 m 18 ls []) := by
  intro n
  induction n with
  | zero => exact fun i h1 h2 => law_step hL C0 hK i h2 (fun h => absurd h (by omega))
  | succ n ih => exact fun i h1 h2 => law_step hL C0 hK i h2 (fun h => ih (i + 6) (by omega) (by omega))
set_option maxHeartbeats 4000000 in
set_option maxRecDepth 100000 in
theorem whole_start {p : Program} {e : Env} {s : State} {m : MethodId} {below : List Frame} {meth : Method} {c : Code} (l : Launch) (hflags : l.flags = flags0) {b L : Nat} {xs : Nat → Int32} (hL : L ≤ 384) (C0 : lw_At p s m meth c b L xs) : W p l e room_1 s m #[Value.ref b] below meth c s.heap [] 0 0 (lw_Z below #[Value.ref b] s) (entryFrame m ([Value.ref b] : List Value).toArray 4) := by
  obtain ⟨hx, hb, hr, hml, hown, hts0, hX, hbl, hlocks, hgv⟩ := id C0
  have hb : c.code = cL_law := hb
  have hts : ∀ w ∈ lw_all, w.before #[Value.ref b] s = true := fun w h => hts0 w (lw_all_tbl h)
  have hA : ∀ q : Nat, s.heap.size ≤ q → (fun q : Nat => s.heap.size ≤ q) q := fun _ h => h
  have hbA : ¬ (fun q : Nat => s.heap.size ≤ q) b := Nat.not_le.mpr hbl
  obtain ⟨c0, iS0, hKn0⟩ := u_known (C := RX0) (T := TX0) (N := 1) (n := 1) hts in_X0 (hts _ q6)
  obtain ⟨c1, iS1, hKn1⟩ := u_known (C := RX1) (T := TX1) (N := 1) (n := 1) hts in_X1 (hts _ q145)
  obtain ⟨dC, dI, hKc⟩ : ∃ (dC : Nat → ClassId) (dI : Nat → Nat → Nat), ∀ (k : Nat) (q : vw_C), vwCl[k]? = some q → u_Kn s q.1 q.2.1 q.2.2 (dC k) (dI k) := by
    refine ⟨fun k => if k = 0 then c0 else c1, fun k => if k = 0 then iS0 else iS1, ?_⟩
    intro k q hq
    match k, hq with
    | 0, hq => cases hq; exact hKn0
    | 1, hq => cases hq; exact hKn1
    | k + 2, hq => simp [vwCl] at hq
  have hS : va_S (fun q : Nat => s.heap.size ≤ q) s.heap s.heap [] := va_S.rf
  have hK : va_K (dC, dI) vwCl [] s := ⟨hKc, fun k q h => by simp at h⟩
  have hP : va_P (dC, dI) vwCl [] s.heap := fun k q h => by simp at h
  have hD : va_D (fun q : Nat => s.heap.size ≤ q) [] := ⟨fun i j p q h => by simp at h, fun k q h => by simp at h⟩
  have hl := lv_entry ([.ref b]) (n := 4) (Nat.le_of_ble_eq_true rfl)
  rw [lg_entry_eq]
  generalize (lg_sl ([.ref b]) ++ List.replicate (4 - (lg_sl ([.ref b])).length) Slot.unset).toArray = ls at hl ⊢
  have hl : lv_has ls 4 [(0, .ref b)] := hl
  refine va_new (ci := 0) (fs := [.null]) (C := RX0) (T := TX0) (N := 1) hx hb hts in_X0 tyX0 tyX0_ok hown (hts _ q5) (hts _ q6) (hts _ q1) hK hP hD hS hA rfl (fun j hj => by rcases (show j = 0 by omega) with rfl <;> rfl) (Nat.le_of_ble_eq_true rfl) (Nat.le_of_ble_eq_true rfl) dL_law_0 (fun qx H hP hD hS => ?_)
  have hP : va_P (dC, dI) vwCl [(qx, .inr (0, [.null]))] H := hP
  have hD : va_D (fun q : Nat => s.heap.size ≤ q) [(qx, .inr (0, [.null]))] := hD
  refine W.widen (k := 1) (n := 1) (Nat.le_of_ble_eq_true rfl) (Nat.le_of_ble_eq_true rfl) ?_
  refine lv_dup hx hb dL_law_3 rfl ?_
  have hPc := hP.sub (ws' := [(qx, .inr (0, [.null]))]) [0] rfl
  have hDc := hD.sub (ws' := [(qx, .inr (0, [.null]))]) [0] (by decide) rfl
  have hKc := hK.sub (tys' := []) [] rfl
  have hFc := va_free (wc := [(qx, .inr (0, [.null]))]) hD hS hA [0] rfl
  refine va_callv (va_runI (As := []) (rest := [.ref qx]) ⟨hx, hb, hml, hown, hts⟩ (metX0_init l dC dI qx H.size) (cwI 0 hts (lw_meth q9) rfl rfl rfl (hts _ q1) (hts _ q7) (hts _ q8) rfl (by decide +kernel) ⟨Nat.le_of_ble_eq_true rfl, Nat.le_of_ble_eq_true rfl⟩) ⟨fun a U g mk q => by obtain ⟨q0, q1, qP, qK, qD⟩ := q; exact ⟨q0, q1, qP, va_K.moved (u := U) (U := U.calling g mk a) (Vm.Alike.refl U.vm) qK, qD⟩, fun U hU hW => ⟨rfl, by rw [hU], by rw [hU]; exact hPc, va_K.moved hW.alike hKc, hDc.weaken (fun _ _ _ _ => trivial)⟩⟩ rfl rfl hl.1 rfl (lv_room (Nat.le_of_ble_eq_true rfl)) dL_law_4 ⟨Nat.le_of_ble_eq_true rfl, Nat.le_of_ble_eq_true rfl⟩) hS (fun q _ h => hFc q h) hFc (fun u t H1 locs ht hvm hw hB hz1 hk1 hS => ?_)
  obtain ⟨ax, dx, hP1, hK1, hD1⟩ := hB
  rw [ht] at hP1
  have hK1 := va_K.moved hvm.symm hK1
  obtain ⟨hP, hD⟩ := va_join (wr := []) (w1 := [(qx, .inr (0, [.ref ax])), (ax, .inl (dx, 2, .inr (.inl (fun _ => 0))))]) hP hD [0] [] rfl rfl (by decide) (by decide) hk1 hFc hP1 hD1
  have hK := (hK.sub (tys' := []) [] rfl).app hK1
  generalize H1 = H at hP hS ⊢
  refine W.widen (k := 2) (n := 3) (Nat.le_of_ble_eq_true rfl) (Nat.le_of_ble_eq_true rfl) ?_
  have hP : va_P (dC, dI) vwCl [(qx, .inr (0, [.ref ax])), (ax, .inl (dx, 2, .inr (.inl (fun _ => 0))))] H := hP
  have hD : va_D (fun q : Nat => s.heap.size ≤ q) [(qx, .inr (0, [.ref ax])), (ax, .inl (dx, 2, .inr (.inl (fun _ => 0))))] := hD
  have hK : va_K (dC, dI) vwCl [(dx, .long)] s := hK
  refine lv_astore_n (lv' := [(1, .ref qx), (0, .ref b)]) hx hb dL_law_7 rfl hl (by decide) rfl (fun ls hl => ?_)
  refine va_new (ci := 1) (fs := [.null]) (C := RX1) (T := TX1) (N := 1) hx hb hts in_X1 tyX1 tyX1_ok hown (hts _ q144) (hts _ q145) (hts _ q2) hK hP hD hS hA rfl (fun j hj => by rcases (show j = 0 by omega) with rfl <;> rfl) (Nat.le_of_ble_eq_true rfl) (Nat.le_of_ble_eq_true rfl) dL_law_8 (fun qm H hP hD hS => ?_)
  have hP : va_P (dC, dI) vwCl [(qx, .inr (0, [.ref ax])), (ax, .inl (dx, 2, .inr (.inl (fun _ => 0)))), (qm, .inr (1, [.null]))] H := hP
  have hD : va_D (fun q : Nat => s.heap.size ≤ q) [(qx, .inr (0, [.ref ax])), (ax, .inl (dx, 2, .inr (.inl (fun _ => 0)))), (qm, .inr (1, [.null]))] := hD
  refine W.widen (k := 3) (n := 4) (Nat.le_of_ble_eq_true rfl) (Nat.le_of_ble_eq_true rfl) ?_
  refine lv_dup hx hb dL_law_11 rfl ?_
  have hPc := hP.sub (ws' := [(qm, .inr (1, [.null]))]) [2] rfl
  have hDc := hD.sub (ws' := [(qm, .inr (1, [.null]))]) [2] (by decide) rfl
  have hKc := hK.sub (tys' := []) [] rfl
  have hFc := va_free (wc := [(qm, .inr (1, [.null]))]) hD hS hA [2] rfl
  refine va_callv (va_runI (As := []) (rest := [.ref qm]) ⟨hx, hb, hml, hown, hts⟩ (metX1_init l dC dI qm H.size) (cwI 0 hts (lw_meth q148) rfl rfl rfl (hts _ q2) (hts _ q146) (hts _ q147) rfl (by decide +kernel) ⟨Nat.le_of_ble_eq_true rfl, Nat.le_of_ble_eq_true rfl⟩) ⟨fun a U g mk q => by obtain ⟨q0, q1, qP, qK, qD⟩ := q; exact ⟨q0, q1, qP, va_K.moved (u := U) (U := U.calling g mk a) (Vm.Alike.refl U.vm) qK, qD⟩, fun U hU hW => ⟨rfl, by rw [hU], by rw [hU]; exact hPc, va_K.moved hW.alike hKc, hDc.weaken (fun _ _ _ _ => trivial)⟩⟩ rfl rfl hl.1 rfl (lv_room (Nat.le_of_ble_eq_true rfl)) dL_law_12 ⟨Nat.le_of_ble_eq_true rfl, Nat.le_of_ble_eq_true rfl⟩) hS (fun q _ h => hFc q h) hFc (fun u t H1 locs ht hvm hw hB hz1 hk1 hS => ?_)
  obtain ⟨am, dm, hP1, hK1, hD1⟩ := hB
  rw [ht] at hP1
  have hK1 := va_K.moved hvm.symm hK1
  obtain ⟨hP, hD⟩ := va_join (wr := [(qx, .inr (0, [.ref ax])), (ax, .inl (dx, 2, .inr (.inl (fun _ => 0))))]) (w1 := [(qm, .inr (1, [.ref am])), (am, .inl (dm, 2, .inr (.inl (fun _ => 0))))]) hP hD [2] [0, 1] rfl rfl (by decide) (by decide) hk1 hFc hP1 hD1
  have hK := (hK.sub (tys' := [(dx, .long)]) [0] rfl).app hK1
  generalize H1 = H at hP hS ⊢
  refine W.widen (k := 4) (n := 6) (Nat.le_of_ble_eq_true rfl) (Nat.le_of_ble_eq_true rfl) ?_
  have hP : va_P (dC, dI) vwCl [(qx, .inr (0, [.ref ax])), (ax, .inl (dx, 2, .inr (.inl (fun _ => 0)))), (qm, .inr (1, [.ref am])), (am, .inl (dm, 2, .inr (.inl (fun _ => 0))))] H := hP
  have hD : va_D (fun q : Nat => s.heap.size ≤ q) [(qx, .inr (0, [.ref ax])), (ax, .inl (dx, 2, .inr (.inl (fun _ => 0)))), (qm, .inr (1, [.ref am])), (am, .inl (dm, 2, .inr (.inl (fun _ => 0))))] := hD
  have hK : va_K (dC, dI) vwCl [(dx, .long), (dm, .long)] s := hK
  refine lv_astore_n (lv' := [(2, .ref qm), (1, .ref qx), (0, .ref b)]) hx hb dL_law_15 rfl hl (by decide) rfl (fun ls hl => ?_)
  refine lv_iconst (v := 0) hx hb dL_law_16 (by decide) ?_
  refine lv_istore_n (lv' := [(3, .int 0), (2, .ref qm), (1, .ref qx), (0, .ref b)]) hx hb dL_law_17 rfl hl (by decide) rfl (fun ls hl => ?_)
  exact law_loop hL C0 hK L 0 (by omega) (Nat.zero_le _) _ _ _ hP hD hS ls hl
-- ===== YOUR PART ENDS =====
set_option maxHeartbeats 4000000 in
theorem lw_walk (l : Launch) (hflags : l.flags = flags0) (b : Addr) (xs : List Int32) : MetFree l x (headSpec (Jvm.Cond.code x code maxLocals ret :: tables_1) room_1) (lw_P b xs) (fun _ _ _ _ _ => True) lw_Q := by
  refine MetFree.of_bodyS (code := code) (maxLocals := maxLocals) (ret := ret) (by decide) ?_ ?_
  · intro args s m h hn
    obtain ⟨meth, c, h1, h2, h3, h4, h5, h6, -, -⟩ := Cond.code_spec hn (atoms_spec (ws := Jvm.Cond.code x code maxLocals ret :: tables_1) h _ List.mem_cons_self)
    exact ⟨meth, c, h1, h2, h3, h4, h5, h6⟩
  · intro p e s m args below meth c s₁ B hml0 hP _
    obtain ⟨rfl, hx, hbd, hgv⟩ := hP
    obtain ⟨scr, harrAt, hlist, hof, hsmall⟩ := hx
    obtain ⟨hcb, hkn, -, -⟩ := State.arrayAt?_spec harrAt
    have hown : s.vm.findClass R_law = some m.cls := findClass_of_methodNamed B.named
    have hts0 : ∀ c ∈ (Jvm.Cond.code x code maxLocals ret :: tables_1), c.before #[Value.ref b] s = true := atoms_spec (ws := Jvm.Cond.code x code maxLocals ret :: tables_1) B.pre
    have hts : ∀ w ∈ lw_tbl, w.before #[Value.ref b] s = true := k2_hts_sels lw_privs (fun w hw => hts0 w (List.mem_cons_of_mem _ hw)) lw_privs_ok
    have hml : c.maxLocals = 4 := B.maxLocals_eq (hts0 _ List.mem_cons_self)
    have X₀ : Stand p l e room_1 s m #[Value.ref b] below meth c s₁ [] 0 0 := Stand.of_body B
    have hh0 : s₁.heap = s.heap := by rw [B.state]; rfl
    have hsz : scr.slots.size = xs.length := by rw [← Array.length_toList, hlist, List.length_map]
    have hval : ∀ j : Nat, j < xs.length → scr.slots[j]? = some (.int (xs.getD j 0)) := fun j hj => by
      rw [← Array.getElem?_toList, hlist]
      simp [hj]
    have hbl : b < s.heap.size := (Array.getElem?_eq_some_iff.mp hcb).1
    have hX : va_X b xs.length (fun j => xs.getD j 0) s s.heap := ⟨scr, hcb, hof, hkn, hsz, hval⟩
    have K : W p l e room_1 s m #[Value.ref b] below meth c s₁.heap [] 0 0 (lw_Z below #[Value.ref b] s) (entryFrame m ([Value.ref b] : List Value).toArray 4) := by
      rw [hh0]
      exact whole_start l hflags hbd ⟨B.exec, B.bytes, B.returns, hml, hown, hts, hX, hbl, B.notSynchronized, hgv⟩
    obtain ⟨t, a1, o, b1, b2, b3⟩ := K s₁ rfl X₀
    exact ⟨t, o, a1, b1, b2, b3⟩
theorem lw_pre_spec {args : Array Value} {s : State} (h : (Jvm.Cond.and given_1 narrow_1).before args s = true) (hr : rest_1_c.before args s = true) : ∃ (b : Addr) (xs : List Int32), lw_P b xs args s := by
  have hs := flat_of_before _ h
  have hq := flat_of_before _ hr
  have hc : (Cond.count 1).before args s = true := hs _ (by decide +kernel)
  have harr : (Cond.arrayOf (.arg 0) .int).before args s = true := hs _ (by decide +kernel)
  have hle : (Cond.le (.length (.arg 0)) (.int 384)).before args s = true := hs _ (by decide +kernel)
  have hlen : (Cond.isInt (.length (.arg 0))).before args s = true := hq _ (by decide +kernel)
  have hall : (Cond.all (.arg 0) (.isInt (.elem (.arg 0) (.index 0)))).before args s = true := hq _ (by decide +kernel)
  obtain ⟨b, xs, hb, hx⟩ := State.ints_of_pre rfl harr hlen hall
  have hsm : xs.length < 2 ^ 31 := hx.choose_spec.2.2.2
  have hev : (Term.length (.arg 0)).eval args s none [] s = some (.int xs.length.toInt32) := hx.length_eval hb
  have hv := Cond.le_ints hev (show (Term.int 384).eval args s none [] s = some (.int 384) from rfl)
  have hd : xs.length.toInt32 ≤ 384 := by
    simpa [Cond.before, Cond.holds, hv] using hle
  have hN : xs.length ≤ 384 := (Int32.ofNat_le_ofNat hsm (by decide)).mp (show Int32.ofNat xs.length ≤ Int32.ofNat 384 from hd)
  exact ⟨b, xs, Cond.one_arg hc (show args[0]? = some (.ref b) from hb), hx, hN, h⟩
theorem lw_comes (l : Launch) (hflags : l.flags = flags0) : Comes l x (Jvm.Cond.code x code maxLocals ret :: tables_1) room_1 (fun tb e args s => Calls_1 tb e args s ∧ rest_1 tb e args s ∧ Pre_1 tb e args s)
    (fun _ _ args s o t => lw_Q args s o t) := by
  intro p e ha hc hk s m args below hf hfit hheap happ hpre
  obtain ⟨b, xs, hP⟩ := lw_pre_spec hpre.2.2 hpre.2.1
  obtain ⟨k, o, h1, h2, h3, hQ⟩ := lw_walk l hflags b xs p e ha hc hk s m args below hf ((Spec.applies_iff_loose hf).mp happ).1 hP trivial
  exact ⟨k, o, h1, h2, h3, hQ⟩
theorem lw_frame {s t : State} {o : Outcome} {args : Array Value} (h : Framed s o t [] 600000 7290000) :
    Framed s o t (fieldLocs frame_1_writes args s ++ arrayLocs frame_1_arrays args s ++ staticLocs frame_1_statics s) 600000 7290000 := h
theorem lw_limb (L : Cond) (hL : ∀ (args : Array Value) (s t : State), L.after args s (.returned (some (.int 1))) t = true) :
    ArmFor flags0 classFile x code maxLocals ret World_1 tables_1 room_1 Calls_1 rest_1 Pre_1
      (fun tb e a s o t => postC L tb e a s o t ∧ Framed s o t (fieldLocs frame_1_writes a s ++ arrayLocs frame_1_arrays a s ++ staticLocs frame_1_statics s) 600000 7290000) := by
  intro l hflags _ _ p e ha hc hk s m args below hf hfit hheap happ hpre
  obtain ⟨k, o, h1, h2, h3, rfl, hF⟩ := lw_comes l hflags p e ha hc hk s m args below hf hfit hheap happ hpre
  exact ⟨k, _, h1, h2, h3, hL args s _, lw_frame hF⟩
theorem i_vc : Claimed_1_1 ∧ Claimed_1_2 := ⟨lw_limb limb_1_1 (fun args s t => by simp [limb_1_1, Cond.after, Cond.holds, Cond.value]), lw_limb limb_1_2 (fun args s t => Cond.after_iff.mpr (by
  first | (rw [show limb_1_2 = Cond.eq .result (.int 1) from rfl, Cond.eq_ints (x := 1) (y := 1) rfl rfl]; simp; done) | (simp [limb_1_2, Cond.value, Term.eval]; done)))⟩
end
