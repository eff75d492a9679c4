section
-- ===== PART A: goes FIRST, ahead of the names: the tables' words, and 'selects' of the private methods out of them =====
/-- a private method of a class that the tables say can be made, by its rows of tables_1 -/
def lw_okq (q : MethodName × Nat) : Prop := (q.1.cls ≠ "java/lang/invoke/MethodHandle" ∧ q.1.cls ≠ "java/lang/invoke/VarHandle") ∧ Cond.instantiable q.1.cls q.2 ∈ tables_1 ∧ Cond.privateMethod q.1 ∈ tables_1 ∧ Cond.instanceMethod q.1 ∈ tables_1
def lw_privs : List (MethodName × Nat) := []
def lw_tbl : List Cond := k2_sels lw_privs ++ tables_1
theorem lw_privs_ok : ∀ q ∈ lw_privs, lw_okq q := fun _ h => absurd h List.not_mem_nil
-- ===== ONE list of words for every method: the tables' words that hold all through a run =====
def lw_all : List Cond := lw_tbl.filter goodWord
/-- a word of the tables by its place: claim/WORDS.tsv -/
theorem lw_w {w : Cond} (i : Nat) (h : lw_tbl[i]? = some w) (g : goodWord w = true) : w ∈ lw_all := List.mem_filter.mpr ⟨List.mem_of_getElem? h, g⟩
theorem lw_all_tbl {w : Cond} (h : w ∈ lw_all) : w ∈ lw_tbl := (List.mem_filter.mp h).1
theorem lw_self : GoodIn lw_all lw_all := fun w h => ⟨h, good_of_word (List.mem_filter.mp h).2⟩
/-- a class's field words, by their places -/
theorem lw_in (ws : List Cond) (ps : List Nat) (hp : ws = ps.filterMap (fun i => lw_tbl[i]?)) (hg : ws.all goodWord = true) : ∀ w ∈ ws, w ∈ lw_all := by
  intro w h
  have h1 := List.all_eq_true.mp hg w h
  rw [hp] at h
  obtain ⟨i, -, hi⟩ := List.mem_filterMap.mp h
  exact lw_w i hi h1
/-- the words of a contract for the method y with code b, L locals, answer r -/
abbrev ws_ (y : MethodName) (b : ByteArray) (L : Nat) (r : Option FieldType) : List Cond := Cond.code y b L r :: lw_all
theorem lw_meth {y : MethodName} {b : ByteArray} {L : Nat} {r : Option FieldType} (h : Cond.code y b L r ∈ lw_all) : GoodIn lw_all (ws_ y b L r) := by
  intro w hw
  rcases List.mem_cons.mp hw with e | e
  · rw [e]
    exact lw_self _ h
  · exact lw_self _ e
theorem lw_app {a c : List Cond} (ha : ∀ w ∈ a, w ∈ lw_all) (hc : GoodIn lw_all c) : GoodIn lw_all (a ++ c) := by
  intro w hw
  rcases List.mem_append.mp hw with e | e
  · exact lw_self w (ha w e)
  · exact hc w e
/-- what a call through an object asks: cwV n hts (lw_V ..) -/
theorem lw_V {own : String} {idx : Nat} {C : String} {y : MethodName} {b : ByteArray} {L : Nat} {r : Option FieldType} (h1 : Cond.methodLink own idx y ∈ lw_all) (h2 : Cond.instanceMethod y ∈ lw_all) (h3 : Cond.selects C y y ∈ lw_all) (h4 : Cond.initialized C ∈ lw_all) (h5 : Cond.code y b L r ∈ lw_all) : GoodIn lw_all (wsV own idx C y (ws_ y b L r)) := by
  refine lw_app ?_ (lw_meth h5)
  intro w hw
  simp only [List.mem_cons, List.not_mem_nil, or_false] at hw
  rcases hw with e | e | e | e
  · rw [e]; exact h1
  · rw [e]; exact h2
  · rw [e]; exact h3
  · rw [e]; exact h4
/-- what a static call asks: va_cwS n hts (lw_S ..) -/
theorem lw_S {own : String} {idx : Nat} {y : MethodName} {b : ByteArray} {L : Nat} {r : Option FieldType} (h1 : Cond.methodLink own idx y ∈ lw_all) (h2 : Cond.static y ∈ lw_all) (h3 : Cond.initialized y.cls ∈ lw_all) (h4 : Cond.code y b L r ∈ lw_all) : GoodIn lw_all (va_wsS own idx y (ws_ y b L r)) := by
  refine lw_app ?_ (lw_meth h4)
  intro w hw
  simp only [List.mem_cons, List.not_mem_nil, or_false] at hw
  rcases hw with e | e | e
  · rw [e]; exact h1
  · rw [e]; exact h2
  · rw [e]; exact h3
/-- the words of a contract for a method WITH HANDLERS (hh: its table) -/
abbrev wsW_ (y : MethodName) (b : ByteArray) (L : Nat) (r : Option FieldType) (hh : List (Nat × Nat × Nat × Nat)) : List Cond := Cond.codeWith y b L r hh :: lw_all
theorem lw_methW {y : MethodName} {b : ByteArray} {L : Nat} {r : Option FieldType} {hh : List (Nat × Nat × Nat × Nat)} (h : Cond.codeWith y b L r hh ∈ lw_all) : GoodIn lw_all (wsW_ y b L r hh) := by
  intro w hw
  rcases List.mem_cons.mp hw with e | e
  · rw [e]
    exact lw_self _ h
  · exact lw_self _ e
/-- any list of words by their places (lw_in), good -/
theorem lw_good {ws : List Cond} (h : ∀ w ∈ ws, w ∈ lw_all) : GoodIn lw_all ws := fun w hw => lw_self w (h w hw)
/-- what a call of a method with handlers asks: vx_cwVW n hts (lw_VW ..), vx_cwSW n hts (lw_SW ..) -/
theorem lw_VW {own : String} {idx : Nat} {C : String} {y : MethodName} {b : ByteArray} {L : Nat} {r : Option FieldType} {hh : List (Nat × Nat × Nat × Nat)} (h1 : Cond.methodLink own idx y ∈ lw_all) (h2 : Cond.instanceMethod y ∈ lw_all) (h3 : Cond.selects C y y ∈ lw_all) (h4 : Cond.initialized C ∈ lw_all) (h5 : Cond.codeWith y b L r hh ∈ lw_all) : GoodIn lw_all (wsV own idx C y (wsW_ y b L r hh)) := by
  refine lw_app ?_ (lw_methW h5)
  intro w hw
  simp only [List.mem_cons, List.not_mem_nil, or_false] at hw
  rcases hw with e | e | e | e
  · rw [e]; exact h1
  · rw [e]; exact h2
  · rw [e]; exact h3
  · rw [e]; exact h4
theorem lw_SW {own : String} {idx : Nat} {y : MethodName} {b : ByteArray} {L : Nat} {r : Option FieldType} {hh : List (Nat × Nat × Nat × Nat)} (h1 : Cond.methodLink own idx y ∈ lw_all) (h2 : Cond.static y ∈ lw_all) (h3 : Cond.initialized y.cls ∈ lw_all) (h4 : Cond.codeWith y b L r hh ∈ lw_all) : GoodIn lw_all (va_wsS own idx y (wsW_ y b L r hh)) := by
  refine lw_app ?_ (lw_methW h4)
  intro w hw
  simp only [List.mem_cons, List.not_mem_nil, or_false] at hw
  rcases hw with e | e | e
  · rw [e]; exact h1
  · rw [e]; exact h2
  · rw [e]; exact h3
/-- a word by its place in its run of the tables -/
theorem lw_at {r : List Cond} (hr : ∀ w ∈ r, w ∈ lw_tbl) {w : Cond} (i : Nat) (h : r[i]? = some w) : w ∈ lw_tbl := hr w (List.mem_of_getElem? h)
theorem lw_g {w : Cond} (h : w ∈ lw_tbl) (g : goodWord w = true) : w ∈ lw_all := List.mem_filter.mpr ⟨h, g⟩
theorem lw_ms : ∀ w ∈ k2_sels lw_privs, w ∈ lw_tbl := fun w h => show w ∈ k2_sels lw_privs ++ tables_1 from List.mem_append_left _ h
theorem lw_m0 : ∀ w ∈ tables_1, w ∈ lw_tbl := fun w h => show w ∈ k2_sels lw_privs ++ tables_1 from List.mem_append_right (k2_sels lw_privs) h
-- ===== end of PART A; then your names; then what follows =====
end
section
/-! DECODE ROWS BY BYTES: one lemma an opcode; a method's code is cut into short pieces once, and a row reads its own piece alone. -/
set_option maxRecDepth 100000
/-- the code has just these bytes from pc on -/
def DkAt (code : ByteArray) (pc : Nat) (bs : List UInt8) : Prop := ∀ (j : Nat) (b : UInt8), bs[j]? = some b → code.data.toList[pc + j]? = some b
/-- the piece W has the bytes bs from its place j on -/
def dkIn (W : List UInt8) (j : Nat) (bs : List UInt8) : Bool := decide ((W.drop j).take bs.length = bs)
theorem dk_seg {l W T : List UInt8} {o o2 : Nat} (h : l.drop o = W ++ T) (n : Nat) (hn : W.length = n) (ho : o + n = o2) : l.drop o2 = T := by
  subst ho
  rw [← List.drop_drop, h, List.drop_left' hn]
theorem dk_at {code : ByteArray} {W T bs : List UInt8} {o pc : Nat} (h : code.data.toList.drop o = W ++ T) (j : Nat) (hp : o + j = pc) (hw : dkIn W j bs = true) : DkAt code pc bs := by
  subst hp
  intro i b e
  have h1 := of_decide_eq_true hw
  have h2 : i < bs.length := (List.getElem?_eq_some_iff.mp e).1
  have h3 : W[j + i]? = some b := by
    rw [← h1, List.getElem?_take, if_pos h2, List.getElem?_drop] at e
    exact e
  have h4 : j + i < W.length := (List.getElem?_eq_some_iff.mp h3).1
  have h5 : (code.data.toList.drop o)[j + i]? = some b := by
    rw [h, List.getElem?_append_left h4]
    exact h3
  rw [List.getElem?_drop, ← Nat.add_assoc] at h5
  exact h5
theorem dk_u1 {A : ByteArray} {p : Nat} {b : UInt8} (h : A.data.toList[p]? = some b) : (Reader.u1 : Reader DecodeError Nat) A p = .ok (b.toNat, p + 1) := by
  obtain ⟨h1, h2⟩ := List.getElem?_eq_some_iff.mp h
  have h3 : p < A.size := by simpa using h1
  have h4 : A[p]'h3 = b := h2
  have e : (Reader.u1 : Reader DecodeError Nat) A p = (if h : p < A.size then .ok (A[p].toNat, p + 1) else .error (HasTruncated.truncated p)) := by
    show (do if h : p < A.size then do set (p + 1); Pure.pure A[p].toNat else MonadExcept.throw (HasTruncated.truncated p) : Reader DecodeError Nat) A p = _
    by_cases hi : p < A.size
    · rw [dif_pos hi, dif_pos hi]; rfl
    · rw [dif_neg hi, dif_neg hi]; rfl
  rw [e, dif_pos h3, h4]
theorem dk_bind {α β : Type} {r : Reader DecodeError α} {f : α → Reader DecodeError β} {A : ByteArray} {p s : Nat} {a : α} (h : r A p = .ok (a, s)) : (r >>= f) A p = f a A s := by
  show (do let (a, s) ← r A p; f a A s : Except DecodeError (β × Nat)) = _
  rw [h]
  rfl
theorem dk_map {α β : Type} {r : Reader DecodeError α} {g : α → β} {A : ByteArray} {p s : Nat} {a : α} (h : r A p = .ok (a, s)) : (g <$> r) A p = .ok (g a, s) := by
  show (do let (a, s) ← r A p; .ok (g a, s) : Except DecodeError (β × Nat)) = _
  rw [h]
  rfl
theorem dk_u2 {A : ByteArray} {p : Nat} {a b : UInt8} (h : A.data.toList[p]? = some a) (h2 : A.data.toList[p + 1]? = some b) : (Reader.u2 : Reader DecodeError Nat) A p = .ok (a.toNat * 256 + b.toNat, p + 2) := by
  show (Reader.u1 >>= fun hi => Reader.u1 >>= fun lo => Pure.pure (hi * 256 + lo) : Reader DecodeError Nat) A p = _
  rw [dk_bind (dk_u1 h), dk_bind (dk_u1 h2)]
  rfl
theorem dk_of {code : ByteArray} {pc n : Nat} {i : Instr} (h : Decoder.instr pc code pc = .ok (i, pc + n)) : decode code pc = .ok (i, n) := by
  have e : decode code pc = (match Decoder.instr pc code pc with | .error x => .error x | .ok (j, s) => .ok (j, s - pc)) := by
    show (do let (j, s) ← Decoder.instr pc code pc; Pure.pure (j, s - pc) : Except DecodeError (Instr × Nat)) = _
    cases Decoder.instr pc code pc <;> rfl
  rw [e, h]
  show Except.ok (i, pc + n - pc) = _
  rw [Nat.add_sub_cancel_left]
theorem dk_2 {code : ByteArray} {pc : Nat} (h : DkAt code pc [2]) : decode code pc = .ok (.iconst (-1), 1) := dk_of ((dk_bind (dk_u1 (h 0 _ rfl))).trans rfl)
theorem dk_3 {code : ByteArray} {pc : Nat} (h : DkAt code pc [3]) : decode code pc = .ok (.iconst 0, 1) := dk_of ((dk_bind (dk_u1 (h 0 _ rfl))).trans rfl)
theorem dk_4 {code : ByteArray} {pc : Nat} (h : DkAt code pc [4]) : decode code pc = .ok (.iconst 1, 1) := dk_of ((dk_bind (dk_u1 (h 0 _ rfl))).trans rfl)
theorem dk_5 {code : ByteArray} {pc : Nat} (h : DkAt code pc [5]) : decode code pc = .ok (.iconst 2, 1) := dk_of ((dk_bind (dk_u1 (h 0 _ rfl))).trans rfl)
theorem dk_6 {code : ByteArray} {pc : Nat} (h : DkAt code pc [6]) : decode code pc = .ok (.iconst 3, 1) := dk_of ((dk_bind (dk_u1 (h 0 _ rfl))).trans rfl)
theorem dk_7 {code : ByteArray} {pc : Nat} (h : DkAt code pc [7]) : decode code pc = .ok (.iconst 4, 1) := dk_of ((dk_bind (dk_u1 (h 0 _ rfl))).trans rfl)
theorem dk_9 {code : ByteArray} {pc : Nat} (h : DkAt code pc [9]) : decode code pc = .ok (.lconst 0, 1) := dk_of ((dk_bind (dk_u1 (h 0 _ rfl))).trans rfl)
theorem dk_10 {code : ByteArray} {pc : Nat} (h : DkAt code pc [10]) : decode code pc = .ok (.lconst 1, 1) := dk_of ((dk_bind (dk_u1 (h 0 _ rfl))).trans rfl)
theorem dk_16 {code : ByteArray} {pc : Nat} (a : UInt8) (h : DkAt code pc [16, a]) : decode code pc = .ok (.bipush (Reader.signed 8 a.toNat), 2) := dk_of ((dk_bind (dk_u1 (h 0 _ rfl))).trans ((dk_bind (dk_map (dk_u1 (h 1 _ rfl)))).trans rfl))
theorem dk_17 {code : ByteArray} {pc : Nat} (a b : UInt8) (h : DkAt code pc [17, a, b]) : decode code pc = .ok (.sipush (Reader.signed 16 (a.toNat * 256 + b.toNat)), 3) := dk_of ((dk_bind (dk_u1 (h 0 _ rfl))).trans ((dk_bind (dk_map (dk_u2 (h 1 _ rfl) (h 2 _ rfl)))).trans rfl))
theorem dk_18 {code : ByteArray} {pc : Nat} (a : UInt8) (h : DkAt code pc [18, a]) : decode code pc = .ok (.ldc a.toNat, 2) := dk_of ((dk_bind (dk_u1 (h 0 _ rfl))).trans ((dk_bind (dk_u1 (h 1 _ rfl))).trans rfl))
theorem dk_20 {code : ByteArray} {pc : Nat} (a b : UInt8) (h : DkAt code pc [20, a, b]) : decode code pc = .ok (.ldc2_w (a.toNat * 256 + b.toNat), 3) := dk_of ((dk_bind (dk_u1 (h 0 _ rfl))).trans ((dk_bind (dk_u2 (h 1 _ rfl) (h 2 _ rfl))).trans rfl))
theorem dk_21 {code : ByteArray} {pc : Nat} (a : UInt8) (h : DkAt code pc [21, a]) : decode code pc = .ok (.iload a.toNat, 2) := dk_of ((dk_bind (dk_u1 (h 0 _ rfl))).trans ((dk_bind (dk_u1 (h 1 _ rfl))).trans rfl))
theorem dk_22 {code : ByteArray} {pc : Nat} (a : UInt8) (h : DkAt code pc [22, a]) : decode code pc = .ok (.lload a.toNat, 2) := dk_of ((dk_bind (dk_u1 (h 0 _ rfl))).trans ((dk_bind (dk_u1 (h 1 _ rfl))).trans rfl))
theorem dk_26 {code : ByteArray} {pc : Nat} (h : DkAt code pc [26]) : decode code pc = .ok (.iload_n 0, 1) := dk_of ((dk_bind (dk_u1 (h 0 _ rfl))).trans rfl)
theorem dk_27 {code : ByteArray} {pc : Nat} (h : DkAt code pc [27]) : decode code pc = .ok (.iload_n 1, 1) := dk_of ((dk_bind (dk_u1 (h 0 _ rfl))).trans rfl)
theorem dk_28 {code : ByteArray} {pc : Nat} (h : DkAt code pc [28]) : decode code pc = .ok (.iload_n 2, 1) := dk_of ((dk_bind (dk_u1 (h 0 _ rfl))).trans rfl)
theorem dk_29 {code : ByteArray} {pc : Nat} (h : DkAt code pc [29]) : decode code pc = .ok (.iload_n 3, 1) := dk_of ((dk_bind (dk_u1 (h 0 _ rfl))).trans rfl)
theorem dk_30 {code : ByteArray} {pc : Nat} (h : DkAt code pc [30]) : decode code pc = .ok (.lload_n 0, 1) := dk_of ((dk_bind (dk_u1 (h 0 _ rfl))).trans rfl)
theorem dk_32 {code : ByteArray} {pc : Nat} (h : DkAt code pc [32]) : decode code pc = .ok (.lload_n 2, 1) := dk_of ((dk_bind (dk_u1 (h 0 _ rfl))).trans rfl)
theorem dk_42 {code : ByteArray} {pc : Nat} (h : DkAt code pc [42]) : decode code pc = .ok (.aload_n 0, 1) := dk_of ((dk_bind (dk_u1 (h 0 _ rfl))).trans rfl)
theorem dk_43 {code : ByteArray} {pc : Nat} (h : DkAt code pc [43]) : decode code pc = .ok (.aload_n 1, 1) := dk_of ((dk_bind (dk_u1 (h 0 _ rfl))).trans rfl)
theorem dk_44 {code : ByteArray} {pc : Nat} (h : DkAt code pc [44]) : decode code pc = .ok (.aload_n 2, 1) := dk_of ((dk_bind (dk_u1 (h 0 _ rfl))).trans rfl)
theorem dk_46 {code : ByteArray} {pc : Nat} (h : DkAt code pc [46]) : decode code pc = .ok (.iaload, 1) := dk_of ((dk_bind (dk_u1 (h 0 _ rfl))).trans rfl)
theorem dk_47 {code : ByteArray} {pc : Nat} (h : DkAt code pc [47]) : decode code pc = .ok (.laload, 1) := dk_of ((dk_bind (dk_u1 (h 0 _ rfl))).trans rfl)
theorem dk_54 {code : ByteArray} {pc : Nat} (a : UInt8) (h : DkAt code pc [54, a]) : decode code pc = .ok (.istore a.toNat, 2) := dk_of ((dk_bind (dk_u1 (h 0 _ rfl))).trans ((dk_bind (dk_u1 (h 1 _ rfl))).trans rfl))
theorem dk_55 {code : ByteArray} {pc : Nat} (a : UInt8) (h : DkAt code pc [55, a]) : decode code pc = .ok (.lstore a.toNat, 2) := dk_of ((dk_bind (dk_u1 (h 0 _ rfl))).trans ((dk_bind (dk_u1 (h 1 _ rfl))).trans rfl))
theorem dk_59 {code : ByteArray} {pc : Nat} (h : DkAt code pc [59]) : decode code pc = .ok (.istore_n 0, 1) := dk_of ((dk_bind (dk_u1 (h 0 _ rfl))).trans rfl)
theorem dk_61 {code : ByteArray} {pc : Nat} (h : DkAt code pc [61]) : decode code pc = .ok (.istore_n 2, 1) := dk_of ((dk_bind (dk_u1 (h 0 _ rfl))).trans rfl)
theorem dk_62 {code : ByteArray} {pc : Nat} (h : DkAt code pc [62]) : decode code pc = .ok (.istore_n 3, 1) := dk_of ((dk_bind (dk_u1 (h 0 _ rfl))).trans rfl)
theorem dk_63 {code : ByteArray} {pc : Nat} (h : DkAt code pc [63]) : decode code pc = .ok (.lstore_n 0, 1) := dk_of ((dk_bind (dk_u1 (h 0 _ rfl))).trans rfl)
theorem dk_75 {code : ByteArray} {pc : Nat} (h : DkAt code pc [75]) : decode code pc = .ok (.astore_n 0, 1) := dk_of ((dk_bind (dk_u1 (h 0 _ rfl))).trans rfl)
theorem dk_76 {code : ByteArray} {pc : Nat} (h : DkAt code pc [76]) : decode code pc = .ok (.astore_n 1, 1) := dk_of ((dk_bind (dk_u1 (h 0 _ rfl))).trans rfl)
theorem dk_80 {code : ByteArray} {pc : Nat} (h : DkAt code pc [80]) : decode code pc = .ok (.lastore, 1) := dk_of ((dk_bind (dk_u1 (h 0 _ rfl))).trans rfl)
theorem dk_87 {code : ByteArray} {pc : Nat} (h : DkAt code pc [87]) : decode code pc = .ok (.pop, 1) := dk_of ((dk_bind (dk_u1 (h 0 _ rfl))).trans rfl)
theorem dk_88 {code : ByteArray} {pc : Nat} (h : DkAt code pc [88]) : decode code pc = .ok (.pop2, 1) := dk_of ((dk_bind (dk_u1 (h 0 _ rfl))).trans rfl)
theorem dk_89 {code : ByteArray} {pc : Nat} (h : DkAt code pc [89]) : decode code pc = .ok (.dup, 1) := dk_of ((dk_bind (dk_u1 (h 0 _ rfl))).trans rfl)
theorem dk_96 {code : ByteArray} {pc : Nat} (h : DkAt code pc [96]) : decode code pc = .ok (.iadd, 1) := dk_of ((dk_bind (dk_u1 (h 0 _ rfl))).trans rfl)
theorem dk_104 {code : ByteArray} {pc : Nat} (h : DkAt code pc [104]) : decode code pc = .ok (.imul, 1) := dk_of ((dk_bind (dk_u1 (h 0 _ rfl))).trans rfl)
theorem dk_120 {code : ByteArray} {pc : Nat} (h : DkAt code pc [120]) : decode code pc = .ok (.ishl, 1) := dk_of ((dk_bind (dk_u1 (h 0 _ rfl))).trans rfl)
theorem dk_121 {code : ByteArray} {pc : Nat} (h : DkAt code pc [121]) : decode code pc = .ok (.lshl, 1) := dk_of ((dk_bind (dk_u1 (h 0 _ rfl))).trans rfl)
theorem dk_122 {code : ByteArray} {pc : Nat} (h : DkAt code pc [122]) : decode code pc = .ok (.ishr, 1) := dk_of ((dk_bind (dk_u1 (h 0 _ rfl))).trans rfl)
theorem dk_123 {code : ByteArray} {pc : Nat} (h : DkAt code pc [123]) : decode code pc = .ok (.lshr, 1) := dk_of ((dk_bind (dk_u1 (h 0 _ rfl))).trans rfl)
theorem dk_124 {code : ByteArray} {pc : Nat} (h : DkAt code pc [124]) : decode code pc = .ok (.iushr, 1) := dk_of ((dk_bind (dk_u1 (h 0 _ rfl))).trans rfl)
theorem dk_125 {code : ByteArray} {pc : Nat} (h : DkAt code pc [125]) : decode code pc = .ok (.lushr, 1) := dk_of ((dk_bind (dk_u1 (h 0 _ rfl))).trans rfl)
theorem dk_126 {code : ByteArray} {pc : Nat} (h : DkAt code pc [126]) : decode code pc = .ok (.iand, 1) := dk_of ((dk_bind (dk_u1 (h 0 _ rfl))).trans rfl)
theorem dk_127 {code : ByteArray} {pc : Nat} (h : DkAt code pc [127]) : decode code pc = .ok (.land, 1) := dk_of ((dk_bind (dk_u1 (h 0 _ rfl))).trans rfl)
theorem dk_128 {code : ByteArray} {pc : Nat} (h : DkAt code pc [128]) : decode code pc = .ok (.ior, 1) := dk_of ((dk_bind (dk_u1 (h 0 _ rfl))).trans rfl)
theorem dk_129 {code : ByteArray} {pc : Nat} (h : DkAt code pc [129]) : decode code pc = .ok (.lor, 1) := dk_of ((dk_bind (dk_u1 (h 0 _ rfl))).trans rfl)
theorem dk_130 {code : ByteArray} {pc : Nat} (h : DkAt code pc [130]) : decode code pc = .ok (.ixor, 1) := dk_of ((dk_bind (dk_u1 (h 0 _ rfl))).trans rfl)
theorem dk_131 {code : ByteArray} {pc : Nat} (h : DkAt code pc [131]) : decode code pc = .ok (.lxor, 1) := dk_of ((dk_bind (dk_u1 (h 0 _ rfl))).trans rfl)
theorem dk_132 {code : ByteArray} {pc : Nat} (a b : UInt8) (h : DkAt code pc [132, a, b]) : decode code pc = .ok (.iinc a.toNat (Reader.signed 8 b.toNat), 3) := dk_of ((dk_bind (dk_u1 (h 0 _ rfl))).trans ((dk_bind (dk_u1 (h 1 _ rfl))).trans ((dk_bind (dk_map (dk_u1 (h 2 _ rfl)))).trans rfl)))
theorem dk_133 {code : ByteArray} {pc : Nat} (h : DkAt code pc [133]) : decode code pc = .ok (.i2l, 1) := dk_of ((dk_bind (dk_u1 (h 0 _ rfl))).trans rfl)
theorem dk_136 {code : ByteArray} {pc : Nat} (h : DkAt code pc [136]) : decode code pc = .ok (.l2i, 1) := dk_of ((dk_bind (dk_u1 (h 0 _ rfl))).trans rfl)
theorem dk_148 {code : ByteArray} {pc : Nat} (h : DkAt code pc [148]) : decode code pc = .ok (.lcmp, 1) := dk_of ((dk_bind (dk_u1 (h 0 _ rfl))).trans rfl)
theorem dk_153 {code : ByteArray} {pc : Nat} (a b : UInt8) (h : DkAt code pc [153, a, b]) : decode code pc = .ok (.ifCond .eq (Reader.signed 16 (a.toNat * 256 + b.toNat)), 3) := dk_of ((dk_bind (dk_u1 (h 0 _ rfl))).trans ((dk_bind (dk_map (dk_u2 (h 1 _ rfl) (h 2 _ rfl)))).trans rfl))
theorem dk_154 {code : ByteArray} {pc : Nat} (a b : UInt8) (h : DkAt code pc [154, a, b]) : decode code pc = .ok (.ifCond .ne (Reader.signed 16 (a.toNat * 256 + b.toNat)), 3) := dk_of ((dk_bind (dk_u1 (h 0 _ rfl))).trans ((dk_bind (dk_map (dk_u2 (h 1 _ rfl) (h 2 _ rfl)))).trans rfl))
theorem dk_159 {code : ByteArray} {pc : Nat} (a b : UInt8) (h : DkAt code pc [159, a, b]) : decode code pc = .ok (.if_icmp .eq (Reader.signed 16 (a.toNat * 256 + b.toNat)), 3) := dk_of ((dk_bind (dk_u1 (h 0 _ rfl))).trans ((dk_bind (dk_map (dk_u2 (h 1 _ rfl) (h 2 _ rfl)))).trans rfl))
theorem dk_160 {code : ByteArray} {pc : Nat} (a b : UInt8) (h : DkAt code pc [160, a, b]) : decode code pc = .ok (.if_icmp .ne (Reader.signed 16 (a.toNat * 256 + b.toNat)), 3) := dk_of ((dk_bind (dk_u1 (h 0 _ rfl))).trans ((dk_bind (dk_map (dk_u2 (h 1 _ rfl) (h 2 _ rfl)))).trans rfl))
theorem dk_162 {code : ByteArray} {pc : Nat} (a b : UInt8) (h : DkAt code pc [162, a, b]) : decode code pc = .ok (.if_icmp .ge (Reader.signed 16 (a.toNat * 256 + b.toNat)), 3) := dk_of ((dk_bind (dk_u1 (h 0 _ rfl))).trans ((dk_bind (dk_map (dk_u2 (h 1 _ rfl) (h 2 _ rfl)))).trans rfl))
theorem dk_167 {code : ByteArray} {pc : Nat} (a b : UInt8) (h : DkAt code pc [167, a, b]) : decode code pc = .ok (.goto (Reader.signed 16 (a.toNat * 256 + b.toNat)), 3) := dk_of ((dk_bind (dk_u1 (h 0 _ rfl))).trans ((dk_bind (dk_map (dk_u2 (h 1 _ rfl) (h 2 _ rfl)))).trans rfl))
theorem dk_172 {code : ByteArray} {pc : Nat} (h : DkAt code pc [172]) : decode code pc = .ok (.ireturn, 1) := dk_of ((dk_bind (dk_u1 (h 0 _ rfl))).trans rfl)
theorem dk_173 {code : ByteArray} {pc : Nat} (h : DkAt code pc [173]) : decode code pc = .ok (.lreturn, 1) := dk_of ((dk_bind (dk_u1 (h 0 _ rfl))).trans rfl)
theorem dk_177 {code : ByteArray} {pc : Nat} (h : DkAt code pc [177]) : decode code pc = .ok (.return_, 1) := dk_of ((dk_bind (dk_u1 (h 0 _ rfl))).trans rfl)
theorem dk_180 {code : ByteArray} {pc : Nat} (a b : UInt8) (h : DkAt code pc [180, a, b]) : decode code pc = .ok (.getfield (a.toNat * 256 + b.toNat), 3) := dk_of ((dk_bind (dk_u1 (h 0 _ rfl))).trans ((dk_bind (dk_u2 (h 1 _ rfl) (h 2 _ rfl))).trans rfl))
theorem dk_181 {code : ByteArray} {pc : Nat} (a b : UInt8) (h : DkAt code pc [181, a, b]) : decode code pc = .ok (.putfield (a.toNat * 256 + b.toNat), 3) := dk_of ((dk_bind (dk_u1 (h 0 _ rfl))).trans ((dk_bind (dk_u2 (h 1 _ rfl) (h 2 _ rfl))).trans rfl))
theorem dk_182 {code : ByteArray} {pc : Nat} (a b : UInt8) (h : DkAt code pc [182, a, b]) : decode code pc = .ok (.invokevirtual (a.toNat * 256 + b.toNat), 3) := dk_of ((dk_bind (dk_u1 (h 0 _ rfl))).trans ((dk_bind (dk_u2 (h 1 _ rfl) (h 2 _ rfl))).trans rfl))
theorem dk_183 {code : ByteArray} {pc : Nat} (a b : UInt8) (h : DkAt code pc [183, a, b]) : decode code pc = .ok (.invokespecial (a.toNat * 256 + b.toNat), 3) := dk_of ((dk_bind (dk_u1 (h 0 _ rfl))).trans ((dk_bind (dk_u2 (h 1 _ rfl) (h 2 _ rfl))).trans rfl))
theorem dk_184 {code : ByteArray} {pc : Nat} (a b : UInt8) (h : DkAt code pc [184, a, b]) : decode code pc = .ok (.invokestatic (a.toNat * 256 + b.toNat), 3) := dk_of ((dk_bind (dk_u1 (h 0 _ rfl))).trans ((dk_bind (dk_u2 (h 1 _ rfl) (h 2 _ rfl))).trans rfl))
theorem dk_187 {code : ByteArray} {pc : Nat} (a b : UInt8) (h : DkAt code pc [187, a, b]) : decode code pc = .ok (.new (a.toNat * 256 + b.toNat), 3) := dk_of ((dk_bind (dk_u1 (h 0 _ rfl))).trans ((dk_bind (dk_u2 (h 1 _ rfl) (h 2 _ rfl))).trans rfl))
theorem dk_188_11 {code : ByteArray} {pc : Nat} (h : DkAt code pc [188, 11]) : decode code pc = .ok (.newarray .long, 2) := dk_of ((dk_bind (dk_u1 (h 0 _ rfl))).trans ((dk_bind (dk_u1 (h 1 _ rfl))).trans rfl))
theorem dk_190 {code : ByteArray} {pc : Nat} (h : DkAt code pc [190]) : decode code pc = .ok (.arraylength, 1) := dk_of ((dk_bind (dk_u1 (h 0 _ rfl))).trans rfl)
/-! java/lang/Object -/
set_option maxRecDepth 100000
def RJ0 : String := "java/lang/Object"
abbrev cJ0_init : ByteArray := object_method_1_code
def yJ0_init : MethodName := ⟨RJ0, "<init>", "()V"⟩
theorem dJ0_init_0 : decode cJ0_init 0 = .ok (.return_, 1) := by decide +kernel
theorem q10 : (Jvm.Cond.instanceMethod ({ cls := "java/lang/Object", name := "<init>", desc := "()V" } : Jvm.MethodName)) ∈ lw_all := lw_g (lw_at lw_m0 10 rfl) rfl
theorem q11 : (Jvm.Cond.code ({ cls := "java/lang/Object", name := "<init>", desc := "()V" } : Jvm.MethodName) object_method_1_code (1 : Nat) (Option.none : Option Jvm.ClassFile.FieldType)) ∈ lw_all := lw_g (lw_at lw_m0 11 rfl) rfl
/-! OwnBits -/
set_option maxRecDepth 100000
def RX3 : String := "OwnBits"
abbrev cX3_bitPermuteStep : ByteArray := prog_4_method_2_code
def yX3_bitPermuteStep : MethodName := ⟨RX3, "bitPermuteStep", "(III)I"⟩
def dkwX3_bitPermuteStep_0 : List UInt8 := [26, 26, 28, 124, 130, 27, 126, 62, 29, 29, 28, 120, 130, 26, 130, 172]
abbrev dktX3_bitPermuteStep_0 : List UInt8 := dkwX3_bitPermuteStep_0 ++ []
theorem dksX3_bitPermuteStep_0 : cX3_bitPermuteStep.data.toList.drop 0 = dktX3_bitPermuteStep_0 := by decide +kernel
theorem dX3_bitPermuteStep_0 : decode cX3_bitPermuteStep 0 = .ok (.iload_n 0, 1) := dk_26 (dk_at dksX3_bitPermuteStep_0 0 rfl rfl)
theorem dX3_bitPermuteStep_1 : decode cX3_bitPermuteStep 1 = .ok (.iload_n 0, 1) := dk_26 (dk_at dksX3_bitPermuteStep_0 1 rfl rfl)
theorem dX3_bitPermuteStep_2 : decode cX3_bitPermuteStep 2 = .ok (.iload_n 2, 1) := dk_28 (dk_at dksX3_bitPermuteStep_0 2 rfl rfl)
theorem dX3_bitPermuteStep_3 : decode cX3_bitPermuteStep 3 = .ok (.iushr, 1) := dk_124 (dk_at dksX3_bitPermuteStep_0 3 rfl rfl)
theorem dX3_bitPermuteStep_4 : decode cX3_bitPermuteStep 4 = .ok (.ixor, 1) := dk_130 (dk_at dksX3_bitPermuteStep_0 4 rfl rfl)
theorem dX3_bitPermuteStep_5 : decode cX3_bitPermuteStep 5 = .ok (.iload_n 1, 1) := dk_27 (dk_at dksX3_bitPermuteStep_0 5 rfl rfl)
theorem dX3_bitPermuteStep_6 : decode cX3_bitPermuteStep 6 = .ok (.iand, 1) := dk_126 (dk_at dksX3_bitPermuteStep_0 6 rfl rfl)
theorem dX3_bitPermuteStep_7 : decode cX3_bitPermuteStep 7 = .ok (.istore_n 3, 1) := dk_62 (dk_at dksX3_bitPermuteStep_0 7 rfl rfl)
theorem dX3_bitPermuteStep_8 : decode cX3_bitPermuteStep 8 = .ok (.iload_n 3, 1) := dk_29 (dk_at dksX3_bitPermuteStep_0 8 rfl rfl)
theorem dX3_bitPermuteStep_9 : decode cX3_bitPermuteStep 9 = .ok (.iload_n 3, 1) := dk_29 (dk_at dksX3_bitPermuteStep_0 9 rfl rfl)
theorem dX3_bitPermuteStep_10 : decode cX3_bitPermuteStep 10 = .ok (.iload_n 2, 1) := dk_28 (dk_at dksX3_bitPermuteStep_0 10 rfl rfl)
theorem dX3_bitPermuteStep_11 : decode cX3_bitPermuteStep 11 = .ok (.ishl, 1) := dk_120 (dk_at dksX3_bitPermuteStep_0 11 rfl rfl)
theorem dX3_bitPermuteStep_12 : decode cX3_bitPermuteStep 12 = .ok (.ixor, 1) := dk_130 (dk_at dksX3_bitPermuteStep_0 12 rfl rfl)
theorem dX3_bitPermuteStep_13 : decode cX3_bitPermuteStep 13 = .ok (.iload_n 0, 1) := dk_26 (dk_at dksX3_bitPermuteStep_0 13 rfl rfl)
theorem dX3_bitPermuteStep_14 : decode cX3_bitPermuteStep 14 = .ok (.ixor, 1) := dk_130 (dk_at dksX3_bitPermuteStep_0 14 rfl rfl)
theorem dX3_bitPermuteStep_15 : decode cX3_bitPermuteStep 15 = .ok (.ireturn, 1) := dk_172 (dk_at dksX3_bitPermuteStep_0 15 rfl rfl)
abbrev cX3_bitPermuteStep_2 : ByteArray := prog_4_method_3_code
def yX3_bitPermuteStep_2 : MethodName := ⟨RX3, "bitPermuteStep", "(JJI)J"⟩
def dkwX3_bitPermuteStep_2_0 : List UInt8 := [30, 30, 21, 4, 125, 131, 32, 127, 55, 5, 22, 5, 22, 5, 21, 4, 121, 131, 30, 131, 173]
abbrev dktX3_bitPermuteStep_2_0 : List UInt8 := dkwX3_bitPermuteStep_2_0 ++ []
theorem dksX3_bitPermuteStep_2_0 : cX3_bitPermuteStep_2.data.toList.drop 0 = dktX3_bitPermuteStep_2_0 := by decide +kernel
theorem dX3_bitPermuteStep_2_0 : decode cX3_bitPermuteStep_2 0 = .ok (.lload_n 0, 1) := dk_30 (dk_at dksX3_bitPermuteStep_2_0 0 rfl rfl)
theorem dX3_bitPermuteStep_2_1 : decode cX3_bitPermuteStep_2 1 = .ok (.lload_n 0, 1) := dk_30 (dk_at dksX3_bitPermuteStep_2_0 1 rfl rfl)
theorem dX3_bitPermuteStep_2_2 : decode cX3_bitPermuteStep_2 2 = .ok (.iload 4, 2) := dk_21 4 (dk_at dksX3_bitPermuteStep_2_0 2 rfl rfl)
theorem dX3_bitPermuteStep_2_4 : decode cX3_bitPermuteStep_2 4 = .ok (.lushr, 1) := dk_125 (dk_at dksX3_bitPermuteStep_2_0 4 rfl rfl)
theorem dX3_bitPermuteStep_2_5 : decode cX3_bitPermuteStep_2 5 = .ok (.lxor, 1) := dk_131 (dk_at dksX3_bitPermuteStep_2_0 5 rfl rfl)
theorem dX3_bitPermuteStep_2_6 : decode cX3_bitPermuteStep_2 6 = .ok (.lload_n 2, 1) := dk_32 (dk_at dksX3_bitPermuteStep_2_0 6 rfl rfl)
theorem dX3_bitPermuteStep_2_7 : decode cX3_bitPermuteStep_2 7 = .ok (.land, 1) := dk_127 (dk_at dksX3_bitPermuteStep_2_0 7 rfl rfl)
theorem dX3_bitPermuteStep_2_8 : decode cX3_bitPermuteStep_2 8 = .ok (.lstore 5, 2) := dk_55 5 (dk_at dksX3_bitPermuteStep_2_0 8 rfl rfl)
theorem dX3_bitPermuteStep_2_10 : decode cX3_bitPermuteStep_2 10 = .ok (.lload 5, 2) := dk_22 5 (dk_at dksX3_bitPermuteStep_2_0 10 rfl rfl)
theorem dX3_bitPermuteStep_2_12 : decode cX3_bitPermuteStep_2 12 = .ok (.lload 5, 2) := dk_22 5 (dk_at dksX3_bitPermuteStep_2_0 12 rfl rfl)
theorem dX3_bitPermuteStep_2_14 : decode cX3_bitPermuteStep_2 14 = .ok (.iload 4, 2) := dk_21 4 (dk_at dksX3_bitPermuteStep_2_0 14 rfl rfl)
theorem dX3_bitPermuteStep_2_16 : decode cX3_bitPermuteStep_2 16 = .ok (.lshl, 1) := dk_121 (dk_at dksX3_bitPermuteStep_2_0 16 rfl rfl)
theorem dX3_bitPermuteStep_2_17 : decode cX3_bitPermuteStep_2 17 = .ok (.lxor, 1) := dk_131 (dk_at dksX3_bitPermuteStep_2_0 17 rfl rfl)
theorem dX3_bitPermuteStep_2_18 : decode cX3_bitPermuteStep_2 18 = .ok (.lload_n 0, 1) := dk_30 (dk_at dksX3_bitPermuteStep_2_0 18 rfl rfl)
theorem dX3_bitPermuteStep_2_19 : decode cX3_bitPermuteStep_2 19 = .ok (.lxor, 1) := dk_131 (dk_at dksX3_bitPermuteStep_2_0 19 rfl rfl)
theorem dX3_bitPermuteStep_2_20 : decode cX3_bitPermuteStep_2 20 = .ok (.lreturn, 1) := dk_173 (dk_at dksX3_bitPermuteStep_2_0 20 rfl rfl)
theorem q3 : (Jvm.Cond.initialized "OwnBits") ∈ lw_all := lw_g (lw_at lw_m0 3 rfl) rfl
theorem q45 : (Jvm.Cond.static ({ cls := "OwnBits", name := "bitPermuteStep", desc := "(III)I" } : Jvm.MethodName)) ∈ lw_all := lw_g (lw_at lw_m0 45 rfl) rfl
theorem q46 : (Jvm.Cond.code ({ cls := "OwnBits", name := "bitPermuteStep", desc := "(III)I" } : Jvm.MethodName) prog_4_method_2_code (4 : Nat) (Option.some Jvm.ClassFile.FieldType.int)) ∈ lw_all := lw_g (lw_at lw_m0 46 rfl) rfl
theorem q64 : (Jvm.Cond.static ({ cls := "OwnBits", name := "bitPermuteStep", desc := "(JJI)J" } : Jvm.MethodName)) ∈ lw_all := lw_g (lw_at lw_m0 64 rfl) rfl
theorem q65 : (Jvm.Cond.code ({ cls := "OwnBits", name := "bitPermuteStep", desc := "(JJI)J" } : Jvm.MethodName) prog_4_method_3_code (7 : Nat) (Option.some Jvm.ClassFile.FieldType.long)) ∈ lw_all := lw_g (lw_at lw_m0 65 rfl) rfl
/-! Interleave -/
set_option maxRecDepth 100000
def RX2 : String := "Interleave"
abbrev cX2_expand8to16 : ByteArray := prog_3_method_2_code
def yX2_expand8to16 : MethodName := ⟨RX2, "expand8to16", "(I)I"⟩
def dkwX2_expand8to16_1 : List UInt8 := [126, 59, 26, 26, 4, 120, 128, 17, 85, 85, 126, 59, 26, 172]
abbrev dktX2_expand8to16_1 : List UInt8 := dkwX2_expand8to16_1 ++ []
def dkwX2_expand8to16_0 : List UInt8 := [26, 17, 0, 255, 126, 59, 26, 26, 7, 120, 128, 17, 15, 15, 126, 59, 26, 26, 5, 120, 128, 17, 51, 51]
abbrev dktX2_expand8to16_0 : List UInt8 := dkwX2_expand8to16_0 ++ dktX2_expand8to16_1
theorem dksX2_expand8to16_0 : cX2_expand8to16.data.toList.drop 0 = dktX2_expand8to16_0 := by decide +kernel
theorem dksX2_expand8to16_1 : cX2_expand8to16.data.toList.drop 24 = dktX2_expand8to16_1 := dk_seg dksX2_expand8to16_0 24 rfl rfl
theorem dX2_expand8to16_0 : decode cX2_expand8to16 0 = .ok (.iload_n 0, 1) := dk_26 (dk_at dksX2_expand8to16_0 0 rfl rfl)
theorem dX2_expand8to16_1 : decode cX2_expand8to16 1 = .ok (.sipush 255, 3) := dk_17 0 255 (dk_at dksX2_expand8to16_0 1 rfl rfl)
theorem dX2_expand8to16_4 : decode cX2_expand8to16 4 = .ok (.iand, 1) := dk_126 (dk_at dksX2_expand8to16_0 4 rfl rfl)
theorem dX2_expand8to16_5 : decode cX2_expand8to16 5 = .ok (.istore_n 0, 1) := dk_59 (dk_at dksX2_expand8to16_0 5 rfl rfl)
theorem dX2_expand8to16_6 : decode cX2_expand8to16 6 = .ok (.iload_n 0, 1) := dk_26 (dk_at dksX2_expand8to16_0 6 rfl rfl)
theorem dX2_expand8to16_7 : decode cX2_expand8to16 7 = .ok (.iload_n 0, 1) := dk_26 (dk_at dksX2_expand8to16_0 7 rfl rfl)
theorem dX2_expand8to16_8 : decode cX2_expand8to16 8 = .ok (.iconst 4, 1) := dk_7 (dk_at dksX2_expand8to16_0 8 rfl rfl)
theorem dX2_expand8to16_9 : decode cX2_expand8to16 9 = .ok (.ishl, 1) := dk_120 (dk_at dksX2_expand8to16_0 9 rfl rfl)
theorem dX2_expand8to16_10 : decode cX2_expand8to16 10 = .ok (.ior, 1) := dk_128 (dk_at dksX2_expand8to16_0 10 rfl rfl)
theorem dX2_expand8to16_11 : decode cX2_expand8to16 11 = .ok (.sipush 3855, 3) := dk_17 15 15 (dk_at dksX2_expand8to16_0 11 rfl rfl)
theorem dX2_expand8to16_14 : decode cX2_expand8to16 14 = .ok (.iand, 1) := dk_126 (dk_at dksX2_expand8to16_0 14 rfl rfl)
theorem dX2_expand8to16_15 : decode cX2_expand8to16 15 = .ok (.istore_n 0, 1) := dk_59 (dk_at dksX2_expand8to16_0 15 rfl rfl)
theorem dX2_expand8to16_16 : decode cX2_expand8to16 16 = .ok (.iload_n 0, 1) := dk_26 (dk_at dksX2_expand8to16_0 16 rfl rfl)
theorem dX2_expand8to16_17 : decode cX2_expand8to16 17 = .ok (.iload_n 0, 1) := dk_26 (dk_at dksX2_expand8to16_0 17 rfl rfl)
theorem dX2_expand8to16_18 : decode cX2_expand8to16 18 = .ok (.iconst 2, 1) := dk_5 (dk_at dksX2_expand8to16_0 18 rfl rfl)
theorem dX2_expand8to16_19 : decode cX2_expand8to16 19 = .ok (.ishl, 1) := dk_120 (dk_at dksX2_expand8to16_0 19 rfl rfl)
theorem dX2_expand8to16_20 : decode cX2_expand8to16 20 = .ok (.ior, 1) := dk_128 (dk_at dksX2_expand8to16_0 20 rfl rfl)
theorem dX2_expand8to16_21 : decode cX2_expand8to16 21 = .ok (.sipush 13107, 3) := dk_17 51 51 (dk_at dksX2_expand8to16_0 21 rfl rfl)
theorem dX2_expand8to16_24 : decode cX2_expand8to16 24 = .ok (.iand, 1) := dk_126 (dk_at dksX2_expand8to16_1 0 rfl rfl)
theorem dX2_expand8to16_25 : decode cX2_expand8to16 25 = .ok (.istore_n 0, 1) := dk_59 (dk_at dksX2_expand8to16_1 1 rfl rfl)
theorem dX2_expand8to16_26 : decode cX2_expand8to16 26 = .ok (.iload_n 0, 1) := dk_26 (dk_at dksX2_expand8to16_1 2 rfl rfl)
theorem dX2_expand8to16_27 : decode cX2_expand8to16 27 = .ok (.iload_n 0, 1) := dk_26 (dk_at dksX2_expand8to16_1 3 rfl rfl)
theorem dX2_expand8to16_28 : decode cX2_expand8to16 28 = .ok (.iconst 1, 1) := dk_4 (dk_at dksX2_expand8to16_1 4 rfl rfl)
theorem dX2_expand8to16_29 : decode cX2_expand8to16 29 = .ok (.ishl, 1) := dk_120 (dk_at dksX2_expand8to16_1 5 rfl rfl)
theorem dX2_expand8to16_30 : decode cX2_expand8to16 30 = .ok (.ior, 1) := dk_128 (dk_at dksX2_expand8to16_1 6 rfl rfl)
theorem dX2_expand8to16_31 : decode cX2_expand8to16 31 = .ok (.sipush 21845, 3) := dk_17 85 85 (dk_at dksX2_expand8to16_1 7 rfl rfl)
theorem dX2_expand8to16_34 : decode cX2_expand8to16 34 = .ok (.iand, 1) := dk_126 (dk_at dksX2_expand8to16_1 10 rfl rfl)
theorem dX2_expand8to16_35 : decode cX2_expand8to16 35 = .ok (.istore_n 0, 1) := dk_59 (dk_at dksX2_expand8to16_1 11 rfl rfl)
theorem dX2_expand8to16_36 : decode cX2_expand8to16 36 = .ok (.iload_n 0, 1) := dk_26 (dk_at dksX2_expand8to16_1 12 rfl rfl)
theorem dX2_expand8to16_37 : decode cX2_expand8to16 37 = .ok (.ireturn, 1) := dk_172 (dk_at dksX2_expand8to16_1 13 rfl rfl)
abbrev cX2_expand16to32 : ByteArray := prog_3_method_3_code
def yX2_expand16to32 : MethodName := ⟨RX2, "expand16to32", "(I)I"⟩
def dkwX2_expand16to32_1 : List UInt8 := [26, 26, 5, 120, 128, 18, 10, 126, 59, 26, 26, 4, 120, 128, 18, 11, 126, 59, 26, 172]
abbrev dktX2_expand16to32_1 : List UInt8 := dkwX2_expand16to32_1 ++ []
def dkwX2_expand16to32_0 : List UInt8 := [26, 18, 7, 126, 59, 26, 26, 16, 8, 120, 128, 18, 8, 126, 59, 26, 26, 7, 120, 128, 18, 9, 126, 59]
abbrev dktX2_expand16to32_0 : List UInt8 := dkwX2_expand16to32_0 ++ dktX2_expand16to32_1
theorem dksX2_expand16to32_0 : cX2_expand16to32.data.toList.drop 0 = dktX2_expand16to32_0 := by decide +kernel
theorem dksX2_expand16to32_1 : cX2_expand16to32.data.toList.drop 24 = dktX2_expand16to32_1 := dk_seg dksX2_expand16to32_0 24 rfl rfl
theorem dX2_expand16to32_0 : decode cX2_expand16to32 0 = .ok (.iload_n 0, 1) := dk_26 (dk_at dksX2_expand16to32_0 0 rfl rfl)
theorem dX2_expand16to32_1 : decode cX2_expand16to32 1 = .ok (.ldc 7, 2) := dk_18 7 (dk_at dksX2_expand16to32_0 1 rfl rfl)
theorem dX2_expand16to32_3 : decode cX2_expand16to32 3 = .ok (.iand, 1) := dk_126 (dk_at dksX2_expand16to32_0 3 rfl rfl)
theorem dX2_expand16to32_4 : decode cX2_expand16to32 4 = .ok (.istore_n 0, 1) := dk_59 (dk_at dksX2_expand16to32_0 4 rfl rfl)
theorem dX2_expand16to32_5 : decode cX2_expand16to32 5 = .ok (.iload_n 0, 1) := dk_26 (dk_at dksX2_expand16to32_0 5 rfl rfl)
theorem dX2_expand16to32_6 : decode cX2_expand16to32 6 = .ok (.iload_n 0, 1) := dk_26 (dk_at dksX2_expand16to32_0 6 rfl rfl)
theorem dX2_expand16to32_7 : decode cX2_expand16to32 7 = .ok (.bipush 8, 2) := dk_16 8 (dk_at dksX2_expand16to32_0 7 rfl rfl)
theorem dX2_expand16to32_9 : decode cX2_expand16to32 9 = .ok (.ishl, 1) := dk_120 (dk_at dksX2_expand16to32_0 9 rfl rfl)
theorem dX2_expand16to32_10 : decode cX2_expand16to32 10 = .ok (.ior, 1) := dk_128 (dk_at dksX2_expand16to32_0 10 rfl rfl)
theorem dX2_expand16to32_11 : decode cX2_expand16to32 11 = .ok (.ldc 8, 2) := dk_18 8 (dk_at dksX2_expand16to32_0 11 rfl rfl)
theorem dX2_expand16to32_13 : decode cX2_expand16to32 13 = .ok (.iand, 1) := dk_126 (dk_at dksX2_expand16to32_0 13 rfl rfl)
theorem dX2_expand16to32_14 : decode cX2_expand16to32 14 = .ok (.istore_n 0, 1) := dk_59 (dk_at dksX2_expand16to32_0 14 rfl rfl)
theorem dX2_expand16to32_15 : decode cX2_expand16to32 15 = .ok (.iload_n 0, 1) := dk_26 (dk_at dksX2_expand16to32_0 15 rfl rfl)
theorem dX2_expand16to32_16 : decode cX2_expand16to32 16 = .ok (.iload_n 0, 1) := dk_26 (dk_at dksX2_expand16to32_0 16 rfl rfl)
theorem dX2_expand16to32_17 : decode cX2_expand16to32 17 = .ok (.iconst 4, 1) := dk_7 (dk_at dksX2_expand16to32_0 17 rfl rfl)
theorem dX2_expand16to32_18 : decode cX2_expand16to32 18 = .ok (.ishl, 1) := dk_120 (dk_at dksX2_expand16to32_0 18 rfl rfl)
theorem dX2_expand16to32_19 : decode cX2_expand16to32 19 = .ok (.ior, 1) := dk_128 (dk_at dksX2_expand16to32_0 19 rfl rfl)
theorem dX2_expand16to32_20 : decode cX2_expand16to32 20 = .ok (.ldc 9, 2) := dk_18 9 (dk_at dksX2_expand16to32_0 20 rfl rfl)
theorem dX2_expand16to32_22 : decode cX2_expand16to32 22 = .ok (.iand, 1) := dk_126 (dk_at dksX2_expand16to32_0 22 rfl rfl)
theorem dX2_expand16to32_23 : decode cX2_expand16to32 23 = .ok (.istore_n 0, 1) := dk_59 (dk_at dksX2_expand16to32_0 23 rfl rfl)
theorem dX2_expand16to32_24 : decode cX2_expand16to32 24 = .ok (.iload_n 0, 1) := dk_26 (dk_at dksX2_expand16to32_1 0 rfl rfl)
theorem dX2_expand16to32_25 : decode cX2_expand16to32 25 = .ok (.iload_n 0, 1) := dk_26 (dk_at dksX2_expand16to32_1 1 rfl rfl)
theorem dX2_expand16to32_26 : decode cX2_expand16to32 26 = .ok (.iconst 2, 1) := dk_5 (dk_at dksX2_expand16to32_1 2 rfl rfl)
theorem dX2_expand16to32_27 : decode cX2_expand16to32 27 = .ok (.ishl, 1) := dk_120 (dk_at dksX2_expand16to32_1 3 rfl rfl)
theorem dX2_expand16to32_28 : decode cX2_expand16to32 28 = .ok (.ior, 1) := dk_128 (dk_at dksX2_expand16to32_1 4 rfl rfl)
theorem dX2_expand16to32_29 : decode cX2_expand16to32 29 = .ok (.ldc 10, 2) := dk_18 10 (dk_at dksX2_expand16to32_1 5 rfl rfl)
theorem dX2_expand16to32_31 : decode cX2_expand16to32 31 = .ok (.iand, 1) := dk_126 (dk_at dksX2_expand16to32_1 7 rfl rfl)
theorem dX2_expand16to32_32 : decode cX2_expand16to32 32 = .ok (.istore_n 0, 1) := dk_59 (dk_at dksX2_expand16to32_1 8 rfl rfl)
theorem dX2_expand16to32_33 : decode cX2_expand16to32 33 = .ok (.iload_n 0, 1) := dk_26 (dk_at dksX2_expand16to32_1 9 rfl rfl)
theorem dX2_expand16to32_34 : decode cX2_expand16to32 34 = .ok (.iload_n 0, 1) := dk_26 (dk_at dksX2_expand16to32_1 10 rfl rfl)
theorem dX2_expand16to32_35 : decode cX2_expand16to32 35 = .ok (.iconst 1, 1) := dk_4 (dk_at dksX2_expand16to32_1 11 rfl rfl)
theorem dX2_expand16to32_36 : decode cX2_expand16to32 36 = .ok (.ishl, 1) := dk_120 (dk_at dksX2_expand16to32_1 12 rfl rfl)
theorem dX2_expand16to32_37 : decode cX2_expand16to32 37 = .ok (.ior, 1) := dk_128 (dk_at dksX2_expand16to32_1 13 rfl rfl)
theorem dX2_expand16to32_38 : decode cX2_expand16to32 38 = .ok (.ldc 11, 2) := dk_18 11 (dk_at dksX2_expand16to32_1 14 rfl rfl)
theorem dX2_expand16to32_40 : decode cX2_expand16to32 40 = .ok (.iand, 1) := dk_126 (dk_at dksX2_expand16to32_1 16 rfl rfl)
theorem dX2_expand16to32_41 : decode cX2_expand16to32 41 = .ok (.istore_n 0, 1) := dk_59 (dk_at dksX2_expand16to32_1 17 rfl rfl)
theorem dX2_expand16to32_42 : decode cX2_expand16to32 42 = .ok (.iload_n 0, 1) := dk_26 (dk_at dksX2_expand16to32_1 18 rfl rfl)
theorem dX2_expand16to32_43 : decode cX2_expand16to32 43 = .ok (.ireturn, 1) := dk_172 (dk_at dksX2_expand16to32_1 19 rfl rfl)
abbrev cX2_expand32to64 : ByteArray := prog_3_method_4_code
def yX2_expand32to64 : MethodName := ⟨RX2, "expand32to64", "(I)J"⟩
def dkwX2_expand32to64_2 : List UInt8 := [20, 0, 24, 127, 129, 173]
abbrev dktX2_expand32to64_2 : List UInt8 := dkwX2_expand32to64_2 ++ []
def dkwX2_expand32to64_1 : List UInt8 := [59, 26, 18, 21, 4, 184, 0, 13, 59, 26, 4, 124, 133, 20, 0, 24, 127, 16, 32, 121, 26, 133]
abbrev dktX2_expand32to64_1 : List UInt8 := dkwX2_expand32to64_1 ++ dktX2_expand32to64_2
def dkwX2_expand32to64_0 : List UInt8 := [26, 18, 12, 16, 8, 184, 0, 13, 59, 26, 18, 19, 7, 184, 0, 13, 59, 26, 18, 20, 5, 184, 0, 13]
abbrev dktX2_expand32to64_0 : List UInt8 := dkwX2_expand32to64_0 ++ dktX2_expand32to64_1
theorem dksX2_expand32to64_0 : cX2_expand32to64.data.toList.drop 0 = dktX2_expand32to64_0 := by decide +kernel
theorem dksX2_expand32to64_1 : cX2_expand32to64.data.toList.drop 24 = dktX2_expand32to64_1 := dk_seg dksX2_expand32to64_0 24 rfl rfl
theorem dksX2_expand32to64_2 : cX2_expand32to64.data.toList.drop 46 = dktX2_expand32to64_2 := dk_seg dksX2_expand32to64_1 22 rfl rfl
theorem dX2_expand32to64_0 : decode cX2_expand32to64 0 = .ok (.iload_n 0, 1) := dk_26 (dk_at dksX2_expand32to64_0 0 rfl rfl)
theorem dX2_expand32to64_1 : decode cX2_expand32to64 1 = .ok (.ldc 12, 2) := dk_18 12 (dk_at dksX2_expand32to64_0 1 rfl rfl)
theorem dX2_expand32to64_3 : decode cX2_expand32to64 3 = .ok (.bipush 8, 2) := dk_16 8 (dk_at dksX2_expand32to64_0 3 rfl rfl)
theorem dX2_expand32to64_5 : decode cX2_expand32to64 5 = .ok (.invokestatic 13, 3) := dk_184 0 13 (dk_at dksX2_expand32to64_0 5 rfl rfl)
theorem dX2_expand32to64_8 : decode cX2_expand32to64 8 = .ok (.istore_n 0, 1) := dk_59 (dk_at dksX2_expand32to64_0 8 rfl rfl)
theorem dX2_expand32to64_9 : decode cX2_expand32to64 9 = .ok (.iload_n 0, 1) := dk_26 (dk_at dksX2_expand32to64_0 9 rfl rfl)
theorem dX2_expand32to64_10 : decode cX2_expand32to64 10 = .ok (.ldc 19, 2) := dk_18 19 (dk_at dksX2_expand32to64_0 10 rfl rfl)
theorem dX2_expand32to64_12 : decode cX2_expand32to64 12 = .ok (.iconst 4, 1) := dk_7 (dk_at dksX2_expand32to64_0 12 rfl rfl)
theorem dX2_expand32to64_13 : decode cX2_expand32to64 13 = .ok (.invokestatic 13, 3) := dk_184 0 13 (dk_at dksX2_expand32to64_0 13 rfl rfl)
theorem dX2_expand32to64_16 : decode cX2_expand32to64 16 = .ok (.istore_n 0, 1) := dk_59 (dk_at dksX2_expand32to64_0 16 rfl rfl)
theorem dX2_expand32to64_17 : decode cX2_expand32to64 17 = .ok (.iload_n 0, 1) := dk_26 (dk_at dksX2_expand32to64_0 17 rfl rfl)
theorem dX2_expand32to64_18 : decode cX2_expand32to64 18 = .ok (.ldc 20, 2) := dk_18 20 (dk_at dksX2_expand32to64_0 18 rfl rfl)
theorem dX2_expand32to64_20 : decode cX2_expand32to64 20 = .ok (.iconst 2, 1) := dk_5 (dk_at dksX2_expand32to64_0 20 rfl rfl)
theorem dX2_expand32to64_21 : decode cX2_expand32to64 21 = .ok (.invokestatic 13, 3) := dk_184 0 13 (dk_at dksX2_expand32to64_0 21 rfl rfl)
theorem dX2_expand32to64_24 : decode cX2_expand32to64 24 = .ok (.istore_n 0, 1) := dk_59 (dk_at dksX2_expand32to64_1 0 rfl rfl)
theorem dX2_expand32to64_25 : decode cX2_expand32to64 25 = .ok (.iload_n 0, 1) := dk_26 (dk_at dksX2_expand32to64_1 1 rfl rfl)
theorem dX2_expand32to64_26 : decode cX2_expand32to64 26 = .ok (.ldc 21, 2) := dk_18 21 (dk_at dksX2_expand32to64_1 2 rfl rfl)
theorem dX2_expand32to64_28 : decode cX2_expand32to64 28 = .ok (.iconst 1, 1) := dk_4 (dk_at dksX2_expand32to64_1 4 rfl rfl)
theorem dX2_expand32to64_29 : decode cX2_expand32to64 29 = .ok (.invokestatic 13, 3) := dk_184 0 13 (dk_at dksX2_expand32to64_1 5 rfl rfl)
theorem dX2_expand32to64_32 : decode cX2_expand32to64 32 = .ok (.istore_n 0, 1) := dk_59 (dk_at dksX2_expand32to64_1 8 rfl rfl)
theorem dX2_expand32to64_33 : decode cX2_expand32to64 33 = .ok (.iload_n 0, 1) := dk_26 (dk_at dksX2_expand32to64_1 9 rfl rfl)
theorem dX2_expand32to64_34 : decode cX2_expand32to64 34 = .ok (.iconst 1, 1) := dk_4 (dk_at dksX2_expand32to64_1 10 rfl rfl)
theorem dX2_expand32to64_35 : decode cX2_expand32to64 35 = .ok (.iushr, 1) := dk_124 (dk_at dksX2_expand32to64_1 11 rfl rfl)
theorem dX2_expand32to64_36 : decode cX2_expand32to64 36 = .ok (.i2l, 1) := dk_133 (dk_at dksX2_expand32to64_1 12 rfl rfl)
theorem dX2_expand32to64_37 : decode cX2_expand32to64 37 = .ok (.ldc2_w 24, 3) := dk_20 0 24 (dk_at dksX2_expand32to64_1 13 rfl rfl)
theorem dX2_expand32to64_40 : decode cX2_expand32to64 40 = .ok (.land, 1) := dk_127 (dk_at dksX2_expand32to64_1 16 rfl rfl)
theorem dX2_expand32to64_41 : decode cX2_expand32to64 41 = .ok (.bipush 32, 2) := dk_16 32 (dk_at dksX2_expand32to64_1 17 rfl rfl)
theorem dX2_expand32to64_43 : decode cX2_expand32to64 43 = .ok (.lshl, 1) := dk_121 (dk_at dksX2_expand32to64_1 19 rfl rfl)
theorem dX2_expand32to64_44 : decode cX2_expand32to64 44 = .ok (.iload_n 0, 1) := dk_26 (dk_at dksX2_expand32to64_1 20 rfl rfl)
theorem dX2_expand32to64_45 : decode cX2_expand32to64 45 = .ok (.i2l, 1) := dk_133 (dk_at dksX2_expand32to64_1 21 rfl rfl)
theorem dX2_expand32to64_46 : decode cX2_expand32to64 46 = .ok (.ldc2_w 24, 3) := dk_20 0 24 (dk_at dksX2_expand32to64_2 0 rfl rfl)
theorem dX2_expand32to64_49 : decode cX2_expand32to64 49 = .ok (.land, 1) := dk_127 (dk_at dksX2_expand32to64_2 3 rfl rfl)
theorem dX2_expand32to64_50 : decode cX2_expand32to64 50 = .ok (.lor, 1) := dk_129 (dk_at dksX2_expand32to64_2 4 rfl rfl)
theorem dX2_expand32to64_51 : decode cX2_expand32to64 51 = .ok (.lreturn, 1) := dk_173 (dk_at dksX2_expand32to64_2 5 rfl rfl)
abbrev cX2_expand64To128 : ByteArray := prog_3_method_5_code
def yX2_expand64To128 : MethodName := ⟨RX2, "expand64To128", "(J[JI)V"⟩
def dkwX2_expand64To128_2 : List UInt8 := [29, 30, 20, 0, 39, 127, 80, 44, 29, 4, 96, 30, 4, 125, 20, 0, 39, 127, 80, 177]
abbrev dktX2_expand64To128_2 : List UInt8 := dkwX2_expand64To128_2 ++ []
def dkwX2_expand64To128_1 : List UInt8 := [7, 184, 0, 28, 63, 30, 20, 0, 35, 5, 184, 0, 28, 63, 30, 20, 0, 37, 4, 184, 0, 28, 63, 44]
abbrev dktX2_expand64To128_1 : List UInt8 := dkwX2_expand64To128_1 ++ dktX2_expand64To128_2
def dkwX2_expand64To128_0 : List UInt8 := [30, 20, 0, 26, 16, 16, 184, 0, 28, 63, 30, 20, 0, 31, 16, 8, 184, 0, 28, 63, 30, 20, 0, 33]
abbrev dktX2_expand64To128_0 : List UInt8 := dkwX2_expand64To128_0 ++ dktX2_expand64To128_1
theorem dksX2_expand64To128_0 : cX2_expand64To128.data.toList.drop 0 = dktX2_expand64To128_0 := by decide +kernel
theorem dksX2_expand64To128_1 : cX2_expand64To128.data.toList.drop 24 = dktX2_expand64To128_1 := dk_seg dksX2_expand64To128_0 24 rfl rfl
theorem dksX2_expand64To128_2 : cX2_expand64To128.data.toList.drop 48 = dktX2_expand64To128_2 := dk_seg dksX2_expand64To128_1 24 rfl rfl
theorem dX2_expand64To128_0 : decode cX2_expand64To128 0 = .ok (.lload_n 0, 1) := dk_30 (dk_at dksX2_expand64To128_0 0 rfl rfl)
theorem dX2_expand64To128_1 : decode cX2_expand64To128 1 = .ok (.ldc2_w 26, 3) := dk_20 0 26 (dk_at dksX2_expand64To128_0 1 rfl rfl)
theorem dX2_expand64To128_4 : decode cX2_expand64To128 4 = .ok (.bipush 16, 2) := dk_16 16 (dk_at dksX2_expand64To128_0 4 rfl rfl)
theorem dX2_expand64To128_6 : decode cX2_expand64To128 6 = .ok (.invokestatic 28, 3) := dk_184 0 28 (dk_at dksX2_expand64To128_0 6 rfl rfl)
theorem dX2_expand64To128_9 : decode cX2_expand64To128 9 = .ok (.lstore_n 0, 1) := dk_63 (dk_at dksX2_expand64To128_0 9 rfl rfl)
theorem dX2_expand64To128_10 : decode cX2_expand64To128 10 = .ok (.lload_n 0, 1) := dk_30 (dk_at dksX2_expand64To128_0 10 rfl rfl)
theorem dX2_expand64To128_11 : decode cX2_expand64To128 11 = .ok (.ldc2_w 31, 3) := dk_20 0 31 (dk_at dksX2_expand64To128_0 11 rfl rfl)
theorem dX2_expand64To128_14 : decode cX2_expand64To128 14 = .ok (.bipush 8, 2) := dk_16 8 (dk_at dksX2_expand64To128_0 14 rfl rfl)
theorem dX2_expand64To128_16 : decode cX2_expand64To128 16 = .ok (.invokestatic 28, 3) := dk_184 0 28 (dk_at dksX2_expand64To128_0 16 rfl rfl)
theorem dX2_expand64To128_19 : decode cX2_expand64To128 19 = .ok (.lstore_n 0, 1) := dk_63 (dk_at dksX2_expand64To128_0 19 rfl rfl)
theorem dX2_expand64To128_20 : decode cX2_expand64To128 20 = .ok (.lload_n 0, 1) := dk_30 (dk_at dksX2_expand64To128_0 20 rfl rfl)
theorem dX2_expand64To128_21 : decode cX2_expand64To128 21 = .ok (.ldc2_w 33, 3) := dk_20 0 33 (dk_at dksX2_expand64To128_0 21 rfl rfl)
theorem dX2_expand64To128_24 : decode cX2_expand64To128 24 = .ok (.iconst 4, 1) := dk_7 (dk_at dksX2_expand64To128_1 0 rfl rfl)
theorem dX2_expand64To128_25 : decode cX2_expand64To128 25 = .ok (.invokestatic 28, 3) := dk_184 0 28 (dk_at dksX2_expand64To128_1 1 rfl rfl)
theorem dX2_expand64To128_28 : decode cX2_expand64To128 28 = .ok (.lstore_n 0, 1) := dk_63 (dk_at dksX2_expand64To128_1 4 rfl rfl)
theorem dX2_expand64To128_29 : decode cX2_expand64To128 29 = .ok (.lload_n 0, 1) := dk_30 (dk_at dksX2_expand64To128_1 5 rfl rfl)
theorem dX2_expand64To128_30 : decode cX2_expand64To128 30 = .ok (.ldc2_w 35, 3) := dk_20 0 35 (dk_at dksX2_expand64To128_1 6 rfl rfl)
theorem dX2_expand64To128_33 : decode cX2_expand64To128 33 = .ok (.iconst 2, 1) := dk_5 (dk_at dksX2_expand64To128_1 9 rfl rfl)
theorem dX2_expand64To128_34 : decode cX2_expand64To128 34 = .ok (.invokestatic 28, 3) := dk_184 0 28 (dk_at dksX2_expand64To128_1 10 rfl rfl)
theorem dX2_expand64To128_37 : decode cX2_expand64To128 37 = .ok (.lstore_n 0, 1) := dk_63 (dk_at dksX2_expand64To128_1 13 rfl rfl)
theorem dX2_expand64To128_38 : decode cX2_expand64To128 38 = .ok (.lload_n 0, 1) := dk_30 (dk_at dksX2_expand64To128_1 14 rfl rfl)
theorem dX2_expand64To128_39 : decode cX2_expand64To128 39 = .ok (.ldc2_w 37, 3) := dk_20 0 37 (dk_at dksX2_expand64To128_1 15 rfl rfl)
theorem dX2_expand64To128_42 : decode cX2_expand64To128 42 = .ok (.iconst 1, 1) := dk_4 (dk_at dksX2_expand64To128_1 18 rfl rfl)
theorem dX2_expand64To128_43 : decode cX2_expand64To128 43 = .ok (.invokestatic 28, 3) := dk_184 0 28 (dk_at dksX2_expand64To128_1 19 rfl rfl)
theorem dX2_expand64To128_46 : decode cX2_expand64To128 46 = .ok (.lstore_n 0, 1) := dk_63 (dk_at dksX2_expand64To128_1 22 rfl rfl)
theorem dX2_expand64To128_47 : decode cX2_expand64To128 47 = .ok (.aload_n 2, 1) := dk_44 (dk_at dksX2_expand64To128_1 23 rfl rfl)
theorem dX2_expand64To128_48 : decode cX2_expand64To128 48 = .ok (.iload_n 3, 1) := dk_29 (dk_at dksX2_expand64To128_2 0 rfl rfl)
theorem dX2_expand64To128_49 : decode cX2_expand64To128 49 = .ok (.lload_n 0, 1) := dk_30 (dk_at dksX2_expand64To128_2 1 rfl rfl)
theorem dX2_expand64To128_50 : decode cX2_expand64To128 50 = .ok (.ldc2_w 39, 3) := dk_20 0 39 (dk_at dksX2_expand64To128_2 2 rfl rfl)
theorem dX2_expand64To128_53 : decode cX2_expand64To128 53 = .ok (.land, 1) := dk_127 (dk_at dksX2_expand64To128_2 5 rfl rfl)
theorem dX2_expand64To128_54 : decode cX2_expand64To128 54 = .ok (.lastore, 1) := dk_80 (dk_at dksX2_expand64To128_2 6 rfl rfl)
theorem dX2_expand64To128_55 : decode cX2_expand64To128 55 = .ok (.aload_n 2, 1) := dk_44 (dk_at dksX2_expand64To128_2 7 rfl rfl)
theorem dX2_expand64To128_56 : decode cX2_expand64To128 56 = .ok (.iload_n 3, 1) := dk_29 (dk_at dksX2_expand64To128_2 8 rfl rfl)
theorem dX2_expand64To128_57 : decode cX2_expand64To128 57 = .ok (.iconst 1, 1) := dk_4 (dk_at dksX2_expand64To128_2 9 rfl rfl)
theorem dX2_expand64To128_58 : decode cX2_expand64To128 58 = .ok (.iadd, 1) := dk_96 (dk_at dksX2_expand64To128_2 10 rfl rfl)
theorem dX2_expand64To128_59 : decode cX2_expand64To128 59 = .ok (.lload_n 0, 1) := dk_30 (dk_at dksX2_expand64To128_2 11 rfl rfl)
theorem dX2_expand64To128_60 : decode cX2_expand64To128 60 = .ok (.iconst 1, 1) := dk_4 (dk_at dksX2_expand64To128_2 12 rfl rfl)
theorem dX2_expand64To128_61 : decode cX2_expand64To128 61 = .ok (.lushr, 1) := dk_125 (dk_at dksX2_expand64To128_2 13 rfl rfl)
theorem dX2_expand64To128_62 : decode cX2_expand64To128 62 = .ok (.ldc2_w 39, 3) := dk_20 0 39 (dk_at dksX2_expand64To128_2 14 rfl rfl)
theorem dX2_expand64To128_65 : decode cX2_expand64To128 65 = .ok (.land, 1) := dk_127 (dk_at dksX2_expand64To128_2 17 rfl rfl)
theorem dX2_expand64To128_66 : decode cX2_expand64To128 66 = .ok (.lastore, 1) := dk_80 (dk_at dksX2_expand64To128_2 18 rfl rfl)
theorem dX2_expand64To128_67 : decode cX2_expand64To128 67 = .ok (.return_, 1) := dk_177 (dk_at dksX2_expand64To128_2 19 rfl rfl)
abbrev cX2_shuffle : ByteArray := prog_3_method_6_code
def yX2_shuffle : MethodName := ⟨RX2, "shuffle", "(I)I"⟩
def dkwX2_shuffle_1 : List UInt8 := [59, 26, 18, 21, 4, 184, 0, 13, 59, 26, 172]
abbrev dktX2_shuffle_1 : List UInt8 := dkwX2_shuffle_1 ++ []
def dkwX2_shuffle_0 : List UInt8 := [26, 18, 12, 16, 8, 184, 0, 13, 59, 26, 18, 19, 7, 184, 0, 13, 59, 26, 18, 20, 5, 184, 0, 13]
abbrev dktX2_shuffle_0 : List UInt8 := dkwX2_shuffle_0 ++ dktX2_shuffle_1
theorem dksX2_shuffle_0 : cX2_shuffle.data.toList.drop 0 = dktX2_shuffle_0 := by decide +kernel
theorem dksX2_shuffle_1 : cX2_shuffle.data.toList.drop 24 = dktX2_shuffle_1 := dk_seg dksX2_shuffle_0 24 rfl rfl
theorem dX2_shuffle_0 : decode cX2_shuffle 0 = .ok (.iload_n 0, 1) := dk_26 (dk_at dksX2_shuffle_0 0 rfl rfl)
theorem dX2_shuffle_1 : decode cX2_shuffle 1 = .ok (.ldc 12, 2) := dk_18 12 (dk_at dksX2_shuffle_0 1 rfl rfl)
theorem dX2_shuffle_3 : decode cX2_shuffle 3 = .ok (.bipush 8, 2) := dk_16 8 (dk_at dksX2_shuffle_0 3 rfl rfl)
theorem dX2_shuffle_5 : decode cX2_shuffle 5 = .ok (.invokestatic 13, 3) := dk_184 0 13 (dk_at dksX2_shuffle_0 5 rfl rfl)
theorem dX2_shuffle_8 : decode cX2_shuffle 8 = .ok (.istore_n 0, 1) := dk_59 (dk_at dksX2_shuffle_0 8 rfl rfl)
theorem dX2_shuffle_9 : decode cX2_shuffle 9 = .ok (.iload_n 0, 1) := dk_26 (dk_at dksX2_shuffle_0 9 rfl rfl)
theorem dX2_shuffle_10 : decode cX2_shuffle 10 = .ok (.ldc 19, 2) := dk_18 19 (dk_at dksX2_shuffle_0 10 rfl rfl)
theorem dX2_shuffle_12 : decode cX2_shuffle 12 = .ok (.iconst 4, 1) := dk_7 (dk_at dksX2_shuffle_0 12 rfl rfl)
theorem dX2_shuffle_13 : decode cX2_shuffle 13 = .ok (.invokestatic 13, 3) := dk_184 0 13 (dk_at dksX2_shuffle_0 13 rfl rfl)
theorem dX2_shuffle_16 : decode cX2_shuffle 16 = .ok (.istore_n 0, 1) := dk_59 (dk_at dksX2_shuffle_0 16 rfl rfl)
theorem dX2_shuffle_17 : decode cX2_shuffle 17 = .ok (.iload_n 0, 1) := dk_26 (dk_at dksX2_shuffle_0 17 rfl rfl)
theorem dX2_shuffle_18 : decode cX2_shuffle 18 = .ok (.ldc 20, 2) := dk_18 20 (dk_at dksX2_shuffle_0 18 rfl rfl)
theorem dX2_shuffle_20 : decode cX2_shuffle 20 = .ok (.iconst 2, 1) := dk_5 (dk_at dksX2_shuffle_0 20 rfl rfl)
theorem dX2_shuffle_21 : decode cX2_shuffle 21 = .ok (.invokestatic 13, 3) := dk_184 0 13 (dk_at dksX2_shuffle_0 21 rfl rfl)
theorem dX2_shuffle_24 : decode cX2_shuffle 24 = .ok (.istore_n 0, 1) := dk_59 (dk_at dksX2_shuffle_1 0 rfl rfl)
theorem dX2_shuffle_25 : decode cX2_shuffle 25 = .ok (.iload_n 0, 1) := dk_26 (dk_at dksX2_shuffle_1 1 rfl rfl)
theorem dX2_shuffle_26 : decode cX2_shuffle 26 = .ok (.ldc 21, 2) := dk_18 21 (dk_at dksX2_shuffle_1 2 rfl rfl)
theorem dX2_shuffle_28 : decode cX2_shuffle 28 = .ok (.iconst 1, 1) := dk_4 (dk_at dksX2_shuffle_1 4 rfl rfl)
theorem dX2_shuffle_29 : decode cX2_shuffle 29 = .ok (.invokestatic 13, 3) := dk_184 0 13 (dk_at dksX2_shuffle_1 5 rfl rfl)
theorem dX2_shuffle_32 : decode cX2_shuffle 32 = .ok (.istore_n 0, 1) := dk_59 (dk_at dksX2_shuffle_1 8 rfl rfl)
theorem dX2_shuffle_33 : decode cX2_shuffle 33 = .ok (.iload_n 0, 1) := dk_26 (dk_at dksX2_shuffle_1 9 rfl rfl)
theorem dX2_shuffle_34 : decode cX2_shuffle 34 = .ok (.ireturn, 1) := dk_172 (dk_at dksX2_shuffle_1 10 rfl rfl)
abbrev cX2_unshuffle : ByteArray := prog_3_method_11_code
def yX2_unshuffle : MethodName := ⟨RX2, "unshuffle", "(I)I"⟩
def dkwX2_unshuffle_1 : List UInt8 := [26, 18, 12, 16, 8, 184, 0, 13, 59, 26, 172]
abbrev dktX2_unshuffle_1 : List UInt8 := dkwX2_unshuffle_1 ++ []
def dkwX2_unshuffle_0 : List UInt8 := [26, 18, 21, 4, 184, 0, 13, 59, 26, 18, 20, 5, 184, 0, 13, 59, 26, 18, 19, 7, 184, 0, 13, 59]
abbrev dktX2_unshuffle_0 : List UInt8 := dkwX2_unshuffle_0 ++ dktX2_unshuffle_1
theorem dksX2_unshuffle_0 : cX2_unshuffle.data.toList.drop 0 = dktX2_unshuffle_0 := by decide +kernel
theorem dksX2_unshuffle_1 : cX2_unshuffle.data.toList.drop 24 = dktX2_unshuffle_1 := dk_seg dksX2_unshuffle_0 24 rfl rfl
theorem dX2_unshuffle_0 : decode cX2_unshuffle 0 = .ok (.iload_n 0, 1) := dk_26 (dk_at dksX2_unshuffle_0 0 rfl rfl)
theorem dX2_unshuffle_1 : decode cX2_unshuffle 1 = .ok (.ldc 21, 2) := dk_18 21 (dk_at dksX2_unshuffle_0 1 rfl rfl)
theorem dX2_unshuffle_3 : decode cX2_unshuffle 3 = .ok (.iconst 1, 1) := dk_4 (dk_at dksX2_unshuffle_0 3 rfl rfl)
theorem dX2_unshuffle_4 : decode cX2_unshuffle 4 = .ok (.invokestatic 13, 3) := dk_184 0 13 (dk_at dksX2_unshuffle_0 4 rfl rfl)
theorem dX2_unshuffle_7 : decode cX2_unshuffle 7 = .ok (.istore_n 0, 1) := dk_59 (dk_at dksX2_unshuffle_0 7 rfl rfl)
theorem dX2_unshuffle_8 : decode cX2_unshuffle 8 = .ok (.iload_n 0, 1) := dk_26 (dk_at dksX2_unshuffle_0 8 rfl rfl)
theorem dX2_unshuffle_9 : decode cX2_unshuffle 9 = .ok (.ldc 20, 2) := dk_18 20 (dk_at dksX2_unshuffle_0 9 rfl rfl)
theorem dX2_unshuffle_11 : decode cX2_unshuffle 11 = .ok (.iconst 2, 1) := dk_5 (dk_at dksX2_unshuffle_0 11 rfl rfl)
theorem dX2_unshuffle_12 : decode cX2_unshuffle 12 = .ok (.invokestatic 13, 3) := dk_184 0 13 (dk_at dksX2_unshuffle_0 12 rfl rfl)
theorem dX2_unshuffle_15 : decode cX2_unshuffle 15 = .ok (.istore_n 0, 1) := dk_59 (dk_at dksX2_unshuffle_0 15 rfl rfl)
theorem dX2_unshuffle_16 : decode cX2_unshuffle 16 = .ok (.iload_n 0, 1) := dk_26 (dk_at dksX2_unshuffle_0 16 rfl rfl)
theorem dX2_unshuffle_17 : decode cX2_unshuffle 17 = .ok (.ldc 19, 2) := dk_18 19 (dk_at dksX2_unshuffle_0 17 rfl rfl)
theorem dX2_unshuffle_19 : decode cX2_unshuffle 19 = .ok (.iconst 4, 1) := dk_7 (dk_at dksX2_unshuffle_0 19 rfl rfl)
theorem dX2_unshuffle_20 : decode cX2_unshuffle 20 = .ok (.invokestatic 13, 3) := dk_184 0 13 (dk_at dksX2_unshuffle_0 20 rfl rfl)
theorem dX2_unshuffle_23 : decode cX2_unshuffle 23 = .ok (.istore_n 0, 1) := dk_59 (dk_at dksX2_unshuffle_0 23 rfl rfl)
theorem dX2_unshuffle_24 : decode cX2_unshuffle 24 = .ok (.iload_n 0, 1) := dk_26 (dk_at dksX2_unshuffle_1 0 rfl rfl)
theorem dX2_unshuffle_25 : decode cX2_unshuffle 25 = .ok (.ldc 12, 2) := dk_18 12 (dk_at dksX2_unshuffle_1 1 rfl rfl)
theorem dX2_unshuffle_27 : decode cX2_unshuffle 27 = .ok (.bipush 8, 2) := dk_16 8 (dk_at dksX2_unshuffle_1 3 rfl rfl)
theorem dX2_unshuffle_29 : decode cX2_unshuffle 29 = .ok (.invokestatic 13, 3) := dk_184 0 13 (dk_at dksX2_unshuffle_1 5 rfl rfl)
theorem dX2_unshuffle_32 : decode cX2_unshuffle 32 = .ok (.istore_n 0, 1) := dk_59 (dk_at dksX2_unshuffle_1 8 rfl rfl)
theorem dX2_unshuffle_33 : decode cX2_unshuffle 33 = .ok (.iload_n 0, 1) := dk_26 (dk_at dksX2_unshuffle_1 9 rfl rfl)
theorem dX2_unshuffle_34 : decode cX2_unshuffle 34 = .ok (.ireturn, 1) := dk_172 (dk_at dksX2_unshuffle_1 10 rfl rfl)
abbrev cX2_shuffle_2 : ByteArray := prog_3_method_7_code
def yX2_shuffle_2 : MethodName := ⟨RX2, "shuffle", "(J)J"⟩
def dkwX2_shuffle_2_2 : List UInt8 := [173]
abbrev dktX2_shuffle_2_2 : List UInt8 := dkwX2_shuffle_2_2 ++ []
def dkwX2_shuffle_2_1 : List UInt8 := [7, 184, 0, 28, 63, 30, 20, 0, 35, 5, 184, 0, 28, 63, 30, 20, 0, 37, 4, 184, 0, 28, 63, 30]
abbrev dktX2_shuffle_2_1 : List UInt8 := dkwX2_shuffle_2_1 ++ dktX2_shuffle_2_2
def dkwX2_shuffle_2_0 : List UInt8 := [30, 20, 0, 26, 16, 16, 184, 0, 28, 63, 30, 20, 0, 31, 16, 8, 184, 0, 28, 63, 30, 20, 0, 33]
abbrev dktX2_shuffle_2_0 : List UInt8 := dkwX2_shuffle_2_0 ++ dktX2_shuffle_2_1
theorem dksX2_shuffle_2_0 : cX2_shuffle_2.data.toList.drop 0 = dktX2_shuffle_2_0 := by decide +kernel
theorem dksX2_shuffle_2_1 : cX2_shuffle_2.data.toList.drop 24 = dktX2_shuffle_2_1 := dk_seg dksX2_shuffle_2_0 24 rfl rfl
theorem dksX2_shuffle_2_2 : cX2_shuffle_2.data.toList.drop 48 = dktX2_shuffle_2_2 := dk_seg dksX2_shuffle_2_1 24 rfl rfl
theorem dX2_shuffle_2_0 : decode cX2_shuffle_2 0 = .ok (.lload_n 0, 1) := dk_30 (dk_at dksX2_shuffle_2_0 0 rfl rfl)
theorem dX2_shuffle_2_1 : decode cX2_shuffle_2 1 = .ok (.ldc2_w 26, 3) := dk_20 0 26 (dk_at dksX2_shuffle_2_0 1 rfl rfl)
theorem dX2_shuffle_2_4 : decode cX2_shuffle_2 4 = .ok (.bipush 16, 2) := dk_16 16 (dk_at dksX2_shuffle_2_0 4 rfl rfl)
theorem dX2_shuffle_2_6 : decode cX2_shuffle_2 6 = .ok (.invokestatic 28, 3) := dk_184 0 28 (dk_at dksX2_shuffle_2_0 6 rfl rfl)
theorem dX2_shuffle_2_9 : decode cX2_shuffle_2 9 = .ok (.lstore_n 0, 1) := dk_63 (dk_at dksX2_shuffle_2_0 9 rfl rfl)
theorem dX2_shuffle_2_10 : decode cX2_shuffle_2 10 = .ok (.lload_n 0, 1) := dk_30 (dk_at dksX2_shuffle_2_0 10 rfl rfl)
theorem dX2_shuffle_2_11 : decode cX2_shuffle_2 11 = .ok (.ldc2_w 31, 3) := dk_20 0 31 (dk_at dksX2_shuffle_2_0 11 rfl rfl)
theorem dX2_shuffle_2_14 : decode cX2_shuffle_2 14 = .ok (.bipush 8, 2) := dk_16 8 (dk_at dksX2_shuffle_2_0 14 rfl rfl)
theorem dX2_shuffle_2_16 : decode cX2_shuffle_2 16 = .ok (.invokestatic 28, 3) := dk_184 0 28 (dk_at dksX2_shuffle_2_0 16 rfl rfl)
theorem dX2_shuffle_2_19 : decode cX2_shuffle_2 19 = .ok (.lstore_n 0, 1) := dk_63 (dk_at dksX2_shuffle_2_0 19 rfl rfl)
theorem dX2_shuffle_2_20 : decode cX2_shuffle_2 20 = .ok (.lload_n 0, 1) := dk_30 (dk_at dksX2_shuffle_2_0 20 rfl rfl)
theorem dX2_shuffle_2_21 : decode cX2_shuffle_2 21 = .ok (.ldc2_w 33, 3) := dk_20 0 33 (dk_at dksX2_shuffle_2_0 21 rfl rfl)
theorem dX2_shuffle_2_24 : decode cX2_shuffle_2 24 = .ok (.iconst 4, 1) := dk_7 (dk_at dksX2_shuffle_2_1 0 rfl rfl)
theorem dX2_shuffle_2_25 : decode cX2_shuffle_2 25 = .ok (.invokestatic 28, 3) := dk_184 0 28 (dk_at dksX2_shuffle_2_1 1 rfl rfl)
theorem dX2_shuffle_2_28 : decode cX2_shuffle_2 28 = .ok (.lstore_n 0, 1) := dk_63 (dk_at dksX2_shuffle_2_1 4 rfl rfl)
theorem dX2_shuffle_2_29 : decode cX2_shuffle_2 29 = .ok (.lload_n 0, 1) := dk_30 (dk_at dksX2_shuffle_2_1 5 rfl rfl)
theorem dX2_shuffle_2_30 : decode cX2_shuffle_2 30 = .ok (.ldc2_w 35, 3) := dk_20 0 35 (dk_at dksX2_shuffle_2_1 6 rfl rfl)
theorem dX2_shuffle_2_33 : decode cX2_shuffle_2 33 = .ok (.iconst 2, 1) := dk_5 (dk_at dksX2_shuffle_2_1 9 rfl rfl)
theorem dX2_shuffle_2_34 : decode cX2_shuffle_2 34 = .ok (.invokestatic 28, 3) := dk_184 0 28 (dk_at dksX2_shuffle_2_1 10 rfl rfl)
theorem dX2_shuffle_2_37 : decode cX2_shuffle_2 37 = .ok (.lstore_n 0, 1) := dk_63 (dk_at dksX2_shuffle_2_1 13 rfl rfl)
theorem dX2_shuffle_2_38 : decode cX2_shuffle_2 38 = .ok (.lload_n 0, 1) := dk_30 (dk_at dksX2_shuffle_2_1 14 rfl rfl)
theorem dX2_shuffle_2_39 : decode cX2_shuffle_2 39 = .ok (.ldc2_w 37, 3) := dk_20 0 37 (dk_at dksX2_shuffle_2_1 15 rfl rfl)
theorem dX2_shuffle_2_42 : decode cX2_shuffle_2 42 = .ok (.iconst 1, 1) := dk_4 (dk_at dksX2_shuffle_2_1 18 rfl rfl)
theorem dX2_shuffle_2_43 : decode cX2_shuffle_2 43 = .ok (.invokestatic 28, 3) := dk_184 0 28 (dk_at dksX2_shuffle_2_1 19 rfl rfl)
theorem dX2_shuffle_2_46 : decode cX2_shuffle_2 46 = .ok (.lstore_n 0, 1) := dk_63 (dk_at dksX2_shuffle_2_1 22 rfl rfl)
theorem dX2_shuffle_2_47 : decode cX2_shuffle_2 47 = .ok (.lload_n 0, 1) := dk_30 (dk_at dksX2_shuffle_2_1 23 rfl rfl)
theorem dX2_shuffle_2_48 : decode cX2_shuffle_2 48 = .ok (.lreturn, 1) := dk_173 (dk_at dksX2_shuffle_2_2 0 rfl rfl)
abbrev cX2_unshuffle_2 : ByteArray := prog_3_method_12_code
def yX2_unshuffle_2 : MethodName := ⟨RX2, "unshuffle", "(J)J"⟩
def dkwX2_unshuffle_2_2 : List UInt8 := [30, 173]
abbrev dktX2_unshuffle_2_2 : List UInt8 := dkwX2_unshuffle_2_2 ++ []
def dkwX2_unshuffle_2_1 : List UInt8 := [184, 0, 28, 63, 30, 20, 0, 31, 16, 8, 184, 0, 28, 63, 30, 20, 0, 26, 16, 16, 184, 0, 28, 63]
abbrev dktX2_unshuffle_2_1 : List UInt8 := dkwX2_unshuffle_2_1 ++ dktX2_unshuffle_2_2
def dkwX2_unshuffle_2_0 : List UInt8 := [30, 20, 0, 37, 4, 184, 0, 28, 63, 30, 20, 0, 35, 5, 184, 0, 28, 63, 30, 20, 0, 33, 7]
abbrev dktX2_unshuffle_2_0 : List UInt8 := dkwX2_unshuffle_2_0 ++ dktX2_unshuffle_2_1
theorem dksX2_unshuffle_2_0 : cX2_unshuffle_2.data.toList.drop 0 = dktX2_unshuffle_2_0 := by decide +kernel
theorem dksX2_unshuffle_2_1 : cX2_unshuffle_2.data.toList.drop 23 = dktX2_unshuffle_2_1 := dk_seg dksX2_unshuffle_2_0 23 rfl rfl
theorem dksX2_unshuffle_2_2 : cX2_unshuffle_2.data.toList.drop 47 = dktX2_unshuffle_2_2 := dk_seg dksX2_unshuffle_2_1 24 rfl rfl
theorem dX2_unshuffle_2_0 : decode cX2_unshuffle_2 0 = .ok (.lload_n 0, 1) := dk_30 (dk_at dksX2_unshuffle_2_0 0 rfl rfl)
theorem dX2_unshuffle_2_1 : decode cX2_unshuffle_2 1 = .ok (.ldc2_w 37, 3) := dk_20 0 37 (dk_at dksX2_unshuffle_2_0 1 rfl rfl)
theorem dX2_unshuffle_2_4 : decode cX2_unshuffle_2 4 = .ok (.iconst 1, 1) := dk_4 (dk_at dksX2_unshuffle_2_0 4 rfl rfl)
theorem dX2_unshuffle_2_5 : decode cX2_unshuffle_2 5 = .ok (.invokestatic 28, 3) := dk_184 0 28 (dk_at dksX2_unshuffle_2_0 5 rfl rfl)
theorem dX2_unshuffle_2_8 : decode cX2_unshuffle_2 8 = .ok (.lstore_n 0, 1) := dk_63 (dk_at dksX2_unshuffle_2_0 8 rfl rfl)
theorem dX2_unshuffle_2_9 : decode cX2_unshuffle_2 9 = .ok (.lload_n 0, 1) := dk_30 (dk_at dksX2_unshuffle_2_0 9 rfl rfl)
theorem dX2_unshuffle_2_10 : decode cX2_unshuffle_2 10 = .ok (.ldc2_w 35, 3) := dk_20 0 35 (dk_at dksX2_unshuffle_2_0 10 rfl rfl)
theorem dX2_unshuffle_2_13 : decode cX2_unshuffle_2 13 = .ok (.iconst 2, 1) := dk_5 (dk_at dksX2_unshuffle_2_0 13 rfl rfl)
theorem dX2_unshuffle_2_14 : decode cX2_unshuffle_2 14 = .ok (.invokestatic 28, 3) := dk_184 0 28 (dk_at dksX2_unshuffle_2_0 14 rfl rfl)
theorem dX2_unshuffle_2_17 : decode cX2_unshuffle_2 17 = .ok (.lstore_n 0, 1) := dk_63 (dk_at dksX2_unshuffle_2_0 17 rfl rfl)
theorem dX2_unshuffle_2_18 : decode cX2_unshuffle_2 18 = .ok (.lload_n 0, 1) := dk_30 (dk_at dksX2_unshuffle_2_0 18 rfl rfl)
theorem dX2_unshuffle_2_19 : decode cX2_unshuffle_2 19 = .ok (.ldc2_w 33, 3) := dk_20 0 33 (dk_at dksX2_unshuffle_2_0 19 rfl rfl)
theorem dX2_unshuffle_2_22 : decode cX2_unshuffle_2 22 = .ok (.iconst 4, 1) := dk_7 (dk_at dksX2_unshuffle_2_0 22 rfl rfl)
theorem dX2_unshuffle_2_23 : decode cX2_unshuffle_2 23 = .ok (.invokestatic 28, 3) := dk_184 0 28 (dk_at dksX2_unshuffle_2_1 0 rfl rfl)
theorem dX2_unshuffle_2_26 : decode cX2_unshuffle_2 26 = .ok (.lstore_n 0, 1) := dk_63 (dk_at dksX2_unshuffle_2_1 3 rfl rfl)
theorem dX2_unshuffle_2_27 : decode cX2_unshuffle_2 27 = .ok (.lload_n 0, 1) := dk_30 (dk_at dksX2_unshuffle_2_1 4 rfl rfl)
theorem dX2_unshuffle_2_28 : decode cX2_unshuffle_2 28 = .ok (.ldc2_w 31, 3) := dk_20 0 31 (dk_at dksX2_unshuffle_2_1 5 rfl rfl)
theorem dX2_unshuffle_2_31 : decode cX2_unshuffle_2 31 = .ok (.bipush 8, 2) := dk_16 8 (dk_at dksX2_unshuffle_2_1 8 rfl rfl)
theorem dX2_unshuffle_2_33 : decode cX2_unshuffle_2 33 = .ok (.invokestatic 28, 3) := dk_184 0 28 (dk_at dksX2_unshuffle_2_1 10 rfl rfl)
theorem dX2_unshuffle_2_36 : decode cX2_unshuffle_2 36 = .ok (.lstore_n 0, 1) := dk_63 (dk_at dksX2_unshuffle_2_1 13 rfl rfl)
theorem dX2_unshuffle_2_37 : decode cX2_unshuffle_2 37 = .ok (.lload_n 0, 1) := dk_30 (dk_at dksX2_unshuffle_2_1 14 rfl rfl)
theorem dX2_unshuffle_2_38 : decode cX2_unshuffle_2 38 = .ok (.ldc2_w 26, 3) := dk_20 0 26 (dk_at dksX2_unshuffle_2_1 15 rfl rfl)
theorem dX2_unshuffle_2_41 : decode cX2_unshuffle_2 41 = .ok (.bipush 16, 2) := dk_16 16 (dk_at dksX2_unshuffle_2_1 18 rfl rfl)
theorem dX2_unshuffle_2_43 : decode cX2_unshuffle_2 43 = .ok (.invokestatic 28, 3) := dk_184 0 28 (dk_at dksX2_unshuffle_2_1 20 rfl rfl)
theorem dX2_unshuffle_2_46 : decode cX2_unshuffle_2 46 = .ok (.lstore_n 0, 1) := dk_63 (dk_at dksX2_unshuffle_2_1 23 rfl rfl)
theorem dX2_unshuffle_2_47 : decode cX2_unshuffle_2 47 = .ok (.lload_n 0, 1) := dk_30 (dk_at dksX2_unshuffle_2_2 0 rfl rfl)
theorem dX2_unshuffle_2_48 : decode cX2_unshuffle_2 48 = .ok (.lreturn, 1) := dk_173 (dk_at dksX2_unshuffle_2_2 1 rfl rfl)
abbrev cX2_shuffle2 : ByteArray := prog_3_method_8_code
def yX2_shuffle2 : MethodName := ⟨RX2, "shuffle2", "(I)I"⟩
def dkwX2_shuffle2_1 : List UInt8 := [184, 0, 13, 59, 26, 18, 12, 16, 8, 184, 0, 13, 59, 26, 172]
abbrev dktX2_shuffle2_1 : List UInt8 := dkwX2_shuffle2_1 ++ []
def dkwX2_shuffle2_0 : List UInt8 := [26, 18, 41, 16, 7, 184, 0, 13, 59, 26, 18, 42, 16, 14, 184, 0, 13, 59, 26, 18, 19, 7]
abbrev dktX2_shuffle2_0 : List UInt8 := dkwX2_shuffle2_0 ++ dktX2_shuffle2_1
theorem dksX2_shuffle2_0 : cX2_shuffle2.data.toList.drop 0 = dktX2_shuffle2_0 := by decide +kernel
theorem dksX2_shuffle2_1 : cX2_shuffle2.data.toList.drop 22 = dktX2_shuffle2_1 := dk_seg dksX2_shuffle2_0 22 rfl rfl
theorem dX2_shuffle2_0 : decode cX2_shuffle2 0 = .ok (.iload_n 0, 1) := dk_26 (dk_at dksX2_shuffle2_0 0 rfl rfl)
theorem dX2_shuffle2_1 : decode cX2_shuffle2 1 = .ok (.ldc 41, 2) := dk_18 41 (dk_at dksX2_shuffle2_0 1 rfl rfl)
theorem dX2_shuffle2_3 : decode cX2_shuffle2 3 = .ok (.bipush 7, 2) := dk_16 7 (dk_at dksX2_shuffle2_0 3 rfl rfl)
theorem dX2_shuffle2_5 : decode cX2_shuffle2 5 = .ok (.invokestatic 13, 3) := dk_184 0 13 (dk_at dksX2_shuffle2_0 5 rfl rfl)
theorem dX2_shuffle2_8 : decode cX2_shuffle2 8 = .ok (.istore_n 0, 1) := dk_59 (dk_at dksX2_shuffle2_0 8 rfl rfl)
theorem dX2_shuffle2_9 : decode cX2_shuffle2 9 = .ok (.iload_n 0, 1) := dk_26 (dk_at dksX2_shuffle2_0 9 rfl rfl)
theorem dX2_shuffle2_10 : decode cX2_shuffle2 10 = .ok (.ldc 42, 2) := dk_18 42 (dk_at dksX2_shuffle2_0 10 rfl rfl)
theorem dX2_shuffle2_12 : decode cX2_shuffle2 12 = .ok (.bipush 14, 2) := dk_16 14 (dk_at dksX2_shuffle2_0 12 rfl rfl)
theorem dX2_shuffle2_14 : decode cX2_shuffle2 14 = .ok (.invokestatic 13, 3) := dk_184 0 13 (dk_at dksX2_shuffle2_0 14 rfl rfl)
theorem dX2_shuffle2_17 : decode cX2_shuffle2 17 = .ok (.istore_n 0, 1) := dk_59 (dk_at dksX2_shuffle2_0 17 rfl rfl)
theorem dX2_shuffle2_18 : decode cX2_shuffle2 18 = .ok (.iload_n 0, 1) := dk_26 (dk_at dksX2_shuffle2_0 18 rfl rfl)
theorem dX2_shuffle2_19 : decode cX2_shuffle2 19 = .ok (.ldc 19, 2) := dk_18 19 (dk_at dksX2_shuffle2_0 19 rfl rfl)
theorem dX2_shuffle2_21 : decode cX2_shuffle2 21 = .ok (.iconst 4, 1) := dk_7 (dk_at dksX2_shuffle2_0 21 rfl rfl)
theorem dX2_shuffle2_22 : decode cX2_shuffle2 22 = .ok (.invokestatic 13, 3) := dk_184 0 13 (dk_at dksX2_shuffle2_1 0 rfl rfl)
theorem dX2_shuffle2_25 : decode cX2_shuffle2 25 = .ok (.istore_n 0, 1) := dk_59 (dk_at dksX2_shuffle2_1 3 rfl rfl)
theorem dX2_shuffle2_26 : decode cX2_shuffle2 26 = .ok (.iload_n 0, 1) := dk_26 (dk_at dksX2_shuffle2_1 4 rfl rfl)
theorem dX2_shuffle2_27 : decode cX2_shuffle2 27 = .ok (.ldc 12, 2) := dk_18 12 (dk_at dksX2_shuffle2_1 5 rfl rfl)
theorem dX2_shuffle2_29 : decode cX2_shuffle2 29 = .ok (.bipush 8, 2) := dk_16 8 (dk_at dksX2_shuffle2_1 7 rfl rfl)
theorem dX2_shuffle2_31 : decode cX2_shuffle2 31 = .ok (.invokestatic 13, 3) := dk_184 0 13 (dk_at dksX2_shuffle2_1 9 rfl rfl)
theorem dX2_shuffle2_34 : decode cX2_shuffle2 34 = .ok (.istore_n 0, 1) := dk_59 (dk_at dksX2_shuffle2_1 12 rfl rfl)
theorem dX2_shuffle2_35 : decode cX2_shuffle2 35 = .ok (.iload_n 0, 1) := dk_26 (dk_at dksX2_shuffle2_1 13 rfl rfl)
theorem dX2_shuffle2_36 : decode cX2_shuffle2 36 = .ok (.ireturn, 1) := dk_172 (dk_at dksX2_shuffle2_1 14 rfl rfl)
abbrev cX2_unshuffle2 : ByteArray := prog_3_method_13_code
def yX2_unshuffle2 : MethodName := ⟨RX2, "unshuffle2", "(I)I"⟩
def dkwX2_unshuffle2_1 : List UInt8 := [184, 0, 13, 59, 26, 18, 41, 16, 7, 184, 0, 13, 59, 26, 172]
abbrev dktX2_unshuffle2_1 : List UInt8 := dkwX2_unshuffle2_1 ++ []
def dkwX2_unshuffle2_0 : List UInt8 := [26, 18, 12, 16, 8, 184, 0, 13, 59, 26, 18, 19, 7, 184, 0, 13, 59, 26, 18, 42, 16, 14]
abbrev dktX2_unshuffle2_0 : List UInt8 := dkwX2_unshuffle2_0 ++ dktX2_unshuffle2_1
theorem dksX2_unshuffle2_0 : cX2_unshuffle2.data.toList.drop 0 = dktX2_unshuffle2_0 := by decide +kernel
theorem dksX2_unshuffle2_1 : cX2_unshuffle2.data.toList.drop 22 = dktX2_unshuffle2_1 := dk_seg dksX2_unshuffle2_0 22 rfl rfl
theorem dX2_unshuffle2_0 : decode cX2_unshuffle2 0 = .ok (.iload_n 0, 1) := dk_26 (dk_at dksX2_unshuffle2_0 0 rfl rfl)
theorem dX2_unshuffle2_1 : decode cX2_unshuffle2 1 = .ok (.ldc 12, 2) := dk_18 12 (dk_at dksX2_unshuffle2_0 1 rfl rfl)
theorem dX2_unshuffle2_3 : decode cX2_unshuffle2 3 = .ok (.bipush 8, 2) := dk_16 8 (dk_at dksX2_unshuffle2_0 3 rfl rfl)
theorem dX2_unshuffle2_5 : decode cX2_unshuffle2 5 = .ok (.invokestatic 13, 3) := dk_184 0 13 (dk_at dksX2_unshuffle2_0 5 rfl rfl)
theorem dX2_unshuffle2_8 : decode cX2_unshuffle2 8 = .ok (.istore_n 0, 1) := dk_59 (dk_at dksX2_unshuffle2_0 8 rfl rfl)
theorem dX2_unshuffle2_9 : decode cX2_unshuffle2 9 = .ok (.iload_n 0, 1) := dk_26 (dk_at dksX2_unshuffle2_0 9 rfl rfl)
theorem dX2_unshuffle2_10 : decode cX2_unshuffle2 10 = .ok (.ldc 19, 2) := dk_18 19 (dk_at dksX2_unshuffle2_0 10 rfl rfl)
theorem dX2_unshuffle2_12 : decode cX2_unshuffle2 12 = .ok (.iconst 4, 1) := dk_7 (dk_at dksX2_unshuffle2_0 12 rfl rfl)
theorem dX2_unshuffle2_13 : decode cX2_unshuffle2 13 = .ok (.invokestatic 13, 3) := dk_184 0 13 (dk_at dksX2_unshuffle2_0 13 rfl rfl)
theorem dX2_unshuffle2_16 : decode cX2_unshuffle2 16 = .ok (.istore_n 0, 1) := dk_59 (dk_at dksX2_unshuffle2_0 16 rfl rfl)
theorem dX2_unshuffle2_17 : decode cX2_unshuffle2 17 = .ok (.iload_n 0, 1) := dk_26 (dk_at dksX2_unshuffle2_0 17 rfl rfl)
theorem dX2_unshuffle2_18 : decode cX2_unshuffle2 18 = .ok (.ldc 42, 2) := dk_18 42 (dk_at dksX2_unshuffle2_0 18 rfl rfl)
theorem dX2_unshuffle2_20 : decode cX2_unshuffle2 20 = .ok (.bipush 14, 2) := dk_16 14 (dk_at dksX2_unshuffle2_0 20 rfl rfl)
theorem dX2_unshuffle2_22 : decode cX2_unshuffle2 22 = .ok (.invokestatic 13, 3) := dk_184 0 13 (dk_at dksX2_unshuffle2_1 0 rfl rfl)
theorem dX2_unshuffle2_25 : decode cX2_unshuffle2 25 = .ok (.istore_n 0, 1) := dk_59 (dk_at dksX2_unshuffle2_1 3 rfl rfl)
theorem dX2_unshuffle2_26 : decode cX2_unshuffle2 26 = .ok (.iload_n 0, 1) := dk_26 (dk_at dksX2_unshuffle2_1 4 rfl rfl)
theorem dX2_unshuffle2_27 : decode cX2_unshuffle2 27 = .ok (.ldc 41, 2) := dk_18 41 (dk_at dksX2_unshuffle2_1 5 rfl rfl)
theorem dX2_unshuffle2_29 : decode cX2_unshuffle2 29 = .ok (.bipush 7, 2) := dk_16 7 (dk_at dksX2_unshuffle2_1 7 rfl rfl)
theorem dX2_unshuffle2_31 : decode cX2_unshuffle2 31 = .ok (.invokestatic 13, 3) := dk_184 0 13 (dk_at dksX2_unshuffle2_1 9 rfl rfl)
theorem dX2_unshuffle2_34 : decode cX2_unshuffle2 34 = .ok (.istore_n 0, 1) := dk_59 (dk_at dksX2_unshuffle2_1 12 rfl rfl)
theorem dX2_unshuffle2_35 : decode cX2_unshuffle2 35 = .ok (.iload_n 0, 1) := dk_26 (dk_at dksX2_unshuffle2_1 13 rfl rfl)
theorem dX2_unshuffle2_36 : decode cX2_unshuffle2 36 = .ok (.ireturn, 1) := dk_172 (dk_at dksX2_unshuffle2_1 14 rfl rfl)
abbrev cX2_shuffle2_2 : ByteArray := prog_3_method_9_code
def yX2_shuffle2_2 : MethodName := ⟨RX2, "shuffle2", "(J)J"⟩
def dkwX2_shuffle2_2_1 : List UInt8 := [16, 12, 184, 0, 28, 63, 30, 20, 0, 49, 6, 184, 0, 28, 63, 30, 173]
abbrev dktX2_shuffle2_2_1 : List UInt8 := dkwX2_shuffle2_2_1 ++ []
def dkwX2_shuffle2_2_0 : List UInt8 := [30, 20, 0, 43, 16, 24, 184, 0, 28, 63, 30, 20, 0, 45, 16, 6, 184, 0, 28, 63, 30, 20, 0, 47]
abbrev dktX2_shuffle2_2_0 : List UInt8 := dkwX2_shuffle2_2_0 ++ dktX2_shuffle2_2_1
theorem dksX2_shuffle2_2_0 : cX2_shuffle2_2.data.toList.drop 0 = dktX2_shuffle2_2_0 := by decide +kernel
theorem dksX2_shuffle2_2_1 : cX2_shuffle2_2.data.toList.drop 24 = dktX2_shuffle2_2_1 := dk_seg dksX2_shuffle2_2_0 24 rfl rfl
theorem dX2_shuffle2_2_0 : decode cX2_shuffle2_2 0 = .ok (.lload_n 0, 1) := dk_30 (dk_at dksX2_shuffle2_2_0 0 rfl rfl)
theorem dX2_shuffle2_2_1 : decode cX2_shuffle2_2 1 = .ok (.ldc2_w 43, 3) := dk_20 0 43 (dk_at dksX2_shuffle2_2_0 1 rfl rfl)
theorem dX2_shuffle2_2_4 : decode cX2_shuffle2_2 4 = .ok (.bipush 24, 2) := dk_16 24 (dk_at dksX2_shuffle2_2_0 4 rfl rfl)
theorem dX2_shuffle2_2_6 : decode cX2_shuffle2_2 6 = .ok (.invokestatic 28, 3) := dk_184 0 28 (dk_at dksX2_shuffle2_2_0 6 rfl rfl)
theorem dX2_shuffle2_2_9 : decode cX2_shuffle2_2 9 = .ok (.lstore_n 0, 1) := dk_63 (dk_at dksX2_shuffle2_2_0 9 rfl rfl)
theorem dX2_shuffle2_2_10 : decode cX2_shuffle2_2 10 = .ok (.lload_n 0, 1) := dk_30 (dk_at dksX2_shuffle2_2_0 10 rfl rfl)
theorem dX2_shuffle2_2_11 : decode cX2_shuffle2_2 11 = .ok (.ldc2_w 45, 3) := dk_20 0 45 (dk_at dksX2_shuffle2_2_0 11 rfl rfl)
theorem dX2_shuffle2_2_14 : decode cX2_shuffle2_2 14 = .ok (.bipush 6, 2) := dk_16 6 (dk_at dksX2_shuffle2_2_0 14 rfl rfl)
theorem dX2_shuffle2_2_16 : decode cX2_shuffle2_2 16 = .ok (.invokestatic 28, 3) := dk_184 0 28 (dk_at dksX2_shuffle2_2_0 16 rfl rfl)
theorem dX2_shuffle2_2_19 : decode cX2_shuffle2_2 19 = .ok (.lstore_n 0, 1) := dk_63 (dk_at dksX2_shuffle2_2_0 19 rfl rfl)
theorem dX2_shuffle2_2_20 : decode cX2_shuffle2_2 20 = .ok (.lload_n 0, 1) := dk_30 (dk_at dksX2_shuffle2_2_0 20 rfl rfl)
theorem dX2_shuffle2_2_21 : decode cX2_shuffle2_2 21 = .ok (.ldc2_w 47, 3) := dk_20 0 47 (dk_at dksX2_shuffle2_2_0 21 rfl rfl)
theorem dX2_shuffle2_2_24 : decode cX2_shuffle2_2 24 = .ok (.bipush 12, 2) := dk_16 12 (dk_at dksX2_shuffle2_2_1 0 rfl rfl)
theorem dX2_shuffle2_2_26 : decode cX2_shuffle2_2 26 = .ok (.invokestatic 28, 3) := dk_184 0 28 (dk_at dksX2_shuffle2_2_1 2 rfl rfl)
theorem dX2_shuffle2_2_29 : decode cX2_shuffle2_2 29 = .ok (.lstore_n 0, 1) := dk_63 (dk_at dksX2_shuffle2_2_1 5 rfl rfl)
theorem dX2_shuffle2_2_30 : decode cX2_shuffle2_2 30 = .ok (.lload_n 0, 1) := dk_30 (dk_at dksX2_shuffle2_2_1 6 rfl rfl)
theorem dX2_shuffle2_2_31 : decode cX2_shuffle2_2 31 = .ok (.ldc2_w 49, 3) := dk_20 0 49 (dk_at dksX2_shuffle2_2_1 7 rfl rfl)
theorem dX2_shuffle2_2_34 : decode cX2_shuffle2_2 34 = .ok (.iconst 3, 1) := dk_6 (dk_at dksX2_shuffle2_2_1 10 rfl rfl)
theorem dX2_shuffle2_2_35 : decode cX2_shuffle2_2 35 = .ok (.invokestatic 28, 3) := dk_184 0 28 (dk_at dksX2_shuffle2_2_1 11 rfl rfl)
theorem dX2_shuffle2_2_38 : decode cX2_shuffle2_2 38 = .ok (.lstore_n 0, 1) := dk_63 (dk_at dksX2_shuffle2_2_1 14 rfl rfl)
theorem dX2_shuffle2_2_39 : decode cX2_shuffle2_2 39 = .ok (.lload_n 0, 1) := dk_30 (dk_at dksX2_shuffle2_2_1 15 rfl rfl)
theorem dX2_shuffle2_2_40 : decode cX2_shuffle2_2 40 = .ok (.lreturn, 1) := dk_173 (dk_at dksX2_shuffle2_2_1 16 rfl rfl)
abbrev cX2_unshuffle2_2 : ByteArray := prog_3_method_14_code
def yX2_unshuffle2_2 : MethodName := ⟨RX2, "unshuffle2", "(J)J"⟩
def dkwX2_unshuffle2_2_1 : List UInt8 := [16, 6, 184, 0, 28, 63, 30, 20, 0, 43, 16, 24, 184, 0, 28, 63, 30, 173]
abbrev dktX2_unshuffle2_2_1 : List UInt8 := dkwX2_unshuffle2_2_1 ++ []
def dkwX2_unshuffle2_2_0 : List UInt8 := [30, 20, 0, 49, 6, 184, 0, 28, 63, 30, 20, 0, 47, 16, 12, 184, 0, 28, 63, 30, 20, 0, 45]
abbrev dktX2_unshuffle2_2_0 : List UInt8 := dkwX2_unshuffle2_2_0 ++ dktX2_unshuffle2_2_1
theorem dksX2_unshuffle2_2_0 : cX2_unshuffle2_2.data.toList.drop 0 = dktX2_unshuffle2_2_0 := by decide +kernel
theorem dksX2_unshuffle2_2_1 : cX2_unshuffle2_2.data.toList.drop 23 = dktX2_unshuffle2_2_1 := dk_seg dksX2_unshuffle2_2_0 23 rfl rfl
theorem dX2_unshuffle2_2_0 : decode cX2_unshuffle2_2 0 = .ok (.lload_n 0, 1) := dk_30 (dk_at dksX2_unshuffle2_2_0 0 rfl rfl)
theorem dX2_unshuffle2_2_1 : decode cX2_unshuffle2_2 1 = .ok (.ldc2_w 49, 3) := dk_20 0 49 (dk_at dksX2_unshuffle2_2_0 1 rfl rfl)
theorem dX2_unshuffle2_2_4 : decode cX2_unshuffle2_2 4 = .ok (.iconst 3, 1) := dk_6 (dk_at dksX2_unshuffle2_2_0 4 rfl rfl)
theorem dX2_unshuffle2_2_5 : decode cX2_unshuffle2_2 5 = .ok (.invokestatic 28, 3) := dk_184 0 28 (dk_at dksX2_unshuffle2_2_0 5 rfl rfl)
theorem dX2_unshuffle2_2_8 : decode cX2_unshuffle2_2 8 = .ok (.lstore_n 0, 1) := dk_63 (dk_at dksX2_unshuffle2_2_0 8 rfl rfl)
theorem dX2_unshuffle2_2_9 : decode cX2_unshuffle2_2 9 = .ok (.lload_n 0, 1) := dk_30 (dk_at dksX2_unshuffle2_2_0 9 rfl rfl)
theorem dX2_unshuffle2_2_10 : decode cX2_unshuffle2_2 10 = .ok (.ldc2_w 47, 3) := dk_20 0 47 (dk_at dksX2_unshuffle2_2_0 10 rfl rfl)
theorem dX2_unshuffle2_2_13 : decode cX2_unshuffle2_2 13 = .ok (.bipush 12, 2) := dk_16 12 (dk_at dksX2_unshuffle2_2_0 13 rfl rfl)
theorem dX2_unshuffle2_2_15 : decode cX2_unshuffle2_2 15 = .ok (.invokestatic 28, 3) := dk_184 0 28 (dk_at dksX2_unshuffle2_2_0 15 rfl rfl)
theorem dX2_unshuffle2_2_18 : decode cX2_unshuffle2_2 18 = .ok (.lstore_n 0, 1) := dk_63 (dk_at dksX2_unshuffle2_2_0 18 rfl rfl)
theorem dX2_unshuffle2_2_19 : decode cX2_unshuffle2_2 19 = .ok (.lload_n 0, 1) := dk_30 (dk_at dksX2_unshuffle2_2_0 19 rfl rfl)
theorem dX2_unshuffle2_2_20 : decode cX2_unshuffle2_2 20 = .ok (.ldc2_w 45, 3) := dk_20 0 45 (dk_at dksX2_unshuffle2_2_0 20 rfl rfl)
theorem dX2_unshuffle2_2_23 : decode cX2_unshuffle2_2 23 = .ok (.bipush 6, 2) := dk_16 6 (dk_at dksX2_unshuffle2_2_1 0 rfl rfl)
theorem dX2_unshuffle2_2_25 : decode cX2_unshuffle2_2 25 = .ok (.invokestatic 28, 3) := dk_184 0 28 (dk_at dksX2_unshuffle2_2_1 2 rfl rfl)
theorem dX2_unshuffle2_2_28 : decode cX2_unshuffle2_2 28 = .ok (.lstore_n 0, 1) := dk_63 (dk_at dksX2_unshuffle2_2_1 5 rfl rfl)
theorem dX2_unshuffle2_2_29 : decode cX2_unshuffle2_2 29 = .ok (.lload_n 0, 1) := dk_30 (dk_at dksX2_unshuffle2_2_1 6 rfl rfl)
theorem dX2_unshuffle2_2_30 : decode cX2_unshuffle2_2 30 = .ok (.ldc2_w 43, 3) := dk_20 0 43 (dk_at dksX2_unshuffle2_2_1 7 rfl rfl)
theorem dX2_unshuffle2_2_33 : decode cX2_unshuffle2_2 33 = .ok (.bipush 24, 2) := dk_16 24 (dk_at dksX2_unshuffle2_2_1 10 rfl rfl)
theorem dX2_unshuffle2_2_35 : decode cX2_unshuffle2_2 35 = .ok (.invokestatic 28, 3) := dk_184 0 28 (dk_at dksX2_unshuffle2_2_1 12 rfl rfl)
theorem dX2_unshuffle2_2_38 : decode cX2_unshuffle2_2 38 = .ok (.lstore_n 0, 1) := dk_63 (dk_at dksX2_unshuffle2_2_1 15 rfl rfl)
theorem dX2_unshuffle2_2_39 : decode cX2_unshuffle2_2 39 = .ok (.lload_n 0, 1) := dk_30 (dk_at dksX2_unshuffle2_2_1 16 rfl rfl)
theorem dX2_unshuffle2_2_40 : decode cX2_unshuffle2_2 40 = .ok (.lreturn, 1) := dk_173 (dk_at dksX2_unshuffle2_2_1 17 rfl rfl)
abbrev cX2_shuffle3 : ByteArray := prog_3_method_10_code
def yX2_shuffle3 : MethodName := ⟨RX2, "shuffle3", "(J)J"⟩
def dkwX2_shuffle3_1 : List UInt8 := [16, 28, 184, 0, 28, 63, 30, 173]
abbrev dktX2_shuffle3_1 : List UInt8 := dkwX2_shuffle3_1 ++ []
def dkwX2_shuffle3_0 : List UInt8 := [30, 20, 0, 51, 16, 7, 184, 0, 28, 63, 30, 20, 0, 53, 16, 14, 184, 0, 28, 63, 30, 20, 0, 55]
abbrev dktX2_shuffle3_0 : List UInt8 := dkwX2_shuffle3_0 ++ dktX2_shuffle3_1
theorem dksX2_shuffle3_0 : cX2_shuffle3.data.toList.drop 0 = dktX2_shuffle3_0 := by decide +kernel
theorem dksX2_shuffle3_1 : cX2_shuffle3.data.toList.drop 24 = dktX2_shuffle3_1 := dk_seg dksX2_shuffle3_0 24 rfl rfl
theorem dX2_shuffle3_0 : decode cX2_shuffle3 0 = .ok (.lload_n 0, 1) := dk_30 (dk_at dksX2_shuffle3_0 0 rfl rfl)
theorem dX2_shuffle3_1 : decode cX2_shuffle3 1 = .ok (.ldc2_w 51, 3) := dk_20 0 51 (dk_at dksX2_shuffle3_0 1 rfl rfl)
theorem dX2_shuffle3_4 : decode cX2_shuffle3 4 = .ok (.bipush 7, 2) := dk_16 7 (dk_at dksX2_shuffle3_0 4 rfl rfl)
theorem dX2_shuffle3_6 : decode cX2_shuffle3 6 = .ok (.invokestatic 28, 3) := dk_184 0 28 (dk_at dksX2_shuffle3_0 6 rfl rfl)
theorem dX2_shuffle3_9 : decode cX2_shuffle3 9 = .ok (.lstore_n 0, 1) := dk_63 (dk_at dksX2_shuffle3_0 9 rfl rfl)
theorem dX2_shuffle3_10 : decode cX2_shuffle3 10 = .ok (.lload_n 0, 1) := dk_30 (dk_at dksX2_shuffle3_0 10 rfl rfl)
theorem dX2_shuffle3_11 : decode cX2_shuffle3 11 = .ok (.ldc2_w 53, 3) := dk_20 0 53 (dk_at dksX2_shuffle3_0 11 rfl rfl)
theorem dX2_shuffle3_14 : decode cX2_shuffle3 14 = .ok (.bipush 14, 2) := dk_16 14 (dk_at dksX2_shuffle3_0 14 rfl rfl)
theorem dX2_shuffle3_16 : decode cX2_shuffle3 16 = .ok (.invokestatic 28, 3) := dk_184 0 28 (dk_at dksX2_shuffle3_0 16 rfl rfl)
theorem dX2_shuffle3_19 : decode cX2_shuffle3 19 = .ok (.lstore_n 0, 1) := dk_63 (dk_at dksX2_shuffle3_0 19 rfl rfl)
theorem dX2_shuffle3_20 : decode cX2_shuffle3 20 = .ok (.lload_n 0, 1) := dk_30 (dk_at dksX2_shuffle3_0 20 rfl rfl)
theorem dX2_shuffle3_21 : decode cX2_shuffle3 21 = .ok (.ldc2_w 55, 3) := dk_20 0 55 (dk_at dksX2_shuffle3_0 21 rfl rfl)
theorem dX2_shuffle3_24 : decode cX2_shuffle3 24 = .ok (.bipush 28, 2) := dk_16 28 (dk_at dksX2_shuffle3_1 0 rfl rfl)
theorem dX2_shuffle3_26 : decode cX2_shuffle3 26 = .ok (.invokestatic 28, 3) := dk_184 0 28 (dk_at dksX2_shuffle3_1 2 rfl rfl)
theorem dX2_shuffle3_29 : decode cX2_shuffle3 29 = .ok (.lstore_n 0, 1) := dk_63 (dk_at dksX2_shuffle3_1 5 rfl rfl)
theorem dX2_shuffle3_30 : decode cX2_shuffle3 30 = .ok (.lload_n 0, 1) := dk_30 (dk_at dksX2_shuffle3_1 6 rfl rfl)
theorem dX2_shuffle3_31 : decode cX2_shuffle3 31 = .ok (.lreturn, 1) := dk_173 (dk_at dksX2_shuffle3_1 7 rfl rfl)
abbrev cX2_unshuffle3 : ByteArray := prog_3_method_15_code
def yX2_unshuffle3 : MethodName := ⟨RX2, "unshuffle3", "(J)J"⟩
theorem dX2_unshuffle3_0 : decode cX2_unshuffle3 0 = .ok (.lload_n 0, 1) := by decide +kernel
theorem dX2_unshuffle3_1 : decode cX2_unshuffle3 1 = .ok (.invokestatic 57, 3) := by decide +kernel
theorem dX2_unshuffle3_4 : decode cX2_unshuffle3 4 = .ok (.lreturn, 1) := by decide +kernel
theorem q2 : (Jvm.Cond.initialized "Interleave") ∈ lw_all := lw_g (lw_at lw_m0 2 rfl) rfl
theorem q22 : (Jvm.Cond.static ({ cls := "Interleave", name := "expand8to16", desc := "(I)I" } : Jvm.MethodName)) ∈ lw_all := lw_g (lw_at lw_m0 22 rfl) rfl
theorem q23 : (Jvm.Cond.code ({ cls := "Interleave", name := "expand8to16", desc := "(I)I" } : Jvm.MethodName) prog_3_method_2_code (1 : Nat) (Option.some Jvm.ClassFile.FieldType.int)) ∈ lw_all := lw_g (lw_at lw_m0 23 rfl) rfl
theorem q29 : (Jvm.Cond.static ({ cls := "Interleave", name := "expand16to32", desc := "(I)I" } : Jvm.MethodName)) ∈ lw_all := lw_g (lw_at lw_m0 29 rfl) rfl
theorem q30 : (Jvm.Cond.code ({ cls := "Interleave", name := "expand16to32", desc := "(I)I" } : Jvm.MethodName) prog_3_method_3_code (1 : Nat) (Option.some Jvm.ClassFile.FieldType.int)) ∈ lw_all := lw_g (lw_at lw_m0 30 rfl) rfl
theorem q31 : (Jvm.Cond.constant "Interleave" (7 : Nat) (65535 : Int32)) ∈ lw_all := lw_g (lw_at lw_m0 31 rfl) rfl
theorem q32 : (Jvm.Cond.constant "Interleave" (8 : Nat) (16711935 : Int32)) ∈ lw_all := lw_g (lw_at lw_m0 32 rfl) rfl
theorem q33 : (Jvm.Cond.constant "Interleave" (9 : Nat) (252645135 : Int32)) ∈ lw_all := lw_g (lw_at lw_m0 33 rfl) rfl
theorem q34 : (Jvm.Cond.constant "Interleave" (10 : Nat) (858993459 : Int32)) ∈ lw_all := lw_g (lw_at lw_m0 34 rfl) rfl
theorem q35 : (Jvm.Cond.constant "Interleave" (11 : Nat) (1431655765 : Int32)) ∈ lw_all := lw_g (lw_at lw_m0 35 rfl) rfl
theorem q41 : (Jvm.Cond.static ({ cls := "Interleave", name := "expand32to64", desc := "(I)J" } : Jvm.MethodName)) ∈ lw_all := lw_g (lw_at lw_m0 41 rfl) rfl
theorem q42 : (Jvm.Cond.code ({ cls := "Interleave", name := "expand32to64", desc := "(I)J" } : Jvm.MethodName) prog_3_method_4_code (1 : Nat) (Option.some Jvm.ClassFile.FieldType.long)) ∈ lw_all := lw_g (lw_at lw_m0 42 rfl) rfl
theorem q43 : (Jvm.Cond.constant "Interleave" (12 : Nat) (65280 : Int32)) ∈ lw_all := lw_g (lw_at lw_m0 43 rfl) rfl
theorem q44 : (Jvm.Cond.methodLink "Interleave" (13 : Nat) ({ cls := "OwnBits", name := "bitPermuteStep", desc := "(III)I" } : Jvm.MethodName)) ∈ lw_all := lw_g (lw_at lw_m0 44 rfl) rfl
theorem q47 : (Jvm.Cond.constant "Interleave" (19 : Nat) (15728880 : Int32)) ∈ lw_all := lw_g (lw_at lw_m0 47 rfl) rfl
theorem q48 : (Jvm.Cond.constant "Interleave" (20 : Nat) (202116108 : Int32)) ∈ lw_all := lw_g (lw_at lw_m0 48 rfl) rfl
theorem q49 : (Jvm.Cond.constant "Interleave" (21 : Nat) (572662306 : Int32)) ∈ lw_all := lw_g (lw_at lw_m0 49 rfl) rfl
theorem q50 : (Jvm.Cond.constantLong "Interleave" (24 : Nat) (1431655765 : Int64)) ∈ lw_all := lw_g (lw_at lw_m0 50 rfl) rfl
theorem q60 : (Jvm.Cond.static ({ cls := "Interleave", name := "expand64To128", desc := "(J[JI)V" } : Jvm.MethodName)) ∈ lw_all := lw_g (lw_at lw_m0 60 rfl) rfl
theorem q61 : (Jvm.Cond.code ({ cls := "Interleave", name := "expand64To128", desc := "(J[JI)V" } : Jvm.MethodName) prog_3_method_5_code (4 : Nat) (Option.none : Option Jvm.ClassFile.FieldType)) ∈ lw_all := lw_g (lw_at lw_m0 61 rfl) rfl
theorem q62 : (Jvm.Cond.constantLong "Interleave" (26 : Nat) (4294901760 : Int64)) ∈ lw_all := lw_g (lw_at lw_m0 62 rfl) rfl
theorem q63 : (Jvm.Cond.methodLink "Interleave" (28 : Nat) ({ cls := "OwnBits", name := "bitPermuteStep", desc := "(JJI)J" } : Jvm.MethodName)) ∈ lw_all := lw_g (lw_at lw_m0 63 rfl) rfl
theorem q66 : (Jvm.Cond.constantLong "Interleave" (31 : Nat) (280375465148160 : Int64)) ∈ lw_all := lw_g (lw_at lw_m0 66 rfl) rfl
theorem q67 : (Jvm.Cond.constantLong "Interleave" (33 : Nat) (67555025218437360 : Int64)) ∈ lw_all := lw_g (lw_at lw_m0 67 rfl) rfl
theorem q68 : (Jvm.Cond.constantLong "Interleave" (35 : Nat) (868082074056920076 : Int64)) ∈ lw_all := lw_g (lw_at lw_m0 68 rfl) rfl
theorem q69 : (Jvm.Cond.constantLong "Interleave" (37 : Nat) (2459565876494606882 : Int64)) ∈ lw_all := lw_g (lw_at lw_m0 69 rfl) rfl
theorem q70 : (Jvm.Cond.constantLong "Interleave" (39 : Nat) (6148914691236517205 : Int64)) ∈ lw_all := lw_g (lw_at lw_m0 70 rfl) rfl
theorem q80 : (Jvm.Cond.static ({ cls := "Interleave", name := "shuffle", desc := "(I)I" } : Jvm.MethodName)) ∈ lw_all := lw_g (lw_at lw_m0 80 rfl) rfl
theorem q81 : (Jvm.Cond.code ({ cls := "Interleave", name := "shuffle", desc := "(I)I" } : Jvm.MethodName) prog_3_method_6_code (1 : Nat) (Option.some Jvm.ClassFile.FieldType.int)) ∈ lw_all := lw_g (lw_at lw_m0 81 rfl) rfl
theorem q87 : (Jvm.Cond.static ({ cls := "Interleave", name := "unshuffle", desc := "(I)I" } : Jvm.MethodName)) ∈ lw_all := lw_g (lw_at lw_m0 87 rfl) rfl
theorem q88 : (Jvm.Cond.code ({ cls := "Interleave", name := "unshuffle", desc := "(I)I" } : Jvm.MethodName) prog_3_method_11_code (1 : Nat) (Option.some Jvm.ClassFile.FieldType.int)) ∈ lw_all := lw_g (lw_at lw_m0 88 rfl) rfl
theorem q94 : (Jvm.Cond.static ({ cls := "Interleave", name := "shuffle", desc := "(J)J" } : Jvm.MethodName)) ∈ lw_all := lw_g (lw_at lw_m0 94 rfl) rfl
theorem q95 : (Jvm.Cond.code ({ cls := "Interleave", name := "shuffle", desc := "(J)J" } : Jvm.MethodName) prog_3_method_7_code (2 : Nat) (Option.some Jvm.ClassFile.FieldType.long)) ∈ lw_all := lw_g (lw_at lw_m0 95 rfl) rfl
theorem q101 : (Jvm.Cond.static ({ cls := "Interleave", name := "unshuffle", desc := "(J)J" } : Jvm.MethodName)) ∈ lw_all := lw_g (lw_at lw_m0 101 rfl) rfl
theorem q102 : (Jvm.Cond.code ({ cls := "Interleave", name := "unshuffle", desc := "(J)J" } : Jvm.MethodName) prog_3_method_12_code (2 : Nat) (Option.some Jvm.ClassFile.FieldType.long)) ∈ lw_all := lw_g (lw_at lw_m0 102 rfl) rfl
theorem q108 : (Jvm.Cond.static ({ cls := "Interleave", name := "shuffle2", desc := "(I)I" } : Jvm.MethodName)) ∈ lw_all := lw_g (lw_at lw_m0 108 rfl) rfl
theorem q109 : (Jvm.Cond.code ({ cls := "Interleave", name := "shuffle2", desc := "(I)I" } : Jvm.MethodName) prog_3_method_8_code (1 : Nat) (Option.some Jvm.ClassFile.FieldType.int)) ∈ lw_all := lw_g (lw_at lw_m0 109 rfl) rfl
theorem q110 : (Jvm.Cond.constant "Interleave" (41 : Nat) (11141290 : Int32)) ∈ lw_all := lw_g (lw_at lw_m0 110 rfl) rfl
theorem q111 : (Jvm.Cond.constant "Interleave" (42 : Nat) (52428 : Int32)) ∈ lw_all := lw_g (lw_at lw_m0 111 rfl) rfl
theorem q113 : (Jvm.Cond.static ({ cls := "Interleave", name := "unshuffle2", desc := "(I)I" } : Jvm.MethodName)) ∈ lw_all := lw_g (lw_at lw_m0 113 rfl) rfl
theorem q114 : (Jvm.Cond.code ({ cls := "Interleave", name := "unshuffle2", desc := "(I)I" } : Jvm.MethodName) prog_3_method_13_code (1 : Nat) (Option.some Jvm.ClassFile.FieldType.int)) ∈ lw_all := lw_g (lw_at lw_m0 114 rfl) rfl
theorem q120 : (Jvm.Cond.static ({ cls := "Interleave", name := "shuffle2", desc := "(J)J" } : Jvm.MethodName)) ∈ lw_all := lw_g (lw_at lw_m0 120 rfl) rfl
theorem q121 : (Jvm.Cond.code ({ cls := "Interleave", name := "shuffle2", desc := "(J)J" } : Jvm.MethodName) prog_3_method_9_code (2 : Nat) (Option.some Jvm.ClassFile.FieldType.long)) ∈ lw_all := lw_g (lw_at lw_m0 121 rfl) rfl
theorem q122 : (Jvm.Cond.constantLong "Interleave" (43 : Nat) (4278255360 : Int64)) ∈ lw_all := lw_g (lw_at lw_m0 122 rfl) rfl
theorem q123 : (Jvm.Cond.constantLong "Interleave" (45 : Nat) (57421771435671756 : Int64)) ∈ lw_all := lw_g (lw_at lw_m0 123 rfl) rfl
theorem q124 : (Jvm.Cond.constantLong "Interleave" (47 : Nat) (264913582878960 : Int64)) ∈ lw_all := lw_g (lw_at lw_m0 124 rfl) rfl
theorem q125 : (Jvm.Cond.constantLong "Interleave" (49 : Nat) (723401728380766730 : Int64)) ∈ lw_all := lw_g (lw_at lw_m0 125 rfl) rfl
theorem q127 : (Jvm.Cond.static ({ cls := "Interleave", name := "unshuffle2", desc := "(J)J" } : Jvm.MethodName)) ∈ lw_all := lw_g (lw_at lw_m0 127 rfl) rfl
theorem q128 : (Jvm.Cond.code ({ cls := "Interleave", name := "unshuffle2", desc := "(J)J" } : Jvm.MethodName) prog_3_method_14_code (2 : Nat) (Option.some Jvm.ClassFile.FieldType.long)) ∈ lw_all := lw_g (lw_at lw_m0 128 rfl) rfl
theorem q134 : (Jvm.Cond.static ({ cls := "Interleave", name := "shuffle3", desc := "(J)J" } : Jvm.MethodName)) ∈ lw_all := lw_g (lw_at lw_m0 134 rfl) rfl
theorem q135 : (Jvm.Cond.code ({ cls := "Interleave", name := "shuffle3", desc := "(J)J" } : Jvm.MethodName) prog_3_method_10_code (2 : Nat) (Option.some Jvm.ClassFile.FieldType.long)) ∈ lw_all := lw_g (lw_at lw_m0 135 rfl) rfl
theorem q136 : (Jvm.Cond.constantLong "Interleave" (51 : Nat) (47851476196393130 : Int64)) ∈ lw_all := lw_g (lw_at lw_m0 136 rfl) rfl
theorem q137 : (Jvm.Cond.constantLong "Interleave" (53 : Nat) (225176545447116 : Int64)) ∈ lw_all := lw_g (lw_at lw_m0 137 rfl) rfl
theorem q138 : (Jvm.Cond.constantLong "Interleave" (55 : Nat) (4042322160 : Int64)) ∈ lw_all := lw_g (lw_at lw_m0 138 rfl) rfl
theorem q140 : (Jvm.Cond.static ({ cls := "Interleave", name := "unshuffle3", desc := "(J)J" } : Jvm.MethodName)) ∈ lw_all := lw_g (lw_at lw_m0 140 rfl) rfl
theorem q141 : (Jvm.Cond.code ({ cls := "Interleave", name := "unshuffle3", desc := "(J)J" } : Jvm.MethodName) prog_3_method_15_code (2 : Nat) (Option.some Jvm.ClassFile.FieldType.long)) ∈ lw_all := lw_g (lw_at lw_m0 141 rfl) rfl
theorem q142 : (Jvm.Cond.methodLink "Interleave" (57 : Nat) ({ cls := "Interleave", name := "shuffle3", desc := "(J)J" } : Jvm.MethodName)) ∈ lw_all := lw_g (lw_at lw_m0 142 rfl) rfl
/-! BitWeave -/
set_option maxRecDepth 100000
def RX1 : String := "BitWeave"
def TX1 : u_T := fun k => match k with
  | _ => ("BitWeave", "pair", "[J", true)
def tyX1 : Nat → FieldType := fun k => match k with
  | _ => .array .long
abbrev wsX10 : List Cond := u_ws RX1 TX1 1
theorem nmX1 : ∀ a, a < 1 → ∀ b, b < 1 → a ≠ b → (TX1 a).2.1 ≠ (TX1 b).2.1 := by decide +kernel
theorem tyX1_ok : ∀ k, k < 1 → parseFieldDescriptor (TX1 k).2.2.1 = some (tyX1 k) := by decide +kernel
abbrev cX1_init : ByteArray := prog_1_method_1_code
def yX1_init : MethodName := ⟨RX1, "<init>", "()V"⟩
def dkwX1_init_0 : List UInt8 := [42, 183, 0, 1, 42, 5, 188, 11, 181, 0, 7, 177]
abbrev dktX1_init_0 : List UInt8 := dkwX1_init_0 ++ []
theorem dksX1_init_0 : cX1_init.data.toList.drop 0 = dktX1_init_0 := by decide +kernel
theorem dX1_init_0 : decode cX1_init 0 = .ok (.aload_n 0, 1) := dk_42 (dk_at dksX1_init_0 0 rfl rfl)
theorem dX1_init_1 : decode cX1_init 1 = .ok (.invokespecial 1, 3) := dk_183 0 1 (dk_at dksX1_init_0 1 rfl rfl)
theorem dX1_init_4 : decode cX1_init 4 = .ok (.aload_n 0, 1) := dk_42 (dk_at dksX1_init_0 4 rfl rfl)
theorem dX1_init_5 : decode cX1_init 5 = .ok (.iconst 2, 1) := dk_5 (dk_at dksX1_init_0 5 rfl rfl)
theorem dX1_init_6 : decode cX1_init 6 = .ok (.newarray .long, 2) := dk_188_11 (dk_at dksX1_init_0 6 rfl rfl)
theorem dX1_init_8 : decode cX1_init 8 = .ok (.putfield 7, 3) := dk_181 0 7 (dk_at dksX1_init_0 8 rfl rfl)
theorem dX1_init_11 : decode cX1_init 11 = .ok (.return_, 1) := dk_177 (dk_at dksX1_init_0 11 rfl rfl)
abbrev cX1_byteOut : ByteArray := prog_1_method_3_code
def yX1_byteOut : MethodName := ⟨RX1, "byteOut", "(I)I"⟩
theorem dX1_byteOut_0 : decode cX1_byteOut 0 = .ok (.iload_n 1, 1) := by decide +kernel
theorem dX1_byteOut_1 : decode cX1_byteOut 1 = .ok (.invokestatic 15, 3) := by decide +kernel
theorem dX1_byteOut_4 : decode cX1_byteOut 4 = .ok (.ireturn, 1) := by decide +kernel
abbrev cX1_halfOut : ByteArray := prog_1_method_4_code
def yX1_halfOut : MethodName := ⟨RX1, "halfOut", "(I)I"⟩
theorem dX1_halfOut_0 : decode cX1_halfOut 0 = .ok (.iload_n 1, 1) := by decide +kernel
theorem dX1_halfOut_1 : decode cX1_halfOut 1 = .ok (.invokestatic 21, 3) := by decide +kernel
theorem dX1_halfOut_4 : decode cX1_halfOut 4 = .ok (.ireturn, 1) := by decide +kernel
abbrev cX1_wordOut : ByteArray := prog_1_method_5_code
def yX1_wordOut : MethodName := ⟨RX1, "wordOut", "(I)J"⟩
theorem dX1_wordOut_0 : decode cX1_wordOut 0 = .ok (.iload_n 1, 1) := by decide +kernel
theorem dX1_wordOut_1 : decode cX1_wordOut 1 = .ok (.invokestatic 24, 3) := by decide +kernel
theorem dX1_wordOut_4 : decode cX1_wordOut 4 = .ok (.lreturn, 1) := by decide +kernel
abbrev cX1_longOut : ByteArray := prog_1_method_6_code
def yX1_longOut : MethodName := ⟨RX1, "longOut", "(II)V"⟩
def dkwX1_longOut_0 : List UInt8 := [27, 28, 184, 0, 28, 42, 180, 0, 7, 3, 184, 0, 32, 177]
abbrev dktX1_longOut_0 : List UInt8 := dkwX1_longOut_0 ++ []
theorem dksX1_longOut_0 : cX1_longOut.data.toList.drop 0 = dktX1_longOut_0 := by decide +kernel
theorem dX1_longOut_0 : decode cX1_longOut 0 = .ok (.iload_n 1, 1) := dk_27 (dk_at dksX1_longOut_0 0 rfl rfl)
theorem dX1_longOut_1 : decode cX1_longOut 1 = .ok (.iload_n 2, 1) := dk_28 (dk_at dksX1_longOut_0 1 rfl rfl)
theorem dX1_longOut_2 : decode cX1_longOut 2 = .ok (.invokestatic 28, 3) := dk_184 0 28 (dk_at dksX1_longOut_0 2 rfl rfl)
theorem dX1_longOut_5 : decode cX1_longOut 5 = .ok (.aload_n 0, 1) := dk_42 (dk_at dksX1_longOut_0 5 rfl rfl)
theorem dX1_longOut_6 : decode cX1_longOut 6 = .ok (.getfield 7, 3) := dk_180 0 7 (dk_at dksX1_longOut_0 6 rfl rfl)
theorem dX1_longOut_9 : decode cX1_longOut 9 = .ok (.iconst 0, 1) := dk_3 (dk_at dksX1_longOut_0 9 rfl rfl)
theorem dX1_longOut_10 : decode cX1_longOut 10 = .ok (.invokestatic 32, 3) := dk_184 0 32 (dk_at dksX1_longOut_0 10 rfl rfl)
theorem dX1_longOut_13 : decode cX1_longOut 13 = .ok (.return_, 1) := dk_177 (dk_at dksX1_longOut_0 13 rfl rfl)
abbrev cX1_wide : ByteArray := prog_1_method_2_code
def yX1_wide : MethodName := ⟨RX1, "wide", "(II)J"⟩
def dkwX1_wide_0 : List UInt8 := [26, 133, 16, 32, 121, 27, 133, 20, 0, 13, 127, 129, 173]
abbrev dktX1_wide_0 : List UInt8 := dkwX1_wide_0 ++ []
theorem dksX1_wide_0 : cX1_wide.data.toList.drop 0 = dktX1_wide_0 := by decide +kernel
theorem dX1_wide_0 : decode cX1_wide 0 = .ok (.iload_n 0, 1) := dk_26 (dk_at dksX1_wide_0 0 rfl rfl)
theorem dX1_wide_1 : decode cX1_wide 1 = .ok (.i2l, 1) := dk_133 (dk_at dksX1_wide_0 1 rfl rfl)
theorem dX1_wide_2 : decode cX1_wide 2 = .ok (.bipush 32, 2) := dk_16 32 (dk_at dksX1_wide_0 2 rfl rfl)
theorem dX1_wide_4 : decode cX1_wide 4 = .ok (.lshl, 1) := dk_121 (dk_at dksX1_wide_0 4 rfl rfl)
theorem dX1_wide_5 : decode cX1_wide 5 = .ok (.iload_n 1, 1) := dk_27 (dk_at dksX1_wide_0 5 rfl rfl)
theorem dX1_wide_6 : decode cX1_wide 6 = .ok (.i2l, 1) := dk_133 (dk_at dksX1_wide_0 6 rfl rfl)
theorem dX1_wide_7 : decode cX1_wide 7 = .ok (.ldc2_w 13, 3) := dk_20 0 13 (dk_at dksX1_wide_0 7 rfl rfl)
theorem dX1_wide_10 : decode cX1_wide 10 = .ok (.land, 1) := dk_127 (dk_at dksX1_wide_0 10 rfl rfl)
theorem dX1_wide_11 : decode cX1_wide 11 = .ok (.lor, 1) := dk_129 (dk_at dksX1_wide_0 11 rfl rfl)
theorem dX1_wide_12 : decode cX1_wide 12 = .ok (.lreturn, 1) := dk_173 (dk_at dksX1_wide_0 12 rfl rfl)
abbrev cX1_pair : ByteArray := prog_1_method_7_code
def yX1_pair : MethodName := ⟨RX1, "pair", "(I)J"⟩
def dkwX1_pair_0 : List UInt8 := [42, 180, 0, 7, 27, 4, 126, 47, 173]
abbrev dktX1_pair_0 : List UInt8 := dkwX1_pair_0 ++ []
theorem dksX1_pair_0 : cX1_pair.data.toList.drop 0 = dktX1_pair_0 := by decide +kernel
theorem dX1_pair_0 : decode cX1_pair 0 = .ok (.aload_n 0, 1) := dk_42 (dk_at dksX1_pair_0 0 rfl rfl)
theorem dX1_pair_1 : decode cX1_pair 1 = .ok (.getfield 7, 3) := dk_180 0 7 (dk_at dksX1_pair_0 1 rfl rfl)
theorem dX1_pair_4 : decode cX1_pair 4 = .ok (.iload_n 1, 1) := dk_27 (dk_at dksX1_pair_0 4 rfl rfl)
theorem dX1_pair_5 : decode cX1_pair 5 = .ok (.iconst 1, 1) := dk_4 (dk_at dksX1_pair_0 5 rfl rfl)
theorem dX1_pair_6 : decode cX1_pair 6 = .ok (.iand, 1) := dk_126 (dk_at dksX1_pair_0 6 rfl rfl)
theorem dX1_pair_7 : decode cX1_pair 7 = .ok (.laload, 1) := dk_47 (dk_at dksX1_pair_0 7 rfl rfl)
theorem dX1_pair_8 : decode cX1_pair 8 = .ok (.lreturn, 1) := dk_173 (dk_at dksX1_pair_0 8 rfl rfl)
abbrev cX1_shuffle : ByteArray := prog_1_method_8_code
def yX1_shuffle : MethodName := ⟨RX1, "shuffle", "(I)I"⟩
theorem dX1_shuffle_0 : decode cX1_shuffle 0 = .ok (.iload_n 1, 1) := by decide +kernel
theorem dX1_shuffle_1 : decode cX1_shuffle 1 = .ok (.invokestatic 36, 3) := by decide +kernel
theorem dX1_shuffle_4 : decode cX1_shuffle 4 = .ok (.ireturn, 1) := by decide +kernel
abbrev cX1_unshuffle : ByteArray := prog_1_method_9_code
def yX1_unshuffle : MethodName := ⟨RX1, "unshuffle", "(I)I"⟩
theorem dX1_unshuffle_0 : decode cX1_unshuffle 0 = .ok (.iload_n 1, 1) := by decide +kernel
theorem dX1_unshuffle_1 : decode cX1_unshuffle 1 = .ok (.invokestatic 39, 3) := by decide +kernel
theorem dX1_unshuffle_4 : decode cX1_unshuffle 4 = .ok (.ireturn, 1) := by decide +kernel
abbrev cX1_longShuffle : ByteArray := prog_1_method_10_code
def yX1_longShuffle : MethodName := ⟨RX1, "longShuffle", "(II)J"⟩
def dkwX1_longShuffle_0 : List UInt8 := [27, 28, 184, 0, 28, 184, 0, 42, 173]
abbrev dktX1_longShuffle_0 : List UInt8 := dkwX1_longShuffle_0 ++ []
theorem dksX1_longShuffle_0 : cX1_longShuffle.data.toList.drop 0 = dktX1_longShuffle_0 := by decide +kernel
theorem dX1_longShuffle_0 : decode cX1_longShuffle 0 = .ok (.iload_n 1, 1) := dk_27 (dk_at dksX1_longShuffle_0 0 rfl rfl)
theorem dX1_longShuffle_1 : decode cX1_longShuffle 1 = .ok (.iload_n 2, 1) := dk_28 (dk_at dksX1_longShuffle_0 1 rfl rfl)
theorem dX1_longShuffle_2 : decode cX1_longShuffle 2 = .ok (.invokestatic 28, 3) := dk_184 0 28 (dk_at dksX1_longShuffle_0 2 rfl rfl)
theorem dX1_longShuffle_5 : decode cX1_longShuffle 5 = .ok (.invokestatic 42, 3) := dk_184 0 42 (dk_at dksX1_longShuffle_0 5 rfl rfl)
theorem dX1_longShuffle_8 : decode cX1_longShuffle 8 = .ok (.lreturn, 1) := dk_173 (dk_at dksX1_longShuffle_0 8 rfl rfl)
abbrev cX1_longUnshuffle : ByteArray := prog_1_method_11_code
def yX1_longUnshuffle : MethodName := ⟨RX1, "longUnshuffle", "(II)J"⟩
def dkwX1_longUnshuffle_0 : List UInt8 := [27, 28, 184, 0, 28, 184, 0, 45, 173]
abbrev dktX1_longUnshuffle_0 : List UInt8 := dkwX1_longUnshuffle_0 ++ []
theorem dksX1_longUnshuffle_0 : cX1_longUnshuffle.data.toList.drop 0 = dktX1_longUnshuffle_0 := by decide +kernel
theorem dX1_longUnshuffle_0 : decode cX1_longUnshuffle 0 = .ok (.iload_n 1, 1) := dk_27 (dk_at dksX1_longUnshuffle_0 0 rfl rfl)
theorem dX1_longUnshuffle_1 : decode cX1_longUnshuffle 1 = .ok (.iload_n 2, 1) := dk_28 (dk_at dksX1_longUnshuffle_0 1 rfl rfl)
theorem dX1_longUnshuffle_2 : decode cX1_longUnshuffle 2 = .ok (.invokestatic 28, 3) := dk_184 0 28 (dk_at dksX1_longUnshuffle_0 2 rfl rfl)
theorem dX1_longUnshuffle_5 : decode cX1_longUnshuffle 5 = .ok (.invokestatic 45, 3) := dk_184 0 45 (dk_at dksX1_longUnshuffle_0 5 rfl rfl)
theorem dX1_longUnshuffle_8 : decode cX1_longUnshuffle 8 = .ok (.lreturn, 1) := dk_173 (dk_at dksX1_longUnshuffle_0 8 rfl rfl)
abbrev cX1_there : ByteArray := prog_1_method_12_code
def yX1_there : MethodName := ⟨RX1, "there", "(I)I"⟩
def dkwX1_there_0 : List UInt8 := [27, 184, 0, 47, 184, 0, 50, 172]
abbrev dktX1_there_0 : List UInt8 := dkwX1_there_0 ++ []
theorem dksX1_there_0 : cX1_there.data.toList.drop 0 = dktX1_there_0 := by decide +kernel
theorem dX1_there_0 : decode cX1_there 0 = .ok (.iload_n 1, 1) := dk_27 (dk_at dksX1_there_0 0 rfl rfl)
theorem dX1_there_1 : decode cX1_there 1 = .ok (.invokestatic 47, 3) := dk_184 0 47 (dk_at dksX1_there_0 1 rfl rfl)
theorem dX1_there_4 : decode cX1_there 4 = .ok (.invokestatic 50, 3) := dk_184 0 50 (dk_at dksX1_there_0 4 rfl rfl)
theorem dX1_there_7 : decode cX1_there 7 = .ok (.ireturn, 1) := dk_172 (dk_at dksX1_there_0 7 rfl rfl)
abbrev cX1_longThere : ByteArray := prog_1_method_13_code
def yX1_longThere : MethodName := ⟨RX1, "longThere", "(II)J"⟩
def dkwX1_longThere_0 : List UInt8 := [27, 28, 184, 0, 28, 184, 0, 53, 184, 0, 55, 173]
abbrev dktX1_longThere_0 : List UInt8 := dkwX1_longThere_0 ++ []
theorem dksX1_longThere_0 : cX1_longThere.data.toList.drop 0 = dktX1_longThere_0 := by decide +kernel
theorem dX1_longThere_0 : decode cX1_longThere 0 = .ok (.iload_n 1, 1) := dk_27 (dk_at dksX1_longThere_0 0 rfl rfl)
theorem dX1_longThere_1 : decode cX1_longThere 1 = .ok (.iload_n 2, 1) := dk_28 (dk_at dksX1_longThere_0 1 rfl rfl)
theorem dX1_longThere_2 : decode cX1_longThere 2 = .ok (.invokestatic 28, 3) := dk_184 0 28 (dk_at dksX1_longThere_0 2 rfl rfl)
theorem dX1_longThere_5 : decode cX1_longThere 5 = .ok (.invokestatic 53, 3) := dk_184 0 53 (dk_at dksX1_longThere_0 5 rfl rfl)
theorem dX1_longThere_8 : decode cX1_longThere 8 = .ok (.invokestatic 55, 3) := dk_184 0 55 (dk_at dksX1_longThere_0 8 rfl rfl)
theorem dX1_longThere_11 : decode cX1_longThere 11 = .ok (.lreturn, 1) := dk_173 (dk_at dksX1_longThere_0 11 rfl rfl)
abbrev cX1_thrice : ByteArray := prog_1_method_14_code
def yX1_thrice : MethodName := ⟨RX1, "thrice", "(II)J"⟩
def dkwX1_thrice_0 : List UInt8 := [27, 28, 184, 0, 28, 184, 0, 57, 184, 0, 60, 173]
abbrev dktX1_thrice_0 : List UInt8 := dkwX1_thrice_0 ++ []
theorem dksX1_thrice_0 : cX1_thrice.data.toList.drop 0 = dktX1_thrice_0 := by decide +kernel
theorem dX1_thrice_0 : decode cX1_thrice 0 = .ok (.iload_n 1, 1) := dk_27 (dk_at dksX1_thrice_0 0 rfl rfl)
theorem dX1_thrice_1 : decode cX1_thrice 1 = .ok (.iload_n 2, 1) := dk_28 (dk_at dksX1_thrice_0 1 rfl rfl)
theorem dX1_thrice_2 : decode cX1_thrice 2 = .ok (.invokestatic 28, 3) := dk_184 0 28 (dk_at dksX1_thrice_0 2 rfl rfl)
theorem dX1_thrice_5 : decode cX1_thrice 5 = .ok (.invokestatic 57, 3) := dk_184 0 57 (dk_at dksX1_thrice_0 5 rfl rfl)
theorem dX1_thrice_8 : decode cX1_thrice 8 = .ok (.invokestatic 60, 3) := dk_184 0 60 (dk_at dksX1_thrice_0 8 rfl rfl)
theorem dX1_thrice_11 : decode cX1_thrice 11 = .ok (.lreturn, 1) := dk_173 (dk_at dksX1_thrice_0 11 rfl rfl)
theorem q1 : (Jvm.Cond.initialized "BitWeave") ∈ lw_all := lw_g (lw_at lw_m0 1 rfl) rfl
theorem q5 : (Jvm.Cond.instantiable "BitWeave" (1 : Nat)) ∈ lw_all := lw_g (lw_at lw_m0 5 rfl) rfl
theorem q7 : (Jvm.Cond.instanceMethod ({ cls := "BitWeave", name := "<init>", desc := "()V" } : Jvm.MethodName)) ∈ lw_all := lw_g (lw_at lw_m0 7 rfl) rfl
theorem q8 : (Jvm.Cond.code ({ cls := "BitWeave", name := "<init>", desc := "()V" } : Jvm.MethodName) prog_1_method_1_code (1 : Nat) (Option.none : Option Jvm.ClassFile.FieldType)) ∈ lw_all := lw_g (lw_at lw_m0 8 rfl) rfl
theorem q9 : (Jvm.Cond.methodLink "BitWeave" (1 : Nat) ({ cls := "java/lang/Object", name := "<init>", desc := "()V" } : Jvm.MethodName)) ∈ lw_all := lw_g (lw_at lw_m0 9 rfl) rfl
theorem q12 : (Jvm.Cond.fieldLink "BitWeave" (7 : Nat) "BitWeave" "pair" "[J") ∈ lw_all := lw_g (lw_at lw_m0 12 rfl) rfl
theorem q13 : (Jvm.Cond.laysFinal "BitWeave" "BitWeave" "pair" "[J") ∈ lw_all := lw_g (lw_at lw_m0 13 rfl) rfl
theorem q14 : (Jvm.Cond.soleField "BitWeave" "pair") ∈ lw_all := lw_g (lw_at lw_m0 14 rfl) rfl
theorem q15 : (Jvm.Cond.superclass "BitWeave" "java/lang/Object") ∈ lw_all := lw_g (lw_at lw_m0 15 rfl) rfl
theorem q18 : (Jvm.Cond.instanceMethod ({ cls := "BitWeave", name := "byteOut", desc := "(I)I" } : Jvm.MethodName)) ∈ lw_all := lw_g (lw_at lw_m0 18 rfl) rfl
theorem q19 : (Jvm.Cond.selects "BitWeave" ({ cls := "BitWeave", name := "byteOut", desc := "(I)I" } : Jvm.MethodName) ({ cls := "BitWeave", name := "byteOut", desc := "(I)I" } : Jvm.MethodName)) ∈ lw_all := lw_g (lw_at lw_m0 19 rfl) rfl
theorem q20 : (Jvm.Cond.code ({ cls := "BitWeave", name := "byteOut", desc := "(I)I" } : Jvm.MethodName) prog_1_method_3_code (2 : Nat) (Option.some Jvm.ClassFile.FieldType.int)) ∈ lw_all := lw_g (lw_at lw_m0 20 rfl) rfl
theorem q21 : (Jvm.Cond.methodLink "BitWeave" (15 : Nat) ({ cls := "Interleave", name := "expand8to16", desc := "(I)I" } : Jvm.MethodName)) ∈ lw_all := lw_g (lw_at lw_m0 21 rfl) rfl
theorem q25 : (Jvm.Cond.instanceMethod ({ cls := "BitWeave", name := "halfOut", desc := "(I)I" } : Jvm.MethodName)) ∈ lw_all := lw_g (lw_at lw_m0 25 rfl) rfl
theorem q26 : (Jvm.Cond.selects "BitWeave" ({ cls := "BitWeave", name := "halfOut", desc := "(I)I" } : Jvm.MethodName) ({ cls := "BitWeave", name := "halfOut", desc := "(I)I" } : Jvm.MethodName)) ∈ lw_all := lw_g (lw_at lw_m0 26 rfl) rfl
theorem q27 : (Jvm.Cond.code ({ cls := "BitWeave", name := "halfOut", desc := "(I)I" } : Jvm.MethodName) prog_1_method_4_code (2 : Nat) (Option.some Jvm.ClassFile.FieldType.int)) ∈ lw_all := lw_g (lw_at lw_m0 27 rfl) rfl
theorem q28 : (Jvm.Cond.methodLink "BitWeave" (21 : Nat) ({ cls := "Interleave", name := "expand16to32", desc := "(I)I" } : Jvm.MethodName)) ∈ lw_all := lw_g (lw_at lw_m0 28 rfl) rfl
theorem q37 : (Jvm.Cond.instanceMethod ({ cls := "BitWeave", name := "wordOut", desc := "(I)J" } : Jvm.MethodName)) ∈ lw_all := lw_g (lw_at lw_m0 37 rfl) rfl
theorem q38 : (Jvm.Cond.selects "BitWeave" ({ cls := "BitWeave", name := "wordOut", desc := "(I)J" } : Jvm.MethodName) ({ cls := "BitWeave", name := "wordOut", desc := "(I)J" } : Jvm.MethodName)) ∈ lw_all := lw_g (lw_at lw_m0 38 rfl) rfl
theorem q39 : (Jvm.Cond.code ({ cls := "BitWeave", name := "wordOut", desc := "(I)J" } : Jvm.MethodName) prog_1_method_5_code (2 : Nat) (Option.some Jvm.ClassFile.FieldType.long)) ∈ lw_all := lw_g (lw_at lw_m0 39 rfl) rfl
theorem q40 : (Jvm.Cond.methodLink "BitWeave" (24 : Nat) ({ cls := "Interleave", name := "expand32to64", desc := "(I)J" } : Jvm.MethodName)) ∈ lw_all := lw_g (lw_at lw_m0 40 rfl) rfl
theorem q52 : (Jvm.Cond.instanceMethod ({ cls := "BitWeave", name := "longOut", desc := "(II)V" } : Jvm.MethodName)) ∈ lw_all := lw_g (lw_at lw_m0 52 rfl) rfl
theorem q53 : (Jvm.Cond.selects "BitWeave" ({ cls := "BitWeave", name := "longOut", desc := "(II)V" } : Jvm.MethodName) ({ cls := "BitWeave", name := "longOut", desc := "(II)V" } : Jvm.MethodName)) ∈ lw_all := lw_g (lw_at lw_m0 53 rfl) rfl
theorem q54 : (Jvm.Cond.code ({ cls := "BitWeave", name := "longOut", desc := "(II)V" } : Jvm.MethodName) prog_1_method_6_code (3 : Nat) (Option.none : Option Jvm.ClassFile.FieldType)) ∈ lw_all := lw_g (lw_at lw_m0 54 rfl) rfl
theorem q55 : (Jvm.Cond.methodLink "BitWeave" (28 : Nat) ({ cls := "BitWeave", name := "wide", desc := "(II)J" } : Jvm.MethodName)) ∈ lw_all := lw_g (lw_at lw_m0 55 rfl) rfl
theorem q56 : (Jvm.Cond.static ({ cls := "BitWeave", name := "wide", desc := "(II)J" } : Jvm.MethodName)) ∈ lw_all := lw_g (lw_at lw_m0 56 rfl) rfl
theorem q57 : (Jvm.Cond.code ({ cls := "BitWeave", name := "wide", desc := "(II)J" } : Jvm.MethodName) prog_1_method_2_code (2 : Nat) (Option.some Jvm.ClassFile.FieldType.long)) ∈ lw_all := lw_g (lw_at lw_m0 57 rfl) rfl
theorem q58 : (Jvm.Cond.constantLong "BitWeave" (13 : Nat) (4294967295 : Int64)) ∈ lw_all := lw_g (lw_at lw_m0 58 rfl) rfl
theorem q59 : (Jvm.Cond.methodLink "BitWeave" (32 : Nat) ({ cls := "Interleave", name := "expand64To128", desc := "(J[JI)V" } : Jvm.MethodName)) ∈ lw_all := lw_g (lw_at lw_m0 59 rfl) rfl
theorem q72 : (Jvm.Cond.instanceMethod ({ cls := "BitWeave", name := "pair", desc := "(I)J" } : Jvm.MethodName)) ∈ lw_all := lw_g (lw_at lw_m0 72 rfl) rfl
theorem q73 : (Jvm.Cond.selects "BitWeave" ({ cls := "BitWeave", name := "pair", desc := "(I)J" } : Jvm.MethodName) ({ cls := "BitWeave", name := "pair", desc := "(I)J" } : Jvm.MethodName)) ∈ lw_all := lw_g (lw_at lw_m0 73 rfl) rfl
theorem q74 : (Jvm.Cond.code ({ cls := "BitWeave", name := "pair", desc := "(I)J" } : Jvm.MethodName) prog_1_method_7_code (2 : Nat) (Option.some Jvm.ClassFile.FieldType.long)) ∈ lw_all := lw_g (lw_at lw_m0 74 rfl) rfl
theorem q76 : (Jvm.Cond.instanceMethod ({ cls := "BitWeave", name := "shuffle", desc := "(I)I" } : Jvm.MethodName)) ∈ lw_all := lw_g (lw_at lw_m0 76 rfl) rfl
theorem q77 : (Jvm.Cond.selects "BitWeave" ({ cls := "BitWeave", name := "shuffle", desc := "(I)I" } : Jvm.MethodName) ({ cls := "BitWeave", name := "shuffle", desc := "(I)I" } : Jvm.MethodName)) ∈ lw_all := lw_g (lw_at lw_m0 77 rfl) rfl
theorem q78 : (Jvm.Cond.code ({ cls := "BitWeave", name := "shuffle", desc := "(I)I" } : Jvm.MethodName) prog_1_method_8_code (2 : Nat) (Option.some Jvm.ClassFile.FieldType.int)) ∈ lw_all := lw_g (lw_at lw_m0 78 rfl) rfl
theorem q79 : (Jvm.Cond.methodLink "BitWeave" (36 : Nat) ({ cls := "Interleave", name := "shuffle", desc := "(I)I" } : Jvm.MethodName)) ∈ lw_all := lw_g (lw_at lw_m0 79 rfl) rfl
theorem q83 : (Jvm.Cond.instanceMethod ({ cls := "BitWeave", name := "unshuffle", desc := "(I)I" } : Jvm.MethodName)) ∈ lw_all := lw_g (lw_at lw_m0 83 rfl) rfl
theorem q84 : (Jvm.Cond.selects "BitWeave" ({ cls := "BitWeave", name := "unshuffle", desc := "(I)I" } : Jvm.MethodName) ({ cls := "BitWeave", name := "unshuffle", desc := "(I)I" } : Jvm.MethodName)) ∈ lw_all := lw_g (lw_at lw_m0 84 rfl) rfl
theorem q85 : (Jvm.Cond.code ({ cls := "BitWeave", name := "unshuffle", desc := "(I)I" } : Jvm.MethodName) prog_1_method_9_code (2 : Nat) (Option.some Jvm.ClassFile.FieldType.int)) ∈ lw_all := lw_g (lw_at lw_m0 85 rfl) rfl
theorem q86 : (Jvm.Cond.methodLink "BitWeave" (39 : Nat) ({ cls := "Interleave", name := "unshuffle", desc := "(I)I" } : Jvm.MethodName)) ∈ lw_all := lw_g (lw_at lw_m0 86 rfl) rfl
theorem q90 : (Jvm.Cond.instanceMethod ({ cls := "BitWeave", name := "longShuffle", desc := "(II)J" } : Jvm.MethodName)) ∈ lw_all := lw_g (lw_at lw_m0 90 rfl) rfl
theorem q91 : (Jvm.Cond.selects "BitWeave" ({ cls := "BitWeave", name := "longShuffle", desc := "(II)J" } : Jvm.MethodName) ({ cls := "BitWeave", name := "longShuffle", desc := "(II)J" } : Jvm.MethodName)) ∈ lw_all := lw_g (lw_at lw_m0 91 rfl) rfl
theorem q92 : (Jvm.Cond.code ({ cls := "BitWeave", name := "longShuffle", desc := "(II)J" } : Jvm.MethodName) prog_1_method_10_code (3 : Nat) (Option.some Jvm.ClassFile.FieldType.long)) ∈ lw_all := lw_g (lw_at lw_m0 92 rfl) rfl
theorem q93 : (Jvm.Cond.methodLink "BitWeave" (42 : Nat) ({ cls := "Interleave", name := "shuffle", desc := "(J)J" } : Jvm.MethodName)) ∈ lw_all := lw_g (lw_at lw_m0 93 rfl) rfl
theorem q97 : (Jvm.Cond.instanceMethod ({ cls := "BitWeave", name := "longUnshuffle", desc := "(II)J" } : Jvm.MethodName)) ∈ lw_all := lw_g (lw_at lw_m0 97 rfl) rfl
theorem q98 : (Jvm.Cond.selects "BitWeave" ({ cls := "BitWeave", name := "longUnshuffle", desc := "(II)J" } : Jvm.MethodName) ({ cls := "BitWeave", name := "longUnshuffle", desc := "(II)J" } : Jvm.MethodName)) ∈ lw_all := lw_g (lw_at lw_m0 98 rfl) rfl
theorem q99 : (Jvm.Cond.code ({ cls := "BitWeave", name := "longUnshuffle", desc := "(II)J" } : Jvm.MethodName) prog_1_method_11_code (3 : Nat) (Option.some Jvm.ClassFile.FieldType.long)) ∈ lw_all := lw_g (lw_at lw_m0 99 rfl) rfl
theorem q100 : (Jvm.Cond.methodLink "BitWeave" (45 : Nat) ({ cls := "Interleave", name := "unshuffle", desc := "(J)J" } : Jvm.MethodName)) ∈ lw_all := lw_g (lw_at lw_m0 100 rfl) rfl
theorem q104 : (Jvm.Cond.instanceMethod ({ cls := "BitWeave", name := "there", desc := "(I)I" } : Jvm.MethodName)) ∈ lw_all := lw_g (lw_at lw_m0 104 rfl) rfl
theorem q105 : (Jvm.Cond.selects "BitWeave" ({ cls := "BitWeave", name := "there", desc := "(I)I" } : Jvm.MethodName) ({ cls := "BitWeave", name := "there", desc := "(I)I" } : Jvm.MethodName)) ∈ lw_all := lw_g (lw_at lw_m0 105 rfl) rfl
theorem q106 : (Jvm.Cond.code ({ cls := "BitWeave", name := "there", desc := "(I)I" } : Jvm.MethodName) prog_1_method_12_code (2 : Nat) (Option.some Jvm.ClassFile.FieldType.int)) ∈ lw_all := lw_g (lw_at lw_m0 106 rfl) rfl
theorem q107 : (Jvm.Cond.methodLink "BitWeave" (47 : Nat) ({ cls := "Interleave", name := "shuffle2", desc := "(I)I" } : Jvm.MethodName)) ∈ lw_all := lw_g (lw_at lw_m0 107 rfl) rfl
theorem q112 : (Jvm.Cond.methodLink "BitWeave" (50 : Nat) ({ cls := "Interleave", name := "unshuffle2", desc := "(I)I" } : Jvm.MethodName)) ∈ lw_all := lw_g (lw_at lw_m0 112 rfl) rfl
theorem q116 : (Jvm.Cond.instanceMethod ({ cls := "BitWeave", name := "longThere", desc := "(II)J" } : Jvm.MethodName)) ∈ lw_all := lw_g (lw_at lw_m0 116 rfl) rfl
theorem q117 : (Jvm.Cond.selects "BitWeave" ({ cls := "BitWeave", name := "longThere", desc := "(II)J" } : Jvm.MethodName) ({ cls := "BitWeave", name := "longThere", desc := "(II)J" } : Jvm.MethodName)) ∈ lw_all := lw_g (lw_at lw_m0 117 rfl) rfl
theorem q118 : (Jvm.Cond.code ({ cls := "BitWeave", name := "longThere", desc := "(II)J" } : Jvm.MethodName) prog_1_method_13_code (3 : Nat) (Option.some Jvm.ClassFile.FieldType.long)) ∈ lw_all := lw_g (lw_at lw_m0 118 rfl) rfl
theorem q119 : (Jvm.Cond.methodLink "BitWeave" (53 : Nat) ({ cls := "Interleave", name := "shuffle2", desc := "(J)J" } : Jvm.MethodName)) ∈ lw_all := lw_g (lw_at lw_m0 119 rfl) rfl
theorem q126 : (Jvm.Cond.methodLink "BitWeave" (55 : Nat) ({ cls := "Interleave", name := "unshuffle2", desc := "(J)J" } : Jvm.MethodName)) ∈ lw_all := lw_g (lw_at lw_m0 126 rfl) rfl
theorem q130 : (Jvm.Cond.instanceMethod ({ cls := "BitWeave", name := "thrice", desc := "(II)J" } : Jvm.MethodName)) ∈ lw_all := lw_g (lw_at lw_m0 130 rfl) rfl
theorem q131 : (Jvm.Cond.selects "BitWeave" ({ cls := "BitWeave", name := "thrice", desc := "(II)J" } : Jvm.MethodName) ({ cls := "BitWeave", name := "thrice", desc := "(II)J" } : Jvm.MethodName)) ∈ lw_all := lw_g (lw_at lw_m0 131 rfl) rfl
theorem q132 : (Jvm.Cond.code ({ cls := "BitWeave", name := "thrice", desc := "(II)J" } : Jvm.MethodName) prog_1_method_14_code (3 : Nat) (Option.some Jvm.ClassFile.FieldType.long)) ∈ lw_all := lw_g (lw_at lw_m0 132 rfl) rfl
theorem q133 : (Jvm.Cond.methodLink "BitWeave" (57 : Nat) ({ cls := "Interleave", name := "shuffle3", desc := "(J)J" } : Jvm.MethodName)) ∈ lw_all := lw_g (lw_at lw_m0 133 rfl) rfl
theorem q139 : (Jvm.Cond.methodLink "BitWeave" (60 : Nat) ({ cls := "Interleave", name := "unshuffle3", desc := "(J)J" } : Jvm.MethodName)) ∈ lw_all := lw_g (lw_at lw_m0 139 rfl) rfl
theorem in_X1 : ∀ w ∈ wsX10, w ∈ lw_all := lw_in wsX10 [13] (by decide +kernel) (by decide +kernel)
/-! BitWeaveLaw -/
set_option maxRecDepth 100000
def RX0 : String := "BitWeaveLaw"
abbrev cX0_cell : ByteArray := method_2_code
def yX0_cell : MethodName := ⟨RX0, "cell", "([II)I"⟩
def dkwX0_cell_0 : List UInt8 := [27, 42, 190, 162, 0, 9, 42, 27, 46, 167, 0, 4, 3, 172]
abbrev dktX0_cell_0 : List UInt8 := dkwX0_cell_0 ++ []
theorem dksX0_cell_0 : cX0_cell.data.toList.drop 0 = dktX0_cell_0 := by decide +kernel
theorem dX0_cell_0 : decode cX0_cell 0 = .ok (.iload_n 1, 1) := dk_27 (dk_at dksX0_cell_0 0 rfl rfl)
theorem dX0_cell_1 : decode cX0_cell 1 = .ok (.aload_n 0, 1) := dk_42 (dk_at dksX0_cell_0 1 rfl rfl)
theorem dX0_cell_2 : decode cX0_cell 2 = .ok (.arraylength, 1) := dk_190 (dk_at dksX0_cell_0 2 rfl rfl)
theorem dX0_cell_3 : decode cX0_cell 3 = .ok (.if_icmp .ge 9, 3) := dk_162 0 9 (dk_at dksX0_cell_0 3 rfl rfl)
theorem dX0_cell_6 : decode cX0_cell 6 = .ok (.aload_n 0, 1) := dk_42 (dk_at dksX0_cell_0 6 rfl rfl)
theorem dX0_cell_7 : decode cX0_cell 7 = .ok (.iload_n 1, 1) := dk_27 (dk_at dksX0_cell_0 7 rfl rfl)
theorem dX0_cell_8 : decode cX0_cell 8 = .ok (.iaload, 1) := dk_46 (dk_at dksX0_cell_0 8 rfl rfl)
theorem dX0_cell_9 : decode cX0_cell 9 = .ok (.goto 4, 3) := dk_167 0 4 (dk_at dksX0_cell_0 9 rfl rfl)
theorem dX0_cell_12 : decode cX0_cell 12 = .ok (.iconst 0, 1) := dk_3 (dk_at dksX0_cell_0 12 rfl rfl)
theorem dX0_cell_13 : decode cX0_cell 13 = .ok (.ireturn, 1) := dk_172 (dk_at dksX0_cell_0 13 rfl rfl)
abbrev cX0_rest : ByteArray := method_4_code
def yX0_rest : MethodName := ⟨RX0, "rest", "([I)Z"⟩
def dkwX0_rest_10 : List UInt8 := [167, 0, 4, 3, 172]
abbrev dktX0_rest_10 : List UInt8 := dkwX0_rest_10 ++ []
def dkwX0_rest_9 : List UInt8 := [182, 0, 29, 148, 154, 0, 21, 43, 4, 182, 0, 38, 43, 29, 182, 0, 29, 148, 154, 0, 7, 4]
abbrev dktX0_rest_9 : List UInt8 := dkwX0_rest_9 ++ dktX0_rest_10
def dkwX0_rest_8 : List UInt8 := [4, 182, 0, 38, 148, 153, 0, 5, 3, 172, 43, 29, 28, 182, 0, 18, 43, 3, 182, 0, 38, 43, 28]
abbrev dktX0_rest_8 : List UInt8 := dkwX0_rest_8 ++ dktX0_rest_9
def dkwX0_rest_7 : List UInt8 := [28, 16, 254, 126, 182, 0, 38, 43, 3, 182, 0, 38, 148, 154, 0, 19, 43, 28, 4, 128, 182, 0, 38, 43]
abbrev dktX0_rest_7 : List UInt8 := dkwX0_rest_7 ++ dktX0_rest_8
def dkwX0_rest_6 : List UInt8 := [43, 29, 182, 0, 29, 148, 154, 0, 50, 43, 4, 182, 0, 38, 43, 28, 182, 0, 29, 148, 154, 0, 36, 43]
abbrev dktX0_rest_6 : List UInt8 := dkwX0_rest_6 ++ dktX0_rest_7
def dkwX0_rest_5 : List UInt8 := [29, 28, 182, 0, 41, 88, 43, 29, 28, 182, 0, 57, 88, 43, 28, 182, 0, 48, 87, 43, 3, 182, 0, 38]
abbrev dktX0_rest_5 : List UInt8 := dkwX0_rest_5 ++ dktX0_rest_6
def dkwX0_rest_4 : List UInt8 := [159, 0, 5, 3, 172, 43, 28, 29, 182, 0, 18, 43, 28, 182, 0, 29, 88, 43, 28, 182, 0, 35, 87, 43]
abbrev dktX0_rest_4 : List UInt8 := dkwX0_rest_4 ++ dktX0_rest_5
def dkwX0_rest_3 : List UInt8 := [17, 0, 255, 126, 182, 0, 22, 160, 0, 20, 43, 29, 182, 0, 26, 43, 29, 18, 68, 126, 182, 0, 29, 136]
abbrev dktX0_rest_3 : List UInt8 := dkwX0_rest_3 ++ dktX0_rest_4
def dkwX0_rest_2 : List UInt8 := [182, 0, 22, 43, 29, 17, 0, 255, 126, 182, 0, 26, 160, 0, 37, 43, 29, 182, 0, 22, 43, 29]
abbrev dktX0_rest_2 : List UInt8 := dkwX0_rest_2 ++ dktX0_rest_3
def dkwX0_rest_1 : List UInt8 := [182, 0, 38, 9, 148, 154, 0, 13, 43, 4, 182, 0, 38, 9, 148, 153, 0, 5, 3, 172, 43, 29]
abbrev dktX0_rest_1 : List UInt8 := dkwX0_rest_1 ++ dktX0_rest_2
def dkwX0_rest_0 : List UInt8 := [187, 0, 7, 89, 183, 0, 9, 76, 42, 3, 184, 0, 10, 61, 42, 4, 184, 0, 10, 62, 43, 3]
abbrev dktX0_rest_0 : List UInt8 := dkwX0_rest_0 ++ dktX0_rest_1
theorem dksX0_rest_0 : cX0_rest.data.toList.drop 0 = dktX0_rest_0 := by decide +kernel
theorem dksX0_rest_1 : cX0_rest.data.toList.drop 22 = dktX0_rest_1 := dk_seg dksX0_rest_0 22 rfl rfl
theorem dksX0_rest_2 : cX0_rest.data.toList.drop 44 = dktX0_rest_2 := dk_seg dksX0_rest_1 22 rfl rfl
theorem dksX0_rest_3 : cX0_rest.data.toList.drop 66 = dktX0_rest_3 := dk_seg dksX0_rest_2 22 rfl rfl
theorem dksX0_rest_4 : cX0_rest.data.toList.drop 90 = dktX0_rest_4 := dk_seg dksX0_rest_3 24 rfl rfl
theorem dksX0_rest_5 : cX0_rest.data.toList.drop 114 = dktX0_rest_5 := dk_seg dksX0_rest_4 24 rfl rfl
theorem dksX0_rest_6 : cX0_rest.data.toList.drop 138 = dktX0_rest_6 := dk_seg dksX0_rest_5 24 rfl rfl
theorem dksX0_rest_7 : cX0_rest.data.toList.drop 162 = dktX0_rest_7 := dk_seg dksX0_rest_6 24 rfl rfl
theorem dksX0_rest_8 : cX0_rest.data.toList.drop 186 = dktX0_rest_8 := dk_seg dksX0_rest_7 24 rfl rfl
theorem dksX0_rest_9 : cX0_rest.data.toList.drop 209 = dktX0_rest_9 := dk_seg dksX0_rest_8 23 rfl rfl
theorem dksX0_rest_10 : cX0_rest.data.toList.drop 231 = dktX0_rest_10 := dk_seg dksX0_rest_9 22 rfl rfl
theorem dX0_rest_0 : decode cX0_rest 0 = .ok (.new 7, 3) := dk_187 0 7 (dk_at dksX0_rest_0 0 rfl rfl)
theorem dX0_rest_3 : decode cX0_rest 3 = .ok (.dup, 1) := dk_89 (dk_at dksX0_rest_0 3 rfl rfl)
theorem dX0_rest_4 : decode cX0_rest 4 = .ok (.invokespecial 9, 3) := dk_183 0 9 (dk_at dksX0_rest_0 4 rfl rfl)
theorem dX0_rest_7 : decode cX0_rest 7 = .ok (.astore_n 1, 1) := dk_76 (dk_at dksX0_rest_0 7 rfl rfl)
theorem dX0_rest_8 : decode cX0_rest 8 = .ok (.aload_n 0, 1) := dk_42 (dk_at dksX0_rest_0 8 rfl rfl)
theorem dX0_rest_9 : decode cX0_rest 9 = .ok (.iconst 0, 1) := dk_3 (dk_at dksX0_rest_0 9 rfl rfl)
theorem dX0_rest_10 : decode cX0_rest 10 = .ok (.invokestatic 10, 3) := dk_184 0 10 (dk_at dksX0_rest_0 10 rfl rfl)
theorem dX0_rest_13 : decode cX0_rest 13 = .ok (.istore_n 2, 1) := dk_61 (dk_at dksX0_rest_0 13 rfl rfl)
theorem dX0_rest_14 : decode cX0_rest 14 = .ok (.aload_n 0, 1) := dk_42 (dk_at dksX0_rest_0 14 rfl rfl)
theorem dX0_rest_15 : decode cX0_rest 15 = .ok (.iconst 1, 1) := dk_4 (dk_at dksX0_rest_0 15 rfl rfl)
theorem dX0_rest_16 : decode cX0_rest 16 = .ok (.invokestatic 10, 3) := dk_184 0 10 (dk_at dksX0_rest_0 16 rfl rfl)
theorem dX0_rest_19 : decode cX0_rest 19 = .ok (.istore_n 3, 1) := dk_62 (dk_at dksX0_rest_0 19 rfl rfl)
theorem dX0_rest_20 : decode cX0_rest 20 = .ok (.aload_n 1, 1) := dk_43 (dk_at dksX0_rest_0 20 rfl rfl)
theorem dX0_rest_21 : decode cX0_rest 21 = .ok (.iconst 0, 1) := dk_3 (dk_at dksX0_rest_0 21 rfl rfl)
theorem dX0_rest_22 : decode cX0_rest 22 = .ok (.invokevirtual 38, 3) := dk_182 0 38 (dk_at dksX0_rest_1 0 rfl rfl)
theorem dX0_rest_25 : decode cX0_rest 25 = .ok (.lconst 0, 1) := dk_9 (dk_at dksX0_rest_1 3 rfl rfl)
theorem dX0_rest_26 : decode cX0_rest 26 = .ok (.lcmp, 1) := dk_148 (dk_at dksX0_rest_1 4 rfl rfl)
theorem dX0_rest_27 : decode cX0_rest 27 = .ok (.ifCond .ne 13, 3) := dk_154 0 13 (dk_at dksX0_rest_1 5 rfl rfl)
theorem dX0_rest_30 : decode cX0_rest 30 = .ok (.aload_n 1, 1) := dk_43 (dk_at dksX0_rest_1 8 rfl rfl)
theorem dX0_rest_31 : decode cX0_rest 31 = .ok (.iconst 1, 1) := dk_4 (dk_at dksX0_rest_1 9 rfl rfl)
theorem dX0_rest_32 : decode cX0_rest 32 = .ok (.invokevirtual 38, 3) := dk_182 0 38 (dk_at dksX0_rest_1 10 rfl rfl)
theorem dX0_rest_35 : decode cX0_rest 35 = .ok (.lconst 0, 1) := dk_9 (dk_at dksX0_rest_1 13 rfl rfl)
theorem dX0_rest_36 : decode cX0_rest 36 = .ok (.lcmp, 1) := dk_148 (dk_at dksX0_rest_1 14 rfl rfl)
theorem dX0_rest_37 : decode cX0_rest 37 = .ok (.ifCond .eq 5, 3) := dk_153 0 5 (dk_at dksX0_rest_1 15 rfl rfl)
theorem dX0_rest_40 : decode cX0_rest 40 = .ok (.iconst 0, 1) := dk_3 (dk_at dksX0_rest_1 18 rfl rfl)
theorem dX0_rest_41 : decode cX0_rest 41 = .ok (.ireturn, 1) := dk_172 (dk_at dksX0_rest_1 19 rfl rfl)
theorem dX0_rest_42 : decode cX0_rest 42 = .ok (.aload_n 1, 1) := dk_43 (dk_at dksX0_rest_1 20 rfl rfl)
theorem dX0_rest_43 : decode cX0_rest 43 = .ok (.iload_n 3, 1) := dk_29 (dk_at dksX0_rest_1 21 rfl rfl)
theorem dX0_rest_44 : decode cX0_rest 44 = .ok (.invokevirtual 22, 3) := dk_182 0 22 (dk_at dksX0_rest_2 0 rfl rfl)
theorem dX0_rest_47 : decode cX0_rest 47 = .ok (.aload_n 1, 1) := dk_43 (dk_at dksX0_rest_2 3 rfl rfl)
theorem dX0_rest_48 : decode cX0_rest 48 = .ok (.iload_n 3, 1) := dk_29 (dk_at dksX0_rest_2 4 rfl rfl)
theorem dX0_rest_49 : decode cX0_rest 49 = .ok (.sipush 255, 3) := dk_17 0 255 (dk_at dksX0_rest_2 5 rfl rfl)
theorem dX0_rest_52 : decode cX0_rest 52 = .ok (.iand, 1) := dk_126 (dk_at dksX0_rest_2 8 rfl rfl)
theorem dX0_rest_53 : decode cX0_rest 53 = .ok (.invokevirtual 26, 3) := dk_182 0 26 (dk_at dksX0_rest_2 9 rfl rfl)
theorem dX0_rest_56 : decode cX0_rest 56 = .ok (.if_icmp .ne 37, 3) := dk_160 0 37 (dk_at dksX0_rest_2 12 rfl rfl)
theorem dX0_rest_59 : decode cX0_rest 59 = .ok (.aload_n 1, 1) := dk_43 (dk_at dksX0_rest_2 15 rfl rfl)
theorem dX0_rest_60 : decode cX0_rest 60 = .ok (.iload_n 3, 1) := dk_29 (dk_at dksX0_rest_2 16 rfl rfl)
theorem dX0_rest_61 : decode cX0_rest 61 = .ok (.invokevirtual 22, 3) := dk_182 0 22 (dk_at dksX0_rest_2 17 rfl rfl)
theorem dX0_rest_64 : decode cX0_rest 64 = .ok (.aload_n 1, 1) := dk_43 (dk_at dksX0_rest_2 20 rfl rfl)
theorem dX0_rest_65 : decode cX0_rest 65 = .ok (.iload_n 3, 1) := dk_29 (dk_at dksX0_rest_2 21 rfl rfl)
theorem dX0_rest_66 : decode cX0_rest 66 = .ok (.sipush 255, 3) := dk_17 0 255 (dk_at dksX0_rest_3 0 rfl rfl)
theorem dX0_rest_69 : decode cX0_rest 69 = .ok (.iand, 1) := dk_126 (dk_at dksX0_rest_3 3 rfl rfl)
theorem dX0_rest_70 : decode cX0_rest 70 = .ok (.invokevirtual 22, 3) := dk_182 0 22 (dk_at dksX0_rest_3 4 rfl rfl)
theorem dX0_rest_73 : decode cX0_rest 73 = .ok (.if_icmp .ne 20, 3) := dk_160 0 20 (dk_at dksX0_rest_3 7 rfl rfl)
theorem dX0_rest_76 : decode cX0_rest 76 = .ok (.aload_n 1, 1) := dk_43 (dk_at dksX0_rest_3 10 rfl rfl)
theorem dX0_rest_77 : decode cX0_rest 77 = .ok (.iload_n 3, 1) := dk_29 (dk_at dksX0_rest_3 11 rfl rfl)
theorem dX0_rest_78 : decode cX0_rest 78 = .ok (.invokevirtual 26, 3) := dk_182 0 26 (dk_at dksX0_rest_3 12 rfl rfl)
theorem dX0_rest_81 : decode cX0_rest 81 = .ok (.aload_n 1, 1) := dk_43 (dk_at dksX0_rest_3 15 rfl rfl)
theorem dX0_rest_82 : decode cX0_rest 82 = .ok (.iload_n 3, 1) := dk_29 (dk_at dksX0_rest_3 16 rfl rfl)
theorem dX0_rest_83 : decode cX0_rest 83 = .ok (.ldc 68, 2) := dk_18 68 (dk_at dksX0_rest_3 17 rfl rfl)
theorem dX0_rest_85 : decode cX0_rest 85 = .ok (.iand, 1) := dk_126 (dk_at dksX0_rest_3 19 rfl rfl)
theorem dX0_rest_86 : decode cX0_rest 86 = .ok (.invokevirtual 29, 3) := dk_182 0 29 (dk_at dksX0_rest_3 20 rfl rfl)
theorem dX0_rest_89 : decode cX0_rest 89 = .ok (.l2i, 1) := dk_136 (dk_at dksX0_rest_3 23 rfl rfl)
theorem dX0_rest_90 : decode cX0_rest 90 = .ok (.if_icmp .eq 5, 3) := dk_159 0 5 (dk_at dksX0_rest_4 0 rfl rfl)
theorem dX0_rest_93 : decode cX0_rest 93 = .ok (.iconst 0, 1) := dk_3 (dk_at dksX0_rest_4 3 rfl rfl)
theorem dX0_rest_94 : decode cX0_rest 94 = .ok (.ireturn, 1) := dk_172 (dk_at dksX0_rest_4 4 rfl rfl)
theorem dX0_rest_95 : decode cX0_rest 95 = .ok (.aload_n 1, 1) := dk_43 (dk_at dksX0_rest_4 5 rfl rfl)
theorem dX0_rest_96 : decode cX0_rest 96 = .ok (.iload_n 2, 1) := dk_28 (dk_at dksX0_rest_4 6 rfl rfl)
theorem dX0_rest_97 : decode cX0_rest 97 = .ok (.iload_n 3, 1) := dk_29 (dk_at dksX0_rest_4 7 rfl rfl)
theorem dX0_rest_98 : decode cX0_rest 98 = .ok (.invokevirtual 18, 3) := dk_182 0 18 (dk_at dksX0_rest_4 8 rfl rfl)
theorem dX0_rest_101 : decode cX0_rest 101 = .ok (.aload_n 1, 1) := dk_43 (dk_at dksX0_rest_4 11 rfl rfl)
theorem dX0_rest_102 : decode cX0_rest 102 = .ok (.iload_n 2, 1) := dk_28 (dk_at dksX0_rest_4 12 rfl rfl)
theorem dX0_rest_103 : decode cX0_rest 103 = .ok (.invokevirtual 29, 3) := dk_182 0 29 (dk_at dksX0_rest_4 13 rfl rfl)
theorem dX0_rest_106 : decode cX0_rest 106 = .ok (.pop2, 1) := dk_88 (dk_at dksX0_rest_4 16 rfl rfl)
theorem dX0_rest_107 : decode cX0_rest 107 = .ok (.aload_n 1, 1) := dk_43 (dk_at dksX0_rest_4 17 rfl rfl)
theorem dX0_rest_108 : decode cX0_rest 108 = .ok (.iload_n 2, 1) := dk_28 (dk_at dksX0_rest_4 18 rfl rfl)
theorem dX0_rest_109 : decode cX0_rest 109 = .ok (.invokevirtual 35, 3) := dk_182 0 35 (dk_at dksX0_rest_4 19 rfl rfl)
theorem dX0_rest_112 : decode cX0_rest 112 = .ok (.pop, 1) := dk_87 (dk_at dksX0_rest_4 22 rfl rfl)
theorem dX0_rest_113 : decode cX0_rest 113 = .ok (.aload_n 1, 1) := dk_43 (dk_at dksX0_rest_4 23 rfl rfl)
theorem dX0_rest_114 : decode cX0_rest 114 = .ok (.iload_n 3, 1) := dk_29 (dk_at dksX0_rest_5 0 rfl rfl)
theorem dX0_rest_115 : decode cX0_rest 115 = .ok (.iload_n 2, 1) := dk_28 (dk_at dksX0_rest_5 1 rfl rfl)
theorem dX0_rest_116 : decode cX0_rest 116 = .ok (.invokevirtual 41, 3) := dk_182 0 41 (dk_at dksX0_rest_5 2 rfl rfl)
theorem dX0_rest_119 : decode cX0_rest 119 = .ok (.pop2, 1) := dk_88 (dk_at dksX0_rest_5 5 rfl rfl)
theorem dX0_rest_120 : decode cX0_rest 120 = .ok (.aload_n 1, 1) := dk_43 (dk_at dksX0_rest_5 6 rfl rfl)
theorem dX0_rest_121 : decode cX0_rest 121 = .ok (.iload_n 3, 1) := dk_29 (dk_at dksX0_rest_5 7 rfl rfl)
theorem dX0_rest_122 : decode cX0_rest 122 = .ok (.iload_n 2, 1) := dk_28 (dk_at dksX0_rest_5 8 rfl rfl)
theorem dX0_rest_123 : decode cX0_rest 123 = .ok (.invokevirtual 57, 3) := dk_182 0 57 (dk_at dksX0_rest_5 9 rfl rfl)
theorem dX0_rest_126 : decode cX0_rest 126 = .ok (.pop2, 1) := dk_88 (dk_at dksX0_rest_5 12 rfl rfl)
theorem dX0_rest_127 : decode cX0_rest 127 = .ok (.aload_n 1, 1) := dk_43 (dk_at dksX0_rest_5 13 rfl rfl)
theorem dX0_rest_128 : decode cX0_rest 128 = .ok (.iload_n 2, 1) := dk_28 (dk_at dksX0_rest_5 14 rfl rfl)
theorem dX0_rest_129 : decode cX0_rest 129 = .ok (.invokevirtual 48, 3) := dk_182 0 48 (dk_at dksX0_rest_5 15 rfl rfl)
theorem dX0_rest_132 : decode cX0_rest 132 = .ok (.pop, 1) := dk_87 (dk_at dksX0_rest_5 18 rfl rfl)
theorem dX0_rest_133 : decode cX0_rest 133 = .ok (.aload_n 1, 1) := dk_43 (dk_at dksX0_rest_5 19 rfl rfl)
theorem dX0_rest_134 : decode cX0_rest 134 = .ok (.iconst 0, 1) := dk_3 (dk_at dksX0_rest_5 20 rfl rfl)
theorem dX0_rest_135 : decode cX0_rest 135 = .ok (.invokevirtual 38, 3) := dk_182 0 38 (dk_at dksX0_rest_5 21 rfl rfl)
theorem dX0_rest_138 : decode cX0_rest 138 = .ok (.aload_n 1, 1) := dk_43 (dk_at dksX0_rest_6 0 rfl rfl)
theorem dX0_rest_139 : decode cX0_rest 139 = .ok (.iload_n 3, 1) := dk_29 (dk_at dksX0_rest_6 1 rfl rfl)
theorem dX0_rest_140 : decode cX0_rest 140 = .ok (.invokevirtual 29, 3) := dk_182 0 29 (dk_at dksX0_rest_6 2 rfl rfl)
theorem dX0_rest_143 : decode cX0_rest 143 = .ok (.lcmp, 1) := dk_148 (dk_at dksX0_rest_6 5 rfl rfl)
theorem dX0_rest_144 : decode cX0_rest 144 = .ok (.ifCond .ne 50, 3) := dk_154 0 50 (dk_at dksX0_rest_6 6 rfl rfl)
theorem dX0_rest_147 : decode cX0_rest 147 = .ok (.aload_n 1, 1) := dk_43 (dk_at dksX0_rest_6 9 rfl rfl)
theorem dX0_rest_148 : decode cX0_rest 148 = .ok (.iconst 1, 1) := dk_4 (dk_at dksX0_rest_6 10 rfl rfl)
theorem dX0_rest_149 : decode cX0_rest 149 = .ok (.invokevirtual 38, 3) := dk_182 0 38 (dk_at dksX0_rest_6 11 rfl rfl)
theorem dX0_rest_152 : decode cX0_rest 152 = .ok (.aload_n 1, 1) := dk_43 (dk_at dksX0_rest_6 14 rfl rfl)
theorem dX0_rest_153 : decode cX0_rest 153 = .ok (.iload_n 2, 1) := dk_28 (dk_at dksX0_rest_6 15 rfl rfl)
theorem dX0_rest_154 : decode cX0_rest 154 = .ok (.invokevirtual 29, 3) := dk_182 0 29 (dk_at dksX0_rest_6 16 rfl rfl)
theorem dX0_rest_157 : decode cX0_rest 157 = .ok (.lcmp, 1) := dk_148 (dk_at dksX0_rest_6 19 rfl rfl)
theorem dX0_rest_158 : decode cX0_rest 158 = .ok (.ifCond .ne 36, 3) := dk_154 0 36 (dk_at dksX0_rest_6 20 rfl rfl)
theorem dX0_rest_161 : decode cX0_rest 161 = .ok (.aload_n 1, 1) := dk_43 (dk_at dksX0_rest_6 23 rfl rfl)
theorem dX0_rest_162 : decode cX0_rest 162 = .ok (.iload_n 2, 1) := dk_28 (dk_at dksX0_rest_7 0 rfl rfl)
theorem dX0_rest_163 : decode cX0_rest 163 = .ok (.bipush (-2), 2) := dk_16 254 (dk_at dksX0_rest_7 1 rfl rfl)
theorem dX0_rest_165 : decode cX0_rest 165 = .ok (.iand, 1) := dk_126 (dk_at dksX0_rest_7 3 rfl rfl)
theorem dX0_rest_166 : decode cX0_rest 166 = .ok (.invokevirtual 38, 3) := dk_182 0 38 (dk_at dksX0_rest_7 4 rfl rfl)
theorem dX0_rest_169 : decode cX0_rest 169 = .ok (.aload_n 1, 1) := dk_43 (dk_at dksX0_rest_7 7 rfl rfl)
theorem dX0_rest_170 : decode cX0_rest 170 = .ok (.iconst 0, 1) := dk_3 (dk_at dksX0_rest_7 8 rfl rfl)
theorem dX0_rest_171 : decode cX0_rest 171 = .ok (.invokevirtual 38, 3) := dk_182 0 38 (dk_at dksX0_rest_7 9 rfl rfl)
theorem dX0_rest_174 : decode cX0_rest 174 = .ok (.lcmp, 1) := dk_148 (dk_at dksX0_rest_7 12 rfl rfl)
theorem dX0_rest_175 : decode cX0_rest 175 = .ok (.ifCond .ne 19, 3) := dk_154 0 19 (dk_at dksX0_rest_7 13 rfl rfl)
theorem dX0_rest_178 : decode cX0_rest 178 = .ok (.aload_n 1, 1) := dk_43 (dk_at dksX0_rest_7 16 rfl rfl)
theorem dX0_rest_179 : decode cX0_rest 179 = .ok (.iload_n 2, 1) := dk_28 (dk_at dksX0_rest_7 17 rfl rfl)
theorem dX0_rest_180 : decode cX0_rest 180 = .ok (.iconst 1, 1) := dk_4 (dk_at dksX0_rest_7 18 rfl rfl)
theorem dX0_rest_181 : decode cX0_rest 181 = .ok (.ior, 1) := dk_128 (dk_at dksX0_rest_7 19 rfl rfl)
theorem dX0_rest_182 : decode cX0_rest 182 = .ok (.invokevirtual 38, 3) := dk_182 0 38 (dk_at dksX0_rest_7 20 rfl rfl)
theorem dX0_rest_185 : decode cX0_rest 185 = .ok (.aload_n 1, 1) := dk_43 (dk_at dksX0_rest_7 23 rfl rfl)
theorem dX0_rest_186 : decode cX0_rest 186 = .ok (.iconst 1, 1) := dk_4 (dk_at dksX0_rest_8 0 rfl rfl)
theorem dX0_rest_187 : decode cX0_rest 187 = .ok (.invokevirtual 38, 3) := dk_182 0 38 (dk_at dksX0_rest_8 1 rfl rfl)
theorem dX0_rest_190 : decode cX0_rest 190 = .ok (.lcmp, 1) := dk_148 (dk_at dksX0_rest_8 4 rfl rfl)
theorem dX0_rest_191 : decode cX0_rest 191 = .ok (.ifCond .eq 5, 3) := dk_153 0 5 (dk_at dksX0_rest_8 5 rfl rfl)
theorem dX0_rest_194 : decode cX0_rest 194 = .ok (.iconst 0, 1) := dk_3 (dk_at dksX0_rest_8 8 rfl rfl)
theorem dX0_rest_195 : decode cX0_rest 195 = .ok (.ireturn, 1) := dk_172 (dk_at dksX0_rest_8 9 rfl rfl)
theorem dX0_rest_196 : decode cX0_rest 196 = .ok (.aload_n 1, 1) := dk_43 (dk_at dksX0_rest_8 10 rfl rfl)
theorem dX0_rest_197 : decode cX0_rest 197 = .ok (.iload_n 3, 1) := dk_29 (dk_at dksX0_rest_8 11 rfl rfl)
theorem dX0_rest_198 : decode cX0_rest 198 = .ok (.iload_n 2, 1) := dk_28 (dk_at dksX0_rest_8 12 rfl rfl)
theorem dX0_rest_199 : decode cX0_rest 199 = .ok (.invokevirtual 18, 3) := dk_182 0 18 (dk_at dksX0_rest_8 13 rfl rfl)
theorem dX0_rest_202 : decode cX0_rest 202 = .ok (.aload_n 1, 1) := dk_43 (dk_at dksX0_rest_8 16 rfl rfl)
theorem dX0_rest_203 : decode cX0_rest 203 = .ok (.iconst 0, 1) := dk_3 (dk_at dksX0_rest_8 17 rfl rfl)
theorem dX0_rest_204 : decode cX0_rest 204 = .ok (.invokevirtual 38, 3) := dk_182 0 38 (dk_at dksX0_rest_8 18 rfl rfl)
theorem dX0_rest_207 : decode cX0_rest 207 = .ok (.aload_n 1, 1) := dk_43 (dk_at dksX0_rest_8 21 rfl rfl)
theorem dX0_rest_208 : decode cX0_rest 208 = .ok (.iload_n 2, 1) := dk_28 (dk_at dksX0_rest_8 22 rfl rfl)
theorem dX0_rest_209 : decode cX0_rest 209 = .ok (.invokevirtual 29, 3) := dk_182 0 29 (dk_at dksX0_rest_9 0 rfl rfl)
theorem dX0_rest_212 : decode cX0_rest 212 = .ok (.lcmp, 1) := dk_148 (dk_at dksX0_rest_9 3 rfl rfl)
theorem dX0_rest_213 : decode cX0_rest 213 = .ok (.ifCond .ne 21, 3) := dk_154 0 21 (dk_at dksX0_rest_9 4 rfl rfl)
theorem dX0_rest_216 : decode cX0_rest 216 = .ok (.aload_n 1, 1) := dk_43 (dk_at dksX0_rest_9 7 rfl rfl)
theorem dX0_rest_217 : decode cX0_rest 217 = .ok (.iconst 1, 1) := dk_4 (dk_at dksX0_rest_9 8 rfl rfl)
theorem dX0_rest_218 : decode cX0_rest 218 = .ok (.invokevirtual 38, 3) := dk_182 0 38 (dk_at dksX0_rest_9 9 rfl rfl)
theorem dX0_rest_221 : decode cX0_rest 221 = .ok (.aload_n 1, 1) := dk_43 (dk_at dksX0_rest_9 12 rfl rfl)
theorem dX0_rest_222 : decode cX0_rest 222 = .ok (.iload_n 3, 1) := dk_29 (dk_at dksX0_rest_9 13 rfl rfl)
theorem dX0_rest_223 : decode cX0_rest 223 = .ok (.invokevirtual 29, 3) := dk_182 0 29 (dk_at dksX0_rest_9 14 rfl rfl)
theorem dX0_rest_226 : decode cX0_rest 226 = .ok (.lcmp, 1) := dk_148 (dk_at dksX0_rest_9 17 rfl rfl)
theorem dX0_rest_227 : decode cX0_rest 227 = .ok (.ifCond .ne 7, 3) := dk_154 0 7 (dk_at dksX0_rest_9 18 rfl rfl)
theorem dX0_rest_230 : decode cX0_rest 230 = .ok (.iconst 1, 1) := dk_4 (dk_at dksX0_rest_9 21 rfl rfl)
theorem dX0_rest_231 : decode cX0_rest 231 = .ok (.goto 4, 3) := dk_167 0 4 (dk_at dksX0_rest_10 0 rfl rfl)
theorem dX0_rest_234 : decode cX0_rest 234 = .ok (.iconst 0, 1) := dk_3 (dk_at dksX0_rest_10 3 rfl rfl)
theorem dX0_rest_235 : decode cX0_rest 235 = .ok (.ireturn, 1) := dk_172 (dk_at dksX0_rest_10 4 rfl rfl)
abbrev cX0_known : ByteArray := method_5_code
def yX0_known : MethodName := ⟨RX0, "known", "()Z"⟩
def dkwX0_known_4 : List UInt8 := [172]
abbrev dktX0_known_4 : List UInt8 := dkwX0_known_4 ++ []
def dkwX0_known_3 : List UInt8 := [182, 0, 35, 18, 69, 160, 0, 18, 42, 18, 74, 182, 0, 45, 18, 73, 160, 0, 7, 4, 167, 0, 4, 3]
abbrev dktX0_known_3 : List UInt8 := dkwX0_known_3 ++ dktX0_known_4
def dkwX0_known_2 : List UInt8 := [20, 0, 71, 148, 153, 0, 5, 3, 172, 42, 18, 73, 182, 0, 35, 18, 74, 160, 0, 29, 42, 18, 68]
abbrev dktX0_known_2 : List UInt8 := dkwX0_known_2 ++ dktX0_known_3
def dkwX0_known_1 : List UInt8 := [17, 85, 85, 160, 0, 27, 42, 17, 18, 52, 182, 0, 26, 18, 70, 160, 0, 15, 42, 2, 182, 0, 29]
abbrev dktX0_known_1 : List UInt8 := dkwX0_known_1 ++ dktX0_known_2
def dkwX0_known_0 : List UInt8 := [187, 0, 7, 89, 183, 0, 9, 75, 42, 18, 68, 182, 0, 26, 18, 69, 160, 0, 38, 42, 2, 182, 0, 22]
abbrev dktX0_known_0 : List UInt8 := dkwX0_known_0 ++ dktX0_known_1
theorem dksX0_known_0 : cX0_known.data.toList.drop 0 = dktX0_known_0 := by decide +kernel
theorem dksX0_known_1 : cX0_known.data.toList.drop 24 = dktX0_known_1 := dk_seg dksX0_known_0 24 rfl rfl
theorem dksX0_known_2 : cX0_known.data.toList.drop 47 = dktX0_known_2 := dk_seg dksX0_known_1 23 rfl rfl
theorem dksX0_known_3 : cX0_known.data.toList.drop 70 = dktX0_known_3 := dk_seg dksX0_known_2 23 rfl rfl
theorem dksX0_known_4 : cX0_known.data.toList.drop 94 = dktX0_known_4 := dk_seg dksX0_known_3 24 rfl rfl
theorem dX0_known_0 : decode cX0_known 0 = .ok (.new 7, 3) := dk_187 0 7 (dk_at dksX0_known_0 0 rfl rfl)
theorem dX0_known_3 : decode cX0_known 3 = .ok (.dup, 1) := dk_89 (dk_at dksX0_known_0 3 rfl rfl)
theorem dX0_known_4 : decode cX0_known 4 = .ok (.invokespecial 9, 3) := dk_183 0 9 (dk_at dksX0_known_0 4 rfl rfl)
theorem dX0_known_7 : decode cX0_known 7 = .ok (.astore_n 0, 1) := dk_75 (dk_at dksX0_known_0 7 rfl rfl)
theorem dX0_known_8 : decode cX0_known 8 = .ok (.aload_n 0, 1) := dk_42 (dk_at dksX0_known_0 8 rfl rfl)
theorem dX0_known_9 : decode cX0_known 9 = .ok (.ldc 68, 2) := dk_18 68 (dk_at dksX0_known_0 9 rfl rfl)
theorem dX0_known_11 : decode cX0_known 11 = .ok (.invokevirtual 26, 3) := dk_182 0 26 (dk_at dksX0_known_0 11 rfl rfl)
theorem dX0_known_14 : decode cX0_known 14 = .ok (.ldc 69, 2) := dk_18 69 (dk_at dksX0_known_0 14 rfl rfl)
theorem dX0_known_16 : decode cX0_known 16 = .ok (.if_icmp .ne 38, 3) := dk_160 0 38 (dk_at dksX0_known_0 16 rfl rfl)
theorem dX0_known_19 : decode cX0_known 19 = .ok (.aload_n 0, 1) := dk_42 (dk_at dksX0_known_0 19 rfl rfl)
theorem dX0_known_20 : decode cX0_known 20 = .ok (.iconst (-1), 1) := dk_2 (dk_at dksX0_known_0 20 rfl rfl)
theorem dX0_known_21 : decode cX0_known 21 = .ok (.invokevirtual 22, 3) := dk_182 0 22 (dk_at dksX0_known_0 21 rfl rfl)
theorem dX0_known_24 : decode cX0_known 24 = .ok (.sipush 21845, 3) := dk_17 85 85 (dk_at dksX0_known_1 0 rfl rfl)
theorem dX0_known_27 : decode cX0_known 27 = .ok (.if_icmp .ne 27, 3) := dk_160 0 27 (dk_at dksX0_known_1 3 rfl rfl)
theorem dX0_known_30 : decode cX0_known 30 = .ok (.aload_n 0, 1) := dk_42 (dk_at dksX0_known_1 6 rfl rfl)
theorem dX0_known_31 : decode cX0_known 31 = .ok (.sipush 4660, 3) := dk_17 18 52 (dk_at dksX0_known_1 7 rfl rfl)
theorem dX0_known_34 : decode cX0_known 34 = .ok (.invokevirtual 26, 3) := dk_182 0 26 (dk_at dksX0_known_1 10 rfl rfl)
theorem dX0_known_37 : decode cX0_known 37 = .ok (.ldc 70, 2) := dk_18 70 (dk_at dksX0_known_1 13 rfl rfl)
theorem dX0_known_39 : decode cX0_known 39 = .ok (.if_icmp .ne 15, 3) := dk_160 0 15 (dk_at dksX0_known_1 15 rfl rfl)
theorem dX0_known_42 : decode cX0_known 42 = .ok (.aload_n 0, 1) := dk_42 (dk_at dksX0_known_1 18 rfl rfl)
theorem dX0_known_43 : decode cX0_known 43 = .ok (.iconst (-1), 1) := dk_2 (dk_at dksX0_known_1 19 rfl rfl)
theorem dX0_known_44 : decode cX0_known 44 = .ok (.invokevirtual 29, 3) := dk_182 0 29 (dk_at dksX0_known_1 20 rfl rfl)
theorem dX0_known_47 : decode cX0_known 47 = .ok (.ldc2_w 71, 3) := dk_20 0 71 (dk_at dksX0_known_2 0 rfl rfl)
theorem dX0_known_50 : decode cX0_known 50 = .ok (.lcmp, 1) := dk_148 (dk_at dksX0_known_2 3 rfl rfl)
theorem dX0_known_51 : decode cX0_known 51 = .ok (.ifCond .eq 5, 3) := dk_153 0 5 (dk_at dksX0_known_2 4 rfl rfl)
theorem dX0_known_54 : decode cX0_known 54 = .ok (.iconst 0, 1) := dk_3 (dk_at dksX0_known_2 7 rfl rfl)
theorem dX0_known_55 : decode cX0_known 55 = .ok (.ireturn, 1) := dk_172 (dk_at dksX0_known_2 8 rfl rfl)
theorem dX0_known_56 : decode cX0_known 56 = .ok (.aload_n 0, 1) := dk_42 (dk_at dksX0_known_2 9 rfl rfl)
theorem dX0_known_57 : decode cX0_known 57 = .ok (.ldc 73, 2) := dk_18 73 (dk_at dksX0_known_2 10 rfl rfl)
theorem dX0_known_59 : decode cX0_known 59 = .ok (.invokevirtual 35, 3) := dk_182 0 35 (dk_at dksX0_known_2 12 rfl rfl)
theorem dX0_known_62 : decode cX0_known 62 = .ok (.ldc 74, 2) := dk_18 74 (dk_at dksX0_known_2 15 rfl rfl)
theorem dX0_known_64 : decode cX0_known 64 = .ok (.if_icmp .ne 29, 3) := dk_160 0 29 (dk_at dksX0_known_2 17 rfl rfl)
theorem dX0_known_67 : decode cX0_known 67 = .ok (.aload_n 0, 1) := dk_42 (dk_at dksX0_known_2 20 rfl rfl)
theorem dX0_known_68 : decode cX0_known 68 = .ok (.ldc 68, 2) := dk_18 68 (dk_at dksX0_known_2 21 rfl rfl)
theorem dX0_known_70 : decode cX0_known 70 = .ok (.invokevirtual 35, 3) := dk_182 0 35 (dk_at dksX0_known_3 0 rfl rfl)
theorem dX0_known_73 : decode cX0_known 73 = .ok (.ldc 69, 2) := dk_18 69 (dk_at dksX0_known_3 3 rfl rfl)
theorem dX0_known_75 : decode cX0_known 75 = .ok (.if_icmp .ne 18, 3) := dk_160 0 18 (dk_at dksX0_known_3 5 rfl rfl)
theorem dX0_known_78 : decode cX0_known 78 = .ok (.aload_n 0, 1) := dk_42 (dk_at dksX0_known_3 8 rfl rfl)
theorem dX0_known_79 : decode cX0_known 79 = .ok (.ldc 74, 2) := dk_18 74 (dk_at dksX0_known_3 9 rfl rfl)
theorem dX0_known_81 : decode cX0_known 81 = .ok (.invokevirtual 45, 3) := dk_182 0 45 (dk_at dksX0_known_3 11 rfl rfl)
theorem dX0_known_84 : decode cX0_known 84 = .ok (.ldc 73, 2) := dk_18 73 (dk_at dksX0_known_3 14 rfl rfl)
theorem dX0_known_86 : decode cX0_known 86 = .ok (.if_icmp .ne 7, 3) := dk_160 0 7 (dk_at dksX0_known_3 16 rfl rfl)
theorem dX0_known_89 : decode cX0_known 89 = .ok (.iconst 1, 1) := dk_4 (dk_at dksX0_known_3 19 rfl rfl)
theorem dX0_known_90 : decode cX0_known 90 = .ok (.goto 4, 3) := dk_167 0 4 (dk_at dksX0_known_3 20 rfl rfl)
theorem dX0_known_93 : decode cX0_known 93 = .ok (.iconst 0, 1) := dk_3 (dk_at dksX0_known_3 23 rfl rfl)
theorem dX0_known_94 : decode cX0_known 94 = .ok (.ireturn, 1) := dk_172 (dk_at dksX0_known_4 0 rfl rfl)
theorem q0 : (Jvm.Cond.initialized "BitWeaveLaw") ∈ lw_all := lw_g (lw_at lw_m0 0 rfl) rfl
theorem q4 : (Jvm.Cond.classLink "BitWeaveLaw" (7 : Nat) "BitWeave") ∈ lw_all := lw_g (lw_at lw_m0 4 rfl) rfl
theorem q6 : (Jvm.Cond.methodLink "BitWeaveLaw" (9 : Nat) ({ cls := "BitWeave", name := "<init>", desc := "()V" } : Jvm.MethodName)) ∈ lw_all := lw_g (lw_at lw_m0 6 rfl) rfl
theorem q17 : (Jvm.Cond.methodLink "BitWeaveLaw" (22 : Nat) ({ cls := "BitWeave", name := "byteOut", desc := "(I)I" } : Jvm.MethodName)) ∈ lw_all := lw_g (lw_at lw_m0 17 rfl) rfl
theorem q24 : (Jvm.Cond.methodLink "BitWeaveLaw" (26 : Nat) ({ cls := "BitWeave", name := "halfOut", desc := "(I)I" } : Jvm.MethodName)) ∈ lw_all := lw_g (lw_at lw_m0 24 rfl) rfl
theorem q36 : (Jvm.Cond.methodLink "BitWeaveLaw" (29 : Nat) ({ cls := "BitWeave", name := "wordOut", desc := "(I)J" } : Jvm.MethodName)) ∈ lw_all := lw_g (lw_at lw_m0 36 rfl) rfl
theorem q51 : (Jvm.Cond.methodLink "BitWeaveLaw" (18 : Nat) ({ cls := "BitWeave", name := "longOut", desc := "(II)V" } : Jvm.MethodName)) ∈ lw_all := lw_g (lw_at lw_m0 51 rfl) rfl
theorem q71 : (Jvm.Cond.methodLink "BitWeaveLaw" (38 : Nat) ({ cls := "BitWeave", name := "pair", desc := "(I)J" } : Jvm.MethodName)) ∈ lw_all := lw_g (lw_at lw_m0 71 rfl) rfl
theorem q75 : (Jvm.Cond.methodLink "BitWeaveLaw" (35 : Nat) ({ cls := "BitWeave", name := "shuffle", desc := "(I)I" } : Jvm.MethodName)) ∈ lw_all := lw_g (lw_at lw_m0 75 rfl) rfl
theorem q82 : (Jvm.Cond.methodLink "BitWeaveLaw" (45 : Nat) ({ cls := "BitWeave", name := "unshuffle", desc := "(I)I" } : Jvm.MethodName)) ∈ lw_all := lw_g (lw_at lw_m0 82 rfl) rfl
theorem q89 : (Jvm.Cond.methodLink "BitWeaveLaw" (41 : Nat) ({ cls := "BitWeave", name := "longShuffle", desc := "(II)J" } : Jvm.MethodName)) ∈ lw_all := lw_g (lw_at lw_m0 89 rfl) rfl
theorem q96 : (Jvm.Cond.methodLink "BitWeaveLaw" (51 : Nat) ({ cls := "BitWeave", name := "longUnshuffle", desc := "(II)J" } : Jvm.MethodName)) ∈ lw_all := lw_g (lw_at lw_m0 96 rfl) rfl
theorem q103 : (Jvm.Cond.methodLink "BitWeaveLaw" (48 : Nat) ({ cls := "BitWeave", name := "there", desc := "(I)I" } : Jvm.MethodName)) ∈ lw_all := lw_g (lw_at lw_m0 103 rfl) rfl
theorem q115 : (Jvm.Cond.methodLink "BitWeaveLaw" (54 : Nat) ({ cls := "BitWeave", name := "longThere", desc := "(II)J" } : Jvm.MethodName)) ∈ lw_all := lw_g (lw_at lw_m0 115 rfl) rfl
theorem q129 : (Jvm.Cond.methodLink "BitWeaveLaw" (57 : Nat) ({ cls := "BitWeave", name := "thrice", desc := "(II)J" } : Jvm.MethodName)) ∈ lw_all := lw_g (lw_at lw_m0 129 rfl) rfl
theorem q143 : (Jvm.Cond.methodLink "BitWeaveLaw" (10 : Nat) ({ cls := "BitWeaveLaw", name := "cell", desc := "([II)I" } : Jvm.MethodName)) ∈ lw_all := lw_g (lw_at lw_m0 143 rfl) rfl
theorem q144 : (Jvm.Cond.static ({ cls := "BitWeaveLaw", name := "cell", desc := "([II)I" } : Jvm.MethodName)) ∈ lw_all := lw_g (lw_at lw_m0 144 rfl) rfl
theorem q145 : (Jvm.Cond.code ({ cls := "BitWeaveLaw", name := "cell", desc := "([II)I" } : Jvm.MethodName) method_2_code (2 : Nat) (Option.some Jvm.ClassFile.FieldType.int)) ∈ lw_all := lw_g (lw_at lw_m0 145 rfl) rfl
theorem q146 : (Jvm.Cond.methodLink "BitWeaveLaw" (60 : Nat) ({ cls := "BitWeaveLaw", name := "rest", desc := "([I)Z" } : Jvm.MethodName)) ∈ lw_all := lw_g (lw_at lw_m0 146 rfl) rfl
theorem q147 : (Jvm.Cond.static ({ cls := "BitWeaveLaw", name := "rest", desc := "([I)Z" } : Jvm.MethodName)) ∈ lw_all := lw_g (lw_at lw_m0 147 rfl) rfl
theorem q148 : (Jvm.Cond.code ({ cls := "BitWeaveLaw", name := "rest", desc := "([I)Z" } : Jvm.MethodName) method_4_code (4 : Nat) (Option.some Jvm.ClassFile.FieldType.boolean)) ∈ lw_all := lw_g (lw_at lw_m0 148 rfl) rfl
theorem q149 : (Jvm.Cond.constant "BitWeaveLaw" (68 : Nat) (65535 : Int32)) ∈ lw_all := lw_g (lw_at lw_m0 149 rfl) rfl
theorem q150 : (Jvm.Cond.methodLink "BitWeaveLaw" (64 : Nat) ({ cls := "BitWeaveLaw", name := "known", desc := "()Z" } : Jvm.MethodName)) ∈ lw_all := lw_g (lw_at lw_m0 150 rfl) rfl
theorem q151 : (Jvm.Cond.static ({ cls := "BitWeaveLaw", name := "known", desc := "()Z" } : Jvm.MethodName)) ∈ lw_all := lw_g (lw_at lw_m0 151 rfl) rfl
theorem q152 : (Jvm.Cond.code ({ cls := "BitWeaveLaw", name := "known", desc := "()Z" } : Jvm.MethodName) method_5_code (1 : Nat) (Option.some Jvm.ClassFile.FieldType.boolean)) ∈ lw_all := lw_g (lw_at lw_m0 152 rfl) rfl
theorem q153 : (Jvm.Cond.constant "BitWeaveLaw" (69 : Nat) (1431655765 : Int32)) ∈ lw_all := lw_g (lw_at lw_m0 153 rfl) rfl
theorem q154 : (Jvm.Cond.constant "BitWeaveLaw" (70 : Nat) (17040656 : Int32)) ∈ lw_all := lw_g (lw_at lw_m0 154 rfl) rfl
theorem q155 : (Jvm.Cond.constantLong "BitWeaveLaw" (71 : Nat) (6148914691236517205 : Int64)) ∈ lw_all := lw_g (lw_at lw_m0 155 rfl) rfl
theorem q156 : (Jvm.Cond.constant "BitWeaveLaw" (73 : Nat) (-65536 : Int32)) ∈ lw_all := lw_g (lw_at lw_m0 156 rfl) rfl
theorem q157 : (Jvm.Cond.constant "BitWeaveLaw" (74 : Nat) (-1431655766 : Int32)) ∈ lw_all := lw_g (lw_at lw_m0 157 rfl) rfl
theorem q158 : (Jvm.Cond.constantLong "BitWeaveLaw" (16 : Nat) (4294967295 : Int64)) ∈ lw_all := lw_g (lw_at lw_m0 158 rfl) rfl
theorem q159 : (Jvm.Cond.constantLong "BitWeaveLaw" (33 : Nat) (3 : Int64)) ∈ lw_all := lw_g (lw_at lw_m0 159 rfl) rfl
/-! the law's own entry -/
set_option maxRecDepth 100000
abbrev cL_law : ByteArray := code
def dkwL_law_17 : List UInt8 := [172]
abbrev dktL_law_17 : List UInt8 := dkwL_law_17 ++ []
def dkwL_law_16 : List UInt8 := [22, 4, 148, 154, 0, 20, 42, 184, 0, 60, 153, 0, 13, 184, 0, 64, 153, 0, 7, 4, 167, 0, 4, 3]
abbrev dktL_law_16 : List UInt8 := dkwL_law_16 ++ dktL_law_17
def dkwL_law_15 : List UInt8 := [148, 153, 0, 5, 3, 172, 43, 28, 29, 182, 0, 54, 22, 4, 148, 154, 0, 32, 43, 28, 29, 182, 0, 57]
abbrev dktL_law_15 : List UInt8 := dkwL_law_15 ++ dktL_law_16
def dkwL_law_14 : List UInt8 := [182, 0, 51, 22, 4, 148, 154, 0, 22, 43, 22, 8, 16, 32, 123, 136, 22, 8, 136, 182, 0, 41, 22, 4]
abbrev dktL_law_14 : List UInt8 := dkwL_law_14 ++ dktL_law_15
def dkwL_law_13 : List UInt8 := [182, 0, 41, 55, 6, 43, 28, 29, 182, 0, 51, 55, 8, 43, 22, 6, 16, 32, 123, 136, 22, 6, 136]
abbrev dktL_law_13 : List UInt8 := dkwL_law_13 ++ dktL_law_14
def dkwL_law_12 : List UInt8 := [182, 0, 45, 182, 0, 35, 29, 160, 0, 12, 43, 29, 182, 0, 48, 29, 159, 0, 5, 3, 172, 43, 28, 29]
abbrev dktL_law_12 : List UInt8 := dkwL_law_12 ++ dktL_law_13
def dkwL_law_11 : List UInt8 := [132, 6, 1, 167, 255, 40, 43, 43, 29, 182, 0, 35, 182, 0, 45, 29, 160, 0, 25, 43, 43, 29]
abbrev dktL_law_11 : List UInt8 := dkwL_law_11 ++ dktL_law_12
def dkwL_law_10 : List UInt8 := [5, 21, 6, 104, 4, 96, 125, 10, 127, 28, 21, 6, 124, 4, 126, 133, 148, 153, 0, 5, 3, 172]
abbrev dktL_law_10 : List UInt8 := dkwL_law_10 ++ dktL_law_11
def dkwL_law_9 : List UInt8 := [29, 182, 0, 41, 5, 21, 6, 104, 125, 10, 127, 21, 7, 133, 148, 154, 0, 29, 43, 28, 29, 182, 0, 41]
abbrev dktL_law_9 : List UInt8 := dkwL_law_9 ++ dktL_law_10
def dkwL_law_8 : List UInt8 := [5, 21, 6, 104, 125, 20, 0, 33, 127, 28, 21, 6, 124, 4, 126, 133, 148, 153, 0, 5, 3, 172, 43, 28]
abbrev dktL_law_8 : List UInt8 := dkwL_law_8 ++ dktL_law_9
def dkwL_law_7 : List UInt8 := [182, 0, 38, 5, 21, 6, 104, 125, 20, 0, 33, 127, 21, 7, 133, 148, 154, 0, 28, 43, 4, 182, 0, 38]
abbrev dktL_law_7 : List UInt8 := dkwL_law_7 ++ dktL_law_8
def dkwL_law_6 : List UInt8 := [21, 6, 16, 15, 126, 104, 21, 6, 7, 122, 96, 124, 4, 126, 21, 7, 159, 0, 5, 3, 172, 43, 3]
abbrev dktL_law_6 : List UInt8 := dkwL_law_6 ++ dktL_law_7
def dkwL_law_5 : List UInt8 := [21, 6, 104, 125, 20, 0, 33, 127, 21, 7, 133, 148, 153, 0, 5, 3, 172, 43, 29, 182, 0, 35, 5]
abbrev dktL_law_5 : List UInt8 := dkwL_law_5 ++ dktL_law_6
def dkwL_law_4 : List UInt8 := [182, 0, 26, 5, 21, 6, 104, 124, 6, 126, 21, 7, 159, 0, 5, 3, 172, 43, 29, 182, 0, 29, 5]
abbrev dktL_law_4 : List UInt8 := dkwL_law_4 ++ dktL_law_5
def dkwL_law_3 : List UInt8 := [21, 6, 104, 124, 6, 126, 21, 7, 159, 0, 5, 3, 172, 21, 6, 16, 16, 162, 0, 22, 43, 29]
abbrev dktL_law_3 : List UInt8 := dkwL_law_3 ++ dktL_law_4
def dkwL_law_2 : List UInt8 := [162, 0, 215, 29, 21, 6, 124, 4, 126, 54, 7, 21, 6, 16, 8, 162, 0, 22, 43, 29, 182, 0, 22, 5]
abbrev dktL_law_2 : List UInt8 := dkwL_law_2 ++ dktL_law_3
def dkwL_law_1 : List UInt8 := [121, 29, 133, 20, 0, 16, 127, 129, 55, 4, 43, 28, 29, 182, 0, 18, 3, 54, 6, 21, 6, 16, 32]
abbrev dktL_law_1 : List UInt8 := dkwL_law_1 ++ dktL_law_2
def dkwL_law_0 : List UInt8 := [187, 0, 7, 89, 183, 0, 9, 76, 42, 3, 184, 0, 10, 61, 42, 4, 184, 0, 10, 62, 28, 133, 16, 32]
abbrev dktL_law_0 : List UInt8 := dkwL_law_0 ++ dktL_law_1
theorem dksL_law_0 : cL_law.data.toList.drop 0 = dktL_law_0 := by decide +kernel
theorem dksL_law_1 : cL_law.data.toList.drop 24 = dktL_law_1 := dk_seg dksL_law_0 24 rfl rfl
theorem dksL_law_2 : cL_law.data.toList.drop 47 = dktL_law_2 := dk_seg dksL_law_1 23 rfl rfl
theorem dksL_law_3 : cL_law.data.toList.drop 71 = dktL_law_3 := dk_seg dksL_law_2 24 rfl rfl
theorem dksL_law_4 : cL_law.data.toList.drop 93 = dktL_law_4 := dk_seg dksL_law_3 22 rfl rfl
theorem dksL_law_5 : cL_law.data.toList.drop 116 = dktL_law_5 := dk_seg dksL_law_4 23 rfl rfl
theorem dksL_law_6 : cL_law.data.toList.drop 139 = dktL_law_6 := dk_seg dksL_law_5 23 rfl rfl
theorem dksL_law_7 : cL_law.data.toList.drop 162 = dktL_law_7 := dk_seg dksL_law_6 23 rfl rfl
theorem dksL_law_8 : cL_law.data.toList.drop 186 = dktL_law_8 := dk_seg dksL_law_7 24 rfl rfl
theorem dksL_law_9 : cL_law.data.toList.drop 210 = dktL_law_9 := dk_seg dksL_law_8 24 rfl rfl
theorem dksL_law_10 : cL_law.data.toList.drop 234 = dktL_law_10 := dk_seg dksL_law_9 24 rfl rfl
theorem dksL_law_11 : cL_law.data.toList.drop 256 = dktL_law_11 := dk_seg dksL_law_10 22 rfl rfl
theorem dksL_law_12 : cL_law.data.toList.drop 278 = dktL_law_12 := dk_seg dksL_law_11 22 rfl rfl
theorem dksL_law_13 : cL_law.data.toList.drop 302 = dktL_law_13 := dk_seg dksL_law_12 24 rfl rfl
theorem dksL_law_14 : cL_law.data.toList.drop 325 = dktL_law_14 := dk_seg dksL_law_13 23 rfl rfl
theorem dksL_law_15 : cL_law.data.toList.drop 349 = dktL_law_15 := dk_seg dksL_law_14 24 rfl rfl
theorem dksL_law_16 : cL_law.data.toList.drop 373 = dktL_law_16 := dk_seg dksL_law_15 24 rfl rfl
theorem dksL_law_17 : cL_law.data.toList.drop 397 = dktL_law_17 := dk_seg dksL_law_16 24 rfl rfl
theorem dL_law_0 : decode cL_law 0 = .ok (.new 7, 3) := dk_187 0 7 (dk_at dksL_law_0 0 rfl rfl)
theorem dL_law_3 : decode cL_law 3 = .ok (.dup, 1) := dk_89 (dk_at dksL_law_0 3 rfl rfl)
theorem dL_law_4 : decode cL_law 4 = .ok (.invokespecial 9, 3) := dk_183 0 9 (dk_at dksL_law_0 4 rfl rfl)
theorem dL_law_7 : decode cL_law 7 = .ok (.astore_n 1, 1) := dk_76 (dk_at dksL_law_0 7 rfl rfl)
theorem dL_law_8 : decode cL_law 8 = .ok (.aload_n 0, 1) := dk_42 (dk_at dksL_law_0 8 rfl rfl)
theorem dL_law_9 : decode cL_law 9 = .ok (.iconst 0, 1) := dk_3 (dk_at dksL_law_0 9 rfl rfl)
theorem dL_law_10 : decode cL_law 10 = .ok (.invokestatic 10, 3) := dk_184 0 10 (dk_at dksL_law_0 10 rfl rfl)
theorem dL_law_13 : decode cL_law 13 = .ok (.istore_n 2, 1) := dk_61 (dk_at dksL_law_0 13 rfl rfl)
theorem dL_law_14 : decode cL_law 14 = .ok (.aload_n 0, 1) := dk_42 (dk_at dksL_law_0 14 rfl rfl)
theorem dL_law_15 : decode cL_law 15 = .ok (.iconst 1, 1) := dk_4 (dk_at dksL_law_0 15 rfl rfl)
theorem dL_law_16 : decode cL_law 16 = .ok (.invokestatic 10, 3) := dk_184 0 10 (dk_at dksL_law_0 16 rfl rfl)
theorem dL_law_19 : decode cL_law 19 = .ok (.istore_n 3, 1) := dk_62 (dk_at dksL_law_0 19 rfl rfl)
theorem dL_law_20 : decode cL_law 20 = .ok (.iload_n 2, 1) := dk_28 (dk_at dksL_law_0 20 rfl rfl)
theorem dL_law_21 : decode cL_law 21 = .ok (.i2l, 1) := dk_133 (dk_at dksL_law_0 21 rfl rfl)
theorem dL_law_22 : decode cL_law 22 = .ok (.bipush 32, 2) := dk_16 32 (dk_at dksL_law_0 22 rfl rfl)
theorem dL_law_24 : decode cL_law 24 = .ok (.lshl, 1) := dk_121 (dk_at dksL_law_1 0 rfl rfl)
theorem dL_law_25 : decode cL_law 25 = .ok (.iload_n 3, 1) := dk_29 (dk_at dksL_law_1 1 rfl rfl)
theorem dL_law_26 : decode cL_law 26 = .ok (.i2l, 1) := dk_133 (dk_at dksL_law_1 2 rfl rfl)
theorem dL_law_27 : decode cL_law 27 = .ok (.ldc2_w 16, 3) := dk_20 0 16 (dk_at dksL_law_1 3 rfl rfl)
theorem dL_law_30 : decode cL_law 30 = .ok (.land, 1) := dk_127 (dk_at dksL_law_1 6 rfl rfl)
theorem dL_law_31 : decode cL_law 31 = .ok (.lor, 1) := dk_129 (dk_at dksL_law_1 7 rfl rfl)
theorem dL_law_32 : decode cL_law 32 = .ok (.lstore 4, 2) := dk_55 4 (dk_at dksL_law_1 8 rfl rfl)
theorem dL_law_34 : decode cL_law 34 = .ok (.aload_n 1, 1) := dk_43 (dk_at dksL_law_1 10 rfl rfl)
theorem dL_law_35 : decode cL_law 35 = .ok (.iload_n 2, 1) := dk_28 (dk_at dksL_law_1 11 rfl rfl)
theorem dL_law_36 : decode cL_law 36 = .ok (.iload_n 3, 1) := dk_29 (dk_at dksL_law_1 12 rfl rfl)
theorem dL_law_37 : decode cL_law 37 = .ok (.invokevirtual 18, 3) := dk_182 0 18 (dk_at dksL_law_1 13 rfl rfl)
theorem dL_law_40 : decode cL_law 40 = .ok (.iconst 0, 1) := dk_3 (dk_at dksL_law_1 16 rfl rfl)
theorem dL_law_41 : decode cL_law 41 = .ok (.istore 6, 2) := dk_54 6 (dk_at dksL_law_1 17 rfl rfl)
theorem dL_law_43 : decode cL_law 43 = .ok (.iload 6, 2) := dk_21 6 (dk_at dksL_law_1 19 rfl rfl)
theorem dL_law_45 : decode cL_law 45 = .ok (.bipush 32, 2) := dk_16 32 (dk_at dksL_law_1 21 rfl rfl)
theorem dL_law_47 : decode cL_law 47 = .ok (.if_icmp .ge 215, 3) := dk_162 0 215 (dk_at dksL_law_2 0 rfl rfl)
theorem dL_law_50 : decode cL_law 50 = .ok (.iload_n 3, 1) := dk_29 (dk_at dksL_law_2 3 rfl rfl)
theorem dL_law_51 : decode cL_law 51 = .ok (.iload 6, 2) := dk_21 6 (dk_at dksL_law_2 4 rfl rfl)
theorem dL_law_53 : decode cL_law 53 = .ok (.iushr, 1) := dk_124 (dk_at dksL_law_2 6 rfl rfl)
theorem dL_law_54 : decode cL_law 54 = .ok (.iconst 1, 1) := dk_4 (dk_at dksL_law_2 7 rfl rfl)
theorem dL_law_55 : decode cL_law 55 = .ok (.iand, 1) := dk_126 (dk_at dksL_law_2 8 rfl rfl)
theorem dL_law_56 : decode cL_law 56 = .ok (.istore 7, 2) := dk_54 7 (dk_at dksL_law_2 9 rfl rfl)
theorem dL_law_58 : decode cL_law 58 = .ok (.iload 6, 2) := dk_21 6 (dk_at dksL_law_2 11 rfl rfl)
theorem dL_law_60 : decode cL_law 60 = .ok (.bipush 8, 2) := dk_16 8 (dk_at dksL_law_2 13 rfl rfl)
theorem dL_law_62 : decode cL_law 62 = .ok (.if_icmp .ge 22, 3) := dk_162 0 22 (dk_at dksL_law_2 15 rfl rfl)
theorem dL_law_65 : decode cL_law 65 = .ok (.aload_n 1, 1) := dk_43 (dk_at dksL_law_2 18 rfl rfl)
theorem dL_law_66 : decode cL_law 66 = .ok (.iload_n 3, 1) := dk_29 (dk_at dksL_law_2 19 rfl rfl)
theorem dL_law_67 : decode cL_law 67 = .ok (.invokevirtual 22, 3) := dk_182 0 22 (dk_at dksL_law_2 20 rfl rfl)
theorem dL_law_70 : decode cL_law 70 = .ok (.iconst 2, 1) := dk_5 (dk_at dksL_law_2 23 rfl rfl)
theorem dL_law_71 : decode cL_law 71 = .ok (.iload 6, 2) := dk_21 6 (dk_at dksL_law_3 0 rfl rfl)
theorem dL_law_73 : decode cL_law 73 = .ok (.imul, 1) := dk_104 (dk_at dksL_law_3 2 rfl rfl)
theorem dL_law_74 : decode cL_law 74 = .ok (.iushr, 1) := dk_124 (dk_at dksL_law_3 3 rfl rfl)
theorem dL_law_75 : decode cL_law 75 = .ok (.iconst 3, 1) := dk_6 (dk_at dksL_law_3 4 rfl rfl)
theorem dL_law_76 : decode cL_law 76 = .ok (.iand, 1) := dk_126 (dk_at dksL_law_3 5 rfl rfl)
theorem dL_law_77 : decode cL_law 77 = .ok (.iload 7, 2) := dk_21 7 (dk_at dksL_law_3 6 rfl rfl)
theorem dL_law_79 : decode cL_law 79 = .ok (.if_icmp .eq 5, 3) := dk_159 0 5 (dk_at dksL_law_3 8 rfl rfl)
theorem dL_law_82 : decode cL_law 82 = .ok (.iconst 0, 1) := dk_3 (dk_at dksL_law_3 11 rfl rfl)
theorem dL_law_83 : decode cL_law 83 = .ok (.ireturn, 1) := dk_172 (dk_at dksL_law_3 12 rfl rfl)
theorem dL_law_84 : decode cL_law 84 = .ok (.iload 6, 2) := dk_21 6 (dk_at dksL_law_3 13 rfl rfl)
theorem dL_law_86 : decode cL_law 86 = .ok (.bipush 16, 2) := dk_16 16 (dk_at dksL_law_3 15 rfl rfl)
theorem dL_law_88 : decode cL_law 88 = .ok (.if_icmp .ge 22, 3) := dk_162 0 22 (dk_at dksL_law_3 17 rfl rfl)
theorem dL_law_91 : decode cL_law 91 = .ok (.aload_n 1, 1) := dk_43 (dk_at dksL_law_3 20 rfl rfl)
theorem dL_law_92 : decode cL_law 92 = .ok (.iload_n 3, 1) := dk_29 (dk_at dksL_law_3 21 rfl rfl)
theorem dL_law_93 : decode cL_law 93 = .ok (.invokevirtual 26, 3) := dk_182 0 26 (dk_at dksL_law_4 0 rfl rfl)
theorem dL_law_96 : decode cL_law 96 = .ok (.iconst 2, 1) := dk_5 (dk_at dksL_law_4 3 rfl rfl)
theorem dL_law_97 : decode cL_law 97 = .ok (.iload 6, 2) := dk_21 6 (dk_at dksL_law_4 4 rfl rfl)
theorem dL_law_99 : decode cL_law 99 = .ok (.imul, 1) := dk_104 (dk_at dksL_law_4 6 rfl rfl)
theorem dL_law_100 : decode cL_law 100 = .ok (.iushr, 1) := dk_124 (dk_at dksL_law_4 7 rfl rfl)
theorem dL_law_101 : decode cL_law 101 = .ok (.iconst 3, 1) := dk_6 (dk_at dksL_law_4 8 rfl rfl)
theorem dL_law_102 : decode cL_law 102 = .ok (.iand, 1) := dk_126 (dk_at dksL_law_4 9 rfl rfl)
theorem dL_law_103 : decode cL_law 103 = .ok (.iload 7, 2) := dk_21 7 (dk_at dksL_law_4 10 rfl rfl)
theorem dL_law_105 : decode cL_law 105 = .ok (.if_icmp .eq 5, 3) := dk_159 0 5 (dk_at dksL_law_4 12 rfl rfl)
theorem dL_law_108 : decode cL_law 108 = .ok (.iconst 0, 1) := dk_3 (dk_at dksL_law_4 15 rfl rfl)
theorem dL_law_109 : decode cL_law 109 = .ok (.ireturn, 1) := dk_172 (dk_at dksL_law_4 16 rfl rfl)
theorem dL_law_110 : decode cL_law 110 = .ok (.aload_n 1, 1) := dk_43 (dk_at dksL_law_4 17 rfl rfl)
theorem dL_law_111 : decode cL_law 111 = .ok (.iload_n 3, 1) := dk_29 (dk_at dksL_law_4 18 rfl rfl)
theorem dL_law_112 : decode cL_law 112 = .ok (.invokevirtual 29, 3) := dk_182 0 29 (dk_at dksL_law_4 19 rfl rfl)
theorem dL_law_115 : decode cL_law 115 = .ok (.iconst 2, 1) := dk_5 (dk_at dksL_law_4 22 rfl rfl)
theorem dL_law_116 : decode cL_law 116 = .ok (.iload 6, 2) := dk_21 6 (dk_at dksL_law_5 0 rfl rfl)
theorem dL_law_118 : decode cL_law 118 = .ok (.imul, 1) := dk_104 (dk_at dksL_law_5 2 rfl rfl)
theorem dL_law_119 : decode cL_law 119 = .ok (.lushr, 1) := dk_125 (dk_at dksL_law_5 3 rfl rfl)
theorem dL_law_120 : decode cL_law 120 = .ok (.ldc2_w 33, 3) := dk_20 0 33 (dk_at dksL_law_5 4 rfl rfl)
theorem dL_law_123 : decode cL_law 123 = .ok (.land, 1) := dk_127 (dk_at dksL_law_5 7 rfl rfl)
theorem dL_law_124 : decode cL_law 124 = .ok (.iload 7, 2) := dk_21 7 (dk_at dksL_law_5 8 rfl rfl)
theorem dL_law_126 : decode cL_law 126 = .ok (.i2l, 1) := dk_133 (dk_at dksL_law_5 10 rfl rfl)
theorem dL_law_127 : decode cL_law 127 = .ok (.lcmp, 1) := dk_148 (dk_at dksL_law_5 11 rfl rfl)
theorem dL_law_128 : decode cL_law 128 = .ok (.ifCond .eq 5, 3) := dk_153 0 5 (dk_at dksL_law_5 12 rfl rfl)
theorem dL_law_131 : decode cL_law 131 = .ok (.iconst 0, 1) := dk_3 (dk_at dksL_law_5 15 rfl rfl)
theorem dL_law_132 : decode cL_law 132 = .ok (.ireturn, 1) := dk_172 (dk_at dksL_law_5 16 rfl rfl)
theorem dL_law_133 : decode cL_law 133 = .ok (.aload_n 1, 1) := dk_43 (dk_at dksL_law_5 17 rfl rfl)
theorem dL_law_134 : decode cL_law 134 = .ok (.iload_n 3, 1) := dk_29 (dk_at dksL_law_5 18 rfl rfl)
theorem dL_law_135 : decode cL_law 135 = .ok (.invokevirtual 35, 3) := dk_182 0 35 (dk_at dksL_law_5 19 rfl rfl)
theorem dL_law_138 : decode cL_law 138 = .ok (.iconst 2, 1) := dk_5 (dk_at dksL_law_5 22 rfl rfl)
theorem dL_law_139 : decode cL_law 139 = .ok (.iload 6, 2) := dk_21 6 (dk_at dksL_law_6 0 rfl rfl)
theorem dL_law_141 : decode cL_law 141 = .ok (.bipush 15, 2) := dk_16 15 (dk_at dksL_law_6 2 rfl rfl)
theorem dL_law_143 : decode cL_law 143 = .ok (.iand, 1) := dk_126 (dk_at dksL_law_6 4 rfl rfl)
theorem dL_law_144 : decode cL_law 144 = .ok (.imul, 1) := dk_104 (dk_at dksL_law_6 5 rfl rfl)
theorem dL_law_145 : decode cL_law 145 = .ok (.iload 6, 2) := dk_21 6 (dk_at dksL_law_6 6 rfl rfl)
theorem dL_law_147 : decode cL_law 147 = .ok (.iconst 4, 1) := dk_7 (dk_at dksL_law_6 8 rfl rfl)
theorem dL_law_148 : decode cL_law 148 = .ok (.ishr, 1) := dk_122 (dk_at dksL_law_6 9 rfl rfl)
theorem dL_law_149 : decode cL_law 149 = .ok (.iadd, 1) := dk_96 (dk_at dksL_law_6 10 rfl rfl)
theorem dL_law_150 : decode cL_law 150 = .ok (.iushr, 1) := dk_124 (dk_at dksL_law_6 11 rfl rfl)
theorem dL_law_151 : decode cL_law 151 = .ok (.iconst 1, 1) := dk_4 (dk_at dksL_law_6 12 rfl rfl)
theorem dL_law_152 : decode cL_law 152 = .ok (.iand, 1) := dk_126 (dk_at dksL_law_6 13 rfl rfl)
theorem dL_law_153 : decode cL_law 153 = .ok (.iload 7, 2) := dk_21 7 (dk_at dksL_law_6 14 rfl rfl)
theorem dL_law_155 : decode cL_law 155 = .ok (.if_icmp .eq 5, 3) := dk_159 0 5 (dk_at dksL_law_6 16 rfl rfl)
theorem dL_law_158 : decode cL_law 158 = .ok (.iconst 0, 1) := dk_3 (dk_at dksL_law_6 19 rfl rfl)
theorem dL_law_159 : decode cL_law 159 = .ok (.ireturn, 1) := dk_172 (dk_at dksL_law_6 20 rfl rfl)
theorem dL_law_160 : decode cL_law 160 = .ok (.aload_n 1, 1) := dk_43 (dk_at dksL_law_6 21 rfl rfl)
theorem dL_law_161 : decode cL_law 161 = .ok (.iconst 0, 1) := dk_3 (dk_at dksL_law_6 22 rfl rfl)
theorem dL_law_162 : decode cL_law 162 = .ok (.invokevirtual 38, 3) := dk_182 0 38 (dk_at dksL_law_7 0 rfl rfl)
theorem dL_law_165 : decode cL_law 165 = .ok (.iconst 2, 1) := dk_5 (dk_at dksL_law_7 3 rfl rfl)
theorem dL_law_166 : decode cL_law 166 = .ok (.iload 6, 2) := dk_21 6 (dk_at dksL_law_7 4 rfl rfl)
theorem dL_law_168 : decode cL_law 168 = .ok (.imul, 1) := dk_104 (dk_at dksL_law_7 6 rfl rfl)
theorem dL_law_169 : decode cL_law 169 = .ok (.lushr, 1) := dk_125 (dk_at dksL_law_7 7 rfl rfl)
theorem dL_law_170 : decode cL_law 170 = .ok (.ldc2_w 33, 3) := dk_20 0 33 (dk_at dksL_law_7 8 rfl rfl)
theorem dL_law_173 : decode cL_law 173 = .ok (.land, 1) := dk_127 (dk_at dksL_law_7 11 rfl rfl)
theorem dL_law_174 : decode cL_law 174 = .ok (.iload 7, 2) := dk_21 7 (dk_at dksL_law_7 12 rfl rfl)
theorem dL_law_176 : decode cL_law 176 = .ok (.i2l, 1) := dk_133 (dk_at dksL_law_7 14 rfl rfl)
theorem dL_law_177 : decode cL_law 177 = .ok (.lcmp, 1) := dk_148 (dk_at dksL_law_7 15 rfl rfl)
theorem dL_law_178 : decode cL_law 178 = .ok (.ifCond .ne 28, 3) := dk_154 0 28 (dk_at dksL_law_7 16 rfl rfl)
theorem dL_law_181 : decode cL_law 181 = .ok (.aload_n 1, 1) := dk_43 (dk_at dksL_law_7 19 rfl rfl)
theorem dL_law_182 : decode cL_law 182 = .ok (.iconst 1, 1) := dk_4 (dk_at dksL_law_7 20 rfl rfl)
theorem dL_law_183 : decode cL_law 183 = .ok (.invokevirtual 38, 3) := dk_182 0 38 (dk_at dksL_law_7 21 rfl rfl)
theorem dL_law_186 : decode cL_law 186 = .ok (.iconst 2, 1) := dk_5 (dk_at dksL_law_8 0 rfl rfl)
theorem dL_law_187 : decode cL_law 187 = .ok (.iload 6, 2) := dk_21 6 (dk_at dksL_law_8 1 rfl rfl)
theorem dL_law_189 : decode cL_law 189 = .ok (.imul, 1) := dk_104 (dk_at dksL_law_8 3 rfl rfl)
theorem dL_law_190 : decode cL_law 190 = .ok (.lushr, 1) := dk_125 (dk_at dksL_law_8 4 rfl rfl)
theorem dL_law_191 : decode cL_law 191 = .ok (.ldc2_w 33, 3) := dk_20 0 33 (dk_at dksL_law_8 5 rfl rfl)
theorem dL_law_194 : decode cL_law 194 = .ok (.land, 1) := dk_127 (dk_at dksL_law_8 8 rfl rfl)
theorem dL_law_195 : decode cL_law 195 = .ok (.iload_n 2, 1) := dk_28 (dk_at dksL_law_8 9 rfl rfl)
theorem dL_law_196 : decode cL_law 196 = .ok (.iload 6, 2) := dk_21 6 (dk_at dksL_law_8 10 rfl rfl)
theorem dL_law_198 : decode cL_law 198 = .ok (.iushr, 1) := dk_124 (dk_at dksL_law_8 12 rfl rfl)
theorem dL_law_199 : decode cL_law 199 = .ok (.iconst 1, 1) := dk_4 (dk_at dksL_law_8 13 rfl rfl)
theorem dL_law_200 : decode cL_law 200 = .ok (.iand, 1) := dk_126 (dk_at dksL_law_8 14 rfl rfl)
theorem dL_law_201 : decode cL_law 201 = .ok (.i2l, 1) := dk_133 (dk_at dksL_law_8 15 rfl rfl)
theorem dL_law_202 : decode cL_law 202 = .ok (.lcmp, 1) := dk_148 (dk_at dksL_law_8 16 rfl rfl)
theorem dL_law_203 : decode cL_law 203 = .ok (.ifCond .eq 5, 3) := dk_153 0 5 (dk_at dksL_law_8 17 rfl rfl)
theorem dL_law_206 : decode cL_law 206 = .ok (.iconst 0, 1) := dk_3 (dk_at dksL_law_8 20 rfl rfl)
theorem dL_law_207 : decode cL_law 207 = .ok (.ireturn, 1) := dk_172 (dk_at dksL_law_8 21 rfl rfl)
theorem dL_law_208 : decode cL_law 208 = .ok (.aload_n 1, 1) := dk_43 (dk_at dksL_law_8 22 rfl rfl)
theorem dL_law_209 : decode cL_law 209 = .ok (.iload_n 2, 1) := dk_28 (dk_at dksL_law_8 23 rfl rfl)
theorem dL_law_210 : decode cL_law 210 = .ok (.iload_n 3, 1) := dk_29 (dk_at dksL_law_9 0 rfl rfl)
theorem dL_law_211 : decode cL_law 211 = .ok (.invokevirtual 41, 3) := dk_182 0 41 (dk_at dksL_law_9 1 rfl rfl)
theorem dL_law_214 : decode cL_law 214 = .ok (.iconst 2, 1) := dk_5 (dk_at dksL_law_9 4 rfl rfl)
theorem dL_law_215 : decode cL_law 215 = .ok (.iload 6, 2) := dk_21 6 (dk_at dksL_law_9 5 rfl rfl)
theorem dL_law_217 : decode cL_law 217 = .ok (.imul, 1) := dk_104 (dk_at dksL_law_9 7 rfl rfl)
theorem dL_law_218 : decode cL_law 218 = .ok (.lushr, 1) := dk_125 (dk_at dksL_law_9 8 rfl rfl)
theorem dL_law_219 : decode cL_law 219 = .ok (.lconst 1, 1) := dk_10 (dk_at dksL_law_9 9 rfl rfl)
theorem dL_law_220 : decode cL_law 220 = .ok (.land, 1) := dk_127 (dk_at dksL_law_9 10 rfl rfl)
theorem dL_law_221 : decode cL_law 221 = .ok (.iload 7, 2) := dk_21 7 (dk_at dksL_law_9 11 rfl rfl)
theorem dL_law_223 : decode cL_law 223 = .ok (.i2l, 1) := dk_133 (dk_at dksL_law_9 13 rfl rfl)
theorem dL_law_224 : decode cL_law 224 = .ok (.lcmp, 1) := dk_148 (dk_at dksL_law_9 14 rfl rfl)
theorem dL_law_225 : decode cL_law 225 = .ok (.ifCond .ne 29, 3) := dk_154 0 29 (dk_at dksL_law_9 15 rfl rfl)
theorem dL_law_228 : decode cL_law 228 = .ok (.aload_n 1, 1) := dk_43 (dk_at dksL_law_9 18 rfl rfl)
theorem dL_law_229 : decode cL_law 229 = .ok (.iload_n 2, 1) := dk_28 (dk_at dksL_law_9 19 rfl rfl)
theorem dL_law_230 : decode cL_law 230 = .ok (.iload_n 3, 1) := dk_29 (dk_at dksL_law_9 20 rfl rfl)
theorem dL_law_231 : decode cL_law 231 = .ok (.invokevirtual 41, 3) := dk_182 0 41 (dk_at dksL_law_9 21 rfl rfl)
theorem dL_law_234 : decode cL_law 234 = .ok (.iconst 2, 1) := dk_5 (dk_at dksL_law_10 0 rfl rfl)
theorem dL_law_235 : decode cL_law 235 = .ok (.iload 6, 2) := dk_21 6 (dk_at dksL_law_10 1 rfl rfl)
theorem dL_law_237 : decode cL_law 237 = .ok (.imul, 1) := dk_104 (dk_at dksL_law_10 3 rfl rfl)
theorem dL_law_238 : decode cL_law 238 = .ok (.iconst 1, 1) := dk_4 (dk_at dksL_law_10 4 rfl rfl)
theorem dL_law_239 : decode cL_law 239 = .ok (.iadd, 1) := dk_96 (dk_at dksL_law_10 5 rfl rfl)
theorem dL_law_240 : decode cL_law 240 = .ok (.lushr, 1) := dk_125 (dk_at dksL_law_10 6 rfl rfl)
theorem dL_law_241 : decode cL_law 241 = .ok (.lconst 1, 1) := dk_10 (dk_at dksL_law_10 7 rfl rfl)
theorem dL_law_242 : decode cL_law 242 = .ok (.land, 1) := dk_127 (dk_at dksL_law_10 8 rfl rfl)
theorem dL_law_243 : decode cL_law 243 = .ok (.iload_n 2, 1) := dk_28 (dk_at dksL_law_10 9 rfl rfl)
theorem dL_law_244 : decode cL_law 244 = .ok (.iload 6, 2) := dk_21 6 (dk_at dksL_law_10 10 rfl rfl)
theorem dL_law_246 : decode cL_law 246 = .ok (.iushr, 1) := dk_124 (dk_at dksL_law_10 12 rfl rfl)
theorem dL_law_247 : decode cL_law 247 = .ok (.iconst 1, 1) := dk_4 (dk_at dksL_law_10 13 rfl rfl)
theorem dL_law_248 : decode cL_law 248 = .ok (.iand, 1) := dk_126 (dk_at dksL_law_10 14 rfl rfl)
theorem dL_law_249 : decode cL_law 249 = .ok (.i2l, 1) := dk_133 (dk_at dksL_law_10 15 rfl rfl)
theorem dL_law_250 : decode cL_law 250 = .ok (.lcmp, 1) := dk_148 (dk_at dksL_law_10 16 rfl rfl)
theorem dL_law_251 : decode cL_law 251 = .ok (.ifCond .eq 5, 3) := dk_153 0 5 (dk_at dksL_law_10 17 rfl rfl)
theorem dL_law_254 : decode cL_law 254 = .ok (.iconst 0, 1) := dk_3 (dk_at dksL_law_10 20 rfl rfl)
theorem dL_law_255 : decode cL_law 255 = .ok (.ireturn, 1) := dk_172 (dk_at dksL_law_10 21 rfl rfl)
theorem dL_law_256 : decode cL_law 256 = .ok (.iinc 6 1, 3) := dk_132 6 1 (dk_at dksL_law_11 0 rfl rfl)
theorem dL_law_259 : decode cL_law 259 = .ok (.goto (-216), 3) := dk_167 255 40 (dk_at dksL_law_11 3 rfl rfl)
theorem dL_law_262 : decode cL_law 262 = .ok (.aload_n 1, 1) := dk_43 (dk_at dksL_law_11 6 rfl rfl)
theorem dL_law_263 : decode cL_law 263 = .ok (.aload_n 1, 1) := dk_43 (dk_at dksL_law_11 7 rfl rfl)
theorem dL_law_264 : decode cL_law 264 = .ok (.iload_n 3, 1) := dk_29 (dk_at dksL_law_11 8 rfl rfl)
theorem dL_law_265 : decode cL_law 265 = .ok (.invokevirtual 35, 3) := dk_182 0 35 (dk_at dksL_law_11 9 rfl rfl)
theorem dL_law_268 : decode cL_law 268 = .ok (.invokevirtual 45, 3) := dk_182 0 45 (dk_at dksL_law_11 12 rfl rfl)
theorem dL_law_271 : decode cL_law 271 = .ok (.iload_n 3, 1) := dk_29 (dk_at dksL_law_11 15 rfl rfl)
theorem dL_law_272 : decode cL_law 272 = .ok (.if_icmp .ne 25, 3) := dk_160 0 25 (dk_at dksL_law_11 16 rfl rfl)
theorem dL_law_275 : decode cL_law 275 = .ok (.aload_n 1, 1) := dk_43 (dk_at dksL_law_11 19 rfl rfl)
theorem dL_law_276 : decode cL_law 276 = .ok (.aload_n 1, 1) := dk_43 (dk_at dksL_law_11 20 rfl rfl)
theorem dL_law_277 : decode cL_law 277 = .ok (.iload_n 3, 1) := dk_29 (dk_at dksL_law_11 21 rfl rfl)
theorem dL_law_278 : decode cL_law 278 = .ok (.invokevirtual 45, 3) := dk_182 0 45 (dk_at dksL_law_12 0 rfl rfl)
theorem dL_law_281 : decode cL_law 281 = .ok (.invokevirtual 35, 3) := dk_182 0 35 (dk_at dksL_law_12 3 rfl rfl)
theorem dL_law_284 : decode cL_law 284 = .ok (.iload_n 3, 1) := dk_29 (dk_at dksL_law_12 6 rfl rfl)
theorem dL_law_285 : decode cL_law 285 = .ok (.if_icmp .ne 12, 3) := dk_160 0 12 (dk_at dksL_law_12 7 rfl rfl)
theorem dL_law_288 : decode cL_law 288 = .ok (.aload_n 1, 1) := dk_43 (dk_at dksL_law_12 10 rfl rfl)
theorem dL_law_289 : decode cL_law 289 = .ok (.iload_n 3, 1) := dk_29 (dk_at dksL_law_12 11 rfl rfl)
theorem dL_law_290 : decode cL_law 290 = .ok (.invokevirtual 48, 3) := dk_182 0 48 (dk_at dksL_law_12 12 rfl rfl)
theorem dL_law_293 : decode cL_law 293 = .ok (.iload_n 3, 1) := dk_29 (dk_at dksL_law_12 15 rfl rfl)
theorem dL_law_294 : decode cL_law 294 = .ok (.if_icmp .eq 5, 3) := dk_159 0 5 (dk_at dksL_law_12 16 rfl rfl)
theorem dL_law_297 : decode cL_law 297 = .ok (.iconst 0, 1) := dk_3 (dk_at dksL_law_12 19 rfl rfl)
theorem dL_law_298 : decode cL_law 298 = .ok (.ireturn, 1) := dk_172 (dk_at dksL_law_12 20 rfl rfl)
theorem dL_law_299 : decode cL_law 299 = .ok (.aload_n 1, 1) := dk_43 (dk_at dksL_law_12 21 rfl rfl)
theorem dL_law_300 : decode cL_law 300 = .ok (.iload_n 2, 1) := dk_28 (dk_at dksL_law_12 22 rfl rfl)
theorem dL_law_301 : decode cL_law 301 = .ok (.iload_n 3, 1) := dk_29 (dk_at dksL_law_12 23 rfl rfl)
theorem dL_law_302 : decode cL_law 302 = .ok (.invokevirtual 41, 3) := dk_182 0 41 (dk_at dksL_law_13 0 rfl rfl)
theorem dL_law_305 : decode cL_law 305 = .ok (.lstore 6, 2) := dk_55 6 (dk_at dksL_law_13 3 rfl rfl)
theorem dL_law_307 : decode cL_law 307 = .ok (.aload_n 1, 1) := dk_43 (dk_at dksL_law_13 5 rfl rfl)
theorem dL_law_308 : decode cL_law 308 = .ok (.iload_n 2, 1) := dk_28 (dk_at dksL_law_13 6 rfl rfl)
theorem dL_law_309 : decode cL_law 309 = .ok (.iload_n 3, 1) := dk_29 (dk_at dksL_law_13 7 rfl rfl)
theorem dL_law_310 : decode cL_law 310 = .ok (.invokevirtual 51, 3) := dk_182 0 51 (dk_at dksL_law_13 8 rfl rfl)
theorem dL_law_313 : decode cL_law 313 = .ok (.lstore 8, 2) := dk_55 8 (dk_at dksL_law_13 11 rfl rfl)
theorem dL_law_315 : decode cL_law 315 = .ok (.aload_n 1, 1) := dk_43 (dk_at dksL_law_13 13 rfl rfl)
theorem dL_law_316 : decode cL_law 316 = .ok (.lload 6, 2) := dk_22 6 (dk_at dksL_law_13 14 rfl rfl)
theorem dL_law_318 : decode cL_law 318 = .ok (.bipush 32, 2) := dk_16 32 (dk_at dksL_law_13 16 rfl rfl)
theorem dL_law_320 : decode cL_law 320 = .ok (.lshr, 1) := dk_123 (dk_at dksL_law_13 18 rfl rfl)
theorem dL_law_321 : decode cL_law 321 = .ok (.l2i, 1) := dk_136 (dk_at dksL_law_13 19 rfl rfl)
theorem dL_law_322 : decode cL_law 322 = .ok (.lload 6, 2) := dk_22 6 (dk_at dksL_law_13 20 rfl rfl)
theorem dL_law_324 : decode cL_law 324 = .ok (.l2i, 1) := dk_136 (dk_at dksL_law_13 22 rfl rfl)
theorem dL_law_325 : decode cL_law 325 = .ok (.invokevirtual 51, 3) := dk_182 0 51 (dk_at dksL_law_14 0 rfl rfl)
theorem dL_law_328 : decode cL_law 328 = .ok (.lload 4, 2) := dk_22 4 (dk_at dksL_law_14 3 rfl rfl)
theorem dL_law_330 : decode cL_law 330 = .ok (.lcmp, 1) := dk_148 (dk_at dksL_law_14 5 rfl rfl)
theorem dL_law_331 : decode cL_law 331 = .ok (.ifCond .ne 22, 3) := dk_154 0 22 (dk_at dksL_law_14 6 rfl rfl)
theorem dL_law_334 : decode cL_law 334 = .ok (.aload_n 1, 1) := dk_43 (dk_at dksL_law_14 9 rfl rfl)
theorem dL_law_335 : decode cL_law 335 = .ok (.lload 8, 2) := dk_22 8 (dk_at dksL_law_14 10 rfl rfl)
theorem dL_law_337 : decode cL_law 337 = .ok (.bipush 32, 2) := dk_16 32 (dk_at dksL_law_14 12 rfl rfl)
theorem dL_law_339 : decode cL_law 339 = .ok (.lshr, 1) := dk_123 (dk_at dksL_law_14 14 rfl rfl)
theorem dL_law_340 : decode cL_law 340 = .ok (.l2i, 1) := dk_136 (dk_at dksL_law_14 15 rfl rfl)
theorem dL_law_341 : decode cL_law 341 = .ok (.lload 8, 2) := dk_22 8 (dk_at dksL_law_14 16 rfl rfl)
theorem dL_law_343 : decode cL_law 343 = .ok (.l2i, 1) := dk_136 (dk_at dksL_law_14 18 rfl rfl)
theorem dL_law_344 : decode cL_law 344 = .ok (.invokevirtual 41, 3) := dk_182 0 41 (dk_at dksL_law_14 19 rfl rfl)
theorem dL_law_347 : decode cL_law 347 = .ok (.lload 4, 2) := dk_22 4 (dk_at dksL_law_14 22 rfl rfl)
theorem dL_law_349 : decode cL_law 349 = .ok (.lcmp, 1) := dk_148 (dk_at dksL_law_15 0 rfl rfl)
theorem dL_law_350 : decode cL_law 350 = .ok (.ifCond .eq 5, 3) := dk_153 0 5 (dk_at dksL_law_15 1 rfl rfl)
theorem dL_law_353 : decode cL_law 353 = .ok (.iconst 0, 1) := dk_3 (dk_at dksL_law_15 4 rfl rfl)
theorem dL_law_354 : decode cL_law 354 = .ok (.ireturn, 1) := dk_172 (dk_at dksL_law_15 5 rfl rfl)
theorem dL_law_355 : decode cL_law 355 = .ok (.aload_n 1, 1) := dk_43 (dk_at dksL_law_15 6 rfl rfl)
theorem dL_law_356 : decode cL_law 356 = .ok (.iload_n 2, 1) := dk_28 (dk_at dksL_law_15 7 rfl rfl)
theorem dL_law_357 : decode cL_law 357 = .ok (.iload_n 3, 1) := dk_29 (dk_at dksL_law_15 8 rfl rfl)
theorem dL_law_358 : decode cL_law 358 = .ok (.invokevirtual 54, 3) := dk_182 0 54 (dk_at dksL_law_15 9 rfl rfl)
theorem dL_law_361 : decode cL_law 361 = .ok (.lload 4, 2) := dk_22 4 (dk_at dksL_law_15 12 rfl rfl)
theorem dL_law_363 : decode cL_law 363 = .ok (.lcmp, 1) := dk_148 (dk_at dksL_law_15 14 rfl rfl)
theorem dL_law_364 : decode cL_law 364 = .ok (.ifCond .ne 32, 3) := dk_154 0 32 (dk_at dksL_law_15 15 rfl rfl)
theorem dL_law_367 : decode cL_law 367 = .ok (.aload_n 1, 1) := dk_43 (dk_at dksL_law_15 18 rfl rfl)
theorem dL_law_368 : decode cL_law 368 = .ok (.iload_n 2, 1) := dk_28 (dk_at dksL_law_15 19 rfl rfl)
theorem dL_law_369 : decode cL_law 369 = .ok (.iload_n 3, 1) := dk_29 (dk_at dksL_law_15 20 rfl rfl)
theorem dL_law_370 : decode cL_law 370 = .ok (.invokevirtual 57, 3) := dk_182 0 57 (dk_at dksL_law_15 21 rfl rfl)
theorem dL_law_373 : decode cL_law 373 = .ok (.lload 4, 2) := dk_22 4 (dk_at dksL_law_16 0 rfl rfl)
theorem dL_law_375 : decode cL_law 375 = .ok (.lcmp, 1) := dk_148 (dk_at dksL_law_16 2 rfl rfl)
theorem dL_law_376 : decode cL_law 376 = .ok (.ifCond .ne 20, 3) := dk_154 0 20 (dk_at dksL_law_16 3 rfl rfl)
theorem dL_law_379 : decode cL_law 379 = .ok (.aload_n 0, 1) := dk_42 (dk_at dksL_law_16 6 rfl rfl)
theorem dL_law_380 : decode cL_law 380 = .ok (.invokestatic 60, 3) := dk_184 0 60 (dk_at dksL_law_16 7 rfl rfl)
theorem dL_law_383 : decode cL_law 383 = .ok (.ifCond .eq 13, 3) := dk_153 0 13 (dk_at dksL_law_16 10 rfl rfl)
theorem dL_law_386 : decode cL_law 386 = .ok (.invokestatic 64, 3) := dk_184 0 64 (dk_at dksL_law_16 13 rfl rfl)
theorem dL_law_389 : decode cL_law 389 = .ok (.ifCond .eq 7, 3) := dk_153 0 7 (dk_at dksL_law_16 16 rfl rfl)
theorem dL_law_392 : decode cL_law 392 = .ok (.iconst 1, 1) := dk_4 (dk_at dksL_law_16 19 rfl rfl)
theorem dL_law_393 : decode cL_law 393 = .ok (.goto 4, 3) := dk_167 0 4 (dk_at dksL_law_16 20 rfl rfl)
theorem dL_law_396 : decode cL_law 396 = .ok (.iconst 0, 1) := dk_3 (dk_at dksL_law_16 23 rfl rfl)
theorem dL_law_397 : decode cL_law 397 = .ok (.ireturn, 1) := dk_172 (dk_at dksL_law_17 0 rfl rfl)
theorem q16 : (Jvm.Cond.arrayClass Jvm.ClassFile.FieldType.long) ∈ lw_all := lw_g (lw_at lw_m0 16 rfl) rfl
set_option maxRecDepth 100000
end
section
/-! THE NUMBERS: what the methods compute, written as the machine writes it; then the bits of ints (pb) and longs (qb) -/
def pu_ju (x y : Int32) : Int32 := (x.toUInt32 >>> (y.toUInt32 &&& Int32.toUInt32 31)).toInt32
def pu_jU (x : Int64) (y : Int32) : Int64 := (x.toUInt64 >>> (y.toInt64.toUInt64 &&& Int64.toUInt64 63)).toInt64
def pu_jl (x : Int64) (y : Int32) : Int64 := x <<< (y.toInt64 &&& 63)
def pu_js (x : Int64) (y : Int32) : Int64 := x >>> (y.toInt64 &&& 63)
def pu_st (x m s : Int32) : Int32 := (((x ^^^ pu_ju x s) &&& m) ^^^ (((x ^^^ pu_ju x s) &&& m) <<< (s &&& 31))) ^^^ x
def pu_sT (x m : Int64) (s : Int32) : Int64 := (((x ^^^ pu_jU x s) &&& m) ^^^ pu_jl ((x ^^^ pu_jU x s) &&& m) s) ^^^ x
def pu_or (x s m : Int32) : Int32 := (x ||| (x <<< (s &&& 31))) &&& m
def pu_e8 (x : Int32) : Int32 := pu_or (pu_or (pu_or (x &&& 255) 4 3855) 2 13107) 1 21845
def pu_e16 (x : Int32) : Int32 := pu_or (pu_or (pu_or (pu_or (x &&& 65535) 8 16711935) 4 252645135) 2 858993459) 1 1431655765
def pu_sh (x : Int32) : Int32 := pu_st (pu_st (pu_st (pu_st x 65280 8) 15728880 4) 202116108 2) 572662306 1
def pu_un (x : Int32) : Int32 := pu_st (pu_st (pu_st (pu_st x 572662306 1) 202116108 2) 15728880 4) 65280 8
def pu_e32 (x : Int32) : Int64 := pu_jl ((pu_ju (pu_sh x) 1).toInt64 &&& 1431655765) 32 ||| ((pu_sh x).toInt64 &&& 1431655765)
def pu_sH (x : Int64) : Int64 := pu_sT (pu_sT (pu_sT (pu_sT (pu_sT x 4294901760 16) 280375465148160 8) 67555025218437360 4) 868082074056920076 2) 2459565876494606882 1
def pu_uN (x : Int64) : Int64 := pu_sT (pu_sT (pu_sT (pu_sT (pu_sT x 2459565876494606882 1) 868082074056920076 2) 67555025218437360 4) 280375465148160 8) 4294901760 16
def pu_x0 (x : Int64) : Int64 := pu_sH x &&& 6148914691236517205
def pu_x1 (x : Int64) : Int64 := pu_jU (pu_sH x) 1 &&& 6148914691236517205
def pu_s2 (x : Int32) : Int32 := pu_st (pu_st (pu_st (pu_st x 11141290 7) 52428 14) 15728880 4) 65280 8
def pu_u2 (x : Int32) : Int32 := pu_st (pu_st (pu_st (pu_st x 65280 8) 15728880 4) 52428 14) 11141290 7
def pu_S2 (x : Int64) : Int64 := pu_sT (pu_sT (pu_sT (pu_sT x 4278255360 24) 57421771435671756 6) 264913582878960 12) 723401728380766730 3
def pu_U2 (x : Int64) : Int64 := pu_sT (pu_sT (pu_sT (pu_sT x 723401728380766730 3) 264913582878960 12) 57421771435671756 6) 4278255360 24
def pu_s3 (x : Int64) : Int64 := pu_sT (pu_sT (pu_sT x 47851476196393130 7) 225176545447116 14) 4042322160 28
def pu_w (h l : Int32) : Int64 := pu_jl h.toInt64 32 ||| (l.toInt64 &&& 4294967295)
/-! bits -/
def pb (x : Int32) (j : Nat) : Bool := x.toBitVec.getLsbD j
def qb (x : Int64) (j : Nat) : Bool := x.toBitVec.getLsbD j
theorem pb_ext {x y : Int32} (h : ∀ j, j < 32 → pb x j = pb y j) : x = y := Int32.toBitVec_inj.mp (BitVec.eq_of_getLsbD_eq h)
theorem qb_ext {x y : Int64} (h : ∀ j, j < 64 → qb x j = qb y j) : x = y := Int64.toBitVec_inj.mp (BitVec.eq_of_getLsbD_eq h)
theorem pb_xor (x y : Int32) (j : Nat) : pb (x ^^^ y) j = (pb x j ^^ pb y j) := by
  unfold pb
  rw [Int32.toBitVec_xor, BitVec.getLsbD_xor]
theorem pb_and (x y : Int32) (j : Nat) : pb (x &&& y) j = (pb x j && pb y j) := by
  unfold pb
  rw [Int32.toBitVec_and, BitVec.getLsbD_and]
theorem pb_or (x y : Int32) (j : Nat) : pb (x ||| y) j = (pb x j || pb y j) := by
  unfold pb
  rw [Int32.toBitVec_or, BitVec.getLsbD_or]
theorem qb_xor (x y : Int64) (j : Nat) : qb (x ^^^ y) j = (qb x j ^^ qb y j) := by
  unfold qb
  rw [Int64.toBitVec_xor, BitVec.getLsbD_xor]
theorem qb_and (x y : Int64) (j : Nat) : qb (x &&& y) j = (qb x j && qb y j) := by
  unfold qb
  rw [Int64.toBitVec_and, BitVec.getLsbD_and]
theorem qb_or (x y : Int64) (j : Nat) : qb (x ||| y) j = (qb x j || qb y j) := by
  unfold qb
  rw [Int64.toBitVec_or, BitVec.getLsbD_or]
theorem pb_n {x : Int32} {n : Nat} (h : x.toBitVec.toNat = n) (j : Nat) : pb x j = n.testBit j := by
  rw [← h]
  rfl
theorem qb_n {x : Int64} {n : Nat} (h : x.toBitVec.toNat = n) (j : Nat) : qb x j = n.testBit j := by
  rw [← h]
  rfl
theorem pb_ju {x S : Int32} {s : Nat} (h : ((S.toUInt32 &&& Int32.toUInt32 31).toBitVec % 32).toNat = s) (j : Nat) : pb (pu_ju x S) j = pb x (s + j) := by
  have e : (pu_ju x S).toBitVec = x.toBitVec >>> s := by
    rw [← h]
    exact UInt32.toBitVec_shiftRight _ _
  unfold pb
  rw [e, BitVec.getLsbD_ushiftRight]
theorem qb_jU {x : Int64} {S : Int32} {s : Nat} (h : ((S.toInt64.toUInt64 &&& Int64.toUInt64 63).toBitVec % 64).toNat = s) (j : Nat) : qb (pu_jU x S) j = qb x (s + j) := by
  have e : (pu_jU x S).toBitVec = x.toBitVec >>> s := by
    rw [← h]
    exact UInt64.toBitVec_shiftRight _ _
  unfold qb
  rw [e, BitVec.getLsbD_ushiftRight]
theorem pb_shl {x S : Int32} {s : Nat} (h : ((S &&& 31).toBitVec.smod 32).toNat = s) {j : Nat} (hj : j < 32) : pb (x <<< (S &&& 31)) j = (!decide (j < s) && pb x (j - s)) := by
  have e : (x <<< (S &&& 31)).toBitVec = x.toBitVec <<< s := by
    rw [← h]
    rfl
  unfold pb
  rw [e, BitVec.getLsbD_shiftLeft, decide_eq_true hj, Bool.true_and]
theorem qb_jl {x : Int64} {S : Int32} {s : Nat} (h : ((S.toInt64 &&& 63).toBitVec.smod 64).toNat = s) {j : Nat} (hj : j < 64) : qb (pu_jl x S) j = (!decide (j < s) && qb x (j - s)) := by
  have e : (pu_jl x S).toBitVec = x.toBitVec <<< s := by
    rw [← h]
    rfl
  unfold qb
  rw [e, BitVec.getLsbD_shiftLeft, decide_eq_true hj, Bool.true_and]
theorem qb_js {x : Int64} {S : Int32} {s : Nat} (h : ((S.toInt64 &&& 63).toBitVec.smod 64).toNat = s) {j : Nat} (hj : s + j < 64) : qb (pu_js x S) j = qb x (s + j) := by
  have e : (pu_js x S).toBitVec = x.toBitVec.sshiftRight s := by
    rw [← h]
    rfl
  unfold qb
  rw [e, BitVec.getLsbD_sshiftRight, if_pos hj, decide_eq_false (show ¬ 64 ≤ j by omega), Bool.not_false, Bool.true_and]
theorem qb_i2l {x : Int32} {j : Nat} (hj : j < 64) : qb x.toInt64 j = if j < 32 then pb x j else pb x 31 := by
  unfold qb pb
  rw [Int32.toBitVec_toInt64, BitVec.getLsbD_signExtend, decide_eq_true hj, Bool.true_and, BitVec.msb_eq_getLsbD_last]
theorem pb_l2i {x : Int64} {j : Nat} (hj : j < 32) : pb x.toInt32 j = qb x j := by
  unfold qb pb
  rw [Int64.toBitVec_toInt32, BitVec.getLsbD_signExtend, decide_eq_true hj, Bool.true_and, if_pos (show j < 64 by omega)]
/-! a step moves bits: bit j of the result is the bit pu_p m s j -/
def pu_p (m s j : Nat) : Nat := if m.testBit j = true then s + j else if s ≤ j ∧ m.testBit (j - s) = true then j - s else j
theorem pb_st {x M S : Int32} {m s : Nat} (hm : M.toBitVec.toNat = m) (h1 : ((S.toUInt32 &&& Int32.toUInt32 31).toBitVec % 32).toNat = s) (h2 : ((S &&& 31).toBitVec.smod 32).toNat = s) (hd : ∀ i, i < 32 → s ≤ i → m.testBit i = true → m.testBit (i - s) = false) {j : Nat} (hj : j < 32) : pb (pu_st x M S) j = pb x (pu_p m s j) := by
  unfold pu_st
  rw [pb_xor, pb_xor, pb_shl h2 hj, pb_and, pb_and, pb_xor, pb_xor, pb_ju h1, pb_ju h1, pb_n hm, pb_n hm]
  unfold pu_p
  by_cases h3 : s ≤ j
  · rw [decide_eq_false (show ¬ j < s by omega), Nat.add_sub_cancel' h3]
    by_cases h4 : m.testBit j = true
    · rw [if_pos h4, h4, hd j hj h3 h4]
      cases pb x j <;> cases pb x (s + j) <;> cases pb x (j - s) <;> rfl
    · rw [if_neg h4, eq_false_of_ne_true h4]
      by_cases h5 : m.testBit (j - s) = true
      · rw [if_pos (show s ≤ j ∧ m.testBit (j - s) = true from ⟨h3, h5⟩), h5]
        cases pb x j <;> cases pb x (s + j) <;> cases pb x (j - s) <;> rfl
      · rw [if_neg (show ¬ (s ≤ j ∧ m.testBit (j - s) = true) from fun q => h5 q.2), eq_false_of_ne_true h5]
        cases pb x j <;> cases pb x (s + j) <;> cases pb x (j - s) <;> rfl
  · rw [decide_eq_true (show j < s by omega), Bool.not_true, Bool.false_and]
    by_cases h4 : m.testBit j = true
    · rw [if_pos h4, h4]
      cases pb x j <;> cases pb x (s + j) <;> rfl
    · rw [if_neg h4, eq_false_of_ne_true h4, if_neg (show ¬ (s ≤ j ∧ m.testBit (j - s) = true) from fun q => h3 q.1)]
      cases pb x j <;> cases pb x (s + j) <;> rfl
theorem qb_sT {x M : Int64} {S : Int32} {m s : Nat} (hm : M.toBitVec.toNat = m) (h1 : ((S.toInt64.toUInt64 &&& Int64.toUInt64 63).toBitVec % 64).toNat = s) (h2 : ((S.toInt64 &&& 63).toBitVec.smod 64).toNat = s) (hd : ∀ i, i < 64 → s ≤ i → m.testBit i = true → m.testBit (i - s) = false) {j : Nat} (hj : j < 64) : qb (pu_sT x M S) j = qb x (pu_p m s j) := by
  unfold pu_sT
  rw [qb_xor, qb_xor, qb_jl h2 hj, qb_and, qb_and, qb_xor, qb_xor, qb_jU h1, qb_jU h1, qb_n hm, qb_n hm]
  unfold pu_p
  by_cases h3 : s ≤ j
  · rw [decide_eq_false (show ¬ j < s by omega), Nat.add_sub_cancel' h3]
    by_cases h4 : m.testBit j = true
    · rw [if_pos h4, h4, hd j hj h3 h4]
      cases qb x j <;> cases qb x (s + j) <;> cases qb x (j - s) <;> rfl
    · rw [if_neg h4, eq_false_of_ne_true h4]
      by_cases h5 : m.testBit (j - s) = true
      · rw [if_pos (show s ≤ j ∧ m.testBit (j - s) = true from ⟨h3, h5⟩), h5]
        cases qb x j <;> cases qb x (s + j) <;> cases qb x (j - s) <;> rfl
      · rw [if_neg (show ¬ (s ≤ j ∧ m.testBit (j - s) = true) from fun q => h5 q.2), eq_false_of_ne_true h5]
        cases qb x j <;> cases qb x (s + j) <;> cases qb x (j - s) <;> rfl
  · rw [decide_eq_true (show j < s by omega), Bool.not_true, Bool.false_and]
    by_cases h4 : m.testBit j = true
    · rw [if_pos h4, h4]
      cases qb x j <;> cases qb x (s + j) <;> rfl
    · rw [if_neg h4, eq_false_of_ne_true h4, if_neg (show ¬ (s ≤ j ∧ m.testBit (j - s) = true) from fun q => h3 q.1)]
      cases qb x j <;> cases qb x (s + j) <;> rfl
/-! chains of steps -/
def pu_B (x y : Int32) (f : Nat → Nat) : Prop := ∀ j, j < 32 → pb y j = pb x (f j)
def qu_B (x y : Int64) (f : Nat → Nat) : Prop := ∀ j, j < 64 → qb y j = qb x (f j)
theorem pu_B0 (x : Int32) : pu_B x x (fun j => j) := fun _ _ => rfl
theorem qu_B0 (x : Int64) : qu_B x x (fun j => j) := fun _ _ => rfl
theorem pu_Bst {x y M S : Int32} {f : Nat → Nat} (m s : Nat) (h : pu_B x y f) (hm : M.toBitVec.toNat = m) (h1 : ((S.toUInt32 &&& Int32.toUInt32 31).toBitVec % 32).toNat = s) (h2 : ((S &&& 31).toBitVec.smod 32).toNat = s) (hd : ∀ i, i < 32 → s ≤ i → m.testBit i = true → m.testBit (i - s) = false) (hr : ∀ i, i < 32 → pu_p m s i < 32) : pu_B x (pu_st y M S) (fun j => f (pu_p m s j)) := fun j hj => (pb_st hm h1 h2 hd hj).trans (h _ (hr j hj))
theorem qu_Bst {x y M : Int64} {S : Int32} {f : Nat → Nat} (m s : Nat) (h : qu_B x y f) (hm : M.toBitVec.toNat = m) (h1 : ((S.toInt64.toUInt64 &&& Int64.toUInt64 63).toBitVec % 64).toNat = s) (h2 : ((S.toInt64 &&& 63).toBitVec.smod 64).toNat = s) (hd : ∀ i, i < 64 → s ≤ i → m.testBit i = true → m.testBit (i - s) = false) (hr : ∀ i, i < 64 → pu_p m s i < 64) : qu_B x (pu_sT y M S) (fun j => f (pu_p m s j)) := fun j hj => (qb_sT hm h1 h2 hd hj).trans (h _ (hr j hj))
theorem pu_Bto {x y : Int32} {f g : Nat → Nat} (h : pu_B x y f) (e : ∀ j, j < 32 → f j = g j) : pu_B x y g := fun j hj => (h j hj).trans (congrArg (pb x) (e j hj))
theorem qu_Bto {x y : Int64} {f g : Nat → Nat} (h : qu_B x y f) (e : ∀ j, j < 64 → f j = g j) : qu_B x y g := fun j hj => (h j hj).trans (congrArg (qb x) (e j hj))
theorem pu_Bid {x y : Int32} {f : Nat → Nat} (h : pu_B x y f) (e : ∀ j, j < 32 → f j = j) : y = x := pb_ext (fun j hj => (h j hj).trans (congrArg (pb x) (e j hj)))
theorem qu_Bid {x y : Int64} {f : Nat → Nat} (h : qu_B x y f) (e : ∀ j, j < 64 → f j = j) : y = x := qb_ext (fun j hj => (h j hj).trans (congrArg (qb x) (e j hj)))
theorem pu_k8 {x y : Int32} {f : Nat → Nat} (h : pu_B x y f) : pu_B x (pu_st y 65280 8) (fun j => f (pu_p 65280 8 j)) := pu_Bst 65280 8 h (by decide +kernel) (by decide +kernel) (by decide +kernel) (by decide +kernel) (by decide +kernel)
theorem pu_k4 {x y : Int32} {f : Nat → Nat} (h : pu_B x y f) : pu_B x (pu_st y 15728880 4) (fun j => f (pu_p 15728880 4 j)) := pu_Bst 15728880 4 h (by decide +kernel) (by decide +kernel) (by decide +kernel) (by decide +kernel) (by decide +kernel)
theorem pu_k2 {x y : Int32} {f : Nat → Nat} (h : pu_B x y f) : pu_B x (pu_st y 202116108 2) (fun j => f (pu_p 202116108 2 j)) := pu_Bst 202116108 2 h (by decide +kernel) (by decide +kernel) (by decide +kernel) (by decide +kernel) (by decide +kernel)
theorem pu_k1 {x y : Int32} {f : Nat → Nat} (h : pu_B x y f) : pu_B x (pu_st y 572662306 1) (fun j => f (pu_p 572662306 1 j)) := pu_Bst 572662306 1 h (by decide +kernel) (by decide +kernel) (by decide +kernel) (by decide +kernel) (by decide +kernel)
theorem pu_k7 {x y : Int32} {f : Nat → Nat} (h : pu_B x y f) : pu_B x (pu_st y 11141290 7) (fun j => f (pu_p 11141290 7 j)) := pu_Bst 11141290 7 h (by decide +kernel) (by decide +kernel) (by decide +kernel) (by decide +kernel) (by decide +kernel)
theorem pu_k14 {x y : Int32} {f : Nat → Nat} (h : pu_B x y f) : pu_B x (pu_st y 52428 14) (fun j => f (pu_p 52428 14 j)) := pu_Bst 52428 14 h (by decide +kernel) (by decide +kernel) (by decide +kernel) (by decide +kernel) (by decide +kernel)
theorem qu_k16 {x y : Int64} {f : Nat → Nat} (h : qu_B x y f) : qu_B x (pu_sT y 4294901760 16) (fun j => f (pu_p 4294901760 16 j)) := qu_Bst 4294901760 16 h (by decide +kernel) (by decide +kernel) (by decide +kernel) (by decide +kernel) (by decide +kernel)
theorem qu_k8 {x y : Int64} {f : Nat → Nat} (h : qu_B x y f) : qu_B x (pu_sT y 280375465148160 8) (fun j => f (pu_p 280375465148160 8 j)) := qu_Bst 280375465148160 8 h (by decide +kernel) (by decide +kernel) (by decide +kernel) (by decide +kernel) (by decide +kernel)
theorem qu_k4 {x y : Int64} {f : Nat → Nat} (h : qu_B x y f) : qu_B x (pu_sT y 67555025218437360 4) (fun j => f (pu_p 67555025218437360 4 j)) := qu_Bst 67555025218437360 4 h (by decide +kernel) (by decide +kernel) (by decide +kernel) (by decide +kernel) (by decide +kernel)
theorem qu_k2 {x y : Int64} {f : Nat → Nat} (h : qu_B x y f) : qu_B x (pu_sT y 868082074056920076 2) (fun j => f (pu_p 868082074056920076 2 j)) := qu_Bst 868082074056920076 2 h (by decide +kernel) (by decide +kernel) (by decide +kernel) (by decide +kernel) (by decide +kernel)
theorem qu_k1 {x y : Int64} {f : Nat → Nat} (h : qu_B x y f) : qu_B x (pu_sT y 2459565876494606882 1) (fun j => f (pu_p 2459565876494606882 1 j)) := qu_Bst 2459565876494606882 1 h (by decide +kernel) (by decide +kernel) (by decide +kernel) (by decide +kernel) (by decide +kernel)
theorem qu_k24 {x y : Int64} {f : Nat → Nat} (h : qu_B x y f) : qu_B x (pu_sT y 4278255360 24) (fun j => f (pu_p 4278255360 24 j)) := qu_Bst 4278255360 24 h (by decide +kernel) (by decide +kernel) (by decide +kernel) (by decide +kernel) (by decide +kernel)
theorem qu_k6 {x y : Int64} {f : Nat → Nat} (h : qu_B x y f) : qu_B x (pu_sT y 57421771435671756 6) (fun j => f (pu_p 57421771435671756 6 j)) := qu_Bst 57421771435671756 6 h (by decide +kernel) (by decide +kernel) (by decide +kernel) (by decide +kernel) (by decide +kernel)
theorem qu_k12 {x y : Int64} {f : Nat → Nat} (h : qu_B x y f) : qu_B x (pu_sT y 264913582878960 12) (fun j => f (pu_p 264913582878960 12 j)) := qu_Bst 264913582878960 12 h (by decide +kernel) (by decide +kernel) (by decide +kernel) (by decide +kernel) (by decide +kernel)
theorem qu_k3 {x y : Int64} {f : Nat → Nat} (h : qu_B x y f) : qu_B x (pu_sT y 723401728380766730 3) (fun j => f (pu_p 723401728380766730 3 j)) := qu_Bst 723401728380766730 3 h (by decide +kernel) (by decide +kernel) (by decide +kernel) (by decide +kernel) (by decide +kernel)
theorem qu_k7 {x y : Int64} {f : Nat → Nat} (h : qu_B x y f) : qu_B x (pu_sT y 47851476196393130 7) (fun j => f (pu_p 47851476196393130 7 j)) := qu_Bst 47851476196393130 7 h (by decide +kernel) (by decide +kernel) (by decide +kernel) (by decide +kernel) (by decide +kernel)
theorem qu_k14 {x y : Int64} {f : Nat → Nat} (h : qu_B x y f) : qu_B x (pu_sT y 225176545447116 14) (fun j => f (pu_p 225176545447116 14 j)) := qu_Bst 225176545447116 14 h (by decide +kernel) (by decide +kernel) (by decide +kernel) (by decide +kernel) (by decide +kernel)
theorem qu_k28 {x y : Int64} {f : Nat → Nat} (h : qu_B x y f) : qu_B x (pu_sT y 4042322160 28) (fun j => f (pu_p 4042322160 28 j)) := qu_Bst 4042322160 28 h (by decide +kernel) (by decide +kernel) (by decide +kernel) (by decide +kernel) (by decide +kernel)
end
section
/-! THE LAWS of the numbers: which bit stands where; what is undone by what -/
theorem sh_b (x : Int32) (j : Nat) (hj : j < 32) : pb (pu_sh x) j = pb x (if j % 2 = 0 then j / 2 else 16 + j / 2) := pu_Bto (x := x) (y := pu_sh x) (g := fun j => if j % 2 = 0 then j / 2 else 16 + j / 2) (pu_k1 (pu_k2 (pu_k4 (pu_k8 (pu_B0 x))))) (by decide +kernel) j hj
theorem sH_b (x : Int64) (j : Nat) (hj : j < 64) : qb (pu_sH x) j = qb x (if j % 2 = 0 then j / 2 else 32 + j / 2) := qu_Bto (x := x) (y := pu_sH x) (g := fun j => if j % 2 = 0 then j / 2 else 32 + j / 2) (qu_k1 (qu_k2 (qu_k4 (qu_k8 (qu_k16 (qu_B0 x)))))) (by decide +kernel) j hj
theorem un_sh (x : Int32) : pu_un (pu_sh x) = x := pu_Bid (x := x) (y := pu_un (pu_sh x)) (pu_k8 (pu_k4 (pu_k2 (pu_k1 (pu_k1 (pu_k2 (pu_k4 (pu_k8 (pu_B0 x))))))))) (by decide +kernel)
theorem sh_un (x : Int32) : pu_sh (pu_un x) = x := pu_Bid (x := x) (y := pu_sh (pu_un x)) (pu_k1 (pu_k2 (pu_k4 (pu_k8 (pu_k8 (pu_k4 (pu_k2 (pu_k1 (pu_B0 x))))))))) (by decide +kernel)
theorem u2_s2 (x : Int32) : pu_u2 (pu_s2 x) = x := pu_Bid (x := x) (y := pu_u2 (pu_s2 x)) (pu_k7 (pu_k14 (pu_k4 (pu_k8 (pu_k8 (pu_k4 (pu_k14 (pu_k7 (pu_B0 x))))))))) (by decide +kernel)
theorem uN_sH (x : Int64) : pu_uN (pu_sH x) = x := qu_Bid (x := x) (y := pu_uN (pu_sH x)) (qu_k16 (qu_k8 (qu_k4 (qu_k2 (qu_k1 (qu_k1 (qu_k2 (qu_k4 (qu_k8 (qu_k16 (qu_B0 x))))))))))) (by decide +kernel)
theorem sH_uN (x : Int64) : pu_sH (pu_uN x) = x := qu_Bid (x := x) (y := pu_sH (pu_uN x)) (qu_k1 (qu_k2 (qu_k4 (qu_k8 (qu_k16 (qu_k16 (qu_k8 (qu_k4 (qu_k2 (qu_k1 (qu_B0 x))))))))))) (by decide +kernel)
theorem U2_S2 (x : Int64) : pu_U2 (pu_S2 x) = x := qu_Bid (x := x) (y := pu_U2 (pu_S2 x)) (qu_k24 (qu_k6 (qu_k12 (qu_k3 (qu_k3 (qu_k12 (qu_k6 (qu_k24 (qu_B0 x))))))))) (by decide +kernel)
theorem s3_s3 (x : Int64) : pu_s3 (pu_s3 x) = x := qu_Bid (x := x) (y := pu_s3 (pu_s3 x)) (qu_k28 (qu_k14 (qu_k7 (qu_k28 (qu_k14 (qu_k7 (qu_B0 x))))))) (by decide +kernel)
/-! the spreads of 8 and of 16 bits: a place has one bit of x, or none -/
def ob (x : Int32) (o : Option Nat) : Bool := match o with
  | none => false
  | some k => pb x k
theorem ob_if {c : Prop} [Decidable c] (x : Int32) (k : Nat) : ob x (if c then some k else none) = if c then pb x k else false := by
  by_cases h : c
  · rw [if_pos h, if_pos h]
    rfl
  · rw [if_neg h, if_neg h]
    rfl
def pu_O (x y : Int32) (f : Nat → Option Nat) : Prop := ∀ j, j < 32 → pb y j = ob x (f j)
def pu_m (m j : Nat) : Option Nat := if m.testBit j = true then some j else none
theorem pu_Om {x M : Int32} {m : Nat} (hm : M.toBitVec.toNat = m) : pu_O x (x &&& M) (pu_m m) := fun j _ => by
  rw [pb_and, pb_n hm]
  unfold pu_m
  by_cases h : m.testBit j = true
  · rw [if_pos h, h, Bool.and_true]
    rfl
  · rw [if_neg h, eq_false_of_ne_true h, Bool.and_false]
    rfl
def pu_os (f : Nat → Option Nat) (m s j : Nat) : Option Nat := if m.testBit j = true then (if (f j).isSome = true then f j else if s ≤ j then f (j - s) else none) else none
theorem pu_Oor {x y M S : Int32} {f : Nat → Option Nat} (m s : Nat) (h : pu_O x y f) (hm : M.toBitVec.toNat = m) (h2 : ((S &&& 31).toBitVec.smod 32).toNat = s) (hd : ∀ i, i < 32 → m.testBit i = true → s ≤ i → ((f i).isNone || (f (i - s)).isNone) = true) : pu_O x (pu_or y S M) (pu_os f m s) := fun j hj => by
  unfold pu_or
  rw [pb_and, pb_n hm, pb_or, pb_shl h2 hj, h j hj]
  unfold pu_os
  by_cases h4 : m.testBit j = true
  · rw [if_pos h4, h4, Bool.and_true]
    by_cases h3 : s ≤ j
    · rw [decide_eq_false (show ¬ j < s by omega), h (j - s) (by omega), Bool.not_false, Bool.true_and]
      have h6 := hd j hj h4 h3
      by_cases h7 : (f j).isSome = true
      · rw [if_pos h7]
        obtain ⟨k, hk⟩ := Option.isSome_iff_exists.mp h7
        rw [hk] at h6 ⊢
        have h8 : f (j - s) = none := Option.isNone_iff_eq_none.mp h6
        rw [h8]
        show (pb x k || false) = pb x k
        rw [Bool.or_false]
      · rw [if_neg h7, if_pos h3]
        have h8 : f j = none := by
          cases hq : f j with
          | none => rfl
          | some k => rw [hq] at h7; exact absurd rfl h7
        rw [h8]
        show (false || ob x (f (j - s))) = _
        rw [Bool.false_or]
    · rw [decide_eq_true (show j < s by omega), Bool.not_true, Bool.false_and, Bool.or_false, if_neg h3]
      by_cases h7 : (f j).isSome = true
      · rw [if_pos h7]
      · rw [if_neg h7]
        have h8 : f j = none := by
          cases hq : f j with
          | none => rfl
          | some k => rw [hq] at h7; exact absurd rfl h7
        rw [h8]
  · rw [if_neg h4, eq_false_of_ne_true h4, Bool.and_false]
    rfl
theorem pu_Oto {x y : Int32} {f g : Nat → Option Nat} (h : pu_O x y f) (e : ∀ j, j < 32 → f j = g j) : pu_O x y g := fun j hj => (h j hj).trans (congrArg (ob x) (e j hj))
theorem e8_b (x : Int32) (j : Nat) (hj : j < 32) : pb (pu_e8 x) j = if j % 2 = 0 ∧ j < 16 then pb x (j / 2) else false := by
  have h : pu_O x (pu_e8 x) (fun j => if j % 2 = 0 ∧ j < 16 then some (j / 2) else none) := pu_Oto (x := x) (y := pu_e8 x) (pu_Oor 21845 1 (pu_Oor 13107 2 (pu_Oor 3855 4 (pu_Om (m := 255) (by decide +kernel)) (by decide +kernel) (by decide +kernel) (by decide +kernel)) (by decide +kernel) (by decide +kernel) (by decide +kernel)) (by decide +kernel) (by decide +kernel) (by decide +kernel)) (by decide +kernel)
  exact (h j hj).trans (ob_if x (j / 2))
theorem e16_b (x : Int32) (j : Nat) (hj : j < 32) : pb (pu_e16 x) j = if j % 2 = 0 then pb x (j / 2) else false := by
  have h : pu_O x (pu_e16 x) (fun j => if j % 2 = 0 then some (j / 2) else none) := pu_Oto (x := x) (y := pu_e16 x) (pu_Oor 1431655765 1 (pu_Oor 858993459 2 (pu_Oor 252645135 4 (pu_Oor 16711935 8 (pu_Om (m := 65535) (by decide +kernel)) (by decide +kernel) (by decide +kernel) (by decide +kernel)) (by decide +kernel) (by decide +kernel) (by decide +kernel)) (by decide +kernel) (by decide +kernel) (by decide +kernel)) (by decide +kernel) (by decide +kernel) (by decide +kernel)) (by decide +kernel)
  exact (h j hj).trans (ob_if x (j / 2))
/-! the spread of 32 bits, of 64; the long out of two ints -/
theorem tb_32 : ∀ i, i < 64 → Nat.testBit 1431655765 i = decide (i % 2 = 0 ∧ i < 32) := by decide +kernel
theorem tb_64 : ∀ i, i < 64 → Nat.testBit 6148914691236517205 i = decide (i % 2 = 0) := by decide +kernel
theorem tb_lo : ∀ i, i < 64 → Nat.testBit 4294967295 i = decide (i < 32) := by decide +kernel
theorem e32_b (x : Int32) (j : Nat) (hj : j < 64) : qb (pu_e32 x) j = if j % 2 = 0 then pb x (j / 2) else false := by
  have hM : ∀ i, qb (1431655765 : Int64) i = Nat.testBit 1431655765 i := qb_n (by decide +kernel)
  unfold pu_e32
  rw [qb_or, qb_jl (s := 32) (by decide +kernel) hj, qb_and, qb_and, hM, hM, tb_32 j hj, tb_32 (j - 32) (by omega), qb_i2l hj, qb_i2l (show j - 32 < 64 by omega)]
  by_cases h : j < 32
  · rw [decide_eq_true h, Bool.not_true, Bool.false_and, Bool.false_or, if_pos h, sh_b x j h]
    by_cases h2 : j % 2 = 0
    · rw [if_pos h2, if_pos h2, decide_eq_true (show j % 2 = 0 ∧ j < 32 from ⟨h2, h⟩), Bool.and_true]
    · rw [if_neg h2, if_neg h2, decide_eq_false (show ¬ (j % 2 = 0 ∧ j < 32) from fun q => h2 q.1), Bool.and_false]
  · rw [decide_eq_false h, Bool.not_false, Bool.true_and, decide_eq_false (show ¬ (j % 2 = 0 ∧ j < 32) from fun q => h q.2), Bool.and_false, Bool.or_false, if_pos (show j - 32 < 32 by omega), pb_ju (s := 1) (by decide +kernel)]
    by_cases h2 : j % 2 = 0
    · rw [if_pos h2, decide_eq_true (show (j - 32) % 2 = 0 ∧ j - 32 < 32 by omega), Bool.and_true, sh_b x (1 + (j - 32)) (by omega), if_neg (show ¬ (1 + (j - 32)) % 2 = 0 by omega), show 16 + (1 + (j - 32)) / 2 = j / 2 by omega]
    · rw [if_neg h2, decide_eq_false (show ¬ ((j - 32) % 2 = 0 ∧ j - 32 < 32) by omega), Bool.and_false]
theorem w_b (h l : Int32) (j : Nat) (hj : j < 64) : qb (pu_w h l) j = if j < 32 then pb l j else pb h (j - 32) := by
  have hM : ∀ i, qb (4294967295 : Int64) i = Nat.testBit 4294967295 i := qb_n (by decide +kernel)
  unfold pu_w
  rw [qb_or, qb_jl (s := 32) (by decide +kernel) hj, qb_and, hM, tb_lo j hj, qb_i2l hj, qb_i2l (show j - 32 < 64 by omega)]
  by_cases h3 : j < 32
  · rw [decide_eq_true h3, Bool.not_true, Bool.false_and, Bool.false_or, if_pos h3, if_pos h3, Bool.and_true]
  · rw [decide_eq_false h3, Bool.not_false, Bool.true_and, Bool.and_false, Bool.or_false, if_pos (show j - 32 < 32 by omega), if_neg h3]
theorem x0_e (h l : Int32) : pu_x0 (pu_w h l) = pu_e32 l := qb_ext fun j hj => by
  unfold pu_x0
  rw [qb_and, qb_n (x := 6148914691236517205) (n := 6148914691236517205) (by decide +kernel), tb_64 j hj, sH_b _ j hj, e32_b l j hj]
  by_cases h2 : j % 2 = 0
  · rw [if_pos h2, if_pos h2, decide_eq_true h2, Bool.and_true, w_b h l (j / 2) (by omega), if_pos (show j / 2 < 32 by omega)]
  · rw [if_neg h2, if_neg h2, decide_eq_false h2, Bool.and_false]
theorem x1_e (h l : Int32) : pu_x1 (pu_w h l) = pu_e32 h := qb_ext fun j hj => by
  unfold pu_x1
  rw [qb_and, qb_n (x := 6148914691236517205) (n := 6148914691236517205) (by decide +kernel), tb_64 j hj, qb_jU (s := 1) (by decide +kernel), e32_b h j hj]
  by_cases h2 : j % 2 = 0
  · rw [if_pos h2, decide_eq_true h2, Bool.and_true, sH_b _ (1 + j) (by omega), if_neg (show ¬ (1 + j) % 2 = 0 by omega), w_b h l (32 + (1 + j) / 2) (by omega), if_neg (show ¬ 32 + (1 + j) / 2 < 32 by omega), show 32 + (1 + j) / 2 - 32 = j / 2 by omega]
  · rw [if_neg h2, decide_eq_false h2, Bool.and_false]
theorem w_back (y : Int64) : pu_w (pu_js y 32).toInt32 y.toInt32 = y := qb_ext fun j hj => by
  rw [w_b _ _ j hj]
  by_cases h3 : j < 32
  · rw [if_pos h3, pb_l2i h3]
  · rw [if_neg h3, pb_l2i (show j - 32 < 32 by omega), qb_js (s := 32) (by decide +kernel) (show 32 + (j - 32) < 64 by omega), show 32 + (j - 32) = j by omega]
/-! the law's questions at the place i -/
theorem am_i : ∀ i, i < 32 → (((nI i).toUInt32 &&& Int32.toUInt32 31).toBitVec % 32).toNat = i := by decide +kernel
theorem am_2i : ∀ i, i < 16 → (((2 * nI i).toUInt32 &&& Int32.toUInt32 31).toBitVec % 32).toNat = 2 * i := by decide +kernel
theorem am_2l : ∀ i, i < 32 → (((2 * nI i).toInt64.toUInt64 &&& Int64.toUInt64 63).toBitVec % 64).toNat = 2 * i := by decide +kernel
theorem am_3l : ∀ i, i < 32 → (((2 * nI i + 1).toInt64.toUInt64 &&& Int64.toUInt64 63).toBitVec % 64).toNat = 2 * i + 1 := by decide +kernel
theorem am_s : ∀ i, i < 32 → (((2 * (nI i &&& 15) + nI i >>> ((4 : Int32) &&& 31)).toUInt32 &&& Int32.toUInt32 31).toBitVec % 32).toNat = 2 * (i % 16) + i / 16 := by decide +kernel
theorem tb_3 : ∀ i, i < 64 → 2 ≤ i → Nat.testBit 3 i = false ∧ Nat.testBit 1 i = false := by decide +kernel
theorem tb_30 : Nat.testBit 3 0 = true ∧ Nat.testBit 1 0 = true ∧ Nat.testBit 3 1 = true ∧ Nat.testBit 1 1 = false ∧ Nat.testBit 1 31 = false := by decide +kernel
theorem lp_two {X L K I : Int32} {a i : Nat} (hK : ((K.toUInt32 &&& Int32.toUInt32 31).toBitVec % 32).toNat = a) (hI : ((I.toUInt32 &&& Int32.toUInt32 31).toBitVec % 32).toNat = i) (h0 : pb X a = pb L i) (h1 : pb X (a + 1) = false) : pu_ju X K &&& 3 = pu_ju L I &&& 1 := pb_ext fun j hj => by
  rw [pb_and, pb_and, pb_ju hK, pb_ju hI, pb_n (x := 3) (n := 3) (by decide +kernel), pb_n (x := 1) (n := 1) (by decide +kernel)]
  match j, hj with
  | 0, _ => rw [Nat.add_zero, Nat.add_zero, h0, tb_30.1, tb_30.2.1]
  | 1, _ => rw [h1, tb_30.2.2.2.1, Bool.false_and, Bool.and_false]
  | j + 2, hj => rw [(tb_3 (j + 2) (by omega) (by omega)).1, (tb_3 (j + 2) (by omega) (by omega)).2, Bool.and_false, Bool.and_false]
theorem lp_one {X L K I : Int32} {a i : Nat} (hK : ((K.toUInt32 &&& Int32.toUInt32 31).toBitVec % 32).toNat = a) (hI : ((I.toUInt32 &&& Int32.toUInt32 31).toBitVec % 32).toNat = i) (h0 : pb X a = pb L i) : pu_ju X K &&& 1 = pu_ju L I &&& 1 := pb_ext fun j hj => by
  rw [pb_and, pb_and, pb_ju hK, pb_ju hI, pb_n (x := 1) (n := 1) (by decide +kernel)]
  match j, hj with
  | 0, _ => rw [Nat.add_zero, Nat.add_zero, h0]
  | 1, _ => rw [tb_30.2.2.2.1, Bool.and_false, Bool.and_false]
  | j + 2, hj => rw [(tb_3 (j + 2) (by omega) (by omega)).2, Bool.and_false, Bool.and_false]
theorem lq_two {X : Int64} {L K I : Int32} {a i : Nat} (hK : ((K.toInt64.toUInt64 &&& Int64.toUInt64 63).toBitVec % 64).toNat = a) (hI : ((I.toUInt32 &&& Int32.toUInt32 31).toBitVec % 32).toNat = i) (h0 : qb X a = pb L i) (h1 : qb X (a + 1) = false) : pu_jU X K &&& 3 = (pu_ju L I &&& 1).toInt64 := qb_ext fun j hj => by
  rw [qb_and, qb_jU hK, qb_n (x := 3) (n := 3) (by decide +kernel), qb_i2l hj, pb_and, pb_and, pb_ju hI, pb_ju hI, pb_n (x := 1) (n := 1) (by decide +kernel), pb_n (x := 1) (n := 1) (by decide +kernel), tb_30.2.2.2.2]
  match j, hj with
  | 0, _ => rw [if_pos (by decide), Nat.add_zero, Nat.add_zero, h0, tb_30.1, tb_30.2.1]
  | 1, _ => rw [if_pos (by decide), h1, tb_30.2.2.2.1, Bool.false_and, Bool.and_false]
  | j + 2, hj =>
    rw [(tb_3 (j + 2) hj (by omega)).1, (tb_3 (j + 2) hj (by omega)).2, Bool.and_false, Bool.and_false, Bool.and_false]
    split <;> rfl
theorem lq_one {X : Int64} {L K I : Int32} {a i : Nat} (hK : ((K.toInt64.toUInt64 &&& Int64.toUInt64 63).toBitVec % 64).toNat = a) (hI : ((I.toUInt32 &&& Int32.toUInt32 31).toBitVec % 32).toNat = i) (h0 : qb X a = pb L i) : pu_jU X K &&& 1 = (pu_ju L I &&& 1).toInt64 := qb_ext fun j hj => by
  rw [qb_and, qb_jU hK, qb_n (x := 1) (n := 1) (by decide +kernel), qb_i2l hj, pb_and, pb_and, pb_ju hI, pb_ju hI, pb_n (x := 1) (n := 1) (by decide +kernel), pb_n (x := 1) (n := 1) (by decide +kernel), tb_30.2.2.2.2]
  match j, hj with
  | 0, _ => rw [if_pos (by decide), Nat.add_zero, Nat.add_zero, h0]
  | 1, _ => rw [if_pos (by decide), tb_30.2.2.2.1, Bool.and_false, Bool.and_false]
  | j + 2, hj =>
    rw [(tb_3 (j + 2) hj (by omega)).2, Bool.and_false, Bool.and_false, Bool.and_false]
    split <;> rfl
theorem lf_8 (l : Int32) {i : Nat} (h : i < 8) : pu_ju (pu_e8 l) (2 * nI i) &&& 3 = pu_ju l (nI i) &&& 1 := lp_two (am_2i i (by omega)) (am_i i (by omega)) (by rw [e8_b l _ (by omega), if_pos (by omega), show 2 * i / 2 = i by omega]) (by rw [e8_b l _ (by omega), if_neg (by omega)])
theorem lf_16 (l : Int32) {i : Nat} (h : i < 16) : pu_ju (pu_e16 l) (2 * nI i) &&& 3 = pu_ju l (nI i) &&& 1 := lp_two (am_2i i h) (am_i i (by omega)) (by rw [e16_b l _ (by omega), if_pos (by omega), show 2 * i / 2 = i by omega]) (by rw [e16_b l _ (by omega), if_neg (by omega)])
theorem lf_32 (l : Int32) {i : Nat} (h : i < 32) : pu_jU (pu_e32 l) (2 * nI i) &&& 3 = (pu_ju l (nI i) &&& 1).toInt64 := lq_two (am_2l i h) (am_i i h) (by rw [e32_b l _ (by omega), if_pos (by omega), show 2 * i / 2 = i by omega]) (by rw [e32_b l _ (by omega), if_neg (by omega)])
theorem lf_sh (l : Int32) {i : Nat} (h : i < 32) : pu_ju (pu_sh l) (2 * (nI i &&& 15) + nI i >>> ((4 : Int32) &&& 31)) &&& 1 = pu_ju l (nI i) &&& 1 := lp_one (am_s i h) (am_i i h) (by
  rw [sh_b l _ (by omega)]
  refine congrArg (pb l) ?_
  by_cases h2 : i < 16
  · rw [if_pos (by omega)]; omega
  · rw [if_neg (by omega)]; omega)
theorem lf_lo (h l : Int32) {i : Nat} (hi : i < 32) : pu_jU (pu_sH (pu_w h l)) (2 * nI i) &&& 1 = (pu_ju l (nI i) &&& 1).toInt64 := lq_one (am_2l i hi) (am_i i hi) (by rw [sH_b _ _ (by omega), if_pos (by omega), w_b h l _ (by omega), if_pos (by omega), show 2 * i / 2 = i by omega])
theorem lf_hi (h l : Int32) {i : Nat} (hi : i < 32) : pu_jU (pu_sH (pu_w h l)) (2 * nI i + 1) &&& 1 = (pu_ju h (nI i) &&& 1).toInt64 := lq_one (am_3l i hi) (am_i i hi) (by rw [sH_b _ _ (by omega), if_neg (by omega), w_b h l _ (by omega), if_neg (by omega), show 32 + (2 * i + 1) / 2 - 32 = i by omega])
theorem lt_b8 : ∀ i, i < 32 → ¬ (8 : Int32) ≤ nI i → i < 8 := by decide +kernel
theorem lt_b16 : ∀ i, i < 32 → ¬ (16 : Int32) ≤ nI i → i < 16 := by decide +kernel
theorem lt_b32 : ∀ i, i < 32 → ¬ (32 : Int32) ≤ nI i := by decide +kernel
theorem ge_b32 : (32 : Int32) ≤ nI 32 := by decide +kernel
/-! the law's further questions, and the fixed values -/
theorem tb_255 : ∀ i, i < 64 → Nat.testBit 255 i = decide (i < 8) := by decide +kernel
theorem tb_ff : ∀ i, i < 64 → Nat.testBit 65535 i = decide (i < 16) := by decide +kernel
theorem r_816 (l : Int32) : pu_e8 l = pu_e16 (l &&& 255) := pb_ext fun j hj => by
  rw [e8_b l j hj, e16_b _ j hj, pb_and, pb_n (x := 255) (n := 255) (by decide +kernel), tb_255 (j / 2) (by omega)]
  by_cases h2 : j % 2 = 0
  · rw [if_pos h2]
    by_cases h3 : j < 16
    · rw [if_pos (show j % 2 = 0 ∧ j < 16 from ⟨h2, h3⟩), decide_eq_true (show j / 2 < 8 by omega), Bool.and_true]
    · rw [if_neg (show ¬ (j % 2 = 0 ∧ j < 16) from fun q => h3 q.2), decide_eq_false (show ¬ j / 2 < 8 by omega), Bool.and_false]
  · rw [if_neg h2, if_neg (show ¬ (j % 2 = 0 ∧ j < 16) from fun q => h2 q.1)]
theorem r_88 (l : Int32) : pu_e8 l = pu_e8 (l &&& 255) := pb_ext fun j hj => by
  rw [e8_b l j hj, e8_b _ j hj, pb_and, pb_n (x := 255) (n := 255) (by decide +kernel), tb_255 (j / 2) (by omega)]
  by_cases h2 : j % 2 = 0 ∧ j < 16
  · rw [if_pos h2, if_pos h2, decide_eq_true (show j / 2 < 8 by omega), Bool.and_true]
  · rw [if_neg h2, if_neg h2]
theorem r_1632 (l : Int32) : pu_e16 l = (pu_e32 (l &&& 65535)).toInt32 := pb_ext fun j hj => by
  rw [pb_l2i hj, e16_b l j hj, e32_b _ j (by omega), pb_and, pb_n (x := 65535) (n := 65535) (by decide +kernel), tb_ff (j / 2) (by omega)]
  by_cases h2 : j % 2 = 0
  · rw [if_pos h2, if_pos h2, decide_eq_true (show j / 2 < 16 by omega), Bool.and_true]
  · rw [if_neg h2, if_neg h2]
theorem kn_1 : pu_e16 65535 = 1431655765 := by decide +kernel
theorem kn_2 : pu_e8 (-1) = 21845 := by decide +kernel
theorem kn_3 : pu_e16 4660 = 17040656 := by decide +kernel
theorem kn_4 : pu_e32 (-1) = 6148914691236517205 := by decide +kernel
theorem kn_5 : pu_sh (-65536) = -1431655766 := by decide +kernel
theorem kn_6 : pu_sh 65535 = 1431655765 := by decide +kernel
theorem kn_7 : pu_un (-1431655766) = -65536 := by decide +kernel
theorem kn_cmp {x y : Int64} (h : x = y) : lg_cmp x y = 0 := by
  subst h
  simp [lg_cmp]
end
section
/-! A METHOD THAT CHANGES NOTHING: its answer is v, the heap is what it was; how it is called -/
abbrev rm_0 : Room := { frames := 0, cells := 0, slots := 0, locals := 0 }
abbrev rm_1 : Room := { frames := 1, cells := 0, slots := 0, locals := 30 }
abbrev rm_2 : Room := { frames := 2, cells := 0, slots := 0, locals := 60 }
abbrev rm_3 : Room := { frames := 3, cells := 0, slots := 0, locals := 90 }
def pc_Q (v : Value) : Array Value → State → Outcome → State → Prop := fun _ st o t => o = .returned (some v) ∧ t.heap = st.heap
abbrev pc_M (l : Launch) (y : MethodName) (b : ByteArray) (L : Nat) (rt : FieldType) (rm : Room) (As : List Value) (pre : State → Prop) (v : Value) : Prop := Met l y (ws_ y b L (some rt)) rm (va_Pc As pre) (pc_Q v) 0 0 (fun _ => False)
section PC
variable {p : Program} {l : Launch} {e : Env} {R : Room} {s : State} {m : MethodId} {args : Array Value} {below : List Frame} {meth : Method} {c : Code} {H : Heap} {locs : List Loc} {cells slots : Nat} {Q : State → Prop}
variable {cc bytes : ByteArray} {pc nL maxL index n : Nat} {ls : Array Slot} {rest st0 As : List Value} {own C : String} {y : MethodName} {rt : FieldType} {rm : Room} {v : Value} {pre : State → Prop} {a : Array Value} {b : Nat}
theorem pc_end (hr : CallRun p l e R s m args below meth c H locs cells slots 0 0 (F0 m pc ls st0) rest (pc_Q v a) (fun _ => False)) (kk : W p l e R s m args below meth c H locs cells slots Q (F0 m (pc + 3) ls (v :: rest))) : W p l e R s m args below meth c H locs cells slots Q (F0 m pc ls st0) := by
  intro T hT X
  obtain ⟨v', st₀, t, T', L, h0, X', hL, e1, ⟨hv, hh⟩, st⟩ := hr T hT X
  cases hv
  obtain ⟨t2, a1, b1⟩ := kk T' (by rw [e1, hh, h0]) (Stand.forget X' (fun q h => (hL q h).elim))
  exact ⟨t2, st t2 a1, b1⟩
theorem pc_S (S : CallFix p m c cc nL s args lw_all own) (hM : pc_M l y bytes maxL rt rm As pre v) (hG : GoodIn lw_all (va_wsS own index y (ws_ y bytes maxL (some rt)))) (hrc : rm.cells = 0) (hrs : rm.slots = 0)
    (hd : y.cls ≠ "java/lang/invoke/MethodHandle" ∧ y.cls ≠ "java/lang/invoke/VarHandle" ∧ (parseMethodDescriptor y.desc).map (fun d => d.parameters.length) = some n) (hR : rm.frames + 1 ≤ R.frames ∧ 8 + (maxL + 11) + rm.locals ≤ R.locals)
    (hbl : ∀ (U : State) (g : JFrame) (mk : MethodId) (a : Array Value), pre U → pre (U.calling g mk a)) (hpre : ∀ U : State, U.heap = H → s.WarmedH U.vm → pre U)
    (hn : As.length = n) (hsize : ls.size = nL) (hst : st0 = As.reverse ++ rest) (hW : (rest.map fun v => v.category).sum ≤ 8) (hdg : decode cc pc = .ok (.invokestatic index, 3)) (hf : cells ≤ R.cells ∧ slots ≤ R.slots)
    (kk : W p l e R s m args below meth c H locs cells slots Q (F0 m (pc + 3) ls (v :: rest))) : W p l e R s m args below meth c H locs cells slots Q (F0 m pc ls st0) :=
  pc_end (W.runS S hM (va_cwS n S.2.2.2.2 hG rfl hrc hrs hd hR) ⟨fun a U g mk q => ⟨q.1, hbl U g mk a q.2⟩, fun U hU hW => ⟨rfl, hpre U hU hW⟩⟩ rfl hn hsize hst (lv_room hW) hdg hf) kk
theorem pc_V (S : CallFix p m c cc nL s args lw_all own) (hM : pc_M l y bytes maxL rt rm (.ref b :: As) pre v) (hG : GoodIn lw_all (wsV own index C y (ws_ y bytes maxL (some rt)))) (hrc : rm.cells = 0) (hrs : rm.slots = 0)
    (hd : y.cls = C ∧ y.cls ≠ "java/lang/invoke/MethodHandle" ∧ y.cls ≠ "java/lang/invoke/VarHandle" ∧ (parseMethodDescriptor y.desc).map (fun d => d.parameters.length) = some n) (hR : rm.frames + 1 ≤ R.frames ∧ 8 + (maxL + 11) + rm.locals ≤ R.locals)
    (hbl : ∀ (U : State) (g : JFrame) (mk : MethodId) (a : Array Value), pre U → pre (U.calling g mk a)) (hrv : ∃ cell : Cell, H[b]? = some cell ∧ cell.vm.isStatics = false ∧ s.vm.findClass C = some cell.cls) (hpre : ∀ U : State, U.heap = H → s.WarmedH U.vm → pre U)
    (hn : As.length = n) (hsize : ls.size = nL) (hst : st0 = As.reverse ++ .ref b :: rest) (hW : (rest.map fun v => v.category).sum ≤ 8) (hdg : decode cc pc = .ok (.invokevirtual index, 3)) (hf : cells ≤ R.cells ∧ slots ≤ R.slots)
    (kk : W p l e R s m args below meth c H locs cells slots Q (F0 m (pc + 3) ls (v :: rest))) : W p l e R s m args below meth c H locs cells slots Q (F0 m pc ls st0) :=
  pc_end (W.runV S hM (cwV n S.2.2.2.2 hG rfl hrc hrs hd hR) ⟨fun a U g mk q => ⟨q.1, hbl U g mk a q.2⟩, hrv, fun U hU hW => ⟨rfl, hpre U hU hW⟩⟩ rfl hn hsize hst (lv_room hW) hdg hf) kk
/-! branches whose way is known -/
variable {off : Int} {tgt : Nat} {x y' : Int32}
theorem br_icmp_eq_t (hexec : p.tables.exec = Jvm.exec) (hb : c.code = cc) (h : x = y') (hdg : decode cc pc = .ok (.if_icmp .eq off, 3)) (ht : (pc : Int) + off = (tgt : Int)) (k : W p l e R s m args below meth c H locs cells slots Q (F0 m tgt ls rest)) : W p l e R s m args below meth c H locs cells slots Q (F0 m pc ls (.int y' :: .int x :: rest)) := lv_icmp_eq hexec hb hdg ht (fun _ => k) (fun q => absurd h q)
theorem br_icmp_ne_f (hexec : p.tables.exec = Jvm.exec) (hb : c.code = cc) (h : x = y') (hdg : decode cc pc = .ok (.if_icmp .ne off, 3)) (ht : (pc : Int) + off = (tgt : Int)) (k : W p l e R s m args below meth c H locs cells slots Q (F0 m (pc + 3) ls rest)) : W p l e R s m args below meth c H locs cells slots Q (F0 m pc ls (.int y' :: .int x :: rest)) := lv_icmp_ne hexec hb hdg ht (fun q => absurd h q) (fun _ => k)
theorem br_icmp_ge_f (hexec : p.tables.exec = Jvm.exec) (hb : c.code = cc) (h : ¬ y' ≤ x) (hdg : decode cc pc = .ok (.if_icmp .ge off, 3)) (ht : (pc : Int) + off = (tgt : Int)) (k : W p l e R s m args below meth c H locs cells slots Q (F0 m (pc + 3) ls rest)) : W p l e R s m args below meth c H locs cells slots Q (F0 m pc ls (.int y' :: .int x :: rest)) := lv_icmp_ge hexec hb hdg ht (fun q => absurd q h) (fun _ => k)
theorem br_icmp_ge_t (hexec : p.tables.exec = Jvm.exec) (hb : c.code = cc) (h : y' ≤ x) (hdg : decode cc pc = .ok (.if_icmp .ge off, 3)) (ht : (pc : Int) + off = (tgt : Int)) (k : W p l e R s m args below meth c H locs cells slots Q (F0 m tgt ls rest)) : W p l e R s m args below meth c H locs cells slots Q (F0 m pc ls (.int y' :: .int x :: rest)) := lv_icmp_ge hexec hb hdg ht (fun _ => k) (fun q => absurd h q)
theorem br_if_eq_t (hexec : p.tables.exec = Jvm.exec) (hb : c.code = cc) (h : x = 0) (hdg : decode cc pc = .ok (.ifCond .eq off, 3)) (ht : (pc : Int) + off = (tgt : Int)) (k : W p l e R s m args below meth c H locs cells slots Q (F0 m tgt ls rest)) : W p l e R s m args below meth c H locs cells slots Q (F0 m pc ls (.int x :: rest)) := lv_if_eq hexec hb hdg ht (fun _ => k) (fun q => absurd h q)
theorem br_if_eq_f (hexec : p.tables.exec = Jvm.exec) (hb : c.code = cc) (h : ¬ x = 0) (hdg : decode cc pc = .ok (.ifCond .eq off, 3)) (ht : (pc : Int) + off = (tgt : Int)) (k : W p l e R s m args below meth c H locs cells slots Q (F0 m (pc + 3) ls rest)) : W p l e R s m args below meth c H locs cells slots Q (F0 m pc ls (.int x :: rest)) := lv_if_eq hexec hb hdg ht (fun q => absurd q h) (fun _ => k)
theorem br_if_ne_f (hexec : p.tables.exec = Jvm.exec) (hb : c.code = cc) (h : x = 0) (hdg : decode cc pc = .ok (.ifCond .ne off, 3)) (ht : (pc : Int) + off = (tgt : Int)) (k : W p l e R s m args below meth c H locs cells slots Q (F0 m (pc + 3) ls rest)) : W p l e R s m args below meth c H locs cells slots Q (F0 m pc ls (.int x :: rest)) := lv_if_ne hexec hb hdg ht (fun q => absurd h q) (fun _ => k)
end PC
set_option maxHeartbeats 4000000 in
/-- OwnBits.bitPermuteStep(int, int, int): the step pu_st -/
theorem m_bpI (l : Launch) (x : Int32) (m0 : Int32) (s0 : Int32) : pc_M l yX3_bitPermuteStep cX3_bitPermuteStep 4 .int rm_0 [.int x, .int m0, .int s0] (fun _ => True) (.int (pu_st x m0 s0)) := by
  refine Met.ofW (cc := cX3_bitPermuteStep) (maxL := 4) (ret := some .int) (by decide) rfl ?_
  intro p e s m args below meth c s₁ B hml hv
  obtain ⟨rfl, -⟩ := hv
  have hx := B.exec
  have hb := B.bytes
  have hr := B.returns
  have hts := atoms_spec (ws := ws_ yX3_bitPermuteStep cX3_bitPermuteStep 4 (some .int)) B.pre
  have hts : ∀ w ∈ lw_all, w.before _ s = true := fun w h => hts w (List.mem_cons_of_mem _ h)
  have hown : s.vm.findClass RX3 = some m.cls := findClass_of_methodNamed B.named
  have hl := lv_entry ([.int x, .int m0, .int s0]) (n := 4) (Nat.le_of_ble_eq_true rfl)
  rw [lg_entry_eq]
  generalize (lg_sl ([.int x, .int m0, .int s0]) ++ List.replicate (4 - (lg_sl ([.int x, .int m0, .int s0])).length) Slot.unset).toArray = ls at hl ⊢
  have hl : lv_has ls 4 [(0, .int x), (1, .int m0), (2, .int s0)] := hl
  refine lv_iload_n hx hb dX3_bitPermuteStep_0 rfl (lv_at hl 0 rfl) ?_
  refine lv_iload_n hx hb dX3_bitPermuteStep_1 rfl (lv_at hl 0 rfl) ?_
  refine lv_iload_n hx hb dX3_bitPermuteStep_2 rfl (lv_at hl 2 rfl) ?_
  refine lv_iushr (v := pu_ju x s0) hx hb dX3_bitPermuteStep_3 rfl ?_
  refine lv_ixor hx hb dX3_bitPermuteStep_4 ?_
  refine lv_iload_n hx hb dX3_bitPermuteStep_5 rfl (lv_at hl 1 rfl) ?_
  refine lv_iand hx hb dX3_bitPermuteStep_6 ?_
  refine lv_istore_n (lv' := [(3, .int ((x ^^^ (pu_ju x s0)) &&& m0)), (0, .int x), (1, .int m0), (2, .int s0)]) hx hb dX3_bitPermuteStep_7 rfl hl (by decide) rfl (fun ls hl => ?_)
  refine lv_iload_n hx hb dX3_bitPermuteStep_8 rfl (lv_at hl 0 rfl) ?_
  refine lv_iload_n hx hb dX3_bitPermuteStep_9 rfl (lv_at hl 0 rfl) ?_
  refine lv_iload_n hx hb dX3_bitPermuteStep_10 rfl (lv_at hl 3 rfl) ?_
  refine lv_ishl hx hb dX3_bitPermuteStep_11 ?_
  refine lv_ixor hx hb dX3_bitPermuteStep_12 ?_
  refine lv_iload_n hx hb dX3_bitPermuteStep_13 rfl (lv_at hl 1 rfl) ?_
  refine lv_ixor hx hb dX3_bitPermuteStep_14 ?_
  exact W.iret (v := (((x ^^^ (pu_ju x s0)) &&& m0) ^^^ (((x ^^^ (pu_ju x s0)) &&& m0) <<< (s0 &&& 31))) ^^^ x) hx hb hr (fun t ht hW => ⟨rfl, ht⟩) (fun q h => by cases h) dX3_bitPermuteStep_15
set_option maxHeartbeats 4000000 in
/-- OwnBits.bitPermuteStep(long, long, int): the step pu_sT -/
theorem m_bpL (l : Launch) (x : Int64) (m0 : Int64) (s0 : Int32) : pc_M l yX3_bitPermuteStep_2 cX3_bitPermuteStep_2 7 .long rm_0 [.long x, .long m0, .int s0] (fun _ => True) (.long (pu_sT x m0 s0)) := by
  refine Met.ofW (cc := cX3_bitPermuteStep_2) (maxL := 7) (ret := some .long) (by decide) rfl ?_
  intro p e s m args below meth c s₁ B hml hv
  obtain ⟨rfl, -⟩ := hv
  have hx := B.exec
  have hb := B.bytes
  have hr := B.returns
  have hts := atoms_spec (ws := ws_ yX3_bitPermuteStep_2 cX3_bitPermuteStep_2 7 (some .long)) B.pre
  have hts : ∀ w ∈ lw_all, w.before _ s = true := fun w h => hts w (List.mem_cons_of_mem _ h)
  have hown : s.vm.findClass RX3 = some m.cls := findClass_of_methodNamed B.named
  have hl := lv_entry ([.long x, .long m0, .int s0]) (n := 7) (Nat.le_of_ble_eq_true rfl)
  rw [lg_entry_eq]
  generalize (lg_sl ([.long x, .long m0, .int s0]) ++ List.replicate (7 - (lg_sl ([.long x, .long m0, .int s0])).length) Slot.unset).toArray = ls at hl ⊢
  have hl : lv_has ls 7 [(0, .long x), (2, .long m0), (4, .int s0)] := hl
  refine lv_lload_n hx hb dX3_bitPermuteStep_2_0 rfl (lv_at hl 0 rfl) ?_
  refine lv_lload_n hx hb dX3_bitPermuteStep_2_1 rfl (lv_at hl 0 rfl) ?_
  refine lv_iload hx hb dX3_bitPermuteStep_2_2 (lv_at hl 2 rfl) ?_
  refine lv_lushr (v := pu_jU x s0) hx hb dX3_bitPermuteStep_2_4 rfl ?_
  refine lv_lxor hx hb dX3_bitPermuteStep_2_5 ?_
  refine lv_lload_n hx hb dX3_bitPermuteStep_2_6 rfl (lv_at hl 1 rfl) ?_
  refine lv_land hx hb dX3_bitPermuteStep_2_7 ?_
  refine lv_lstore (lv' := [(5, .long ((x ^^^ (pu_jU x s0)) &&& m0)), (0, .long x), (2, .long m0), (4, .int s0)]) hx hb dX3_bitPermuteStep_2_8 hl (by decide) rfl (fun ls hl => ?_)
  refine lv_lload hx hb dX3_bitPermuteStep_2_10 (lv_at hl 0 rfl) ?_
  refine lv_lload hx hb dX3_bitPermuteStep_2_12 (lv_at hl 0 rfl) ?_
  refine lv_iload hx hb dX3_bitPermuteStep_2_14 (lv_at hl 3 rfl) ?_
  refine lv_lshl (v := pu_jl ((x ^^^ (pu_jU x s0)) &&& m0) s0) hx hb dX3_bitPermuteStep_2_16 rfl ?_
  refine lv_lxor hx hb dX3_bitPermuteStep_2_17 ?_
  refine lv_lload_n hx hb dX3_bitPermuteStep_2_18 rfl (lv_at hl 1 rfl) ?_
  refine lv_lxor hx hb dX3_bitPermuteStep_2_19 ?_
  exact W.lret (v := (((x ^^^ (pu_jU x s0)) &&& m0) ^^^ (pu_jl ((x ^^^ (pu_jU x s0)) &&& m0) s0)) ^^^ x) hx hb hr (fun t ht hW => ⟨rfl, ht⟩) (fun q h => by cases h) dX3_bitPermuteStep_2_20
set_option maxHeartbeats 4000000 in
/-- Interleave.expand8to16(I)I: pu_e8 -/
theorem m_e8 (l : Launch) (x : Int32) : pc_M l yX2_expand8to16 cX2_expand8to16 1 .int rm_1 [.int x] (fun _ => True) (.int (pu_e8 x)) := by
  refine Met.ofW (cc := cX2_expand8to16) (maxL := 1) (ret := some .int) (by decide) rfl ?_
  intro p e s m args below meth c s₁ B hml hv
  obtain ⟨rfl, -⟩ := hv
  have hx := B.exec
  have hb := B.bytes
  have hr := B.returns
  have hts := atoms_spec (ws := ws_ yX2_expand8to16 cX2_expand8to16 1 (some .int)) B.pre
  have hts : ∀ w ∈ lw_all, w.before _ s = true := fun w h => hts w (List.mem_cons_of_mem _ h)
  have hown : s.vm.findClass RX2 = some m.cls := findClass_of_methodNamed B.named
  have hl := lv_entry ([.int x]) (n := 1) (Nat.le_of_ble_eq_true rfl)
  rw [lg_entry_eq]
  generalize (lg_sl ([.int x]) ++ List.replicate (1 - (lg_sl ([.int x])).length) Slot.unset).toArray = ls at hl ⊢
  have hl : lv_has ls 1 [(0, .int x)] := hl
  refine lv_iload_n hx hb dX2_expand8to16_0 rfl (lv_at hl 0 rfl) ?_
  refine lv_sipush (v := 255) hx hb dX2_expand8to16_1 (by decide +kernel) ?_
  refine lv_iand hx hb dX2_expand8to16_4 ?_
  refine lv_istore_n (lv' := [(0, .int (x &&& 255))]) hx hb dX2_expand8to16_5 rfl hl (by decide) rfl (fun ls hl => ?_)
  refine lv_iload_n hx hb dX2_expand8to16_6 rfl (lv_at hl 0 rfl) ?_
  refine lv_iload_n hx hb dX2_expand8to16_7 rfl (lv_at hl 0 rfl) ?_
  refine lv_iconst (v := 4) hx hb dX2_expand8to16_8 (by decide) ?_
  refine lv_ishl hx hb dX2_expand8to16_9 ?_
  refine lv_ior hx hb dX2_expand8to16_10 ?_
  refine lv_sipush (v := 3855) hx hb dX2_expand8to16_11 (by decide +kernel) ?_
  refine lv_iand hx hb dX2_expand8to16_14 ?_
  refine lv_istore_n (lv' := [(0, .int (pu_or (x &&& 255) 4 3855))]) hx hb dX2_expand8to16_15 rfl hl (by decide) rfl (fun ls hl => ?_)
  refine lv_iload_n hx hb dX2_expand8to16_16 rfl (lv_at hl 0 rfl) ?_
  refine lv_iload_n hx hb dX2_expand8to16_17 rfl (lv_at hl 0 rfl) ?_
  refine lv_iconst (v := 2) hx hb dX2_expand8to16_18 (by decide) ?_
  refine lv_ishl hx hb dX2_expand8to16_19 ?_
  refine lv_ior hx hb dX2_expand8to16_20 ?_
  refine lv_sipush (v := 13107) hx hb dX2_expand8to16_21 (by decide +kernel) ?_
  refine lv_iand hx hb dX2_expand8to16_24 ?_
  refine lv_istore_n (lv' := [(0, .int (pu_or (pu_or (x &&& 255) 4 3855) 2 13107))]) hx hb dX2_expand8to16_25 rfl hl (by decide) rfl (fun ls hl => ?_)
  refine lv_iload_n hx hb dX2_expand8to16_26 rfl (lv_at hl 0 rfl) ?_
  refine lv_iload_n hx hb dX2_expand8to16_27 rfl (lv_at hl 0 rfl) ?_
  refine lv_iconst (v := 1) hx hb dX2_expand8to16_28 (by decide) ?_
  refine lv_ishl hx hb dX2_expand8to16_29 ?_
  refine lv_ior hx hb dX2_expand8to16_30 ?_
  refine lv_sipush (v := 21845) hx hb dX2_expand8to16_31 (by decide +kernel) ?_
  refine lv_iand hx hb dX2_expand8to16_34 ?_
  refine lv_istore_n (lv' := [(0, .int (pu_or (pu_or (pu_or (x &&& 255) 4 3855) 2 13107) 1 21845))]) hx hb dX2_expand8to16_35 rfl hl (by decide) rfl (fun ls hl => ?_)
  refine lv_iload_n hx hb dX2_expand8to16_36 rfl (lv_at hl 0 rfl) ?_
  exact W.iret (v := pu_or (pu_or (pu_or (x &&& 255) 4 3855) 2 13107) 1 21845) hx hb hr (fun t ht hW => ⟨rfl, ht⟩) (fun q h => by cases h) dX2_expand8to16_37
set_option maxHeartbeats 4000000 in
/-- Interleave.expand16to32(I)I: pu_e16 -/
theorem m_e16 (l : Launch) (x : Int32) : pc_M l yX2_expand16to32 cX2_expand16to32 1 .int rm_1 [.int x] (fun _ => True) (.int (pu_e16 x)) := by
  refine Met.ofW (cc := cX2_expand16to32) (maxL := 1) (ret := some .int) (by decide) rfl ?_
  intro p e s m args below meth c s₁ B hml hv
  obtain ⟨rfl, -⟩ := hv
  have hx := B.exec
  have hb := B.bytes
  have hr := B.returns
  have hts := atoms_spec (ws := ws_ yX2_expand16to32 cX2_expand16to32 1 (some .int)) B.pre
  have hts : ∀ w ∈ lw_all, w.before _ s = true := fun w h => hts w (List.mem_cons_of_mem _ h)
  have hown : s.vm.findClass RX2 = some m.cls := findClass_of_methodNamed B.named
  have hl := lv_entry ([.int x]) (n := 1) (Nat.le_of_ble_eq_true rfl)
  rw [lg_entry_eq]
  generalize (lg_sl ([.int x]) ++ List.replicate (1 - (lg_sl ([.int x])).length) Slot.unset).toArray = ls at hl ⊢
  have hl : lv_has ls 1 [(0, .int x)] := hl
  refine lv_iload_n hx hb dX2_expand16to32_0 rfl (lv_at hl 0 rfl) ?_
  refine lv_ldc hx hb hown (hts _ q31) dX2_expand16to32_1 ?_
  refine lv_iand hx hb dX2_expand16to32_3 ?_
  refine lv_istore_n (lv' := [(0, .int (x &&& 65535))]) hx hb dX2_expand16to32_4 rfl hl (by decide) rfl (fun ls hl => ?_)
  refine lv_iload_n hx hb dX2_expand16to32_5 rfl (lv_at hl 0 rfl) ?_
  refine lv_iload_n hx hb dX2_expand16to32_6 rfl (lv_at hl 0 rfl) ?_
  refine lv_bipush (v := 8) hx hb dX2_expand16to32_7 (by decide +kernel) ?_
  refine lv_ishl hx hb dX2_expand16to32_9 ?_
  refine lv_ior hx hb dX2_expand16to32_10 ?_
  refine lv_ldc hx hb hown (hts _ q32) dX2_expand16to32_11 ?_
  refine lv_iand hx hb dX2_expand16to32_13 ?_
  refine lv_istore_n (lv' := [(0, .int (pu_or (x &&& 65535) 8 16711935))]) hx hb dX2_expand16to32_14 rfl hl (by decide) rfl (fun ls hl => ?_)
  refine lv_iload_n hx hb dX2_expand16to32_15 rfl (lv_at hl 0 rfl) ?_
  refine lv_iload_n hx hb dX2_expand16to32_16 rfl (lv_at hl 0 rfl) ?_
  refine lv_iconst (v := 4) hx hb dX2_expand16to32_17 (by decide) ?_
  refine lv_ishl hx hb dX2_expand16to32_18 ?_
  refine lv_ior hx hb dX2_expand16to32_19 ?_
  refine lv_ldc hx hb hown (hts _ q33) dX2_expand16to32_20 ?_
  refine lv_iand hx hb dX2_expand16to32_22 ?_
  refine lv_istore_n (lv' := [(0, .int (pu_or (pu_or (x &&& 65535) 8 16711935) 4 252645135))]) hx hb dX2_expand16to32_23 rfl hl (by decide) rfl (fun ls hl => ?_)
  refine lv_iload_n hx hb dX2_expand16to32_24 rfl (lv_at hl 0 rfl) ?_
  refine lv_iload_n hx hb dX2_expand16to32_25 rfl (lv_at hl 0 rfl) ?_
  refine lv_iconst (v := 2) hx hb dX2_expand16to32_26 (by decide) ?_
  refine lv_ishl hx hb dX2_expand16to32_27 ?_
  refine lv_ior hx hb dX2_expand16to32_28 ?_
  refine lv_ldc hx hb hown (hts _ q34) dX2_expand16to32_29 ?_
  refine lv_iand hx hb dX2_expand16to32_31 ?_
  refine lv_istore_n (lv' := [(0, .int (pu_or (pu_or (pu_or (x &&& 65535) 8 16711935) 4 252645135) 2 858993459))]) hx hb dX2_expand16to32_32 rfl hl (by decide) rfl (fun ls hl => ?_)
  refine lv_iload_n hx hb dX2_expand16to32_33 rfl (lv_at hl 0 rfl) ?_
  refine lv_iload_n hx hb dX2_expand16to32_34 rfl (lv_at hl 0 rfl) ?_
  refine lv_iconst (v := 1) hx hb dX2_expand16to32_35 (by decide) ?_
  refine lv_ishl hx hb dX2_expand16to32_36 ?_
  refine lv_ior hx hb dX2_expand16to32_37 ?_
  refine lv_ldc hx hb hown (hts _ q35) dX2_expand16to32_38 ?_
  refine lv_iand hx hb dX2_expand16to32_40 ?_
  refine lv_istore_n (lv' := [(0, .int (pu_or (pu_or (pu_or (pu_or (x &&& 65535) 8 16711935) 4 252645135) 2 858993459) 1 1431655765))]) hx hb dX2_expand16to32_41 rfl hl (by decide) rfl (fun ls hl => ?_)
  refine lv_iload_n hx hb dX2_expand16to32_42 rfl (lv_at hl 0 rfl) ?_
  exact W.iret (v := pu_or (pu_or (pu_or (pu_or (x &&& 65535) 8 16711935) 4 252645135) 2 858993459) 1 1431655765) hx hb hr (fun t ht hW => ⟨rfl, ht⟩) (fun q h => by cases h) dX2_expand16to32_43
set_option maxHeartbeats 4000000 in
/-- Interleave.expand32to64(I)J: pu_e32 -/
theorem m_e32 (l : Launch) (x : Int32) : pc_M l yX2_expand32to64 cX2_expand32to64 1 .long rm_1 [.int x] (fun _ => True) (.long (pu_e32 x)) := by
  refine Met.ofW (cc := cX2_expand32to64) (maxL := 1) (ret := some .long) (by decide) rfl ?_
  intro p e s m args below meth c s₁ B hml hv
  obtain ⟨rfl, -⟩ := hv
  have hx := B.exec
  have hb := B.bytes
  have hr := B.returns
  have hts := atoms_spec (ws := ws_ yX2_expand32to64 cX2_expand32to64 1 (some .long)) B.pre
  have hts : ∀ w ∈ lw_all, w.before _ s = true := fun w h => hts w (List.mem_cons_of_mem _ h)
  have hown : s.vm.findClass RX2 = some m.cls := findClass_of_methodNamed B.named
  have hl := lv_entry ([.int x]) (n := 1) (Nat.le_of_ble_eq_true rfl)
  rw [lg_entry_eq]
  generalize (lg_sl ([.int x]) ++ List.replicate (1 - (lg_sl ([.int x])).length) Slot.unset).toArray = ls at hl ⊢
  have hl : lv_has ls 1 [(0, .int x)] := hl
  refine lv_iload_n hx hb dX2_expand32to64_0 rfl (lv_at hl 0 rfl) ?_
  refine lv_ldc hx hb hown (hts _ q43) dX2_expand32to64_1 ?_
  refine lv_bipush (v := 8) hx hb dX2_expand32to64_3 (by decide +kernel) ?_
  refine pc_S (n := 3) (As := [.int x, .int 65280, .int 8]) (rest := []) ⟨hx, hb, hml, hown, hts⟩ (m_bpI l x 65280 8) (lw_S q44 q45 q3 q46) rfl rfl (by decide +kernel) ⟨Nat.le_of_ble_eq_true rfl, Nat.le_of_ble_eq_true rfl⟩ (fun _ _ _ _ h => h) (fun _ _ _ => trivial) rfl hl.1 rfl (Nat.le_of_ble_eq_true rfl) dX2_expand32to64_5 ⟨Nat.le_of_ble_eq_true rfl, Nat.le_of_ble_eq_true rfl⟩ ?_
  refine lv_istore_n (lv' := [(0, .int (pu_st x 65280 8))]) hx hb dX2_expand32to64_8 rfl hl (by decide) rfl (fun ls hl => ?_)
  refine lv_iload_n hx hb dX2_expand32to64_9 rfl (lv_at hl 0 rfl) ?_
  refine lv_ldc hx hb hown (hts _ q47) dX2_expand32to64_10 ?_
  refine lv_iconst (v := 4) hx hb dX2_expand32to64_12 (by decide) ?_
  refine pc_S (n := 3) (As := [.int (pu_st x 65280 8), .int 15728880, .int 4]) (rest := []) ⟨hx, hb, hml, hown, hts⟩ (m_bpI l (pu_st x 65280 8) 15728880 4) (lw_S q44 q45 q3 q46) rfl rfl (by decide +kernel) ⟨Nat.le_of_ble_eq_true rfl, Nat.le_of_ble_eq_true rfl⟩ (fun _ _ _ _ h => h) (fun _ _ _ => trivial) rfl hl.1 rfl (Nat.le_of_ble_eq_true rfl) dX2_expand32to64_13 ⟨Nat.le_of_ble_eq_true rfl, Nat.le_of_ble_eq_true rfl⟩ ?_
  refine lv_istore_n (lv' := [(0, .int (pu_st (pu_st x 65280 8) 15728880 4))]) hx hb dX2_expand32to64_16 rfl hl (by decide) rfl (fun ls hl => ?_)
  refine lv_iload_n hx hb dX2_expand32to64_17 rfl (lv_at hl 0 rfl) ?_
  refine lv_ldc hx hb hown (hts _ q48) dX2_expand32to64_18 ?_
  refine lv_iconst (v := 2) hx hb dX2_expand32to64_20 (by decide) ?_
  refine pc_S (n := 3) (As := [.int (pu_st (pu_st x 65280 8) 15728880 4), .int 202116108, .int 2]) (rest := []) ⟨hx, hb, hml, hown, hts⟩ (m_bpI l (pu_st (pu_st x 65280 8) 15728880 4) 202116108 2) (lw_S q44 q45 q3 q46) rfl rfl (by decide +kernel) ⟨Nat.le_of_ble_eq_true rfl, Nat.le_of_ble_eq_true rfl⟩ (fun _ _ _ _ h => h) (fun _ _ _ => trivial) rfl hl.1 rfl (Nat.le_of_ble_eq_true rfl) dX2_expand32to64_21 ⟨Nat.le_of_ble_eq_true rfl, Nat.le_of_ble_eq_true rfl⟩ ?_
  refine lv_istore_n (lv' := [(0, .int (pu_st (pu_st (pu_st x 65280 8) 15728880 4) 202116108 2))]) hx hb dX2_expand32to64_24 rfl hl (by decide) rfl (fun ls hl => ?_)
  refine lv_iload_n hx hb dX2_expand32to64_25 rfl (lv_at hl 0 rfl) ?_
  refine lv_ldc hx hb hown (hts _ q49) dX2_expand32to64_26 ?_
  refine lv_iconst (v := 1) hx hb dX2_expand32to64_28 (by decide) ?_
  refine pc_S (n := 3) (As := [.int (pu_st (pu_st (pu_st x 65280 8) 15728880 4) 202116108 2), .int 572662306, .int 1]) (rest := []) ⟨hx, hb, hml, hown, hts⟩ (m_bpI l (pu_st (pu_st (pu_st x 65280 8) 15728880 4) 202116108 2) 572662306 1) (lw_S q44 q45 q3 q46) rfl rfl (by decide +kernel) ⟨Nat.le_of_ble_eq_true rfl, Nat.le_of_ble_eq_true rfl⟩ (fun _ _ _ _ h => h) (fun _ _ _ => trivial) rfl hl.1 rfl (Nat.le_of_ble_eq_true rfl) dX2_expand32to64_29 ⟨Nat.le_of_ble_eq_true rfl, Nat.le_of_ble_eq_true rfl⟩ ?_
  refine lv_istore_n (lv' := [(0, .int (pu_sh x))]) hx hb dX2_expand32to64_32 rfl hl (by decide) rfl (fun ls hl => ?_)
  refine lv_iload_n hx hb dX2_expand32to64_33 rfl (lv_at hl 0 rfl) ?_
  refine lv_iconst (v := 1) hx hb dX2_expand32to64_34 (by decide) ?_
  refine lv_iushr (v := pu_ju (pu_sh x) 1) hx hb dX2_expand32to64_35 rfl ?_
  refine lv_i2l (v := (pu_ju (pu_sh x) 1).toInt64) hx hb dX2_expand32to64_36 rfl ?_
  refine lv_ldc2 hx hb hown (hts _ q50) dX2_expand32to64_37 ?_
  refine lv_land hx hb dX2_expand32to64_40 ?_
  refine lv_bipush (v := 32) hx hb dX2_expand32to64_41 (by decide +kernel) ?_
  refine lv_lshl (v := pu_jl (((pu_ju (pu_sh x) 1).toInt64) &&& 1431655765) 32) hx hb dX2_expand32to64_43 rfl ?_
  refine lv_iload_n hx hb dX2_expand32to64_44 rfl (lv_at hl 0 rfl) ?_
  refine lv_i2l (v := (pu_sh x).toInt64) hx hb dX2_expand32to64_45 rfl ?_
  refine lv_ldc2 hx hb hown (hts _ q50) dX2_expand32to64_46 ?_
  refine lv_land hx hb dX2_expand32to64_49 ?_
  refine lv_lor hx hb dX2_expand32to64_50 ?_
  exact W.lret (v := (pu_jl (((pu_ju (pu_sh x) 1).toInt64) &&& 1431655765) 32) ||| (((pu_sh x).toInt64) &&& 1431655765)) hx hb hr (fun t ht hW => ⟨rfl, ht⟩) (fun q h => by cases h) dX2_expand32to64_51
set_option maxHeartbeats 4000000 in
/-- Interleave.shuffle(I)I: pu_sh -/
theorem m_sh (l : Launch) (x : Int32) : pc_M l yX2_shuffle cX2_shuffle 1 .int rm_1 [.int x] (fun _ => True) (.int (pu_sh x)) := by
  refine Met.ofW (cc := cX2_shuffle) (maxL := 1) (ret := some .int) (by decide) rfl ?_
  intro p e s m args below meth c s₁ B hml hv
  obtain ⟨rfl, -⟩ := hv
  have hx := B.exec
  have hb := B.bytes
  have hr := B.returns
  have hts := atoms_spec (ws := ws_ yX2_shuffle cX2_shuffle 1 (some .int)) B.pre
  have hts : ∀ w ∈ lw_all, w.before _ s = true := fun w h => hts w (List.mem_cons_of_mem _ h)
  have hown : s.vm.findClass RX2 = some m.cls := findClass_of_methodNamed B.named
  have hl := lv_entry ([.int x]) (n := 1) (Nat.le_of_ble_eq_true rfl)
  rw [lg_entry_eq]
  generalize (lg_sl ([.int x]) ++ List.replicate (1 - (lg_sl ([.int x])).length) Slot.unset).toArray = ls at hl ⊢
  have hl : lv_has ls 1 [(0, .int x)] := hl
  refine lv_iload_n hx hb dX2_shuffle_0 rfl (lv_at hl 0 rfl) ?_
  refine lv_ldc hx hb hown (hts _ q43) dX2_shuffle_1 ?_
  refine lv_bipush (v := 8) hx hb dX2_shuffle_3 (by decide +kernel) ?_
  refine pc_S (n := 3) (As := [.int x, .int 65280, .int 8]) (rest := []) ⟨hx, hb, hml, hown, hts⟩ (m_bpI l x 65280 8) (lw_S q44 q45 q3 q46) rfl rfl (by decide +kernel) ⟨Nat.le_of_ble_eq_true rfl, Nat.le_of_ble_eq_true rfl⟩ (fun _ _ _ _ h => h) (fun _ _ _ => trivial) rfl hl.1 rfl (Nat.le_of_ble_eq_true rfl) dX2_shuffle_5 ⟨Nat.le_of_ble_eq_true rfl, Nat.le_of_ble_eq_true rfl⟩ ?_
  refine lv_istore_n (lv' := [(0, .int (pu_st x 65280 8))]) hx hb dX2_shuffle_8 rfl hl (by decide) rfl (fun ls hl => ?_)
  refine lv_iload_n hx hb dX2_shuffle_9 rfl (lv_at hl 0 rfl) ?_
  refine lv_ldc hx hb hown (hts _ q47) dX2_shuffle_10 ?_
  refine lv_iconst (v := 4) hx hb dX2_shuffle_12 (by decide) ?_
  refine pc_S (n := 3) (As := [.int (pu_st x 65280 8), .int 15728880, .int 4]) (rest := []) ⟨hx, hb, hml, hown, hts⟩ (m_bpI l (pu_st x 65280 8) 15728880 4) (lw_S q44 q45 q3 q46) rfl rfl (by decide +kernel) ⟨Nat.le_of_ble_eq_true rfl, Nat.le_of_ble_eq_true rfl⟩ (fun _ _ _ _ h => h) (fun _ _ _ => trivial) rfl hl.1 rfl (Nat.le_of_ble_eq_true rfl) dX2_shuffle_13 ⟨Nat.le_of_ble_eq_true rfl, Nat.le_of_ble_eq_true rfl⟩ ?_
  refine lv_istore_n (lv' := [(0, .int (pu_st (pu_st x 65280 8) 15728880 4))]) hx hb dX2_shuffle_16 rfl hl (by decide) rfl (fun ls hl => ?_)
  refine lv_iload_n hx hb dX2_shuffle_17 rfl (lv_at hl 0 rfl) ?_
  refine lv_ldc hx hb hown (hts _ q48) dX2_shuffle_18 ?_
  refine lv_iconst (v := 2) hx hb dX2_shuffle_20 (by decide) ?_
  refine pc_S (n := 3) (As := [.int (pu_st (pu_st x 65280 8) 15728880 4), .int 202116108, .int 2]) (rest := []) ⟨hx, hb, hml, hown, hts⟩ (m_bpI l (pu_st (pu_st x 65280 8) 15728880 4) 202116108 2) (lw_S q44 q45 q3 q46) rfl rfl (by decide +kernel) ⟨Nat.le_of_ble_eq_true rfl, Nat.le_of_ble_eq_true rfl⟩ (fun _ _ _ _ h => h) (fun _ _ _ => trivial) rfl hl.1 rfl (Nat.le_of_ble_eq_true rfl) dX2_shuffle_21 ⟨Nat.le_of_ble_eq_true rfl, Nat.le_of_ble_eq_true rfl⟩ ?_
  refine lv_istore_n (lv' := [(0, .int (pu_st (pu_st (pu_st x 65280 8) 15728880 4) 202116108 2))]) hx hb dX2_shuffle_24 rfl hl (by decide) rfl (fun ls hl => ?_)
  refine lv_iload_n hx hb dX2_shuffle_25 rfl (lv_at hl 0 rfl) ?_
  refine lv_ldc hx hb hown (hts _ q49) dX2_shuffle_26 ?_
  refine lv_iconst (v := 1) hx hb dX2_shuffle_28 (by decide) ?_
  refine pc_S (n := 3) (As := [.int (pu_st (pu_st (pu_st x 65280 8) 15728880 4) 202116108 2), .int 572662306, .int 1]) (rest := []) ⟨hx, hb, hml, hown, hts⟩ (m_bpI l (pu_st (pu_st (pu_st x 65280 8) 15728880 4) 202116108 2) 572662306 1) (lw_S q44 q45 q3 q46) rfl rfl (by decide +kernel) ⟨Nat.le_of_ble_eq_true rfl, Nat.le_of_ble_eq_true rfl⟩ (fun _ _ _ _ h => h) (fun _ _ _ => trivial) rfl hl.1 rfl (Nat.le_of_ble_eq_true rfl) dX2_shuffle_29 ⟨Nat.le_of_ble_eq_true rfl, Nat.le_of_ble_eq_true rfl⟩ ?_
  refine lv_istore_n (lv' := [(0, .int (pu_st (pu_st (pu_st (pu_st x 65280 8) 15728880 4) 202116108 2) 572662306 1))]) hx hb dX2_shuffle_32 rfl hl (by decide) rfl (fun ls hl => ?_)
  refine lv_iload_n hx hb dX2_shuffle_33 rfl (lv_at hl 0 rfl) ?_
  exact W.iret (v := pu_st (pu_st (pu_st (pu_st x 65280 8) 15728880 4) 202116108 2) 572662306 1) hx hb hr (fun t ht hW => ⟨rfl, ht⟩) (fun q h => by cases h) dX2_shuffle_34
set_option maxHeartbeats 4000000 in
/-- Interleave.unshuffle(I)I: pu_un -/
theorem m_un (l : Launch) (x : Int32) : pc_M l yX2_unshuffle cX2_unshuffle 1 .int rm_1 [.int x] (fun _ => True) (.int (pu_un x)) := by
  refine Met.ofW (cc := cX2_unshuffle) (maxL := 1) (ret := some .int) (by decide) rfl ?_
  intro p e s m args below meth c s₁ B hml hv
  obtain ⟨rfl, -⟩ := hv
  have hx := B.exec
  have hb := B.bytes
  have hr := B.returns
  have hts := atoms_spec (ws := ws_ yX2_unshuffle cX2_unshuffle 1 (some .int)) B.pre
  have hts : ∀ w ∈ lw_all, w.before _ s = true := fun w h => hts w (List.mem_cons_of_mem _ h)
  have hown : s.vm.findClass RX2 = some m.cls := findClass_of_methodNamed B.named
  have hl := lv_entry ([.int x]) (n := 1) (Nat.le_of_ble_eq_true rfl)
  rw [lg_entry_eq]
  generalize (lg_sl ([.int x]) ++ List.replicate (1 - (lg_sl ([.int x])).length) Slot.unset).toArray = ls at hl ⊢
  have hl : lv_has ls 1 [(0, .int x)] := hl
  refine lv_iload_n hx hb dX2_unshuffle_0 rfl (lv_at hl 0 rfl) ?_
  refine lv_ldc hx hb hown (hts _ q49) dX2_unshuffle_1 ?_
  refine lv_iconst (v := 1) hx hb dX2_unshuffle_3 (by decide) ?_
  refine pc_S (n := 3) (As := [.int x, .int 572662306, .int 1]) (rest := []) ⟨hx, hb, hml, hown, hts⟩ (m_bpI l x 572662306 1) (lw_S q44 q45 q3 q46) rfl rfl (by decide +kernel) ⟨Nat.le_of_ble_eq_true rfl, Nat.le_of_ble_eq_true rfl⟩ (fun _ _ _ _ h => h) (fun _ _ _ => trivial) rfl hl.1 rfl (Nat.le_of_ble_eq_true rfl) dX2_unshuffle_4 ⟨Nat.le_of_ble_eq_true rfl, Nat.le_of_ble_eq_true rfl⟩ ?_
  refine lv_istore_n (lv' := [(0, .int (pu_st x 572662306 1))]) hx hb dX2_unshuffle_7 rfl hl (by decide) rfl (fun ls hl => ?_)
  refine lv_iload_n hx hb dX2_unshuffle_8 rfl (lv_at hl 0 rfl) ?_
  refine lv_ldc hx hb hown (hts _ q48) dX2_unshuffle_9 ?_
  refine lv_iconst (v := 2) hx hb dX2_unshuffle_11 (by decide) ?_
  refine pc_S (n := 3) (As := [.int (pu_st x 572662306 1), .int 202116108, .int 2]) (rest := []) ⟨hx, hb, hml, hown, hts⟩ (m_bpI l (pu_st x 572662306 1) 202116108 2) (lw_S q44 q45 q3 q46) rfl rfl (by decide +kernel) ⟨Nat.le_of_ble_eq_true rfl, Nat.le_of_ble_eq_true rfl⟩ (fun _ _ _ _ h => h) (fun _ _ _ => trivial) rfl hl.1 rfl (Nat.le_of_ble_eq_true rfl) dX2_unshuffle_12 ⟨Nat.le_of_ble_eq_true rfl, Nat.le_of_ble_eq_true rfl⟩ ?_
  refine lv_istore_n (lv' := [(0, .int (pu_st (pu_st x 572662306 1) 202116108 2))]) hx hb dX2_unshuffle_15 rfl hl (by decide) rfl (fun ls hl => ?_)
  refine lv_iload_n hx hb dX2_unshuffle_16 rfl (lv_at hl 0 rfl) ?_
  refine lv_ldc hx hb hown (hts _ q47) dX2_unshuffle_17 ?_
  refine lv_iconst (v := 4) hx hb dX2_unshuffle_19 (by decide) ?_
  refine pc_S (n := 3) (As := [.int (pu_st (pu_st x 572662306 1) 202116108 2), .int 15728880, .int 4]) (rest := []) ⟨hx, hb, hml, hown, hts⟩ (m_bpI l (pu_st (pu_st x 572662306 1) 202116108 2) 15728880 4) (lw_S q44 q45 q3 q46) rfl rfl (by decide +kernel) ⟨Nat.le_of_ble_eq_true rfl, Nat.le_of_ble_eq_true rfl⟩ (fun _ _ _ _ h => h) (fun _ _ _ => trivial) rfl hl.1 rfl (Nat.le_of_ble_eq_true rfl) dX2_unshuffle_20 ⟨Nat.le_of_ble_eq_true rfl, Nat.le_of_ble_eq_true rfl⟩ ?_
  refine lv_istore_n (lv' := [(0, .int (pu_st (pu_st (pu_st x 572662306 1) 202116108 2) 15728880 4))]) hx hb dX2_unshuffle_23 rfl hl (by decide) rfl (fun ls hl => ?_)
  refine lv_iload_n hx hb dX2_unshuffle_24 rfl (lv_at hl 0 rfl) ?_
  refine lv_ldc hx hb hown (hts _ q43) dX2_unshuffle_25 ?_
  refine lv_bipush (v := 8) hx hb dX2_unshuffle_27 (by decide +kernel) ?_
  refine pc_S (n := 3) (As := [.int (pu_st (pu_st (pu_st x 572662306 1) 202116108 2) 15728880 4), .int 65280, .int 8]) (rest := []) ⟨hx, hb, hml, hown, hts⟩ (m_bpI l (pu_st (pu_st (pu_st x 572662306 1) 202116108 2) 15728880 4) 65280 8) (lw_S q44 q45 q3 q46) rfl rfl (by decide +kernel) ⟨Nat.le_of_ble_eq_true rfl, Nat.le_of_ble_eq_true rfl⟩ (fun _ _ _ _ h => h) (fun _ _ _ => trivial) rfl hl.1 rfl (Nat.le_of_ble_eq_true rfl) dX2_unshuffle_29 ⟨Nat.le_of_ble_eq_true rfl, Nat.le_of_ble_eq_true rfl⟩ ?_
  refine lv_istore_n (lv' := [(0, .int (pu_st (pu_st (pu_st (pu_st x 572662306 1) 202116108 2) 15728880 4) 65280 8))]) hx hb dX2_unshuffle_32 rfl hl (by decide) rfl (fun ls hl => ?_)
  refine lv_iload_n hx hb dX2_unshuffle_33 rfl (lv_at hl 0 rfl) ?_
  exact W.iret (v := pu_st (pu_st (pu_st (pu_st x 572662306 1) 202116108 2) 15728880 4) 65280 8) hx hb hr (fun t ht hW => ⟨rfl, ht⟩) (fun q h => by cases h) dX2_unshuffle_34
set_option maxHeartbeats 4000000 in
/-- Interleave.shuffle(J)J: pu_sH -/
theorem m_sH (l : Launch) (x : Int64) : pc_M l yX2_shuffle_2 cX2_shuffle_2 2 .long rm_1 [.long x] (fun _ => True) (.long (pu_sH x)) := by
  refine Met.ofW (cc := cX2_shuffle_2) (maxL := 2) (ret := some .long) (by decide) rfl ?_
  intro p e s m args below meth c s₁ B hml hv
  obtain ⟨rfl, -⟩ := hv
  have hx := B.exec
  have hb := B.bytes
  have hr := B.returns
  have hts := atoms_spec (ws := ws_ yX2_shuffle_2 cX2_shuffle_2 2 (some .long)) B.pre
  have hts : ∀ w ∈ lw_all, w.before _ s = true := fun w h => hts w (List.mem_cons_of_mem _ h)
  have hown : s.vm.findClass RX2 = some m.cls := findClass_of_methodNamed B.named
  have hl := lv_entry ([.long x]) (n := 2) (Nat.le_of_ble_eq_true rfl)
  rw [lg_entry_eq]
  generalize (lg_sl ([.long x]) ++ List.replicate (2 - (lg_sl ([.long x])).length) Slot.unset).toArray = ls at hl ⊢
  have hl : lv_has ls 2 [(0, .long x)] := hl
  refine lv_lload_n hx hb dX2_shuffle_2_0 rfl (lv_at hl 0 rfl) ?_
  refine lv_ldc2 hx hb hown (hts _ q62) dX2_shuffle_2_1 ?_
  refine lv_bipush (v := 16) hx hb dX2_shuffle_2_4 (by decide +kernel) ?_
  refine pc_S (n := 3) (As := [.long x, .long 4294901760, .int 16]) (rest := []) ⟨hx, hb, hml, hown, hts⟩ (m_bpL l x 4294901760 16) (lw_S q63 q64 q3 q65) rfl rfl (by decide +kernel) ⟨Nat.le_of_ble_eq_true rfl, Nat.le_of_ble_eq_true rfl⟩ (fun _ _ _ _ h => h) (fun _ _ _ => trivial) rfl hl.1 rfl (Nat.le_of_ble_eq_true rfl) dX2_shuffle_2_6 ⟨Nat.le_of_ble_eq_true rfl, Nat.le_of_ble_eq_true rfl⟩ ?_
  refine lv_lstore_n (lv' := [(0, .long (pu_sT x 4294901760 16))]) hx hb dX2_shuffle_2_9 rfl hl (by decide) rfl (fun ls hl => ?_)
  refine lv_lload_n hx hb dX2_shuffle_2_10 rfl (lv_at hl 0 rfl) ?_
  refine lv_ldc2 hx hb hown (hts _ q66) dX2_shuffle_2_11 ?_
  refine lv_bipush (v := 8) hx hb dX2_shuffle_2_14 (by decide +kernel) ?_
  refine pc_S (n := 3) (As := [.long (pu_sT x 4294901760 16), .long 280375465148160, .int 8]) (rest := []) ⟨hx, hb, hml, hown, hts⟩ (m_bpL l (pu_sT x 4294901760 16) 280375465148160 8) (lw_S q63 q64 q3 q65) rfl rfl (by decide +kernel) ⟨Nat.le_of_ble_eq_true rfl, Nat.le_of_ble_eq_true rfl⟩ (fun _ _ _ _ h => h) (fun _ _ _ => trivial) rfl hl.1 rfl (Nat.le_of_ble_eq_true rfl) dX2_shuffle_2_16 ⟨Nat.le_of_ble_eq_true rfl, Nat.le_of_ble_eq_true rfl⟩ ?_
  refine lv_lstore_n (lv' := [(0, .long (pu_sT (pu_sT x 4294901760 16) 280375465148160 8))]) hx hb dX2_shuffle_2_19 rfl hl (by decide) rfl (fun ls hl => ?_)
  refine lv_lload_n hx hb dX2_shuffle_2_20 rfl (lv_at hl 0 rfl) ?_
  refine lv_ldc2 hx hb hown (hts _ q67) dX2_shuffle_2_21 ?_
  refine lv_iconst (v := 4) hx hb dX2_shuffle_2_24 (by decide) ?_
  refine pc_S (n := 3) (As := [.long (pu_sT (pu_sT x 4294901760 16) 280375465148160 8), .long 67555025218437360, .int 4]) (rest := []) ⟨hx, hb, hml, hown, hts⟩ (m_bpL l (pu_sT (pu_sT x 4294901760 16) 280375465148160 8) 67555025218437360 4) (lw_S q63 q64 q3 q65) rfl rfl (by decide +kernel) ⟨Nat.le_of_ble_eq_true rfl, Nat.le_of_ble_eq_true rfl⟩ (fun _ _ _ _ h => h) (fun _ _ _ => trivial) rfl hl.1 rfl (Nat.le_of_ble_eq_true rfl) dX2_shuffle_2_25 ⟨Nat.le_of_ble_eq_true rfl, Nat.le_of_ble_eq_true rfl⟩ ?_
  refine lv_lstore_n (lv' := [(0, .long (pu_sT (pu_sT (pu_sT x 4294901760 16) 280375465148160 8) 67555025218437360 4))]) hx hb dX2_shuffle_2_28 rfl hl (by decide) rfl (fun ls hl => ?_)
  refine lv_lload_n hx hb dX2_shuffle_2_29 rfl (lv_at hl 0 rfl) ?_
  refine lv_ldc2 hx hb hown (hts _ q68) dX2_shuffle_2_30 ?_
  refine lv_iconst (v := 2) hx hb dX2_shuffle_2_33 (by decide) ?_
  refine pc_S (n := 3) (As := [.long (pu_sT (pu_sT (pu_sT x 4294901760 16) 280375465148160 8) 67555025218437360 4), .long 868082074056920076, .int 2]) (rest := []) ⟨hx, hb, hml, hown, hts⟩ (m_bpL l (pu_sT (pu_sT (pu_sT x 4294901760 16) 280375465148160 8) 67555025218437360 4) 868082074056920076 2) (lw_S q63 q64 q3 q65) rfl rfl (by decide +kernel) ⟨Nat.le_of_ble_eq_true rfl, Nat.le_of_ble_eq_true rfl⟩ (fun _ _ _ _ h => h) (fun _ _ _ => trivial) rfl hl.1 rfl (Nat.le_of_ble_eq_true rfl) dX2_shuffle_2_34 ⟨Nat.le_of_ble_eq_true rfl, Nat.le_of_ble_eq_true rfl⟩ ?_
  refine lv_lstore_n (lv' := [(0, .long (pu_sT (pu_sT (pu_sT (pu_sT x 4294901760 16) 280375465148160 8) 67555025218437360 4) 868082074056920076 2))]) hx hb dX2_shuffle_2_37 rfl hl (by decide) rfl (fun ls hl => ?_)
  refine lv_lload_n hx hb dX2_shuffle_2_38 rfl (lv_at hl 0 rfl) ?_
  refine lv_ldc2 hx hb hown (hts _ q69) dX2_shuffle_2_39 ?_
  refine lv_iconst (v := 1) hx hb dX2_shuffle_2_42 (by decide) ?_
  refine pc_S (n := 3) (As := [.long (pu_sT (pu_sT (pu_sT (pu_sT x 4294901760 16) 280375465148160 8) 67555025218437360 4) 868082074056920076 2), .long 2459565876494606882, .int 1]) (rest := []) ⟨hx, hb, hml, hown, hts⟩ (m_bpL l (pu_sT (pu_sT (pu_sT (pu_sT x 4294901760 16) 280375465148160 8) 67555025218437360 4) 868082074056920076 2) 2459565876494606882 1) (lw_S q63 q64 q3 q65) rfl rfl (by decide +kernel) ⟨Nat.le_of_ble_eq_true rfl, Nat.le_of_ble_eq_true rfl⟩ (fun _ _ _ _ h => h) (fun _ _ _ => trivial) rfl hl.1 rfl (Nat.le_of_ble_eq_true rfl) dX2_shuffle_2_43 ⟨Nat.le_of_ble_eq_true rfl, Nat.le_of_ble_eq_true rfl⟩ ?_
  refine lv_lstore_n (lv' := [(0, .long (pu_sT (pu_sT (pu_sT (pu_sT (pu_sT x 4294901760 16) 280375465148160 8) 67555025218437360 4) 868082074056920076 2) 2459565876494606882 1))]) hx hb dX2_shuffle_2_46 rfl hl (by decide) rfl (fun ls hl => ?_)
  refine lv_lload_n hx hb dX2_shuffle_2_47 rfl (lv_at hl 0 rfl) ?_
  exact W.lret (v := pu_sT (pu_sT (pu_sT (pu_sT (pu_sT x 4294901760 16) 280375465148160 8) 67555025218437360 4) 868082074056920076 2) 2459565876494606882 1) hx hb hr (fun t ht hW => ⟨rfl, ht⟩) (fun q h => by cases h) dX2_shuffle_2_48
set_option maxHeartbeats 4000000 in
/-- Interleave.unshuffle(J)J: pu_uN -/
theorem m_uN (l : Launch) (x : Int64) : pc_M l yX2_unshuffle_2 cX2_unshuffle_2 2 .long rm_1 [.long x] (fun _ => True) (.long (pu_uN x)) := by
  refine Met.ofW (cc := cX2_unshuffle_2) (maxL := 2) (ret := some .long) (by decide) rfl ?_
  intro p e s m args below meth c s₁ B hml hv
  obtain ⟨rfl, -⟩ := hv
  have hx := B.exec
  have hb := B.bytes
  have hr := B.returns
  have hts := atoms_spec (ws := ws_ yX2_unshuffle_2 cX2_unshuffle_2 2 (some .long)) B.pre
  have hts : ∀ w ∈ lw_all, w.before _ s = true := fun w h => hts w (List.mem_cons_of_mem _ h)
  have hown : s.vm.findClass RX2 = some m.cls := findClass_of_methodNamed B.named
  have hl := lv_entry ([.long x]) (n := 2) (Nat.le_of_ble_eq_true rfl)
  rw [lg_entry_eq]
  generalize (lg_sl ([.long x]) ++ List.replicate (2 - (lg_sl ([.long x])).length) Slot.unset).toArray = ls at hl ⊢
  have hl : lv_has ls 2 [(0, .long x)] := hl
  refine lv_lload_n hx hb dX2_unshuffle_2_0 rfl (lv_at hl 0 rfl) ?_
  refine lv_ldc2 hx hb hown (hts _ q69) dX2_unshuffle_2_1 ?_
  refine lv_iconst (v := 1) hx hb dX2_unshuffle_2_4 (by decide) ?_
  refine pc_S (n := 3) (As := [.long x, .long 2459565876494606882, .int 1]) (rest := []) ⟨hx, hb, hml, hown, hts⟩ (m_bpL l x 2459565876494606882 1) (lw_S q63 q64 q3 q65) rfl rfl (by decide +kernel) ⟨Nat.le_of_ble_eq_true rfl, Nat.le_of_ble_eq_true rfl⟩ (fun _ _ _ _ h => h) (fun _ _ _ => trivial) rfl hl.1 rfl (Nat.le_of_ble_eq_true rfl) dX2_unshuffle_2_5 ⟨Nat.le_of_ble_eq_true rfl, Nat.le_of_ble_eq_true rfl⟩ ?_
  refine lv_lstore_n (lv' := [(0, .long (pu_sT x 2459565876494606882 1))]) hx hb dX2_unshuffle_2_8 rfl hl (by decide) rfl (fun ls hl => ?_)
  refine lv_lload_n hx hb dX2_unshuffle_2_9 rfl (lv_at hl 0 rfl) ?_
  refine lv_ldc2 hx hb hown (hts _ q68) dX2_unshuffle_2_10 ?_
  refine lv_iconst (v := 2) hx hb dX2_unshuffle_2_13 (by decide) ?_
  refine pc_S (n := 3) (As := [.long (pu_sT x 2459565876494606882 1), .long 868082074056920076, .int 2]) (rest := []) ⟨hx, hb, hml, hown, hts⟩ (m_bpL l (pu_sT x 2459565876494606882 1) 868082074056920076 2) (lw_S q63 q64 q3 q65) rfl rfl (by decide +kernel) ⟨Nat.le_of_ble_eq_true rfl, Nat.le_of_ble_eq_true rfl⟩ (fun _ _ _ _ h => h) (fun _ _ _ => trivial) rfl hl.1 rfl (Nat.le_of_ble_eq_true rfl) dX2_unshuffle_2_14 ⟨Nat.le_of_ble_eq_true rfl, Nat.le_of_ble_eq_true rfl⟩ ?_
  refine lv_lstore_n (lv' := [(0, .long (pu_sT (pu_sT x 2459565876494606882 1) 868082074056920076 2))]) hx hb dX2_unshuffle_2_17 rfl hl (by decide) rfl (fun ls hl => ?_)
  refine lv_lload_n hx hb dX2_unshuffle_2_18 rfl (lv_at hl 0 rfl) ?_
  refine lv_ldc2 hx hb hown (hts _ q67) dX2_unshuffle_2_19 ?_
  refine lv_iconst (v := 4) hx hb dX2_unshuffle_2_22 (by decide) ?_
  refine pc_S (n := 3) (As := [.long (pu_sT (pu_sT x 2459565876494606882 1) 868082074056920076 2), .long 67555025218437360, .int 4]) (rest := []) ⟨hx, hb, hml, hown, hts⟩ (m_bpL l (pu_sT (pu_sT x 2459565876494606882 1) 868082074056920076 2) 67555025218437360 4) (lw_S q63 q64 q3 q65) rfl rfl (by decide +kernel) ⟨Nat.le_of_ble_eq_true rfl, Nat.le_of_ble_eq_true rfl⟩ (fun _ _ _ _ h => h) (fun _ _ _ => trivial) rfl hl.1 rfl (Nat.le_of_ble_eq_true rfl) dX2_unshuffle_2_23 ⟨Nat.le_of_ble_eq_true rfl, Nat.le_of_ble_eq_true rfl⟩ ?_
  refine lv_lstore_n (lv' := [(0, .long (pu_sT (pu_sT (pu_sT x 2459565876494606882 1) 868082074056920076 2) 67555025218437360 4))]) hx hb dX2_unshuffle_2_26 rfl hl (by decide) rfl (fun ls hl => ?_)
  refine lv_lload_n hx hb dX2_unshuffle_2_27 rfl (lv_at hl 0 rfl) ?_
  refine lv_ldc2 hx hb hown (hts _ q66) dX2_unshuffle_2_28 ?_
  refine lv_bipush (v := 8) hx hb dX2_unshuffle_2_31 (by decide +kernel) ?_
  refine pc_S (n := 3) (As := [.long (pu_sT (pu_sT (pu_sT x 2459565876494606882 1) 868082074056920076 2) 67555025218437360 4), .long 280375465148160, .int 8]) (rest := []) ⟨hx, hb, hml, hown, hts⟩ (m_bpL l (pu_sT (pu_sT (pu_sT x 2459565876494606882 1) 868082074056920076 2) 67555025218437360 4) 280375465148160 8) (lw_S q63 q64 q3 q65) rfl rfl (by decide +kernel) ⟨Nat.le_of_ble_eq_true rfl, Nat.le_of_ble_eq_true rfl⟩ (fun _ _ _ _ h => h) (fun _ _ _ => trivial) rfl hl.1 rfl (Nat.le_of_ble_eq_true rfl) dX2_unshuffle_2_33 ⟨Nat.le_of_ble_eq_true rfl, Nat.le_of_ble_eq_true rfl⟩ ?_
  refine lv_lstore_n (lv' := [(0, .long (pu_sT (pu_sT (pu_sT (pu_sT x 2459565876494606882 1) 868082074056920076 2) 67555025218437360 4) 280375465148160 8))]) hx hb dX2_unshuffle_2_36 rfl hl (by decide) rfl (fun ls hl => ?_)
  refine lv_lload_n hx hb dX2_unshuffle_2_37 rfl (lv_at hl 0 rfl) ?_
  refine lv_ldc2 hx hb hown (hts _ q62) dX2_unshuffle_2_38 ?_
  refine lv_bipush (v := 16) hx hb dX2_unshuffle_2_41 (by decide +kernel) ?_
  refine pc_S (n := 3) (As := [.long (pu_sT (pu_sT (pu_sT (pu_sT x 2459565876494606882 1) 868082074056920076 2) 67555025218437360 4) 280375465148160 8), .long 4294901760, .int 16]) (rest := []) ⟨hx, hb, hml, hown, hts⟩ (m_bpL l (pu_sT (pu_sT (pu_sT (pu_sT x 2459565876494606882 1) 868082074056920076 2) 67555025218437360 4) 280375465148160 8) 4294901760 16) (lw_S q63 q64 q3 q65) rfl rfl (by decide +kernel) ⟨Nat.le_of_ble_eq_true rfl, Nat.le_of_ble_eq_true rfl⟩ (fun _ _ _ _ h => h) (fun _ _ _ => trivial) rfl hl.1 rfl (Nat.le_of_ble_eq_true rfl) dX2_unshuffle_2_43 ⟨Nat.le_of_ble_eq_true rfl, Nat.le_of_ble_eq_true rfl⟩ ?_
  refine lv_lstore_n (lv' := [(0, .long (pu_sT (pu_sT (pu_sT (pu_sT (pu_sT x 2459565876494606882 1) 868082074056920076 2) 67555025218437360 4) 280375465148160 8) 4294901760 16))]) hx hb dX2_unshuffle_2_46 rfl hl (by decide) rfl (fun ls hl => ?_)
  refine lv_lload_n hx hb dX2_unshuffle_2_47 rfl (lv_at hl 0 rfl) ?_
  exact W.lret (v := pu_sT (pu_sT (pu_sT (pu_sT (pu_sT x 2459565876494606882 1) 868082074056920076 2) 67555025218437360 4) 280375465148160 8) 4294901760 16) hx hb hr (fun t ht hW => ⟨rfl, ht⟩) (fun q h => by cases h) dX2_unshuffle_2_48
set_option maxHeartbeats 4000000 in
/-- Interleave.shuffle2(I)I: pu_s2 -/
theorem m_s2 (l : Launch) (x : Int32) : pc_M l yX2_shuffle2 cX2_shuffle2 1 .int rm_1 [.int x] (fun _ => True) (.int (pu_s2 x)) := by
  refine Met.ofW (cc := cX2_shuffle2) (maxL := 1) (ret := some .int) (by decide) rfl ?_
  intro p e s m args below meth c s₁ B hml hv
  obtain ⟨rfl, -⟩ := hv
  have hx := B.exec
  have hb := B.bytes
  have hr := B.returns
  have hts := atoms_spec (ws := ws_ yX2_shuffle2 cX2_shuffle2 1 (some .int)) B.pre
  have hts : ∀ w ∈ lw_all, w.before _ s = true := fun w h => hts w (List.mem_cons_of_mem _ h)
  have hown : s.vm.findClass RX2 = some m.cls := findClass_of_methodNamed B.named
  have hl := lv_entry ([.int x]) (n := 1) (Nat.le_of_ble_eq_true rfl)
  rw [lg_entry_eq]
  generalize (lg_sl ([.int x]) ++ List.replicate (1 - (lg_sl ([.int x])).length) Slot.unset).toArray = ls at hl ⊢
  have hl : lv_has ls 1 [(0, .int x)] := hl
  refine lv_iload_n hx hb dX2_shuffle2_0 rfl (lv_at hl 0 rfl) ?_
  refine lv_ldc hx hb hown (hts _ q110) dX2_shuffle2_1 ?_
  refine lv_bipush (v := 7) hx hb dX2_shuffle2_3 (by decide +kernel) ?_
  refine pc_S (n := 3) (As := [.int x, .int 11141290, .int 7]) (rest := []) ⟨hx, hb, hml, hown, hts⟩ (m_bpI l x 11141290 7) (lw_S q44 q45 q3 q46) rfl rfl (by decide +kernel) ⟨Nat.le_of_ble_eq_true rfl, Nat.le_of_ble_eq_true rfl⟩ (fun _ _ _ _ h => h) (fun _ _ _ => trivial) rfl hl.1 rfl (Nat.le_of_ble_eq_true rfl) dX2_shuffle2_5 ⟨Nat.le_of_ble_eq_true rfl, Nat.le_of_ble_eq_true rfl⟩ ?_
  refine lv_istore_n (lv' := [(0, .int (pu_st x 11141290 7))]) hx hb dX2_shuffle2_8 rfl hl (by decide) rfl (fun ls hl => ?_)
  refine lv_iload_n hx hb dX2_shuffle2_9 rfl (lv_at hl 0 rfl) ?_
  refine lv_ldc hx hb hown (hts _ q111) dX2_shuffle2_10 ?_
  refine lv_bipush (v := 14) hx hb dX2_shuffle2_12 (by decide +kernel) ?_
  refine pc_S (n := 3) (As := [.int (pu_st x 11141290 7), .int 52428, .int 14]) (rest := []) ⟨hx, hb, hml, hown, hts⟩ (m_bpI l (pu_st x 11141290 7) 52428 14) (lw_S q44 q45 q3 q46) rfl rfl (by decide +kernel) ⟨Nat.le_of_ble_eq_true rfl, Nat.le_of_ble_eq_true rfl⟩ (fun _ _ _ _ h => h) (fun _ _ _ => trivial) rfl hl.1 rfl (Nat.le_of_ble_eq_true rfl) dX2_shuffle2_14 ⟨Nat.le_of_ble_eq_true rfl, Nat.le_of_ble_eq_true rfl⟩ ?_
  refine lv_istore_n (lv' := [(0, .int (pu_st (pu_st x 11141290 7) 52428 14))]) hx hb dX2_shuffle2_17 rfl hl (by decide) rfl (fun ls hl => ?_)
  refine lv_iload_n hx hb dX2_shuffle2_18 rfl (lv_at hl 0 rfl) ?_
  refine lv_ldc hx hb hown (hts _ q47) dX2_shuffle2_19 ?_
  refine lv_iconst (v := 4) hx hb dX2_shuffle2_21 (by decide) ?_
  refine pc_S (n := 3) (As := [.int (pu_st (pu_st x 11141290 7) 52428 14), .int 15728880, .int 4]) (rest := []) ⟨hx, hb, hml, hown, hts⟩ (m_bpI l (pu_st (pu_st x 11141290 7) 52428 14) 15728880 4) (lw_S q44 q45 q3 q46) rfl rfl (by decide +kernel) ⟨Nat.le_of_ble_eq_true rfl, Nat.le_of_ble_eq_true rfl⟩ (fun _ _ _ _ h => h) (fun _ _ _ => trivial) rfl hl.1 rfl (Nat.le_of_ble_eq_true rfl) dX2_shuffle2_22 ⟨Nat.le_of_ble_eq_true rfl, Nat.le_of_ble_eq_true rfl⟩ ?_
  refine lv_istore_n (lv' := [(0, .int (pu_st (pu_st (pu_st x 11141290 7) 52428 14) 15728880 4))]) hx hb dX2_shuffle2_25 rfl hl (by decide) rfl (fun ls hl => ?_)
  refine lv_iload_n hx hb dX2_shuffle2_26 rfl (lv_at hl 0 rfl) ?_
  refine lv_ldc hx hb hown (hts _ q43) dX2_shuffle2_27 ?_
  refine lv_bipush (v := 8) hx hb dX2_shuffle2_29 (by decide +kernel) ?_
  refine pc_S (n := 3) (As := [.int (pu_st (pu_st (pu_st x 11141290 7) 52428 14) 15728880 4), .int 65280, .int 8]) (rest := []) ⟨hx, hb, hml, hown, hts⟩ (m_bpI l (pu_st (pu_st (pu_st x 11141290 7) 52428 14) 15728880 4) 65280 8) (lw_S q44 q45 q3 q46) rfl rfl (by decide +kernel) ⟨Nat.le_of_ble_eq_true rfl, Nat.le_of_ble_eq_true rfl⟩ (fun _ _ _ _ h => h) (fun _ _ _ => trivial) rfl hl.1 rfl (Nat.le_of_ble_eq_true rfl) dX2_shuffle2_31 ⟨Nat.le_of_ble_eq_true rfl, Nat.le_of_ble_eq_true rfl⟩ ?_
  refine lv_istore_n (lv' := [(0, .int (pu_st (pu_st (pu_st (pu_st x 11141290 7) 52428 14) 15728880 4) 65280 8))]) hx hb dX2_shuffle2_34 rfl hl (by decide) rfl (fun ls hl => ?_)
  refine lv_iload_n hx hb dX2_shuffle2_35 rfl (lv_at hl 0 rfl) ?_
  exact W.iret (v := pu_st (pu_st (pu_st (pu_st x 11141290 7) 52428 14) 15728880 4) 65280 8) hx hb hr (fun t ht hW => ⟨rfl, ht⟩) (fun q h => by cases h) dX2_shuffle2_36
set_option maxHeartbeats 4000000 in
/-- Interleave.unshuffle2(I)I: pu_u2 -/
theorem m_u2 (l : Launch) (x : Int32) : pc_M l yX2_unshuffle2 cX2_unshuffle2 1 .int rm_1 [.int x] (fun _ => True) (.int (pu_u2 x)) := by
  refine Met.ofW (cc := cX2_unshuffle2) (maxL := 1) (ret := some .int) (by decide) rfl ?_
  intro p e s m args below meth c s₁ B hml hv
  obtain ⟨rfl, -⟩ := hv
  have hx := B.exec
  have hb := B.bytes
  have hr := B.returns
  have hts := atoms_spec (ws := ws_ yX2_unshuffle2 cX2_unshuffle2 1 (some .int)) B.pre
  have hts : ∀ w ∈ lw_all, w.before _ s = true := fun w h => hts w (List.mem_cons_of_mem _ h)
  have hown : s.vm.findClass RX2 = some m.cls := findClass_of_methodNamed B.named
  have hl := lv_entry ([.int x]) (n := 1) (Nat.le_of_ble_eq_true rfl)
  rw [lg_entry_eq]
  generalize (lg_sl ([.int x]) ++ List.replicate (1 - (lg_sl ([.int x])).length) Slot.unset).toArray = ls at hl ⊢
  have hl : lv_has ls 1 [(0, .int x)] := hl
  refine lv_iload_n hx hb dX2_unshuffle2_0 rfl (lv_at hl 0 rfl) ?_
  refine lv_ldc hx hb hown (hts _ q43) dX2_unshuffle2_1 ?_
  refine lv_bipush (v := 8) hx hb dX2_unshuffle2_3 (by decide +kernel) ?_
  refine pc_S (n := 3) (As := [.int x, .int 65280, .int 8]) (rest := []) ⟨hx, hb, hml, hown, hts⟩ (m_bpI l x 65280 8) (lw_S q44 q45 q3 q46) rfl rfl (by decide +kernel) ⟨Nat.le_of_ble_eq_true rfl, Nat.le_of_ble_eq_true rfl⟩ (fun _ _ _ _ h => h) (fun _ _ _ => trivial) rfl hl.1 rfl (Nat.le_of_ble_eq_true rfl) dX2_unshuffle2_5 ⟨Nat.le_of_ble_eq_true rfl, Nat.le_of_ble_eq_true rfl⟩ ?_
  refine lv_istore_n (lv' := [(0, .int (pu_st x 65280 8))]) hx hb dX2_unshuffle2_8 rfl hl (by decide) rfl (fun ls hl => ?_)
  refine lv_iload_n hx hb dX2_unshuffle2_9 rfl (lv_at hl 0 rfl) ?_
  refine lv_ldc hx hb hown (hts _ q47) dX2_unshuffle2_10 ?_
  refine lv_iconst (v := 4) hx hb dX2_unshuffle2_12 (by decide) ?_
  refine pc_S (n := 3) (As := [.int (pu_st x 65280 8), .int 15728880, .int 4]) (rest := []) ⟨hx, hb, hml, hown, hts⟩ (m_bpI l (pu_st x 65280 8) 15728880 4) (lw_S q44 q45 q3 q46) rfl rfl (by decide +kernel) ⟨Nat.le_of_ble_eq_true rfl, Nat.le_of_ble_eq_true rfl⟩ (fun _ _ _ _ h => h) (fun _ _ _ => trivial) rfl hl.1 rfl (Nat.le_of_ble_eq_true rfl) dX2_unshuffle2_13 ⟨Nat.le_of_ble_eq_true rfl, Nat.le_of_ble_eq_true rfl⟩ ?_
  refine lv_istore_n (lv' := [(0, .int (pu_st (pu_st x 65280 8) 15728880 4))]) hx hb dX2_unshuffle2_16 rfl hl (by decide) rfl (fun ls hl => ?_)
  refine lv_iload_n hx hb dX2_unshuffle2_17 rfl (lv_at hl 0 rfl) ?_
  refine lv_ldc hx hb hown (hts _ q111) dX2_unshuffle2_18 ?_
  refine lv_bipush (v := 14) hx hb dX2_unshuffle2_20 (by decide +kernel) ?_
  refine pc_S (n := 3) (As := [.int (pu_st (pu_st x 65280 8) 15728880 4), .int 52428, .int 14]) (rest := []) ⟨hx, hb, hml, hown, hts⟩ (m_bpI l (pu_st (pu_st x 65280 8) 15728880 4) 52428 14) (lw_S q44 q45 q3 q46) rfl rfl (by decide +kernel) ⟨Nat.le_of_ble_eq_true rfl, Nat.le_of_ble_eq_true rfl⟩ (fun _ _ _ _ h => h) (fun _ _ _ => trivial) rfl hl.1 rfl (Nat.le_of_ble_eq_true rfl) dX2_unshuffle2_22 ⟨Nat.le_of_ble_eq_true rfl, Nat.le_of_ble_eq_true rfl⟩ ?_
  refine lv_istore_n (lv' := [(0, .int (pu_st (pu_st (pu_st x 65280 8) 15728880 4) 52428 14))]) hx hb dX2_unshuffle2_25 rfl hl (by decide) rfl (fun ls hl => ?_)
  refine lv_iload_n hx hb dX2_unshuffle2_26 rfl (lv_at hl 0 rfl) ?_
  refine lv_ldc hx hb hown (hts _ q110) dX2_unshuffle2_27 ?_
  refine lv_bipush (v := 7) hx hb dX2_unshuffle2_29 (by decide +kernel) ?_
  refine pc_S (n := 3) (As := [.int (pu_st (pu_st (pu_st x 65280 8) 15728880 4) 52428 14), .int 11141290, .int 7]) (rest := []) ⟨hx, hb, hml, hown, hts⟩ (m_bpI l (pu_st (pu_st (pu_st x 65280 8) 15728880 4) 52428 14) 11141290 7) (lw_S q44 q45 q3 q46) rfl rfl (by decide +kernel) ⟨Nat.le_of_ble_eq_true rfl, Nat.le_of_ble_eq_true rfl⟩ (fun _ _ _ _ h => h) (fun _ _ _ => trivial) rfl hl.1 rfl (Nat.le_of_ble_eq_true rfl) dX2_unshuffle2_31 ⟨Nat.le_of_ble_eq_true rfl, Nat.le_of_ble_eq_true rfl⟩ ?_
  refine lv_istore_n (lv' := [(0, .int (pu_st (pu_st (pu_st (pu_st x 65280 8) 15728880 4) 52428 14) 11141290 7))]) hx hb dX2_unshuffle2_34 rfl hl (by decide) rfl (fun ls hl => ?_)
  refine lv_iload_n hx hb dX2_unshuffle2_35 rfl (lv_at hl 0 rfl) ?_
  exact W.iret (v := pu_st (pu_st (pu_st (pu_st x 65280 8) 15728880 4) 52428 14) 11141290 7) hx hb hr (fun t ht hW => ⟨rfl, ht⟩) (fun q h => by cases h) dX2_unshuffle2_36
set_option maxHeartbeats 4000000 in
/-- Interleave.shuffle2(J)J: pu_S2 -/
theorem m_S2 (l : Launch) (x : Int64) : pc_M l yX2_shuffle2_2 cX2_shuffle2_2 2 .long rm_1 [.long x] (fun _ => True) (.long (pu_S2 x)) := by
  refine Met.ofW (cc := cX2_shuffle2_2) (maxL := 2) (ret := some .long) (by decide) rfl ?_
  intro p e s m args below meth c s₁ B hml hv
  obtain ⟨rfl, -⟩ := hv
  have hx := B.exec
  have hb := B.bytes
  have hr := B.returns
  have hts := atoms_spec (ws := ws_ yX2_shuffle2_2 cX2_shuffle2_2 2 (some .long)) B.pre
  have hts : ∀ w ∈ lw_all, w.before _ s = true := fun w h => hts w (List.mem_cons_of_mem _ h)
  have hown : s.vm.findClass RX2 = some m.cls := findClass_of_methodNamed B.named
  have hl := lv_entry ([.long x]) (n := 2) (Nat.le_of_ble_eq_true rfl)
  rw [lg_entry_eq]
  generalize (lg_sl ([.long x]) ++ List.replicate (2 - (lg_sl ([.long x])).length) Slot.unset).toArray = ls at hl ⊢
  have hl : lv_has ls 2 [(0, .long x)] := hl
  refine lv_lload_n hx hb dX2_shuffle2_2_0 rfl (lv_at hl 0 rfl) ?_
  refine lv_ldc2 hx hb hown (hts _ q122) dX2_shuffle2_2_1 ?_
  refine lv_bipush (v := 24) hx hb dX2_shuffle2_2_4 (by decide +kernel) ?_
  refine pc_S (n := 3) (As := [.long x, .long 4278255360, .int 24]) (rest := []) ⟨hx, hb, hml, hown, hts⟩ (m_bpL l x 4278255360 24) (lw_S q63 q64 q3 q65) rfl rfl (by decide +kernel) ⟨Nat.le_of_ble_eq_true rfl, Nat.le_of_ble_eq_true rfl⟩ (fun _ _ _ _ h => h) (fun _ _ _ => trivial) rfl hl.1 rfl (Nat.le_of_ble_eq_true rfl) dX2_shuffle2_2_6 ⟨Nat.le_of_ble_eq_true rfl, Nat.le_of_ble_eq_true rfl⟩ ?_
  refine lv_lstore_n (lv' := [(0, .long (pu_sT x 4278255360 24))]) hx hb dX2_shuffle2_2_9 rfl hl (by decide) rfl (fun ls hl => ?_)
  refine lv_lload_n hx hb dX2_shuffle2_2_10 rfl (lv_at hl 0 rfl) ?_
  refine lv_ldc2 hx hb hown (hts _ q123) dX2_shuffle2_2_11 ?_
  refine lv_bipush (v := 6) hx hb dX2_shuffle2_2_14 (by decide +kernel) ?_
  refine pc_S (n := 3) (As := [.long (pu_sT x 4278255360 24), .long 57421771435671756, .int 6]) (rest := []) ⟨hx, hb, hml, hown, hts⟩ (m_bpL l (pu_sT x 4278255360 24) 57421771435671756 6) (lw_S q63 q64 q3 q65) rfl rfl (by decide +kernel) ⟨Nat.le_of_ble_eq_true rfl, Nat.le_of_ble_eq_true rfl⟩ (fun _ _ _ _ h => h) (fun _ _ _ => trivial) rfl hl.1 rfl (Nat.le_of_ble_eq_true rfl) dX2_shuffle2_2_16 ⟨Nat.le_of_ble_eq_true rfl, Nat.le_of_ble_eq_true rfl⟩ ?_
  refine lv_lstore_n (lv' := [(0, .long (pu_sT (pu_sT x 4278255360 24) 57421771435671756 6))]) hx hb dX2_shuffle2_2_19 rfl hl (by decide) rfl (fun ls hl => ?_)
  refine lv_lload_n hx hb dX2_shuffle2_2_20 rfl (lv_at hl 0 rfl) ?_
  refine lv_ldc2 hx hb hown (hts _ q124) dX2_shuffle2_2_21 ?_
  refine lv_bipush (v := 12) hx hb dX2_shuffle2_2_24 (by decide +kernel) ?_
  refine pc_S (n := 3) (As := [.long (pu_sT (pu_sT x 4278255360 24) 57421771435671756 6), .long 264913582878960, .int 12]) (rest := []) ⟨hx, hb, hml, hown, hts⟩ (m_bpL l (pu_sT (pu_sT x 4278255360 24) 57421771435671756 6) 264913582878960 12) (lw_S q63 q64 q3 q65) rfl rfl (by decide +kernel) ⟨Nat.le_of_ble_eq_true rfl, Nat.le_of_ble_eq_true rfl⟩ (fun _ _ _ _ h => h) (fun _ _ _ => trivial) rfl hl.1 rfl (Nat.le_of_ble_eq_true rfl) dX2_shuffle2_2_26 ⟨Nat.le_of_ble_eq_true rfl, Nat.le_of_ble_eq_true rfl⟩ ?_
  refine lv_lstore_n (lv' := [(0, .long (pu_sT (pu_sT (pu_sT x 4278255360 24) 57421771435671756 6) 264913582878960 12))]) hx hb dX2_shuffle2_2_29 rfl hl (by decide) rfl (fun ls hl => ?_)
  refine lv_lload_n hx hb dX2_shuffle2_2_30 rfl (lv_at hl 0 rfl) ?_
  refine lv_ldc2 hx hb hown (hts _ q125) dX2_shuffle2_2_31 ?_
  refine lv_iconst (v := 3) hx hb dX2_shuffle2_2_34 (by decide) ?_
  refine pc_S (n := 3) (As := [.long (pu_sT (pu_sT (pu_sT x 4278255360 24) 57421771435671756 6) 264913582878960 12), .long 723401728380766730, .int 3]) (rest := []) ⟨hx, hb, hml, hown, hts⟩ (m_bpL l (pu_sT (pu_sT (pu_sT x 4278255360 24) 57421771435671756 6) 264913582878960 12) 723401728380766730 3) (lw_S q63 q64 q3 q65) rfl rfl (by decide +kernel) ⟨Nat.le_of_ble_eq_true rfl, Nat.le_of_ble_eq_true rfl⟩ (fun _ _ _ _ h => h) (fun _ _ _ => trivial) rfl hl.1 rfl (Nat.le_of_ble_eq_true rfl) dX2_shuffle2_2_35 ⟨Nat.le_of_ble_eq_true rfl, Nat.le_of_ble_eq_true rfl⟩ ?_
  refine lv_lstore_n (lv' := [(0, .long (pu_sT (pu_sT (pu_sT (pu_sT x 4278255360 24) 57421771435671756 6) 264913582878960 12) 723401728380766730 3))]) hx hb dX2_shuffle2_2_38 rfl hl (by decide) rfl (fun ls hl => ?_)
  refine lv_lload_n hx hb dX2_shuffle2_2_39 rfl (lv_at hl 0 rfl) ?_
  exact W.lret (v := pu_sT (pu_sT (pu_sT (pu_sT x 4278255360 24) 57421771435671756 6) 264913582878960 12) 723401728380766730 3) hx hb hr (fun t ht hW => ⟨rfl, ht⟩) (fun q h => by cases h) dX2_shuffle2_2_40
set_option maxHeartbeats 4000000 in
/-- Interleave.unshuffle2(J)J: pu_U2 -/
theorem m_U2 (l : Launch) (x : Int64) : pc_M l yX2_unshuffle2_2 cX2_unshuffle2_2 2 .long rm_1 [.long x] (fun _ => True) (.long (pu_U2 x)) := by
  refine Met.ofW (cc := cX2_unshuffle2_2) (maxL := 2) (ret := some .long) (by decide) rfl ?_
  intro p e s m args below meth c s₁ B hml hv
  obtain ⟨rfl, -⟩ := hv
  have hx := B.exec
  have hb := B.bytes
  have hr := B.returns
  have hts := atoms_spec (ws := ws_ yX2_unshuffle2_2 cX2_unshuffle2_2 2 (some .long)) B.pre
  have hts : ∀ w ∈ lw_all, w.before _ s = true := fun w h => hts w (List.mem_cons_of_mem _ h)
  have hown : s.vm.findClass RX2 = some m.cls := findClass_of_methodNamed B.named
  have hl := lv_entry ([.long x]) (n := 2) (Nat.le_of_ble_eq_true rfl)
  rw [lg_entry_eq]
  generalize (lg_sl ([.long x]) ++ List.replicate (2 - (lg_sl ([.long x])).length) Slot.unset).toArray = ls at hl ⊢
  have hl : lv_has ls 2 [(0, .long x)] := hl
  refine lv_lload_n hx hb dX2_unshuffle2_2_0 rfl (lv_at hl 0 rfl) ?_
  refine lv_ldc2 hx hb hown (hts _ q125) dX2_unshuffle2_2_1 ?_
  refine lv_iconst (v := 3) hx hb dX2_unshuffle2_2_4 (by decide) ?_
  refine pc_S (n := 3) (As := [.long x, .long 723401728380766730, .int 3]) (rest := []) ⟨hx, hb, hml, hown, hts⟩ (m_bpL l x 723401728380766730 3) (lw_S q63 q64 q3 q65) rfl rfl (by decide +kernel) ⟨Nat.le_of_ble_eq_true rfl, Nat.le_of_ble_eq_true rfl⟩ (fun _ _ _ _ h => h) (fun _ _ _ => trivial) rfl hl.1 rfl (Nat.le_of_ble_eq_true rfl) dX2_unshuffle2_2_5 ⟨Nat.le_of_ble_eq_true rfl, Nat.le_of_ble_eq_true rfl⟩ ?_
  refine lv_lstore_n (lv' := [(0, .long (pu_sT x 723401728380766730 3))]) hx hb dX2_unshuffle2_2_8 rfl hl (by decide) rfl (fun ls hl => ?_)
  refine lv_lload_n hx hb dX2_unshuffle2_2_9 rfl (lv_at hl 0 rfl) ?_
  refine lv_ldc2 hx hb hown (hts _ q124) dX2_unshuffle2_2_10 ?_
  refine lv_bipush (v := 12) hx hb dX2_unshuffle2_2_13 (by decide +kernel) ?_
  refine pc_S (n := 3) (As := [.long (pu_sT x 723401728380766730 3), .long 264913582878960, .int 12]) (rest := []) ⟨hx, hb, hml, hown, hts⟩ (m_bpL l (pu_sT x 723401728380766730 3) 264913582878960 12) (lw_S q63 q64 q3 q65) rfl rfl (by decide +kernel) ⟨Nat.le_of_ble_eq_true rfl, Nat.le_of_ble_eq_true rfl⟩ (fun _ _ _ _ h => h) (fun _ _ _ => trivial) rfl hl.1 rfl (Nat.le_of_ble_eq_true rfl) dX2_unshuffle2_2_15 ⟨Nat.le_of_ble_eq_true rfl, Nat.le_of_ble_eq_true rfl⟩ ?_
  refine lv_lstore_n (lv' := [(0, .long (pu_sT (pu_sT x 723401728380766730 3) 264913582878960 12))]) hx hb dX2_unshuffle2_2_18 rfl hl (by decide) rfl (fun ls hl => ?_)
  refine lv_lload_n hx hb dX2_unshuffle2_2_19 rfl (lv_at hl 0 rfl) ?_
  refine lv_ldc2 hx hb hown (hts _ q123) dX2_unshuffle2_2_20 ?_
  refine lv_bipush (v := 6) hx hb dX2_unshuffle2_2_23 (by decide +kernel) ?_
  refine pc_S (n := 3) (As := [.long (pu_sT (pu_sT x 723401728380766730 3) 264913582878960 12), .long 57421771435671756, .int 6]) (rest := []) ⟨hx, hb, hml, hown, hts⟩ (m_bpL l (pu_sT (pu_sT x 723401728380766730 3) 264913582878960 12) 57421771435671756 6) (lw_S q63 q64 q3 q65) rfl rfl (by decide +kernel) ⟨Nat.le_of_ble_eq_true rfl, Nat.le_of_ble_eq_true rfl⟩ (fun _ _ _ _ h => h) (fun _ _ _ => trivial) rfl hl.1 rfl (Nat.le_of_ble_eq_true rfl) dX2_unshuffle2_2_25 ⟨Nat.le_of_ble_eq_true rfl, Nat.le_of_ble_eq_true rfl⟩ ?_
  refine lv_lstore_n (lv' := [(0, .long (pu_sT (pu_sT (pu_sT x 723401728380766730 3) 264913582878960 12) 57421771435671756 6))]) hx hb dX2_unshuffle2_2_28 rfl hl (by decide) rfl (fun ls hl => ?_)
  refine lv_lload_n hx hb dX2_unshuffle2_2_29 rfl (lv_at hl 0 rfl) ?_
  refine lv_ldc2 hx hb hown (hts _ q122) dX2_unshuffle2_2_30 ?_
  refine lv_bipush (v := 24) hx hb dX2_unshuffle2_2_33 (by decide +kernel) ?_
  refine pc_S (n := 3) (As := [.long (pu_sT (pu_sT (pu_sT x 723401728380766730 3) 264913582878960 12) 57421771435671756 6), .long 4278255360, .int 24]) (rest := []) ⟨hx, hb, hml, hown, hts⟩ (m_bpL l (pu_sT (pu_sT (pu_sT x 723401728380766730 3) 264913582878960 12) 57421771435671756 6) 4278255360 24) (lw_S q63 q64 q3 q65) rfl rfl (by decide +kernel) ⟨Nat.le_of_ble_eq_true rfl, Nat.le_of_ble_eq_true rfl⟩ (fun _ _ _ _ h => h) (fun _ _ _ => trivial) rfl hl.1 rfl (Nat.le_of_ble_eq_true rfl) dX2_unshuffle2_2_35 ⟨Nat.le_of_ble_eq_true rfl, Nat.le_of_ble_eq_true rfl⟩ ?_
  refine lv_lstore_n (lv' := [(0, .long (pu_sT (pu_sT (pu_sT (pu_sT x 723401728380766730 3) 264913582878960 12) 57421771435671756 6) 4278255360 24))]) hx hb dX2_unshuffle2_2_38 rfl hl (by decide) rfl (fun ls hl => ?_)
  refine lv_lload_n hx hb dX2_unshuffle2_2_39 rfl (lv_at hl 0 rfl) ?_
  exact W.lret (v := pu_sT (pu_sT (pu_sT (pu_sT x 723401728380766730 3) 264913582878960 12) 57421771435671756 6) 4278255360 24) hx hb hr (fun t ht hW => ⟨rfl, ht⟩) (fun q h => by cases h) dX2_unshuffle2_2_40
set_option maxHeartbeats 4000000 in
/-- Interleave.shuffle3(J)J: pu_s3 -/
theorem m_s3 (l : Launch) (x : Int64) : pc_M l yX2_shuffle3 cX2_shuffle3 2 .long rm_1 [.long x] (fun _ => True) (.long (pu_s3 x)) := by
  refine Met.ofW (cc := cX2_shuffle3) (maxL := 2) (ret := some .long) (by decide) rfl ?_
  intro p e s m args below meth c s₁ B hml hv
  obtain ⟨rfl, -⟩ := hv
  have hx := B.exec
  have hb := B.bytes
  have hr := B.returns
  have hts := atoms_spec (ws := ws_ yX2_shuffle3 cX2_shuffle3 2 (some .long)) B.pre
  have hts : ∀ w ∈ lw_all, w.before _ s = true := fun w h => hts w (List.mem_cons_of_mem _ h)
  have hown : s.vm.findClass RX2 = some m.cls := findClass_of_methodNamed B.named
  have hl := lv_entry ([.long x]) (n := 2) (Nat.le_of_ble_eq_true rfl)
  rw [lg_entry_eq]
  generalize (lg_sl ([.long x]) ++ List.replicate (2 - (lg_sl ([.long x])).length) Slot.unset).toArray = ls at hl ⊢
  have hl : lv_has ls 2 [(0, .long x)] := hl
  refine lv_lload_n hx hb dX2_shuffle3_0 rfl (lv_at hl 0 rfl) ?_
  refine lv_ldc2 hx hb hown (hts _ q136) dX2_shuffle3_1 ?_
  refine lv_bipush (v := 7) hx hb dX2_shuffle3_4 (by decide +kernel) ?_
  refine pc_S (n := 3) (As := [.long x, .long 47851476196393130, .int 7]) (rest := []) ⟨hx, hb, hml, hown, hts⟩ (m_bpL l x 47851476196393130 7) (lw_S q63 q64 q3 q65) rfl rfl (by decide +kernel) ⟨Nat.le_of_ble_eq_true rfl, Nat.le_of_ble_eq_true rfl⟩ (fun _ _ _ _ h => h) (fun _ _ _ => trivial) rfl hl.1 rfl (Nat.le_of_ble_eq_true rfl) dX2_shuffle3_6 ⟨Nat.le_of_ble_eq_true rfl, Nat.le_of_ble_eq_true rfl⟩ ?_
  refine lv_lstore_n (lv' := [(0, .long (pu_sT x 47851476196393130 7))]) hx hb dX2_shuffle3_9 rfl hl (by decide) rfl (fun ls hl => ?_)
  refine lv_lload_n hx hb dX2_shuffle3_10 rfl (lv_at hl 0 rfl) ?_
  refine lv_ldc2 hx hb hown (hts _ q137) dX2_shuffle3_11 ?_
  refine lv_bipush (v := 14) hx hb dX2_shuffle3_14 (by decide +kernel) ?_
  refine pc_S (n := 3) (As := [.long (pu_sT x 47851476196393130 7), .long 225176545447116, .int 14]) (rest := []) ⟨hx, hb, hml, hown, hts⟩ (m_bpL l (pu_sT x 47851476196393130 7) 225176545447116 14) (lw_S q63 q64 q3 q65) rfl rfl (by decide +kernel) ⟨Nat.le_of_ble_eq_true rfl, Nat.le_of_ble_eq_true rfl⟩ (fun _ _ _ _ h => h) (fun _ _ _ => trivial) rfl hl.1 rfl (Nat.le_of_ble_eq_true rfl) dX2_shuffle3_16 ⟨Nat.le_of_ble_eq_true rfl, Nat.le_of_ble_eq_true rfl⟩ ?_
  refine lv_lstore_n (lv' := [(0, .long (pu_sT (pu_sT x 47851476196393130 7) 225176545447116 14))]) hx hb dX2_shuffle3_19 rfl hl (by decide) rfl (fun ls hl => ?_)
  refine lv_lload_n hx hb dX2_shuffle3_20 rfl (lv_at hl 0 rfl) ?_
  refine lv_ldc2 hx hb hown (hts _ q138) dX2_shuffle3_21 ?_
  refine lv_bipush (v := 28) hx hb dX2_shuffle3_24 (by decide +kernel) ?_
  refine pc_S (n := 3) (As := [.long (pu_sT (pu_sT x 47851476196393130 7) 225176545447116 14), .long 4042322160, .int 28]) (rest := []) ⟨hx, hb, hml, hown, hts⟩ (m_bpL l (pu_sT (pu_sT x 47851476196393130 7) 225176545447116 14) 4042322160 28) (lw_S q63 q64 q3 q65) rfl rfl (by decide +kernel) ⟨Nat.le_of_ble_eq_true rfl, Nat.le_of_ble_eq_true rfl⟩ (fun _ _ _ _ h => h) (fun _ _ _ => trivial) rfl hl.1 rfl (Nat.le_of_ble_eq_true rfl) dX2_shuffle3_26 ⟨Nat.le_of_ble_eq_true rfl, Nat.le_of_ble_eq_true rfl⟩ ?_
  refine lv_lstore_n (lv' := [(0, .long (pu_sT (pu_sT (pu_sT x 47851476196393130 7) 225176545447116 14) 4042322160 28))]) hx hb dX2_shuffle3_29 rfl hl (by decide) rfl (fun ls hl => ?_)
  refine lv_lload_n hx hb dX2_shuffle3_30 rfl (lv_at hl 0 rfl) ?_
  exact W.lret (v := pu_sT (pu_sT (pu_sT x 47851476196393130 7) 225176545447116 14) 4042322160 28) hx hb hr (fun t ht hW => ⟨rfl, ht⟩) (fun q h => by cases h) dX2_shuffle3_31
set_option maxHeartbeats 4000000 in
/-- Interleave.unshuffle3(J)J: pu_s3 -/
theorem m_u3 (l : Launch) (x : Int64) : pc_M l yX2_unshuffle3 cX2_unshuffle3 2 .long rm_2 [.long x] (fun _ => True) (.long (pu_s3 x)) := by
  refine Met.ofW (cc := cX2_unshuffle3) (maxL := 2) (ret := some .long) (by decide) rfl ?_
  intro p e s m args below meth c s₁ B hml hv
  obtain ⟨rfl, -⟩ := hv
  have hx := B.exec
  have hb := B.bytes
  have hr := B.returns
  have hts := atoms_spec (ws := ws_ yX2_unshuffle3 cX2_unshuffle3 2 (some .long)) B.pre
  have hts : ∀ w ∈ lw_all, w.before _ s = true := fun w h => hts w (List.mem_cons_of_mem _ h)
  have hown : s.vm.findClass RX2 = some m.cls := findClass_of_methodNamed B.named
  have hl := lv_entry ([.long x]) (n := 2) (Nat.le_of_ble_eq_true rfl)
  rw [lg_entry_eq]
  generalize (lg_sl ([.long x]) ++ List.replicate (2 - (lg_sl ([.long x])).length) Slot.unset).toArray = ls at hl ⊢
  have hl : lv_has ls 2 [(0, .long x)] := hl
  refine lv_lload_n hx hb dX2_unshuffle3_0 rfl (lv_at hl 0 rfl) ?_
  refine pc_S (n := 1) (As := [.long x]) (rest := []) ⟨hx, hb, hml, hown, hts⟩ (m_s3 l x) (lw_S q142 q134 q2 q135) rfl rfl (by decide +kernel) ⟨Nat.le_of_ble_eq_true rfl, Nat.le_of_ble_eq_true rfl⟩ (fun _ _ _ _ h => h) (fun _ _ _ => trivial) rfl hl.1 rfl (Nat.le_of_ble_eq_true rfl) dX2_unshuffle3_1 ⟨Nat.le_of_ble_eq_true rfl, Nat.le_of_ble_eq_true rfl⟩ ?_
  exact W.lret (v := pu_s3 x) hx hb hr (fun t ht hW => ⟨rfl, ht⟩) (fun q h => by cases h) dX2_unshuffle3_4
end
section
/-! BITWEAVE'S OBJECT: one cell with a reference to an array of two longs a, b -/
abbrev bwC : List vw_C := [(RX1, TX1, 1)]
def pf (a b : Int64) : Nat → Int64 := fun j => if j = 1 then b else if j = 0 then a else 0
abbrev bw (o z : Nat) (cA : ClassId) (a b : Int64) : va_W := [(o, .inr (0, [.ref z])), (z, .inl (cA, 2, .inr (.inl (pf a b))))]
theorem pf_00 : pf 0 0 = fun _ => 0 := by
  funext j
  unfold pf
  split
  · rfl
  · split <;> rfl
theorem pf_s0 (a b x : Int64) : vp_updL (pf a b) (0 : Int32).toNatClampNeg x = pf x b := by
  have e : (0 : Int32).toNatClampNeg = 0 := by decide +kernel
  rw [e]
  funext j
  unfold vp_updL pf
  by_cases h : j = 0
  · subst h
    rfl
  · rw [if_neg h, if_neg h, if_neg h]
theorem pf_s1 (a b x : Int64) : vp_updL (pf a b) ((0 : Int32) + 1).toNatClampNeg x = pf a x := by
  have e : ((0 : Int32) + 1).toNatClampNeg = 1 := by decide +kernel
  rw [e]
  funext j
  unfold vp_updL pf
  by_cases h : j = 1
  · rw [if_pos h, if_pos h]
  · rw [if_neg h, if_neg h, if_neg h]
theorem pf_0 (a b : Int64) : pf a b ((0 : Int32) &&& 1).toNatClampNeg = a := by
  have e : ((0 : Int32) &&& 1).toNatClampNeg = 0 := by decide +kernel
  rw [e]
  rfl
theorem pf_1 (a b : Int64) : pf a b ((1 : Int32) &&& 1).toNatClampNeg = b := by
  have e : ((1 : Int32) &&& 1).toNatClampNeg = 1 := by decide +kernel
  rw [e]
  rfl
theorem pf_ev (x : Int32) : (x &&& -2) &&& 1 = (0 : Int32) &&& 1 := pb_ext fun j hj => by
  have t : ∀ i, i < 32 → (pb (-2) i && pb 1 i) = false ∧ pb ((0 : Int32) &&& 1) i = false := by decide +kernel
  rw [pb_and, pb_and, Bool.and_assoc, (t j hj).1, (t j hj).2, Bool.and_false]
theorem pf_od (x : Int32) : (x ||| 1) &&& 1 = (1 : Int32) &&& 1 := pb_ext fun j hj => by
  have t : ∀ i, i < 32 → pb 1 i = decide (i = 0) := by decide +kernel
  rw [pb_and, pb_or, pb_and, t j hj]
  cases pb x j <;> cases decide (j = 0) <;> rfl
theorem bw_D1 {z : Nat} {e : va_E} {A : Nat → Prop} (h : A z) : va_D A [(z, e)] := by
  refine ⟨fun i j p q hi hj _ => ?_, fun k q hk => ?_⟩
  · have h1 := (List.getElem?_eq_some_iff.mp hi).1
    have h2 := (List.getElem?_eq_some_iff.mp hj).1
    simp at h1 h2
    omega
  · have h1 := List.mem_singleton.mp (List.mem_of_getElem? hk)
    rw [h1]
    exact h
theorem bw_back {D : va_G} {cl : List vw_C} {H H1 : Heap} {o z : Nat} {x y : va_E} (hP : va_P D cl [(o, x)] H) (hne : o ≠ z) (hk : ∀ q : Nat, q < H.size → ¬ q = z → H1[q]? = H[q]?) (hB : va_P D cl [(z, y)] H1) : va_P D cl [(o, x), (z, y)] H1 :=
  (hP.kept (fun k q hq => hk q.1 ((hP k q hq).lt) (by rw [List.mem_singleton.mp (List.mem_of_getElem? hq)]; exact hne))).app hB
theorem bw_bl {dC : Nat → ClassId} {dI : Nat → Nat → Nat} {o z : Nat} {cA : ClassId} {a b : Int64} (U : State) (g : JFrame) (mk : MethodId) (av : Array Value) (h : va_P (dC, dI) bwC (bw o z cA a b) U.heap ∧ va_K (dC, dI) bwC [(cA, .long)] U) : va_P (dC, dI) bwC (bw o z cA a b) (U.calling g mk av).heap ∧ va_K (dC, dI) bwC [(cA, .long)] (U.calling g mk av) := ⟨h.1, va_K.moved (u := U) (U := U.calling g mk av) (Vm.Alike.refl U.vm) h.2⟩
set_option maxHeartbeats 4000000 in
/-- Interleave.expand64To128(x, z, 0): the array z holds pu_x0 x and pu_x1 x; nothing else changes -/
theorem m_x128 (l : Launch) (dC : Nat → ClassId) (dI : Nat → Nat → Nat) (z : Nat) (cA : ClassId) (x a b : Int64) : Met l yX2_expand64To128 (ws_ yX2_expand64To128 cX2_expand64To128 4 none) rm_1 (va_Pc [.long x, .ref z, .int 0] (fun U => va_P (dC, dI) bwC [(z, .inl (cA, 2, .inr (.inl (pf a b))))] U.heap ∧ va_K (dC, dI) bwC [(cA, .long)] U)) (va_Qv (fun _ : Unit => True) (fun _ t => va_P (dC, dI) bwC [(z, .inl (cA, 2, .inr (.inl (pf (pu_x0 x) (pu_x1 x)))))] t.heap) (fun q => q = z)) 0 0 (fun q => q = z) := by
  refine Met.ofW (cc := cX2_expand64To128) (maxL := 4) (ret := none) (by decide) rfl ?_
  intro p e s m args below meth c s₁ B hml hv
  obtain ⟨rfl, hP, hK⟩ := hv
  have hx := B.exec
  have hb := B.bytes
  have hr := B.returns
  have hts := atoms_spec (ws := ws_ yX2_expand64To128 cX2_expand64To128 4 none) B.pre
  have hts : ∀ w ∈ lw_all, w.before _ s = true := fun w h => hts w (List.mem_cons_of_mem _ h)
  have hown : s.vm.findClass RX2 = some m.cls := findClass_of_methodNamed B.named
  have hD : va_D (fun q => q = z) [(z, .inl (cA, 2, .inr (.inl (pf a b))))] := bw_D1 rfl
  have hS : va_S (fun q => q = z) s.heap s.heap [] := va_S.rf
  have hl := lv_entry ([.long x, .ref z, .int 0]) (n := 4) (Nat.le_of_ble_eq_true rfl)
  rw [lg_entry_eq]
  generalize (lg_sl ([.long x, .ref z, .int 0]) ++ List.replicate (4 - (lg_sl ([.long x, .ref z, .int 0])).length) Slot.unset).toArray = ls at hl ⊢
  have hl : lv_has ls 4 [(0, .long x), (2, .ref z), (3, .int 0)] := hl
  refine lv_lload_n hx hb dX2_expand64To128_0 rfl (lv_at hl 0 rfl) ?_
  refine lv_ldc2 hx hb hown (hts _ q62) dX2_expand64To128_1 ?_
  refine lv_bipush (v := 16) hx hb dX2_expand64To128_4 (by decide +kernel) ?_
  refine pc_S (n := 3) (As := [.long x, .long 4294901760, .int 16]) (rest := []) ⟨hx, hb, hml, hown, hts⟩ (m_bpL l x 4294901760 16) (lw_S q63 q64 q3 q65) rfl rfl (by decide +kernel) ⟨Nat.le_of_ble_eq_true rfl, Nat.le_of_ble_eq_true rfl⟩ (fun _ _ _ _ h => h) (fun _ _ _ => trivial) rfl hl.1 rfl (Nat.le_of_ble_eq_true rfl) dX2_expand64To128_6 ⟨Nat.le_of_ble_eq_true rfl, Nat.le_of_ble_eq_true rfl⟩ ?_
  refine lv_lstore_n (lv' := [(0, .long (pu_sT x 4294901760 16)), (2, .ref z), (3, .int 0)]) hx hb dX2_expand64To128_9 rfl hl (by decide) rfl (fun ls hl => ?_)
  refine lv_lload_n hx hb dX2_expand64To128_10 rfl (lv_at hl 0 rfl) ?_
  refine lv_ldc2 hx hb hown (hts _ q66) dX2_expand64To128_11 ?_
  refine lv_bipush (v := 8) hx hb dX2_expand64To128_14 (by decide +kernel) ?_
  refine pc_S (n := 3) (As := [.long (pu_sT x 4294901760 16), .long 280375465148160, .int 8]) (rest := []) ⟨hx, hb, hml, hown, hts⟩ (m_bpL l (pu_sT x 4294901760 16) 280375465148160 8) (lw_S q63 q64 q3 q65) rfl rfl (by decide +kernel) ⟨Nat.le_of_ble_eq_true rfl, Nat.le_of_ble_eq_true rfl⟩ (fun _ _ _ _ h => h) (fun _ _ _ => trivial) rfl hl.1 rfl (Nat.le_of_ble_eq_true rfl) dX2_expand64To128_16 ⟨Nat.le_of_ble_eq_true rfl, Nat.le_of_ble_eq_true rfl⟩ ?_
  refine lv_lstore_n (lv' := [(0, .long (pu_sT (pu_sT x 4294901760 16) 280375465148160 8)), (2, .ref z), (3, .int 0)]) hx hb dX2_expand64To128_19 rfl hl (by decide) rfl (fun ls hl => ?_)
  refine lv_lload_n hx hb dX2_expand64To128_20 rfl (lv_at hl 0 rfl) ?_
  refine lv_ldc2 hx hb hown (hts _ q67) dX2_expand64To128_21 ?_
  refine lv_iconst (v := 4) hx hb dX2_expand64To128_24 (by decide) ?_
  refine pc_S (n := 3) (As := [.long (pu_sT (pu_sT x 4294901760 16) 280375465148160 8), .long 67555025218437360, .int 4]) (rest := []) ⟨hx, hb, hml, hown, hts⟩ (m_bpL l (pu_sT (pu_sT x 4294901760 16) 280375465148160 8) 67555025218437360 4) (lw_S q63 q64 q3 q65) rfl rfl (by decide +kernel) ⟨Nat.le_of_ble_eq_true rfl, Nat.le_of_ble_eq_true rfl⟩ (fun _ _ _ _ h => h) (fun _ _ _ => trivial) rfl hl.1 rfl (Nat.le_of_ble_eq_true rfl) dX2_expand64To128_25 ⟨Nat.le_of_ble_eq_true rfl, Nat.le_of_ble_eq_true rfl⟩ ?_
  refine lv_lstore_n (lv' := [(0, .long (pu_sT (pu_sT (pu_sT x 4294901760 16) 280375465148160 8) 67555025218437360 4)), (2, .ref z), (3, .int 0)]) hx hb dX2_expand64To128_28 rfl hl (by decide) rfl (fun ls hl => ?_)
  refine lv_lload_n hx hb dX2_expand64To128_29 rfl (lv_at hl 0 rfl) ?_
  refine lv_ldc2 hx hb hown (hts _ q68) dX2_expand64To128_30 ?_
  refine lv_iconst (v := 2) hx hb dX2_expand64To128_33 (by decide) ?_
  refine pc_S (n := 3) (As := [.long (pu_sT (pu_sT (pu_sT x 4294901760 16) 280375465148160 8) 67555025218437360 4), .long 868082074056920076, .int 2]) (rest := []) ⟨hx, hb, hml, hown, hts⟩ (m_bpL l (pu_sT (pu_sT (pu_sT x 4294901760 16) 280375465148160 8) 67555025218437360 4) 868082074056920076 2) (lw_S q63 q64 q3 q65) rfl rfl (by decide +kernel) ⟨Nat.le_of_ble_eq_true rfl, Nat.le_of_ble_eq_true rfl⟩ (fun _ _ _ _ h => h) (fun _ _ _ => trivial) rfl hl.1 rfl (Nat.le_of_ble_eq_true rfl) dX2_expand64To128_34 ⟨Nat.le_of_ble_eq_true rfl, Nat.le_of_ble_eq_true rfl⟩ ?_
  refine lv_lstore_n (lv' := [(0, .long (pu_sT (pu_sT (pu_sT (pu_sT x 4294901760 16) 280375465148160 8) 67555025218437360 4) 868082074056920076 2)), (2, .ref z), (3, .int 0)]) hx hb dX2_expand64To128_37 rfl hl (by decide) rfl (fun ls hl => ?_)
  refine lv_lload_n hx hb dX2_expand64To128_38 rfl (lv_at hl 0 rfl) ?_
  refine lv_ldc2 hx hb hown (hts _ q69) dX2_expand64To128_39 ?_
  refine lv_iconst (v := 1) hx hb dX2_expand64To128_42 (by decide) ?_
  refine pc_S (n := 3) (As := [.long (pu_sT (pu_sT (pu_sT (pu_sT x 4294901760 16) 280375465148160 8) 67555025218437360 4) 868082074056920076 2), .long 2459565876494606882, .int 1]) (rest := []) ⟨hx, hb, hml, hown, hts⟩ (m_bpL l (pu_sT (pu_sT (pu_sT (pu_sT x 4294901760 16) 280375465148160 8) 67555025218437360 4) 868082074056920076 2) 2459565876494606882 1) (lw_S q63 q64 q3 q65) rfl rfl (by decide +kernel) ⟨Nat.le_of_ble_eq_true rfl, Nat.le_of_ble_eq_true rfl⟩ (fun _ _ _ _ h => h) (fun _ _ _ => trivial) rfl hl.1 rfl (Nat.le_of_ble_eq_true rfl) dX2_expand64To128_43 ⟨Nat.le_of_ble_eq_true rfl, Nat.le_of_ble_eq_true rfl⟩ ?_
  refine lv_lstore_n (lv' := [(0, .long (pu_sH x)), (2, .ref z), (3, .int 0)]) hx hb dX2_expand64To128_46 rfl hl (by decide) rfl (fun ls hl => ?_)
  refine lv_aload_n hx hb dX2_expand64To128_47 rfl (lv_at hl 1 rfl) ?_
  refine lv_iload_n hx hb dX2_expand64To128_48 rfl (lv_at hl 2 rfl) ?_
  refine lv_lload_n hx hb dX2_expand64To128_49 rfl (lv_at hl 0 rfl) ?_
  refine lv_ldc2 hx hb hown (hts _ q70) dX2_expand64To128_50 ?_
  refine lv_land hx hb dX2_expand64To128_53 ?_
  refine va_last hx hb hK hP hD hS 0 0 rfl rfl (show vp_in (0 : Int32) 2 by unfold vp_in; decide +kernel) dX2_expand64To128_54 (fun H locs hP hD hS => ?_)
  have hP : va_P (dC, dI) bwC [(z, .inl (cA, 2, .inr (.inl (vp_updL (pf a b) (0 : Int32).toNatClampNeg (pu_x0 x)))))] H := hP
  have hD : va_D (fun q => q = z) [(z, .inl (cA, 2, .inr (.inl (vp_updL (pf a b) (0 : Int32).toNatClampNeg (pu_x0 x)))))] := hD
  rw [pf_s0] at hP hD
  refine lv_aload_n hx hb dX2_expand64To128_55 rfl (lv_at hl 1 rfl) ?_
  refine lv_iload_n hx hb dX2_expand64To128_56 rfl (lv_at hl 2 rfl) ?_
  refine lv_iconst (v := 1) hx hb dX2_expand64To128_57 (by decide) ?_
  refine lv_iadd hx hb dX2_expand64To128_58 ?_
  refine lv_lload_n hx hb dX2_expand64To128_59 rfl (lv_at hl 0 rfl) ?_
  refine lv_iconst (v := 1) hx hb dX2_expand64To128_60 (by decide) ?_
  refine lv_lushr (v := pu_jU (pu_sH x) 1) hx hb dX2_expand64To128_61 rfl ?_
  refine lv_ldc2 hx hb hown (hts _ q70) dX2_expand64To128_62 ?_
  refine lv_land hx hb dX2_expand64To128_65 ?_
  refine va_last hx hb hK hP hD hS 0 0 rfl rfl (show vp_in ((0 : Int32) + 1) 2 by unfold vp_in; decide +kernel) dX2_expand64To128_66 (fun H locs hP hD hS => ?_)
  have hP : va_P (dC, dI) bwC [(z, .inl (cA, 2, .inr (.inl (vp_updL (pf (pu_x0 x) b) ((0 : Int32) + 1).toNatClampNeg (pu_x1 x)))))] H := hP
  have hD : va_D (fun q => q = z) [(z, .inl (cA, 2, .inr (.inl (vp_updL (pf (pu_x0 x) b) ((0 : Int32) + 1).toNatClampNeg (pu_x1 x)))))] := hD
  rw [pf_s1] at hP hD
  exact W.vret hx hb hr (fun t ht hW => ⟨⟨(), rfl, trivial, by show va_P _ _ _ t.heap; rw [ht]; exact hP⟩, hS.F ht⟩) hS.2.2 dX2_expand64To128_67
set_option maxHeartbeats 4000000 in
/-- BitWeave.wide: the long of two ints -/
theorem m_wide (l : Launch) (h : Int32) (lo : Int32) : pc_M l yX1_wide cX1_wide 2 .long rm_0 [.int h, .int lo] (fun _ => True) (.long (pu_w h lo)) := by
  refine Met.ofW (cc := cX1_wide) (maxL := 2) (ret := some .long) (by decide) rfl ?_
  intro p e s m args below meth c s₁ B hml hv
  obtain ⟨rfl, -⟩ := hv
  have hx := B.exec
  have hb := B.bytes
  have hr := B.returns
  have hts := atoms_spec (ws := ws_ yX1_wide cX1_wide 2 (some .long)) B.pre
  have hts : ∀ w ∈ lw_all, w.before _ s = true := fun w h => hts w (List.mem_cons_of_mem _ h)
  have hown : s.vm.findClass RX1 = some m.cls := findClass_of_methodNamed B.named
  have hl := lv_entry ([.int h, .int lo]) (n := 2) (Nat.le_of_ble_eq_true rfl)
  rw [lg_entry_eq]
  generalize (lg_sl ([.int h, .int lo]) ++ List.replicate (2 - (lg_sl ([.int h, .int lo])).length) Slot.unset).toArray = ls at hl ⊢
  have hl : lv_has ls 2 [(0, .int h), (1, .int lo)] := hl
  refine lv_iload_n hx hb dX1_wide_0 rfl (lv_at hl 0 rfl) ?_
  refine lv_i2l (v := h.toInt64) hx hb dX1_wide_1 rfl ?_
  refine lv_bipush (v := 32) hx hb dX1_wide_2 (by decide +kernel) ?_
  refine lv_lshl (v := pu_jl h.toInt64 32) hx hb dX1_wide_4 rfl ?_
  refine lv_iload_n hx hb dX1_wide_5 rfl (lv_at hl 1 rfl) ?_
  refine lv_i2l (v := lo.toInt64) hx hb dX1_wide_6 rfl ?_
  refine lv_ldc2 hx hb hown (hts _ q58) dX1_wide_7 ?_
  refine lv_land hx hb dX1_wide_10 ?_
  refine lv_lor hx hb dX1_wide_11 ?_
  exact W.lret (v := (pu_jl h.toInt64 32) ||| (lo.toInt64 &&& 4294967295)) hx hb hr (fun t ht hW => ⟨rfl, ht⟩) (fun q h => by cases h) dX1_wide_12
set_option maxHeartbeats 4000000 in
/-- BitWeave.byteOut: pu_e8 -/
theorem m_byteOut (l : Launch) (o : Nat) (x : Int32) : pc_M l yX1_byteOut cX1_byteOut 2 .int rm_3 [.ref o, .int x] (fun _ => True) (.int (pu_e8 x)) := by
  refine Met.ofW (cc := cX1_byteOut) (maxL := 2) (ret := some .int) (by decide) rfl ?_
  intro p e s m args below meth c s₁ B hml hv
  obtain ⟨rfl, -⟩ := hv
  have hx := B.exec
  have hb := B.bytes
  have hr := B.returns
  have hts := atoms_spec (ws := ws_ yX1_byteOut cX1_byteOut 2 (some .int)) B.pre
  have hts : ∀ w ∈ lw_all, w.before _ s = true := fun w h => hts w (List.mem_cons_of_mem _ h)
  have hown : s.vm.findClass RX1 = some m.cls := findClass_of_methodNamed B.named
  have hl := lv_entry ([.ref o, .int x]) (n := 2) (Nat.le_of_ble_eq_true rfl)
  rw [lg_entry_eq]
  generalize (lg_sl ([.ref o, .int x]) ++ List.replicate (2 - (lg_sl ([.ref o, .int x])).length) Slot.unset).toArray = ls at hl ⊢
  have hl : lv_has ls 2 [(0, .ref o), (1, .int x)] := hl
  refine lv_iload_n hx hb dX1_byteOut_0 rfl (lv_at hl 1 rfl) ?_
  refine pc_S (n := 1) (As := [.int x]) (rest := []) ⟨hx, hb, hml, hown, hts⟩ (m_e8 l x) (lw_S q21 q22 q2 q23) rfl rfl (by decide +kernel) ⟨Nat.le_of_ble_eq_true rfl, Nat.le_of_ble_eq_true rfl⟩ (fun _ _ _ _ h => h) (fun _ _ _ => trivial) rfl hl.1 rfl (Nat.le_of_ble_eq_true rfl) dX1_byteOut_1 ⟨Nat.le_of_ble_eq_true rfl, Nat.le_of_ble_eq_true rfl⟩ ?_
  exact W.iret (v := pu_e8 x) hx hb hr (fun t ht hW => ⟨rfl, ht⟩) (fun q h => by cases h) dX1_byteOut_4
set_option maxHeartbeats 4000000 in
/-- BitWeave.halfOut: pu_e16 -/
theorem m_halfOut (l : Launch) (o : Nat) (x : Int32) : pc_M l yX1_halfOut cX1_halfOut 2 .int rm_3 [.ref o, .int x] (fun _ => True) (.int (pu_e16 x)) := by
  refine Met.ofW (cc := cX1_halfOut) (maxL := 2) (ret := some .int) (by decide) rfl ?_
  intro p e s m args below meth c s₁ B hml hv
  obtain ⟨rfl, -⟩ := hv
  have hx := B.exec
  have hb := B.bytes
  have hr := B.returns
  have hts := atoms_spec (ws := ws_ yX1_halfOut cX1_halfOut 2 (some .int)) B.pre
  have hts : ∀ w ∈ lw_all, w.before _ s = true := fun w h => hts w (List.mem_cons_of_mem _ h)
  have hown : s.vm.findClass RX1 = some m.cls := findClass_of_methodNamed B.named
  have hl := lv_entry ([.ref o, .int x]) (n := 2) (Nat.le_of_ble_eq_true rfl)
  rw [lg_entry_eq]
  generalize (lg_sl ([.ref o, .int x]) ++ List.replicate (2 - (lg_sl ([.ref o, .int x])).length) Slot.unset).toArray = ls at hl ⊢
  have hl : lv_has ls 2 [(0, .ref o), (1, .int x)] := hl
  refine lv_iload_n hx hb dX1_halfOut_0 rfl (lv_at hl 1 rfl) ?_
  refine pc_S (n := 1) (As := [.int x]) (rest := []) ⟨hx, hb, hml, hown, hts⟩ (m_e16 l x) (lw_S q28 q29 q2 q30) rfl rfl (by decide +kernel) ⟨Nat.le_of_ble_eq_true rfl, Nat.le_of_ble_eq_true rfl⟩ (fun _ _ _ _ h => h) (fun _ _ _ => trivial) rfl hl.1 rfl (Nat.le_of_ble_eq_true rfl) dX1_halfOut_1 ⟨Nat.le_of_ble_eq_true rfl, Nat.le_of_ble_eq_true rfl⟩ ?_
  exact W.iret (v := pu_e16 x) hx hb hr (fun t ht hW => ⟨rfl, ht⟩) (fun q h => by cases h) dX1_halfOut_4
set_option maxHeartbeats 4000000 in
/-- BitWeave.wordOut: pu_e32 -/
theorem m_wordOut (l : Launch) (o : Nat) (x : Int32) : pc_M l yX1_wordOut cX1_wordOut 2 .long rm_3 [.ref o, .int x] (fun _ => True) (.long (pu_e32 x)) := by
  refine Met.ofW (cc := cX1_wordOut) (maxL := 2) (ret := some .long) (by decide) rfl ?_
  intro p e s m args below meth c s₁ B hml hv
  obtain ⟨rfl, -⟩ := hv
  have hx := B.exec
  have hb := B.bytes
  have hr := B.returns
  have hts := atoms_spec (ws := ws_ yX1_wordOut cX1_wordOut 2 (some .long)) B.pre
  have hts : ∀ w ∈ lw_all, w.before _ s = true := fun w h => hts w (List.mem_cons_of_mem _ h)
  have hown : s.vm.findClass RX1 = some m.cls := findClass_of_methodNamed B.named
  have hl := lv_entry ([.ref o, .int x]) (n := 2) (Nat.le_of_ble_eq_true rfl)
  rw [lg_entry_eq]
  generalize (lg_sl ([.ref o, .int x]) ++ List.replicate (2 - (lg_sl ([.ref o, .int x])).length) Slot.unset).toArray = ls at hl ⊢
  have hl : lv_has ls 2 [(0, .ref o), (1, .int x)] := hl
  refine lv_iload_n hx hb dX1_wordOut_0 rfl (lv_at hl 1 rfl) ?_
  refine pc_S (n := 1) (As := [.int x]) (rest := []) ⟨hx, hb, hml, hown, hts⟩ (m_e32 l x) (lw_S q40 q41 q2 q42) rfl rfl (by decide +kernel) ⟨Nat.le_of_ble_eq_true rfl, Nat.le_of_ble_eq_true rfl⟩ (fun _ _ _ _ h => h) (fun _ _ _ => trivial) rfl hl.1 rfl (Nat.le_of_ble_eq_true rfl) dX1_wordOut_1 ⟨Nat.le_of_ble_eq_true rfl, Nat.le_of_ble_eq_true rfl⟩ ?_
  exact W.lret (v := pu_e32 x) hx hb hr (fun t ht hW => ⟨rfl, ht⟩) (fun q h => by cases h) dX1_wordOut_4
set_option maxHeartbeats 4000000 in
/-- BitWeave.shuffle: pu_sh -/
theorem m_shuffle (l : Launch) (o : Nat) (x : Int32) : pc_M l yX1_shuffle cX1_shuffle 2 .int rm_3 [.ref o, .int x] (fun _ => True) (.int (pu_sh x)) := by
  refine Met.ofW (cc := cX1_shuffle) (maxL := 2) (ret := some .int) (by decide) rfl ?_
  intro p e s m args below meth c s₁ B hml hv
  obtain ⟨rfl, -⟩ := hv
  have hx := B.exec
  have hb := B.bytes
  have hr := B.returns
  have hts := atoms_spec (ws := ws_ yX1_shuffle cX1_shuffle 2 (some .int)) B.pre
  have hts : ∀ w ∈ lw_all, w.before _ s = true := fun w h => hts w (List.mem_cons_of_mem _ h)
  have hown : s.vm.findClass RX1 = some m.cls := findClass_of_methodNamed B.named
  have hl := lv_entry ([.ref o, .int x]) (n := 2) (Nat.le_of_ble_eq_true rfl)
  rw [lg_entry_eq]
  generalize (lg_sl ([.ref o, .int x]) ++ List.replicate (2 - (lg_sl ([.ref o, .int x])).length) Slot.unset).toArray = ls at hl ⊢
  have hl : lv_has ls 2 [(0, .ref o), (1, .int x)] := hl
  refine lv_iload_n hx hb dX1_shuffle_0 rfl (lv_at hl 1 rfl) ?_
  refine pc_S (n := 1) (As := [.int x]) (rest := []) ⟨hx, hb, hml, hown, hts⟩ (m_sh l x) (lw_S q79 q80 q2 q81) rfl rfl (by decide +kernel) ⟨Nat.le_of_ble_eq_true rfl, Nat.le_of_ble_eq_true rfl⟩ (fun _ _ _ _ h => h) (fun _ _ _ => trivial) rfl hl.1 rfl (Nat.le_of_ble_eq_true rfl) dX1_shuffle_1 ⟨Nat.le_of_ble_eq_true rfl, Nat.le_of_ble_eq_true rfl⟩ ?_
  exact W.iret (v := pu_sh x) hx hb hr (fun t ht hW => ⟨rfl, ht⟩) (fun q h => by cases h) dX1_shuffle_4
set_option maxHeartbeats 4000000 in
/-- BitWeave.unshuffle: pu_un -/
theorem m_unshuffle (l : Launch) (o : Nat) (x : Int32) : pc_M l yX1_unshuffle cX1_unshuffle 2 .int rm_3 [.ref o, .int x] (fun _ => True) (.int (pu_un x)) := by
  refine Met.ofW (cc := cX1_unshuffle) (maxL := 2) (ret := some .int) (by decide) rfl ?_
  intro p e s m args below meth c s₁ B hml hv
  obtain ⟨rfl, -⟩ := hv
  have hx := B.exec
  have hb := B.bytes
  have hr := B.returns
  have hts := atoms_spec (ws := ws_ yX1_unshuffle cX1_unshuffle 2 (some .int)) B.pre
  have hts : ∀ w ∈ lw_all, w.before _ s = true := fun w h => hts w (List.mem_cons_of_mem _ h)
  have hown : s.vm.findClass RX1 = some m.cls := findClass_of_methodNamed B.named
  have hl := lv_entry ([.ref o, .int x]) (n := 2) (Nat.le_of_ble_eq_true rfl)
  rw [lg_entry_eq]
  generalize (lg_sl ([.ref o, .int x]) ++ List.replicate (2 - (lg_sl ([.ref o, .int x])).length) Slot.unset).toArray = ls at hl ⊢
  have hl : lv_has ls 2 [(0, .ref o), (1, .int x)] := hl
  refine lv_iload_n hx hb dX1_unshuffle_0 rfl (lv_at hl 1 rfl) ?_
  refine pc_S (n := 1) (As := [.int x]) (rest := []) ⟨hx, hb, hml, hown, hts⟩ (m_un l x) (lw_S q86 q87 q2 q88) rfl rfl (by decide +kernel) ⟨Nat.le_of_ble_eq_true rfl, Nat.le_of_ble_eq_true rfl⟩ (fun _ _ _ _ h => h) (fun _ _ _ => trivial) rfl hl.1 rfl (Nat.le_of_ble_eq_true rfl) dX1_unshuffle_1 ⟨Nat.le_of_ble_eq_true rfl, Nat.le_of_ble_eq_true rfl⟩ ?_
  exact W.iret (v := pu_un x) hx hb hr (fun t ht hW => ⟨rfl, ht⟩) (fun q h => by cases h) dX1_unshuffle_4
set_option maxHeartbeats 4000000 in
/-- BitWeave.longShuffle: pu_sH (pu_w ..) -/
theorem m_longShuffle (l : Launch) (o : Nat) (h : Int32) (lo : Int32) : pc_M l yX1_longShuffle cX1_longShuffle 3 .long rm_3 [.ref o, .int h, .int lo] (fun _ => True) (.long (pu_sH (pu_w h lo))) := by
  refine Met.ofW (cc := cX1_longShuffle) (maxL := 3) (ret := some .long) (by decide) rfl ?_
  intro p e s m args below meth c s₁ B hml hv
  obtain ⟨rfl, -⟩ := hv
  have hx := B.exec
  have hb := B.bytes
  have hr := B.returns
  have hts := atoms_spec (ws := ws_ yX1_longShuffle cX1_longShuffle 3 (some .long)) B.pre
  have hts : ∀ w ∈ lw_all, w.before _ s = true := fun w h => hts w (List.mem_cons_of_mem _ h)
  have hown : s.vm.findClass RX1 = some m.cls := findClass_of_methodNamed B.named
  have hl := lv_entry ([.ref o, .int h, .int lo]) (n := 3) (Nat.le_of_ble_eq_true rfl)
  rw [lg_entry_eq]
  generalize (lg_sl ([.ref o, .int h, .int lo]) ++ List.replicate (3 - (lg_sl ([.ref o, .int h, .int lo])).length) Slot.unset).toArray = ls at hl ⊢
  have hl : lv_has ls 3 [(0, .ref o), (1, .int h), (2, .int lo)] := hl
  refine lv_iload_n hx hb dX1_longShuffle_0 rfl (lv_at hl 1 rfl) ?_
  refine lv_iload_n hx hb dX1_longShuffle_1 rfl (lv_at hl 2 rfl) ?_
  refine pc_S (n := 2) (As := [.int h, .int lo]) (rest := []) ⟨hx, hb, hml, hown, hts⟩ (m_wide l h lo) (lw_S q55 q56 q1 q57) rfl rfl (by decide +kernel) ⟨Nat.le_of_ble_eq_true rfl, Nat.le_of_ble_eq_true rfl⟩ (fun _ _ _ _ h => h) (fun _ _ _ => trivial) rfl hl.1 rfl (Nat.le_of_ble_eq_true rfl) dX1_longShuffle_2 ⟨Nat.le_of_ble_eq_true rfl, Nat.le_of_ble_eq_true rfl⟩ ?_
  refine pc_S (n := 1) (As := [.long (pu_w h lo)]) (rest := []) ⟨hx, hb, hml, hown, hts⟩ (m_sH l (pu_w h lo)) (lw_S q93 q94 q2 q95) rfl rfl (by decide +kernel) ⟨Nat.le_of_ble_eq_true rfl, Nat.le_of_ble_eq_true rfl⟩ (fun _ _ _ _ h => h) (fun _ _ _ => trivial) rfl hl.1 rfl (Nat.le_of_ble_eq_true rfl) dX1_longShuffle_5 ⟨Nat.le_of_ble_eq_true rfl, Nat.le_of_ble_eq_true rfl⟩ ?_
  exact W.lret (v := pu_sH (pu_w h lo)) hx hb hr (fun t ht hW => ⟨rfl, ht⟩) (fun q h => by cases h) dX1_longShuffle_8
set_option maxHeartbeats 4000000 in
/-- BitWeave.longUnshuffle: pu_uN (pu_w ..) -/
theorem m_longUnshuffle (l : Launch) (o : Nat) (h : Int32) (lo : Int32) : pc_M l yX1_longUnshuffle cX1_longUnshuffle 3 .long rm_3 [.ref o, .int h, .int lo] (fun _ => True) (.long (pu_uN (pu_w h lo))) := by
  refine Met.ofW (cc := cX1_longUnshuffle) (maxL := 3) (ret := some .long) (by decide) rfl ?_
  intro p e s m args below meth c s₁ B hml hv
  obtain ⟨rfl, -⟩ := hv
  have hx := B.exec
  have hb := B.bytes
  have hr := B.returns
  have hts := atoms_spec (ws := ws_ yX1_longUnshuffle cX1_longUnshuffle 3 (some .long)) B.pre
  have hts : ∀ w ∈ lw_all, w.before _ s = true := fun w h => hts w (List.mem_cons_of_mem _ h)
  have hown : s.vm.findClass RX1 = some m.cls := findClass_of_methodNamed B.named
  have hl := lv_entry ([.ref o, .int h, .int lo]) (n := 3) (Nat.le_of_ble_eq_true rfl)
  rw [lg_entry_eq]
  generalize (lg_sl ([.ref o, .int h, .int lo]) ++ List.replicate (3 - (lg_sl ([.ref o, .int h, .int lo])).length) Slot.unset).toArray = ls at hl ⊢
  have hl : lv_has ls 3 [(0, .ref o), (1, .int h), (2, .int lo)] := hl
  refine lv_iload_n hx hb dX1_longUnshuffle_0 rfl (lv_at hl 1 rfl) ?_
  refine lv_iload_n hx hb dX1_longUnshuffle_1 rfl (lv_at hl 2 rfl) ?_
  refine pc_S (n := 2) (As := [.int h, .int lo]) (rest := []) ⟨hx, hb, hml, hown, hts⟩ (m_wide l h lo) (lw_S q55 q56 q1 q57) rfl rfl (by decide +kernel) ⟨Nat.le_of_ble_eq_true rfl, Nat.le_of_ble_eq_true rfl⟩ (fun _ _ _ _ h => h) (fun _ _ _ => trivial) rfl hl.1 rfl (Nat.le_of_ble_eq_true rfl) dX1_longUnshuffle_2 ⟨Nat.le_of_ble_eq_true rfl, Nat.le_of_ble_eq_true rfl⟩ ?_
  refine pc_S (n := 1) (As := [.long (pu_w h lo)]) (rest := []) ⟨hx, hb, hml, hown, hts⟩ (m_uN l (pu_w h lo)) (lw_S q100 q101 q2 q102) rfl rfl (by decide +kernel) ⟨Nat.le_of_ble_eq_true rfl, Nat.le_of_ble_eq_true rfl⟩ (fun _ _ _ _ h => h) (fun _ _ _ => trivial) rfl hl.1 rfl (Nat.le_of_ble_eq_true rfl) dX1_longUnshuffle_5 ⟨Nat.le_of_ble_eq_true rfl, Nat.le_of_ble_eq_true rfl⟩ ?_
  exact W.lret (v := pu_uN (pu_w h lo)) hx hb hr (fun t ht hW => ⟨rfl, ht⟩) (fun q h => by cases h) dX1_longUnshuffle_8
set_option maxHeartbeats 4000000 in
/-- BitWeave.there: pu_u2 (pu_s2 ..) -/
theorem m_there (l : Launch) (o : Nat) (x : Int32) : pc_M l yX1_there cX1_there 2 .int rm_3 [.ref o, .int x] (fun _ => True) (.int (pu_u2 (pu_s2 x))) := by
  refine Met.ofW (cc := cX1_there) (maxL := 2) (ret := some .int) (by decide) rfl ?_
  intro p e s m args below meth c s₁ B hml hv
  obtain ⟨rfl, -⟩ := hv
  have hx := B.exec
  have hb := B.bytes
  have hr := B.returns
  have hts := atoms_spec (ws := ws_ yX1_there cX1_there 2 (some .int)) B.pre
  have hts : ∀ w ∈ lw_all, w.before _ s = true := fun w h => hts w (List.mem_cons_of_mem _ h)
  have hown : s.vm.findClass RX1 = some m.cls := findClass_of_methodNamed B.named
  have hl := lv_entry ([.ref o, .int x]) (n := 2) (Nat.le_of_ble_eq_true rfl)
  rw [lg_entry_eq]
  generalize (lg_sl ([.ref o, .int x]) ++ List.replicate (2 - (lg_sl ([.ref o, .int x])).length) Slot.unset).toArray = ls at hl ⊢
  have hl : lv_has ls 2 [(0, .ref o), (1, .int x)] := hl
  refine lv_iload_n hx hb dX1_there_0 rfl (lv_at hl 1 rfl) ?_
  refine pc_S (n := 1) (As := [.int x]) (rest := []) ⟨hx, hb, hml, hown, hts⟩ (m_s2 l x) (lw_S q107 q108 q2 q109) rfl rfl (by decide +kernel) ⟨Nat.le_of_ble_eq_true rfl, Nat.le_of_ble_eq_true rfl⟩ (fun _ _ _ _ h => h) (fun _ _ _ => trivial) rfl hl.1 rfl (Nat.le_of_ble_eq_true rfl) dX1_there_1 ⟨Nat.le_of_ble_eq_true rfl, Nat.le_of_ble_eq_true rfl⟩ ?_
  refine pc_S (n := 1) (As := [.int (pu_s2 x)]) (rest := []) ⟨hx, hb, hml, hown, hts⟩ (m_u2 l (pu_s2 x)) (lw_S q112 q113 q2 q114) rfl rfl (by decide +kernel) ⟨Nat.le_of_ble_eq_true rfl, Nat.le_of_ble_eq_true rfl⟩ (fun _ _ _ _ h => h) (fun _ _ _ => trivial) rfl hl.1 rfl (Nat.le_of_ble_eq_true rfl) dX1_there_4 ⟨Nat.le_of_ble_eq_true rfl, Nat.le_of_ble_eq_true rfl⟩ ?_
  exact W.iret (v := pu_u2 (pu_s2 x)) hx hb hr (fun t ht hW => ⟨rfl, ht⟩) (fun q h => by cases h) dX1_there_7
set_option maxHeartbeats 4000000 in
/-- BitWeave.longThere: pu_U2 (pu_S2 (pu_w ..)) -/
theorem m_longThere (l : Launch) (o : Nat) (h : Int32) (lo : Int32) : pc_M l yX1_longThere cX1_longThere 3 .long rm_3 [.ref o, .int h, .int lo] (fun _ => True) (.long (pu_U2 (pu_S2 (pu_w h lo)))) := by
  refine Met.ofW (cc := cX1_longThere) (maxL := 3) (ret := some .long) (by decide) rfl ?_
  intro p e s m args below meth c s₁ B hml hv
  obtain ⟨rfl, -⟩ := hv
  have hx := B.exec
  have hb := B.bytes
  have hr := B.returns
  have hts := atoms_spec (ws := ws_ yX1_longThere cX1_longThere 3 (some .long)) B.pre
  have hts : ∀ w ∈ lw_all, w.before _ s = true := fun w h => hts w (List.mem_cons_of_mem _ h)
  have hown : s.vm.findClass RX1 = some m.cls := findClass_of_methodNamed B.named
  have hl := lv_entry ([.ref o, .int h, .int lo]) (n := 3) (Nat.le_of_ble_eq_true rfl)
  rw [lg_entry_eq]
  generalize (lg_sl ([.ref o, .int h, .int lo]) ++ List.replicate (3 - (lg_sl ([.ref o, .int h, .int lo])).length) Slot.unset).toArray = ls at hl ⊢
  have hl : lv_has ls 3 [(0, .ref o), (1, .int h), (2, .int lo)] := hl
  refine lv_iload_n hx hb dX1_longThere_0 rfl (lv_at hl 1 rfl) ?_
  refine lv_iload_n hx hb dX1_longThere_1 rfl (lv_at hl 2 rfl) ?_
  refine pc_S (n := 2) (As := [.int h, .int lo]) (rest := []) ⟨hx, hb, hml, hown, hts⟩ (m_wide l h lo) (lw_S q55 q56 q1 q57) rfl rfl (by decide +kernel) ⟨Nat.le_of_ble_eq_true rfl, Nat.le_of_ble_eq_true rfl⟩ (fun _ _ _ _ h => h) (fun _ _ _ => trivial) rfl hl.1 rfl (Nat.le_of_ble_eq_true rfl) dX1_longThere_2 ⟨Nat.le_of_ble_eq_true rfl, Nat.le_of_ble_eq_true rfl⟩ ?_
  refine pc_S (n := 1) (As := [.long (pu_w h lo)]) (rest := []) ⟨hx, hb, hml, hown, hts⟩ (m_S2 l (pu_w h lo)) (lw_S q119 q120 q2 q121) rfl rfl (by decide +kernel) ⟨Nat.le_of_ble_eq_true rfl, Nat.le_of_ble_eq_true rfl⟩ (fun _ _ _ _ h => h) (fun _ _ _ => trivial) rfl hl.1 rfl (Nat.le_of_ble_eq_true rfl) dX1_longThere_5 ⟨Nat.le_of_ble_eq_true rfl, Nat.le_of_ble_eq_true rfl⟩ ?_
  refine pc_S (n := 1) (As := [.long (pu_S2 (pu_w h lo))]) (rest := []) ⟨hx, hb, hml, hown, hts⟩ (m_U2 l (pu_S2 (pu_w h lo))) (lw_S q126 q127 q2 q128) rfl rfl (by decide +kernel) ⟨Nat.le_of_ble_eq_true rfl, Nat.le_of_ble_eq_true rfl⟩ (fun _ _ _ _ h => h) (fun _ _ _ => trivial) rfl hl.1 rfl (Nat.le_of_ble_eq_true rfl) dX1_longThere_8 ⟨Nat.le_of_ble_eq_true rfl, Nat.le_of_ble_eq_true rfl⟩ ?_
  exact W.lret (v := pu_U2 (pu_S2 (pu_w h lo))) hx hb hr (fun t ht hW => ⟨rfl, ht⟩) (fun q h => by cases h) dX1_longThere_11
set_option maxHeartbeats 4000000 in
/-- BitWeave.thrice: pu_s3 (pu_s3 (pu_w ..)) -/
theorem m_thrice (l : Launch) (o : Nat) (h : Int32) (lo : Int32) : pc_M l yX1_thrice cX1_thrice 3 .long rm_3 [.ref o, .int h, .int lo] (fun _ => True) (.long (pu_s3 (pu_s3 (pu_w h lo)))) := by
  refine Met.ofW (cc := cX1_thrice) (maxL := 3) (ret := some .long) (by decide) rfl ?_
  intro p e s m args below meth c s₁ B hml hv
  obtain ⟨rfl, -⟩ := hv
  have hx := B.exec
  have hb := B.bytes
  have hr := B.returns
  have hts := atoms_spec (ws := ws_ yX1_thrice cX1_thrice 3 (some .long)) B.pre
  have hts : ∀ w ∈ lw_all, w.before _ s = true := fun w h => hts w (List.mem_cons_of_mem _ h)
  have hown : s.vm.findClass RX1 = some m.cls := findClass_of_methodNamed B.named
  have hl := lv_entry ([.ref o, .int h, .int lo]) (n := 3) (Nat.le_of_ble_eq_true rfl)
  rw [lg_entry_eq]
  generalize (lg_sl ([.ref o, .int h, .int lo]) ++ List.replicate (3 - (lg_sl ([.ref o, .int h, .int lo])).length) Slot.unset).toArray = ls at hl ⊢
  have hl : lv_has ls 3 [(0, .ref o), (1, .int h), (2, .int lo)] := hl
  refine lv_iload_n hx hb dX1_thrice_0 rfl (lv_at hl 1 rfl) ?_
  refine lv_iload_n hx hb dX1_thrice_1 rfl (lv_at hl 2 rfl) ?_
  refine pc_S (n := 2) (As := [.int h, .int lo]) (rest := []) ⟨hx, hb, hml, hown, hts⟩ (m_wide l h lo) (lw_S q55 q56 q1 q57) rfl rfl (by decide +kernel) ⟨Nat.le_of_ble_eq_true rfl, Nat.le_of_ble_eq_true rfl⟩ (fun _ _ _ _ h => h) (fun _ _ _ => trivial) rfl hl.1 rfl (Nat.le_of_ble_eq_true rfl) dX1_thrice_2 ⟨Nat.le_of_ble_eq_true rfl, Nat.le_of_ble_eq_true rfl⟩ ?_
  refine pc_S (n := 1) (As := [.long (pu_w h lo)]) (rest := []) ⟨hx, hb, hml, hown, hts⟩ (m_s3 l (pu_w h lo)) (lw_S q133 q134 q2 q135) rfl rfl (by decide +kernel) ⟨Nat.le_of_ble_eq_true rfl, Nat.le_of_ble_eq_true rfl⟩ (fun _ _ _ _ h => h) (fun _ _ _ => trivial) rfl hl.1 rfl (Nat.le_of_ble_eq_true rfl) dX1_thrice_5 ⟨Nat.le_of_ble_eq_true rfl, Nat.le_of_ble_eq_true rfl⟩ ?_
  refine pc_S (n := 1) (As := [.long (pu_s3 (pu_w h lo))]) (rest := []) ⟨hx, hb, hml, hown, hts⟩ (m_u3 l (pu_s3 (pu_w h lo))) (lw_S q139 q140 q2 q141) rfl rfl (by decide +kernel) ⟨Nat.le_of_ble_eq_true rfl, Nat.le_of_ble_eq_true rfl⟩ (fun _ _ _ _ h => h) (fun _ _ _ => trivial) rfl hl.1 rfl (Nat.le_of_ble_eq_true rfl) dX1_thrice_8 ⟨Nat.le_of_ble_eq_true rfl, Nat.le_of_ble_eq_true rfl⟩ ?_
  exact W.lret (v := pu_s3 (pu_s3 (pu_w h lo))) hx hb hr (fun t ht hW => ⟨rfl, ht⟩) (fun q h => by cases h) dX1_thrice_11
set_option maxHeartbeats 4000000 in
/-- BitWeave(): a new array of two zeros -/
theorem m_init (l : Launch) (dC : Nat → ClassId) (dI : Nat → Nat → Nat) (o sz : Nat) : Met l yX1_init (ws_ yX1_init cX1_init 1 none) ({ frames := 1, cells := 1, slots := 2, locals := 20 }) (va_Pc [.ref o] (fun U => U.heap.size = sz ∧ va_P (dC, dI) bwC [(o, .inr (0, [.null]))] U.heap ∧ va_K (dC, dI) bwC [] U)) (va_Qv (fun _ : Nat × ClassId => True) (fun u t => va_P (dC, dI) bwC (bw o u.1 u.2 0 0) t.heap ∧ va_K (dC, dI) bwC [(u.2, .long)] t ∧ o ≠ u.1 ∧ sz ≤ u.1) (fun q => q = o ∨ sz ≤ q)) 1 2 (fun q => q = o ∨ sz ≤ q) := by
  refine Met.ofW (cc := cX1_init) (maxL := 1) (ret := none) (by decide) rfl ?_
  intro p e s m args below meth c s₁ B hml hv
  obtain ⟨rfl, hsz, hP, hK⟩ := hv
  have hx := B.exec
  have hb := B.bytes
  have hr := B.returns
  have hts := atoms_spec (ws := ws_ yX1_init cX1_init 1 none) B.pre
  have hts : ∀ w ∈ lw_all, w.before _ s = true := fun w h => hts w (List.mem_cons_of_mem _ h)
  have hown : s.vm.findClass RX1 = some m.cls := findClass_of_methodNamed B.named
  have hin : meth.name = "<init>" := (name_of_methodNamed B.named B.method).1
  subst hsz
  have hD : va_D (fun q => q = o ∨ s.heap.size ≤ q) [(o, .inr (0, [.null]))] := bw_D1 (Or.inl rfl)
  have hA : ∀ q : Nat, s.heap.size ≤ q → (fun q => q = o ∨ s.heap.size ≤ q) q := fun q h => Or.inr h
  have hS : va_S (fun q => q = o ∨ s.heap.size ≤ q) s.heap s.heap [] := va_S.rf
  have hl := lv_entry ([.ref o]) (n := 1) (Nat.le_of_ble_eq_true rfl)
  rw [lg_entry_eq]
  generalize (lg_sl ([.ref o]) ++ List.replicate (1 - (lg_sl ([.ref o])).length) Slot.unset).toArray = ls at hl ⊢
  have hl : lv_has ls 1 [(0, .ref o)] := hl
  refine lv_aload_n hx hb dX1_init_0 rfl (lv_at hl 0 rfl) ?_
  refine W.objInit hx hb hown (hts _ q9) (hts _ q10) (hts _ q11) rfl (by rw [hml]; exact hl.1) rfl dX1_init_1 (Nat.le_of_ble_eq_true rfl) (Nat.le_of_ble_eq_true rfl) ?_
  refine W.eq (g2 := F0 m 4 ls []) rfl ?_
  refine lv_aload_n hx hb dX1_init_4 rfl (lv_at hl 0 rfl) ?_
  refine lv_iconst (v := 2) hx hb dX1_init_5 (by decide) ?_
  refine va_newa (atype := .long) (ty := .long) (N' := 2) (a0 := (2, .inr (.inl (pf 0 0)))) hx hb (hts _ q16) rfl hK hP hD hS hA (fun cA => by rw [pf_00]; rfl) (by decide) (by decide +kernel) (by decide +kernel) (Nat.le_of_ble_eq_true rfl) (Nat.le_of_ble_eq_true rfl) dX1_init_6 (fun z cA H hK hP hD hS => ?_)
  have hP : va_P (dC, dI) bwC [(o, .inr (0, [.null])), (z, .inl (cA, 2, .inr (.inl (pf 0 0))))] H := hP
  have hD : va_D (fun q => q = o ∨ s.heap.size ≤ q) [(o, .inr (0, [.null])), (z, .inl (cA, 2, .inr (.inl (pf 0 0))))] := hD
  have hK : va_K (dC, dI) bwC [(cA, .long)] s := hK
  have hne : o ≠ z := fun q => absurd (hD.1 0 1 _ _ rfl rfl q) (by decide)
  have hzs : s.heap.size ≤ z := (hD.2 1 _ rfl).resolve_left (fun q => hne q.symm)
  refine va_putF (D := (dC, dI)) (ci := 0) (v := .ref z) (ty := .array .long) (C := RX1) (T := TX1) (N := 1) hx hb hts in_X1 tyX1 tyX1_ok nmX1 hown hK hP hD hS 0 rfl rfl 0 (by decide) (hts _ q12) (fun _ h9 => h9) rfl hin rfl (by decide +kernel) rfl rfl (Nat.le_of_ble_eq_true rfl) dX1_init_8 (fun H locs hP hD hS => ?_)
  have hP : va_P (dC, dI) bwC (bw o z cA 0 0) H := hP
  refine W.widen (k := 1) (n := 2) (Nat.le_of_ble_eq_true rfl) (Nat.le_of_ble_eq_true rfl) ?_
  exact W.vret hx hb hr (fun t ht hW => ⟨⟨(z, cA), rfl, trivial, by rw [ht]; exact hP, va_K.moved hW.alike hK, hne, hzs⟩, hS.F ht⟩) hS.2.2 dX1_init_11
set_option maxHeartbeats 4000000 in
/-- BitWeave.pair(i): one of the two longs -/
theorem m_pair (l : Launch) (dC : Nat → ClassId) (dI : Nat → Nat → Nat) (o z : Nat) (cA : ClassId) (a b : Int64) (i : Int32) : pc_M l yX1_pair cX1_pair 2 .long rm_3 [.ref o, .int i] (fun U => va_P (dC, dI) bwC (bw o z cA a b) U.heap ∧ va_K (dC, dI) bwC [(cA, .long)] U) (.long (pf a b (i &&& 1).toNatClampNeg)) := by
  refine Met.ofW (cc := cX1_pair) (maxL := 2) (ret := some .long) (by decide) rfl ?_
  intro p e s m args below meth c s₁ B hml hv
  obtain ⟨rfl, hP, hK⟩ := hv
  have hx := B.exec
  have hb := B.bytes
  have hr := B.returns
  have hts := atoms_spec (ws := ws_ yX1_pair cX1_pair 2 (some .long)) B.pre
  have hts : ∀ w ∈ lw_all, w.before _ s = true := fun w h => hts w (List.mem_cons_of_mem _ h)
  have hown : s.vm.findClass RX1 = some m.cls := findClass_of_methodNamed B.named
  have hl := lv_entry ([.ref o, .int i]) (n := 2) (Nat.le_of_ble_eq_true rfl)
  rw [lg_entry_eq]
  generalize (lg_sl ([.ref o, .int i]) ++ List.replicate (2 - (lg_sl ([.ref o, .int i])).length) Slot.unset).toArray = ls at hl ⊢
  have hl : lv_has ls 2 [(0, .ref o), (1, .int i)] := hl
  refine lv_aload_n hx hb dX1_pair_0 rfl (lv_at hl 0 rfl) ?_
  refine va_get (D := (dC, dI)) (ci := 0) (v := .ref z) (C := RX1) (T := TX1) (N := 1) hx hb hts in_X1 hown hK hP 0 rfl rfl 0 (by decide) (hts _ q12) (fun _ h9 => h9) rfl dX1_pair_1 ?_
  refine lv_iload_n hx hb dX1_pair_4 rfl (lv_at hl 1 rfl) ?_
  refine lv_iconst (v := 1) hx hb dX1_pair_5 (by decide) ?_
  refine lv_iand hx hb dX1_pair_6 ?_
  refine va_lald hx hb hK hP 1 0 rfl rfl (pk_andIn i 1 (m := 1) (by decide +kernel) (by decide)) dX1_pair_7 ?_
  exact W.lret (v := pf a b (i &&& 1).toNatClampNeg) hx hb hr (fun t ht hW => ⟨rfl, ht⟩) (fun q h => by cases h) dX1_pair_8
set_option maxHeartbeats 4000000 in
/-- BitWeave.longOut(h, lo): the two longs are the spreads of lo and of h -/
theorem m_longOut (l : Launch) (dC : Nat → ClassId) (dI : Nat → Nat → Nat) (o z : Nat) (cA : ClassId) (a b : Int64) (h lo : Int32) (hne : o ≠ z) : Met l yX1_longOut (ws_ yX1_longOut cX1_longOut 3 none) rm_3 (va_Pc [.ref o, .int h, .int lo] (fun U => va_P (dC, dI) bwC (bw o z cA a b) U.heap ∧ va_K (dC, dI) bwC [(cA, .long)] U)) (va_Qv (fun _ : Unit => True) (fun _ t => va_P (dC, dI) bwC (bw o z cA (pu_e32 lo) (pu_e32 h)) t.heap) (fun q => q = z)) 0 0 (fun q => q = z) := by
  refine Met.ofW (cc := cX1_longOut) (maxL := 3) (ret := none) (by decide) rfl ?_
  intro p e s m args below meth c s₁ B hml hv
  obtain ⟨rfl, hP, hK⟩ := hv
  have hx := B.exec
  have hb := B.bytes
  have hr := B.returns
  have hts := atoms_spec (ws := ws_ yX1_longOut cX1_longOut 3 none) B.pre
  have hts : ∀ w ∈ lw_all, w.before _ s = true := fun w h => hts w (List.mem_cons_of_mem _ h)
  have hown : s.vm.findClass RX1 = some m.cls := findClass_of_methodNamed B.named
  have hS : va_S (fun q => q = z) s.heap s.heap [] := va_S.rf
  have hl := lv_entry ([.ref o, .int h, .int lo]) (n := 3) (Nat.le_of_ble_eq_true rfl)
  rw [lg_entry_eq]
  generalize (lg_sl ([.ref o, .int h, .int lo]) ++ List.replicate (3 - (lg_sl ([.ref o, .int h, .int lo])).length) Slot.unset).toArray = ls at hl ⊢
  have hl : lv_has ls 3 [(0, .ref o), (1, .int h), (2, .int lo)] := hl
  refine lv_iload_n hx hb dX1_longOut_0 rfl (lv_at hl 1 rfl) ?_
  refine lv_iload_n hx hb dX1_longOut_1 rfl (lv_at hl 2 rfl) ?_
  refine pc_S (n := 2) (As := [.int h, .int lo]) (rest := []) ⟨hx, hb, hml, hown, hts⟩ (m_wide l h lo) (lw_S q55 q56 q1 q57) rfl rfl (by decide +kernel) ⟨Nat.le_of_ble_eq_true rfl, Nat.le_of_ble_eq_true rfl⟩ (fun _ _ _ _ h => h) (fun _ _ _ => trivial) rfl hl.1 rfl (Nat.le_of_ble_eq_true rfl) dX1_longOut_2 ⟨Nat.le_of_ble_eq_true rfl, Nat.le_of_ble_eq_true rfl⟩ ?_
  refine lv_aload_n hx hb dX1_longOut_5 rfl (lv_at hl 0 rfl) ?_
  refine va_get (D := (dC, dI)) (ci := 0) (v := .ref z) (C := RX1) (T := TX1) (N := 1) hx hb hts in_X1 hown hK hP 0 rfl rfl 0 (by decide) (hts _ q12) (fun _ h9 => h9) rfl dX1_longOut_6 ?_
  refine lv_iconst (v := 0) hx hb dX1_longOut_9 (by decide) ?_
  have hPc := hP.sub (ws' := [(z, .inl (cA, 2, .inr (.inl (pf a b))))]) [1] rfl
  have hPo := hP.sub (ws' := [(o, .inr (0, [.ref z]))]) [0] rfl
  refine va_callv (va_runS (As := [.long (pu_w h lo), .ref z, .int 0]) (rest := []) ⟨hx, hb, hml, hown, hts⟩ (m_x128 l dC dI z cA (pu_w h lo) a b) (va_cwS 3 hts (lw_S q59 q60 q2 q61) rfl rfl rfl (by decide +kernel) ⟨Nat.le_of_ble_eq_true rfl, Nat.le_of_ble_eq_true rfl⟩) ⟨fun a U g mk q => ⟨q.1, q.2.1, va_K.moved (u := U) (U := U.calling g mk a) (Vm.Alike.refl U.vm) q.2.2⟩, fun U hU hW => ⟨rfl, by rw [hU]; exact hPc, va_K.moved hW.alike hK⟩⟩ rfl rfl hl.1 rfl (lv_room (Nat.le_of_ble_eq_true rfl)) dX1_longOut_10 ⟨Nat.le_of_ble_eq_true rfl, Nat.le_of_ble_eq_true rfl⟩) hS (fun q _ h => h) (fun q h => h) (fun u t H1 locs ht hvm hw1 hB hz1 hk1 hS => ?_)
  have hB : va_P (dC, dI) bwC [(z, .inl (cA, 2, .inr (.inl (pf (pu_x0 (pu_w h lo)) (pu_x1 (pu_w h lo))))))] t.heap := hB
  rw [ht, x0_e, x1_e] at hB
  have hP := bw_back hPo hne hk1 hB
  exact W.vret hx hb hr (fun t ht hW => ⟨⟨(), rfl, trivial, by show va_P _ _ _ t.heap; rw [ht]; exact hP⟩, hS.F ht⟩) hS.2.2 dX1_longOut_13
end
section
/-! THE LAW'S OWN METHODS: cell, known, rest -/
abbrev rm_4 : Room := { frames := 4, cells := 2, slots := 3, locals := 120 }
/-- the script's int at the place k, 0 behind its end -/
def cv (L : Nat) (xs : Nat → Int32) (k : Nat) : Int32 := if k < L then xs k else 0
set_option maxHeartbeats 4000000 in
/-- cell(s, k): the script's int at k, or 0 -/
theorem m_cell (l : Launch) (b L : Nat) (xs : Nat → Int32) (k : Nat) (hk : k < 2) (hL : L ≤ 2) : pc_M l yX0_cell cX0_cell 2 .int rm_0 [.ref b, .int (nI k)] (fun U => va_X b L xs U U.heap) (.int (cv L xs k)) := by
  refine Met.ofW (cc := cX0_cell) (maxL := 2) (ret := some .int) (by decide) rfl ?_
  intro p e s m args below meth c s₁ B hml hv
  obtain ⟨rfl, hX⟩ := hv
  have hX : va_X b L xs s s.heap := hX
  have hx := B.exec
  have hb := B.bytes
  have hr := B.returns
  have hbl : b < s.heap.size := by
    obtain ⟨scr, h1, -⟩ := hX
    exact (Array.getElem?_eq_some_iff.mp h1).1
  have hS : va_S (fun _ => False) s.heap s.heap [] := va_S.rf
  have hl := lv_entry ([.ref b, .int (nI k)]) (n := 2) (Nat.le_of_ble_eq_true rfl)
  rw [lg_entry_eq]
  generalize (lg_sl ([.ref b, .int (nI k)]) ++ List.replicate (2 - (lg_sl ([.ref b, .int (nI k)])).length) Slot.unset).toArray = ls at hl ⊢
  have hl : lv_has ls 2 [(0, .ref b), (1, .int (nI k))] := hl
  refine lv_iload_n hx hb dX0_cell_0 rfl (lv_at hl 1 rfl) ?_
  refine lv_aload_n hx hb dX0_cell_1 rfl (lv_at hl 0 rfl) ?_
  refine va_slen (A := fun _ => False) hx hb hX hbl (fun h => h) hS dX0_cell_2 ?_
  refine lv_icmp_ge (tgt := 12) hx hb dX0_cell_3 (by decide) (fun q => ?_) (fun q => ?_)
  · have hkl : ¬ k < L := fun h => nI_ge h (by omega) q
    refine lv_iconst (v := 0) hx hb dX0_cell_12 (by decide) ?_
    exact W.iret (v := 0) hx hb hr (fun t ht hW => ⟨by unfold cv; rw [if_neg hkl], ht⟩) (fun q h => by cases h) dX0_cell_13
  · have hkl : k < L := by
      rcases Nat.lt_or_ge k L with h | h
      · exact h
      · exact absurd (nI_le h (by omega)) q
    refine lv_aload_n hx hb dX0_cell_6 rfl (lv_at hl 0 rfl) ?_
    refine lv_iload_n hx hb dX0_cell_7 rfl (lv_at hl 1 rfl) ?_
    refine va_sld (A := fun _ => False) hx hb hX hbl (fun h => h) hS (vp_in_nI hkl (by omega)) dX0_cell_8 ?_
    refine lv_goto (tgt := 13) hx hb dX0_cell_9 (by decide) ?_
    exact W.iret (v := xs (nI k).toNatClampNeg) hx hb hr (fun t ht hW => ⟨by unfold cv; rw [if_pos hkl, nI_clamp (by omega)], ht⟩) (fun q h => by cases h) dX0_cell_13
set_option maxHeartbeats 4000000 in
/-- known(): the fixed values come out: answers 1, makes an object of its own, changes nothing that was there -/
theorem m_known (l : Launch) (dC : Nat → ClassId) (dI : Nat → Nat → Nat) (sz : Nat) : Met l yX0_known (ws_ yX0_known cX0_known 1 (some .boolean)) rm_4 (va_Pc [] (fun U => U.heap.size = sz ∧ va_K (dC, dI) bwC [] U)) (va_Qi (fun (r : Int32) (_ : Unit) => r = 1) (fun _ _ => True) (fun q => sz ≤ q)) 2 3 (fun q => sz ≤ q) := by
  refine Met.ofW (cc := cX0_known) (maxL := 1) (ret := some .boolean) (by decide) rfl ?_
  intro p e s m args below meth c s₁ B hml hv
  obtain ⟨rfl, hsz, hK⟩ := hv
  subst hsz
  have hx := B.exec
  have hb := B.bytes
  have hr := B.returns
  have hts := atoms_spec (ws := ws_ yX0_known cX0_known 1 (some .boolean)) B.pre
  have hts : ∀ w ∈ lw_all, w.before _ s = true := fun w h => hts w (List.mem_cons_of_mem _ h)
  have hown : s.vm.findClass RX0 = some m.cls := findClass_of_methodNamed B.named
  have hl := lv_entry (([] : List Value)) (n := 1) (Nat.le_of_ble_eq_true rfl)
  rw [lg_entry_eq]
  generalize (lg_sl (([] : List Value)) ++ List.replicate (1 - (lg_sl (([] : List Value))).length) Slot.unset).toArray = ls at hl ⊢
  have hl : lv_has ls 1 [] := hl
  have hA : ∀ q : Nat, s.heap.size ≤ q → (fun q : Nat => s.heap.size ≤ q) q := fun _ h9 => h9
  have hS : va_S (fun q : Nat => s.heap.size ≤ q) s.heap s.heap [] := va_S.rf
  have hP : va_P (dC, dI) bwC [] s.heap := fun k q h9 => by simp at h9
  have hD : va_D (fun q : Nat => s.heap.size ≤ q) [] := ⟨fun i j p q h9 => by simp at h9, fun k q h9 => by simp at h9⟩
  refine va_new (ci := 0) (fs := [.null]) (C := RX1) (T := TX1) (N := 1) hx hb hts in_X1 tyX1 tyX1_ok hown (hts _ q4) (hts _ q5) (hts _ q1) hK hP hD hS hA rfl (fun j hj => by rcases (show j = 0 by omega) with rfl <;> rfl) (Nat.le_of_ble_eq_true rfl) (Nat.le_of_ble_eq_true rfl) dX0_known_0 (fun x H hP hD hS => ?_)
  have hP : va_P (dC, dI) bwC [(x, .inr (0, [.null]))] H := hP
  have hD : va_D (fun q : Nat => s.heap.size ≤ q) [(x, .inr (0, [.null]))] := hD
  have hxs : s.heap.size ≤ x := hD.2 0 _ rfl
  have hs0 : s.heap.size ≤ H.size := hS.1
  have hf : ∀ q : Nat, (q = x ∨ H.size ≤ q) → s.heap.size ≤ q := fun q h9 => h9.elim (fun h8 => by rw [h8]; exact hxs) (fun h8 => Nat.le_trans hs0 h8)
  refine lv_dup hx hb dX0_known_3 rfl ?_
  refine va_callv (va_runI (As := []) (rest := [.ref x]) ⟨hx, hb, hml, hown, hts⟩ (m_init l dC dI x H.size) (cwI 0 hts (lw_meth q8) rfl rfl rfl (hts _ q1) (hts _ q6) (hts _ q7) rfl (by decide +kernel) ⟨Nat.le_of_ble_eq_true rfl, Nat.le_of_ble_eq_true rfl⟩) ⟨fun a U g mk q => ⟨q.1, q.2.1, q.2.2.1, va_K.moved (u := U) (U := U.calling g mk a) (Vm.Alike.refl U.vm) q.2.2.2⟩, fun U hU hW => ⟨rfl, by rw [hU], by rw [hU]; exact hP, va_K.moved hW.alike hK⟩⟩ rfl rfl hl.1 rfl (lv_room (Nat.le_of_ble_eq_true rfl)) dX0_known_4 ⟨Nat.le_of_ble_eq_true rfl, Nat.le_of_ble_eq_true rfl⟩) hS (fun q _ h9 => hf q h9) (fun q h9 => hf q h9) (fun u t H1 locs ht hvm hw1 hB hz1 hk1 hS => ?_)
  obtain ⟨z, cA⟩ := u
  obtain ⟨hP, hK1, hne, hzs⟩ := hB
  rw [ht] at hP
  have hP : va_P (dC, dI) bwC (bw x z cA 0 0) H1 := hP
  have hK0 := hK
  have hK : va_K (dC, dI) bwC [(cA, .long)] s := va_K.moved hvm.symm hK1
  have hzz : s.heap.size ≤ z := Nat.le_trans hs0 hzs
  have hf2 : ∀ q : Nat, q = z → s.heap.size ≤ q := fun q h9 => by rw [h9]; exact hzz
  refine W.widen (k := 2) (n := 3) (Nat.le_of_ble_eq_true rfl) (Nat.le_of_ble_eq_true rfl) ?_
  refine lv_astore_n (lv' := [(0, .ref x)]) hx hb dX0_known_7 rfl hl (by decide) rfl (fun ls hl => ?_)
  refine lv_aload_n hx hb dX0_known_8 rfl (lv_at hl 0 rfl) ?_
  refine lv_ldc hx hb hown (hts _ q149) dX0_known_9 ?_
  refine pc_V (n := 1) (C := RX1) (b := x) (As := [.int 65535]) (rest := []) ⟨hx, hb, hml, hown, hts⟩ (m_halfOut l x 65535) (lw_V q24 q25 q26 q1 q27) rfl rfl (by decide +kernel) ⟨Nat.le_of_ble_eq_true rfl, Nat.le_of_ble_eq_true rfl⟩ (fun _ _ _ _ h => h) (va_recv hK hP (ci := 0) (q0 := 0) rfl rfl) (fun _ _ _ => trivial) rfl hl.1 rfl (Nat.le_of_ble_eq_true rfl) dX0_known_11 ⟨Nat.le_of_ble_eq_true rfl, Nat.le_of_ble_eq_true rfl⟩ ?_
  refine lv_ldc hx hb hown (hts _ q153) dX0_known_14 ?_
  refine br_icmp_ne_f (tgt := 54) hx hb kn_1 dX0_known_16 (by decide) ?_
  refine lv_aload_n hx hb dX0_known_19 rfl (lv_at hl 0 rfl) ?_
  refine lv_iconst (v := -1) hx hb dX0_known_20 (by decide) ?_
  refine pc_V (n := 1) (C := RX1) (b := x) (As := [.int (-1)]) (rest := []) ⟨hx, hb, hml, hown, hts⟩ (m_byteOut l x (-1)) (lw_V q17 q18 q19 q1 q20) rfl rfl (by decide +kernel) ⟨Nat.le_of_ble_eq_true rfl, Nat.le_of_ble_eq_true rfl⟩ (fun _ _ _ _ h => h) (va_recv hK hP (ci := 0) (q0 := 0) rfl rfl) (fun _ _ _ => trivial) rfl hl.1 rfl (Nat.le_of_ble_eq_true rfl) dX0_known_21 ⟨Nat.le_of_ble_eq_true rfl, Nat.le_of_ble_eq_true rfl⟩ ?_
  refine lv_sipush (v := 21845) hx hb dX0_known_24 (by decide +kernel) ?_
  refine br_icmp_ne_f (tgt := 54) hx hb kn_2 dX0_known_27 (by decide) ?_
  refine lv_aload_n hx hb dX0_known_30 rfl (lv_at hl 0 rfl) ?_
  refine lv_sipush (v := 4660) hx hb dX0_known_31 (by decide +kernel) ?_
  refine pc_V (n := 1) (C := RX1) (b := x) (As := [.int 4660]) (rest := []) ⟨hx, hb, hml, hown, hts⟩ (m_halfOut l x 4660) (lw_V q24 q25 q26 q1 q27) rfl rfl (by decide +kernel) ⟨Nat.le_of_ble_eq_true rfl, Nat.le_of_ble_eq_true rfl⟩ (fun _ _ _ _ h => h) (va_recv hK hP (ci := 0) (q0 := 0) rfl rfl) (fun _ _ _ => trivial) rfl hl.1 rfl (Nat.le_of_ble_eq_true rfl) dX0_known_34 ⟨Nat.le_of_ble_eq_true rfl, Nat.le_of_ble_eq_true rfl⟩ ?_
  refine lv_ldc hx hb hown (hts _ q154) dX0_known_37 ?_
  refine br_icmp_ne_f (tgt := 54) hx hb kn_3 dX0_known_39 (by decide) ?_
  refine lv_aload_n hx hb dX0_known_42 rfl (lv_at hl 0 rfl) ?_
  refine lv_iconst (v := -1) hx hb dX0_known_43 (by decide) ?_
  refine pc_V (n := 1) (C := RX1) (b := x) (As := [.int (-1)]) (rest := []) ⟨hx, hb, hml, hown, hts⟩ (m_wordOut l x (-1)) (lw_V q36 q37 q38 q1 q39) rfl rfl (by decide +kernel) ⟨Nat.le_of_ble_eq_true rfl, Nat.le_of_ble_eq_true rfl⟩ (fun _ _ _ _ h => h) (va_recv hK hP (ci := 0) (q0 := 0) rfl rfl) (fun _ _ _ => trivial) rfl hl.1 rfl (Nat.le_of_ble_eq_true rfl) dX0_known_44 ⟨Nat.le_of_ble_eq_true rfl, Nat.le_of_ble_eq_true rfl⟩ ?_
  refine lv_ldc2 hx hb hown (hts _ q155) dX0_known_47 ?_
  refine W.lcmp hx hb dX0_known_50 ?_
  refine br_if_eq_t (tgt := 56) hx hb (kn_cmp kn_4) dX0_known_51 (by decide) ?_
  refine lv_aload_n hx hb dX0_known_56 rfl (lv_at hl 0 rfl) ?_
  refine lv_ldc hx hb hown (hts _ q156) dX0_known_57 ?_
  refine pc_V (n := 1) (C := RX1) (b := x) (As := [.int (-65536)]) (rest := []) ⟨hx, hb, hml, hown, hts⟩ (m_shuffle l x (-65536)) (lw_V q75 q76 q77 q1 q78) rfl rfl (by decide +kernel) ⟨Nat.le_of_ble_eq_true rfl, Nat.le_of_ble_eq_true rfl⟩ (fun _ _ _ _ h => h) (va_recv hK hP (ci := 0) (q0 := 0) rfl rfl) (fun _ _ _ => trivial) rfl hl.1 rfl (Nat.le_of_ble_eq_true rfl) dX0_known_59 ⟨Nat.le_of_ble_eq_true rfl, Nat.le_of_ble_eq_true rfl⟩ ?_
  refine lv_ldc hx hb hown (hts _ q157) dX0_known_62 ?_
  refine br_icmp_ne_f (tgt := 93) hx hb kn_5 dX0_known_64 (by decide) ?_
  refine lv_aload_n hx hb dX0_known_67 rfl (lv_at hl 0 rfl) ?_
  refine lv_ldc hx hb hown (hts _ q149) dX0_known_68 ?_
  refine pc_V (n := 1) (C := RX1) (b := x) (As := [.int 65535]) (rest := []) ⟨hx, hb, hml, hown, hts⟩ (m_shuffle l x 65535) (lw_V q75 q76 q77 q1 q78) rfl rfl (by decide +kernel) ⟨Nat.le_of_ble_eq_true rfl, Nat.le_of_ble_eq_true rfl⟩ (fun _ _ _ _ h => h) (va_recv hK hP (ci := 0) (q0 := 0) rfl rfl) (fun _ _ _ => trivial) rfl hl.1 rfl (Nat.le_of_ble_eq_true rfl) dX0_known_70 ⟨Nat.le_of_ble_eq_true rfl, Nat.le_of_ble_eq_true rfl⟩ ?_
  refine lv_ldc hx hb hown (hts _ q153) dX0_known_73 ?_
  refine br_icmp_ne_f (tgt := 93) hx hb kn_6 dX0_known_75 (by decide) ?_
  refine lv_aload_n hx hb dX0_known_78 rfl (lv_at hl 0 rfl) ?_
  refine lv_ldc hx hb hown (hts _ q157) dX0_known_79 ?_
  refine pc_V (n := 1) (C := RX1) (b := x) (As := [.int (-1431655766)]) (rest := []) ⟨hx, hb, hml, hown, hts⟩ (m_unshuffle l x (-1431655766)) (lw_V q82 q83 q84 q1 q85) rfl rfl (by decide +kernel) ⟨Nat.le_of_ble_eq_true rfl, Nat.le_of_ble_eq_true rfl⟩ (fun _ _ _ _ h => h) (va_recv hK hP (ci := 0) (q0 := 0) rfl rfl) (fun _ _ _ => trivial) rfl hl.1 rfl (Nat.le_of_ble_eq_true rfl) dX0_known_81 ⟨Nat.le_of_ble_eq_true rfl, Nat.le_of_ble_eq_true rfl⟩ ?_
  refine lv_ldc hx hb hown (hts _ q156) dX0_known_84 ?_
  refine br_icmp_ne_f (tgt := 93) hx hb kn_7 dX0_known_86 (by decide) ?_
  refine lv_iconst (v := 1) hx hb dX0_known_89 (by decide) ?_
  refine lv_goto (tgt := 94) hx hb dX0_known_90 (by decide) ?_
  exact W.zret (v := 1) hx hb hr rfl (fun t ht hW => ⟨⟨1, (), rfl, rfl, trivial⟩, hS.F ht⟩) hS.2.2 dX0_known_94
set_option maxHeartbeats 4000000 in
/-- rest(s): answers 1, makes an object of its own, changes nothing that was there -/
theorem m_rest (l : Launch) (dC : Nat → ClassId) (dI : Nat → Nat → Nat) (b L sz : Nat) (xs : Nat → Int32) (hL : L ≤ 2) : Met l yX0_rest (ws_ yX0_rest cX0_rest 4 (some .boolean)) rm_4 (va_Pc [.ref b] (fun U => U.heap.size = sz ∧ va_X b L xs U U.heap ∧ va_K (dC, dI) bwC [] U)) (va_Qi (fun (r : Int32) (_ : Unit) => r = 1) (fun _ _ => True) (fun q => sz ≤ q)) 2 3 (fun q => sz ≤ q) := by
  refine Met.ofW (cc := cX0_rest) (maxL := 4) (ret := some .boolean) (by decide) rfl ?_
  intro p e s m args below meth c s₁ B hml hv
  obtain ⟨rfl, hsz, hX, hK⟩ := hv
  subst hsz
  have hx := B.exec
  have hb := B.bytes
  have hr := B.returns
  have hts := atoms_spec (ws := ws_ yX0_rest cX0_rest 4 (some .boolean)) B.pre
  have hts : ∀ w ∈ lw_all, w.before _ s = true := fun w h => hts w (List.mem_cons_of_mem _ h)
  have hown : s.vm.findClass RX0 = some m.cls := findClass_of_methodNamed B.named
  have hl := lv_entry ([.ref b]) (n := 4) (Nat.le_of_ble_eq_true rfl)
  rw [lg_entry_eq]
  generalize (lg_sl ([.ref b]) ++ List.replicate (4 - (lg_sl ([.ref b])).length) Slot.unset).toArray = ls at hl ⊢
  have hl : lv_has ls 4 [(0, .ref b)] := hl
  have hbl : b < s.heap.size := by obtain ⟨scr, h1, -⟩ := hX; exact (Array.getElem?_eq_some_iff.mp h1).1
  have hbA : ¬ (fun q : Nat => s.heap.size ≤ q) b := Nat.not_le.mpr hbl
  have hA : ∀ q : Nat, s.heap.size ≤ q → (fun q : Nat => s.heap.size ≤ q) q := fun _ h9 => h9
  have hS : va_S (fun q : Nat => s.heap.size ≤ q) s.heap s.heap [] := va_S.rf
  have hP : va_P (dC, dI) bwC [] s.heap := fun k q h9 => by simp at h9
  have hD : va_D (fun q : Nat => s.heap.size ≤ q) [] := ⟨fun i j p q h9 => by simp at h9, fun k q h9 => by simp at h9⟩
  refine va_new (ci := 0) (fs := [.null]) (C := RX1) (T := TX1) (N := 1) hx hb hts in_X1 tyX1 tyX1_ok hown (hts _ q4) (hts _ q5) (hts _ q1) hK hP hD hS hA rfl (fun j hj => by rcases (show j = 0 by omega) with rfl <;> rfl) (Nat.le_of_ble_eq_true rfl) (Nat.le_of_ble_eq_true rfl) dX0_rest_0 (fun x H hP hD hS => ?_)
  have hP : va_P (dC, dI) bwC [(x, .inr (0, [.null]))] H := hP
  have hD : va_D (fun q : Nat => s.heap.size ≤ q) [(x, .inr (0, [.null]))] := hD
  have hxs : s.heap.size ≤ x := hD.2 0 _ rfl
  have hs0 : s.heap.size ≤ H.size := hS.1
  have hf : ∀ q : Nat, (q = x ∨ H.size ≤ q) → s.heap.size ≤ q := fun q h9 => h9.elim (fun h8 => by rw [h8]; exact hxs) (fun h8 => Nat.le_trans hs0 h8)
  refine lv_dup hx hb dX0_rest_3 rfl ?_
  refine va_callv (va_runI (As := []) (rest := [.ref x]) ⟨hx, hb, hml, hown, hts⟩ (m_init l dC dI x H.size) (cwI 0 hts (lw_meth q8) rfl rfl rfl (hts _ q1) (hts _ q6) (hts _ q7) rfl (by decide +kernel) ⟨Nat.le_of_ble_eq_true rfl, Nat.le_of_ble_eq_true rfl⟩) ⟨fun a U g mk q => ⟨q.1, q.2.1, q.2.2.1, va_K.moved (u := U) (U := U.calling g mk a) (Vm.Alike.refl U.vm) q.2.2.2⟩, fun U hU hW => ⟨rfl, by rw [hU], by rw [hU]; exact hP, va_K.moved hW.alike hK⟩⟩ rfl rfl hl.1 rfl (lv_room (Nat.le_of_ble_eq_true rfl)) dX0_rest_4 ⟨Nat.le_of_ble_eq_true rfl, Nat.le_of_ble_eq_true rfl⟩) hS (fun q _ h9 => hf q h9) (fun q h9 => hf q h9) (fun u t H1 locs ht hvm hw1 hB hz1 hk1 hS => ?_)
  obtain ⟨z, cA⟩ := u
  obtain ⟨hP, hK1, hne, hzs⟩ := hB
  rw [ht] at hP
  have hP : va_P (dC, dI) bwC (bw x z cA 0 0) H1 := hP
  have hK0 := hK
  have hK : va_K (dC, dI) bwC [(cA, .long)] s := va_K.moved hvm.symm hK1
  have hzz : s.heap.size ≤ z := Nat.le_trans hs0 hzs
  have hf2 : ∀ q : Nat, q = z → s.heap.size ≤ q := fun q h9 => by rw [h9]; exact hzz
  refine W.widen (k := 2) (n := 3) (Nat.le_of_ble_eq_true rfl) (Nat.le_of_ble_eq_true rfl) ?_
  refine lv_astore_n (lv' := [(1, .ref x), (0, .ref b)]) hx hb dX0_rest_7 rfl hl (by decide) rfl (fun ls hl => ?_)
  refine lv_aload_n hx hb dX0_rest_8 rfl (lv_at hl 1 rfl) ?_
  refine lv_iconst (v := nI 0) hx hb dX0_rest_9 (by decide) ?_
  refine pc_S (n := 2) (As := [.ref b, .int (nI 0)]) (rest := []) ⟨hx, hb, hml, hown, hts⟩ (m_cell l b L xs 0 (by decide) hL) (lw_S q143 q144 q0 q145) rfl rfl (by decide +kernel) ⟨Nat.le_of_ble_eq_true rfl, Nat.le_of_ble_eq_true rfl⟩ (fun U g mk a h9 => va_X.moved (u := U) (U := U.calling g mk a) (Vm.Alike.refl U.vm) h9) (fun U hU hW => show va_X b L xs U U.heap by rw [hU]; exact (hX.kept (hS.2.1 b hbl hbA)).moved hW.alike) rfl hl.1 rfl (Nat.le_of_ble_eq_true rfl) dX0_rest_10 ⟨Nat.le_of_ble_eq_true rfl, Nat.le_of_ble_eq_true rfl⟩ ?_
  refine lv_topi (fun h _ => ?_)
  refine lv_istore_n (lv' := [(2, .int h), (1, .ref x), (0, .ref b)]) hx hb dX0_rest_13 rfl hl (by decide) rfl (fun ls hl => ?_)
  refine lv_aload_n hx hb dX0_rest_14 rfl (lv_at hl 2 rfl) ?_
  refine lv_iconst (v := nI 1) hx hb dX0_rest_15 (by decide) ?_
  refine pc_S (n := 2) (As := [.ref b, .int (nI 1)]) (rest := []) ⟨hx, hb, hml, hown, hts⟩ (m_cell l b L xs 1 (by decide) hL) (lw_S q143 q144 q0 q145) rfl rfl (by decide +kernel) ⟨Nat.le_of_ble_eq_true rfl, Nat.le_of_ble_eq_true rfl⟩ (fun U g mk a h9 => va_X.moved (u := U) (U := U.calling g mk a) (Vm.Alike.refl U.vm) h9) (fun U hU hW => show va_X b L xs U U.heap by rw [hU]; exact (hX.kept (hS.2.1 b hbl hbA)).moved hW.alike) rfl hl.1 rfl (Nat.le_of_ble_eq_true rfl) dX0_rest_16 ⟨Nat.le_of_ble_eq_true rfl, Nat.le_of_ble_eq_true rfl⟩ ?_
  refine lv_topi (fun lo _ => ?_)
  refine lv_istore_n (lv' := [(3, .int lo), (2, .int h), (1, .ref x), (0, .ref b)]) hx hb dX0_rest_19 rfl hl (by decide) rfl (fun ls hl => ?_)
  refine lv_aload_n hx hb dX0_rest_20 rfl (lv_at hl 2 rfl) ?_
  refine lv_iconst (v := 0) hx hb dX0_rest_21 (by decide) ?_
  refine pc_V (n := 1) (C := RX1) (b := x) (As := [.int 0]) (rest := []) ⟨hx, hb, hml, hown, hts⟩ (m_pair l dC dI x z cA 0 0 0) (lw_V q71 q72 q73 q1 q74) rfl rfl (by decide +kernel) ⟨Nat.le_of_ble_eq_true rfl, Nat.le_of_ble_eq_true rfl⟩ bw_bl (va_recv hK hP (ci := 0) (q0 := 0) rfl rfl) (fun U hU hW => ⟨by rw [hU]; exact hP, va_K.moved hW.alike hK⟩) rfl hl.1 rfl (Nat.le_of_ble_eq_true rfl) dX0_rest_22 ⟨Nat.le_of_ble_eq_true rfl, Nat.le_of_ble_eq_true rfl⟩ ?_
  refine lv_lconst (v := 0) hx hb dX0_rest_25 (by decide) ?_
  refine W.lcmp hx hb dX0_rest_26 ?_
  refine br_if_ne_f (tgt := 40) hx hb (kn_cmp (pf_0 0 0)) dX0_rest_27 (by decide) ?_
  refine lv_aload_n hx hb dX0_rest_30 rfl (lv_at hl 2 rfl) ?_
  refine lv_iconst (v := 1) hx hb dX0_rest_31 (by decide) ?_
  refine pc_V (n := 1) (C := RX1) (b := x) (As := [.int 1]) (rest := []) ⟨hx, hb, hml, hown, hts⟩ (m_pair l dC dI x z cA 0 0 1) (lw_V q71 q72 q73 q1 q74) rfl rfl (by decide +kernel) ⟨Nat.le_of_ble_eq_true rfl, Nat.le_of_ble_eq_true rfl⟩ bw_bl (va_recv hK hP (ci := 0) (q0 := 0) rfl rfl) (fun U hU hW => ⟨by rw [hU]; exact hP, va_K.moved hW.alike hK⟩) rfl hl.1 rfl (Nat.le_of_ble_eq_true rfl) dX0_rest_32 ⟨Nat.le_of_ble_eq_true rfl, Nat.le_of_ble_eq_true rfl⟩ ?_
  refine lv_lconst (v := 0) hx hb dX0_rest_35 (by decide) ?_
  refine W.lcmp hx hb dX0_rest_36 ?_
  refine br_if_eq_t (tgt := 42) hx hb (kn_cmp (pf_1 0 0)) dX0_rest_37 (by decide) ?_
  refine lv_aload_n hx hb dX0_rest_42 rfl (lv_at hl 2 rfl) ?_
  refine lv_iload_n hx hb dX0_rest_43 rfl (lv_at hl 0 rfl) ?_
  refine pc_V (n := 1) (C := RX1) (b := x) (As := [.int lo]) (rest := []) ⟨hx, hb, hml, hown, hts⟩ (m_byteOut l x lo) (lw_V q17 q18 q19 q1 q20) rfl rfl (by decide +kernel) ⟨Nat.le_of_ble_eq_true rfl, Nat.le_of_ble_eq_true rfl⟩ (fun _ _ _ _ h => h) (va_recv hK hP (ci := 0) (q0 := 0) rfl rfl) (fun _ _ _ => trivial) rfl hl.1 rfl (Nat.le_of_ble_eq_true rfl) dX0_rest_44 ⟨Nat.le_of_ble_eq_true rfl, Nat.le_of_ble_eq_true rfl⟩ ?_
  refine lv_aload_n hx hb dX0_rest_47 rfl (lv_at hl 2 rfl) ?_
  refine lv_iload_n hx hb dX0_rest_48 rfl (lv_at hl 0 rfl) ?_
  refine lv_sipush (v := 255) hx hb dX0_rest_49 (by decide +kernel) ?_
  refine lv_iand hx hb dX0_rest_52 ?_
  refine pc_V (n := 1) (C := RX1) (b := x) (As := [.int (lo &&& 255)]) (rest := [.int (pu_e8 lo)]) ⟨hx, hb, hml, hown, hts⟩ (m_halfOut l x (lo &&& 255)) (lw_V q24 q25 q26 q1 q27) rfl rfl (by decide +kernel) ⟨Nat.le_of_ble_eq_true rfl, Nat.le_of_ble_eq_true rfl⟩ (fun _ _ _ _ h => h) (va_recv hK hP (ci := 0) (q0 := 0) rfl rfl) (fun _ _ _ => trivial) rfl hl.1 rfl (Nat.le_of_ble_eq_true rfl) dX0_rest_53 ⟨Nat.le_of_ble_eq_true rfl, Nat.le_of_ble_eq_true rfl⟩ ?_
  refine br_icmp_ne_f (tgt := 93) hx hb (r_816 lo) dX0_rest_56 (by decide) ?_
  refine lv_aload_n hx hb dX0_rest_59 rfl (lv_at hl 2 rfl) ?_
  refine lv_iload_n hx hb dX0_rest_60 rfl (lv_at hl 0 rfl) ?_
  refine pc_V (n := 1) (C := RX1) (b := x) (As := [.int lo]) (rest := []) ⟨hx, hb, hml, hown, hts⟩ (m_byteOut l x lo) (lw_V q17 q18 q19 q1 q20) rfl rfl (by decide +kernel) ⟨Nat.le_of_ble_eq_true rfl, Nat.le_of_ble_eq_true rfl⟩ (fun _ _ _ _ h => h) (va_recv hK hP (ci := 0) (q0 := 0) rfl rfl) (fun _ _ _ => trivial) rfl hl.1 rfl (Nat.le_of_ble_eq_true rfl) dX0_rest_61 ⟨Nat.le_of_ble_eq_true rfl, Nat.le_of_ble_eq_true rfl⟩ ?_
  refine lv_aload_n hx hb dX0_rest_64 rfl (lv_at hl 2 rfl) ?_
  refine lv_iload_n hx hb dX0_rest_65 rfl (lv_at hl 0 rfl) ?_
  refine lv_sipush (v := 255) hx hb dX0_rest_66 (by decide +kernel) ?_
  refine lv_iand hx hb dX0_rest_69 ?_
  refine pc_V (n := 1) (C := RX1) (b := x) (As := [.int (lo &&& 255)]) (rest := [.int (pu_e8 lo)]) ⟨hx, hb, hml, hown, hts⟩ (m_byteOut l x (lo &&& 255)) (lw_V q17 q18 q19 q1 q20) rfl rfl (by decide +kernel) ⟨Nat.le_of_ble_eq_true rfl, Nat.le_of_ble_eq_true rfl⟩ (fun _ _ _ _ h => h) (va_recv hK hP (ci := 0) (q0 := 0) rfl rfl) (fun _ _ _ => trivial) rfl hl.1 rfl (Nat.le_of_ble_eq_true rfl) dX0_rest_70 ⟨Nat.le_of_ble_eq_true rfl, Nat.le_of_ble_eq_true rfl⟩ ?_
  refine br_icmp_ne_f (tgt := 93) hx hb (r_88 lo) dX0_rest_73 (by decide) ?_
  refine lv_aload_n hx hb dX0_rest_76 rfl (lv_at hl 2 rfl) ?_
  refine lv_iload_n hx hb dX0_rest_77 rfl (lv_at hl 0 rfl) ?_
  refine pc_V (n := 1) (C := RX1) (b := x) (As := [.int lo]) (rest := []) ⟨hx, hb, hml, hown, hts⟩ (m_halfOut l x lo) (lw_V q24 q25 q26 q1 q27) rfl rfl (by decide +kernel) ⟨Nat.le_of_ble_eq_true rfl, Nat.le_of_ble_eq_true rfl⟩ (fun _ _ _ _ h => h) (va_recv hK hP (ci := 0) (q0 := 0) rfl rfl) (fun _ _ _ => trivial) rfl hl.1 rfl (Nat.le_of_ble_eq_true rfl) dX0_rest_78 ⟨Nat.le_of_ble_eq_true rfl, Nat.le_of_ble_eq_true rfl⟩ ?_
  refine lv_aload_n hx hb dX0_rest_81 rfl (lv_at hl 2 rfl) ?_
  refine lv_iload_n hx hb dX0_rest_82 rfl (lv_at hl 0 rfl) ?_
  refine lv_ldc hx hb hown (hts _ q149) dX0_rest_83 ?_
  refine lv_iand hx hb dX0_rest_85 ?_
  refine pc_V (n := 1) (C := RX1) (b := x) (As := [.int (lo &&& 65535)]) (rest := [.int (pu_e16 lo)]) ⟨hx, hb, hml, hown, hts⟩ (m_wordOut l x (lo &&& 65535)) (lw_V q36 q37 q38 q1 q39) rfl rfl (by decide +kernel) ⟨Nat.le_of_ble_eq_true rfl, Nat.le_of_ble_eq_true rfl⟩ (fun _ _ _ _ h => h) (va_recv hK hP (ci := 0) (q0 := 0) rfl rfl) (fun _ _ _ => trivial) rfl hl.1 rfl (Nat.le_of_ble_eq_true rfl) dX0_rest_86 ⟨Nat.le_of_ble_eq_true rfl, Nat.le_of_ble_eq_true rfl⟩ ?_
  refine lv_l2i (v := (pu_e32 (lo &&& 65535)).toInt32) hx hb dX0_rest_89 rfl ?_
  refine br_icmp_eq_t (tgt := 95) hx hb (r_1632 lo) dX0_rest_90 (by decide) ?_
  refine lv_aload_n hx hb dX0_rest_95 rfl (lv_at hl 2 rfl) ?_
  refine lv_iload_n hx hb dX0_rest_96 rfl (lv_at hl 1 rfl) ?_
  refine lv_iload_n hx hb dX0_rest_97 rfl (lv_at hl 0 rfl) ?_
  refine va_callv (va_runV (As := [.int h, .int lo]) (rest := []) ⟨hx, hb, hml, hown, hts⟩ (m_longOut l dC dI x z cA 0 0 h lo hne) (cwV 2 hts (lw_V q51 q52 q53 q1 q54) rfl rfl rfl (by decide +kernel) ⟨Nat.le_of_ble_eq_true rfl, Nat.le_of_ble_eq_true rfl⟩) ⟨fun a U g mk q => ⟨q.1, q.2.1, va_K.moved (u := U) (U := U.calling g mk a) (Vm.Alike.refl U.vm) q.2.2⟩, va_recv hK hP (ci := 0) (q0 := 0) rfl rfl, fun U hU hW => ⟨rfl, by rw [hU]; exact hP, va_K.moved hW.alike hK⟩⟩ rfl rfl hl.1 rfl (lv_room (Nat.le_of_ble_eq_true rfl)) dX0_rest_98 ⟨Nat.le_of_ble_eq_true rfl, Nat.le_of_ble_eq_true rfl⟩) hS (fun q _ h9 => hf2 q h9) (fun q h9 => hf2 q h9) (fun u t H locs ht hvm hw1 hB hz1 hk1 hS => ?_)
  have hP : va_P (dC, dI) bwC (bw x z cA (pu_e32 lo) (pu_e32 h)) t.heap := hB
  rw [ht] at hP
  refine lv_aload_n hx hb dX0_rest_101 rfl (lv_at hl 2 rfl) ?_
  refine lv_iload_n hx hb dX0_rest_102 rfl (lv_at hl 1 rfl) ?_
  refine pc_V (n := 1) (C := RX1) (b := x) (As := [.int h]) (rest := []) ⟨hx, hb, hml, hown, hts⟩ (m_wordOut l x h) (lw_V q36 q37 q38 q1 q39) rfl rfl (by decide +kernel) ⟨Nat.le_of_ble_eq_true rfl, Nat.le_of_ble_eq_true rfl⟩ (fun _ _ _ _ h => h) (va_recv hK hP (ci := 0) (q0 := 0) rfl rfl) (fun _ _ _ => trivial) rfl hl.1 rfl (Nat.le_of_ble_eq_true rfl) dX0_rest_103 ⟨Nat.le_of_ble_eq_true rfl, Nat.le_of_ble_eq_true rfl⟩ ?_
  refine lv_pop2_2 hx hb dX0_rest_106 rfl ?_
  refine lv_aload_n hx hb dX0_rest_107 rfl (lv_at hl 2 rfl) ?_
  refine lv_iload_n hx hb dX0_rest_108 rfl (lv_at hl 1 rfl) ?_
  refine pc_V (n := 1) (C := RX1) (b := x) (As := [.int h]) (rest := []) ⟨hx, hb, hml, hown, hts⟩ (m_shuffle l x h) (lw_V q75 q76 q77 q1 q78) rfl rfl (by decide +kernel) ⟨Nat.le_of_ble_eq_true rfl, Nat.le_of_ble_eq_true rfl⟩ (fun _ _ _ _ h => h) (va_recv hK hP (ci := 0) (q0 := 0) rfl rfl) (fun _ _ _ => trivial) rfl hl.1 rfl (Nat.le_of_ble_eq_true rfl) dX0_rest_109 ⟨Nat.le_of_ble_eq_true rfl, Nat.le_of_ble_eq_true rfl⟩ ?_
  refine lv_pop hx hb dX0_rest_112 rfl ?_
  refine lv_aload_n hx hb dX0_rest_113 rfl (lv_at hl 2 rfl) ?_
  refine lv_iload_n hx hb dX0_rest_114 rfl (lv_at hl 0 rfl) ?_
  refine lv_iload_n hx hb dX0_rest_115 rfl (lv_at hl 1 rfl) ?_
  refine pc_V (n := 2) (C := RX1) (b := x) (As := [.int lo, .int h]) (rest := []) ⟨hx, hb, hml, hown, hts⟩ (m_longShuffle l x lo h) (lw_V q89 q90 q91 q1 q92) rfl rfl (by decide +kernel) ⟨Nat.le_of_ble_eq_true rfl, Nat.le_of_ble_eq_true rfl⟩ (fun _ _ _ _ h => h) (va_recv hK hP (ci := 0) (q0 := 0) rfl rfl) (fun _ _ _ => trivial) rfl hl.1 rfl (Nat.le_of_ble_eq_true rfl) dX0_rest_116 ⟨Nat.le_of_ble_eq_true rfl, Nat.le_of_ble_eq_true rfl⟩ ?_
  refine lv_pop2_2 hx hb dX0_rest_119 rfl ?_
  refine lv_aload_n hx hb dX0_rest_120 rfl (lv_at hl 2 rfl) ?_
  refine lv_iload_n hx hb dX0_rest_121 rfl (lv_at hl 0 rfl) ?_
  refine lv_iload_n hx hb dX0_rest_122 rfl (lv_at hl 1 rfl) ?_
  refine pc_V (n := 2) (C := RX1) (b := x) (As := [.int lo, .int h]) (rest := []) ⟨hx, hb, hml, hown, hts⟩ (m_thrice l x lo h) (lw_V q129 q130 q131 q1 q132) rfl rfl (by decide +kernel) ⟨Nat.le_of_ble_eq_true rfl, Nat.le_of_ble_eq_true rfl⟩ (fun _ _ _ _ h => h) (va_recv hK hP (ci := 0) (q0 := 0) rfl rfl) (fun _ _ _ => trivial) rfl hl.1 rfl (Nat.le_of_ble_eq_true rfl) dX0_rest_123 ⟨Nat.le_of_ble_eq_true rfl, Nat.le_of_ble_eq_true rfl⟩ ?_
  refine lv_pop2_2 hx hb dX0_rest_126 rfl ?_
  refine lv_aload_n hx hb dX0_rest_127 rfl (lv_at hl 2 rfl) ?_
  refine lv_iload_n hx hb dX0_rest_128 rfl (lv_at hl 1 rfl) ?_
  refine pc_V (n := 1) (C := RX1) (b := x) (As := [.int h]) (rest := []) ⟨hx, hb, hml, hown, hts⟩ (m_there l x h) (lw_V q103 q104 q105 q1 q106) rfl rfl (by decide +kernel) ⟨Nat.le_of_ble_eq_true rfl, Nat.le_of_ble_eq_true rfl⟩ (fun _ _ _ _ h => h) (va_recv hK hP (ci := 0) (q0 := 0) rfl rfl) (fun _ _ _ => trivial) rfl hl.1 rfl (Nat.le_of_ble_eq_true rfl) dX0_rest_129 ⟨Nat.le_of_ble_eq_true rfl, Nat.le_of_ble_eq_true rfl⟩ ?_
  refine lv_pop hx hb dX0_rest_132 rfl ?_
  refine lv_aload_n hx hb dX0_rest_133 rfl (lv_at hl 2 rfl) ?_
  refine lv_iconst (v := 0) hx hb dX0_rest_134 (by decide) ?_
  refine pc_V (n := 1) (C := RX1) (b := x) (As := [.int 0]) (rest := []) ⟨hx, hb, hml, hown, hts⟩ (m_pair l dC dI x z cA (pu_e32 lo) (pu_e32 h) 0) (lw_V q71 q72 q73 q1 q74) rfl rfl (by decide +kernel) ⟨Nat.le_of_ble_eq_true rfl, Nat.le_of_ble_eq_true rfl⟩ bw_bl (va_recv hK hP (ci := 0) (q0 := 0) rfl rfl) (fun U hU hW => ⟨by rw [hU]; exact hP, va_K.moved hW.alike hK⟩) rfl hl.1 rfl (Nat.le_of_ble_eq_true rfl) dX0_rest_135 ⟨Nat.le_of_ble_eq_true rfl, Nat.le_of_ble_eq_true rfl⟩ ?_
  refine lv_aload_n hx hb dX0_rest_138 rfl (lv_at hl 2 rfl) ?_
  refine lv_iload_n hx hb dX0_rest_139 rfl (lv_at hl 0 rfl) ?_
  refine pc_V (n := 1) (C := RX1) (b := x) (As := [.int lo]) (rest := [.long (pf (pu_e32 lo) (pu_e32 h) ((0 : Int32) &&& 1).toNatClampNeg)]) ⟨hx, hb, hml, hown, hts⟩ (m_wordOut l x lo) (lw_V q36 q37 q38 q1 q39) rfl rfl (by decide +kernel) ⟨Nat.le_of_ble_eq_true rfl, Nat.le_of_ble_eq_true rfl⟩ (fun _ _ _ _ h => h) (va_recv hK hP (ci := 0) (q0 := 0) rfl rfl) (fun _ _ _ => trivial) rfl hl.1 rfl (Nat.le_of_ble_eq_true rfl) dX0_rest_140 ⟨Nat.le_of_ble_eq_true rfl, Nat.le_of_ble_eq_true rfl⟩ ?_
  refine W.lcmp hx hb dX0_rest_143 ?_
  refine br_if_ne_f (tgt := 194) hx hb (kn_cmp (pf_0 _ _)) dX0_rest_144 (by decide) ?_
  refine lv_aload_n hx hb dX0_rest_147 rfl (lv_at hl 2 rfl) ?_
  refine lv_iconst (v := 1) hx hb dX0_rest_148 (by decide) ?_
  refine pc_V (n := 1) (C := RX1) (b := x) (As := [.int 1]) (rest := []) ⟨hx, hb, hml, hown, hts⟩ (m_pair l dC dI x z cA (pu_e32 lo) (pu_e32 h) 1) (lw_V q71 q72 q73 q1 q74) rfl rfl (by decide +kernel) ⟨Nat.le_of_ble_eq_true rfl, Nat.le_of_ble_eq_true rfl⟩ bw_bl (va_recv hK hP (ci := 0) (q0 := 0) rfl rfl) (fun U hU hW => ⟨by rw [hU]; exact hP, va_K.moved hW.alike hK⟩) rfl hl.1 rfl (Nat.le_of_ble_eq_true rfl) dX0_rest_149 ⟨Nat.le_of_ble_eq_true rfl, Nat.le_of_ble_eq_true rfl⟩ ?_
  refine lv_aload_n hx hb dX0_rest_152 rfl (lv_at hl 2 rfl) ?_
  refine lv_iload_n hx hb dX0_rest_153 rfl (lv_at hl 1 rfl) ?_
  refine pc_V (n := 1) (C := RX1) (b := x) (As := [.int h]) (rest := [.long (pf (pu_e32 lo) (pu_e32 h) ((1 : Int32) &&& 1).toNatClampNeg)]) ⟨hx, hb, hml, hown, hts⟩ (m_wordOut l x h) (lw_V q36 q37 q38 q1 q39) rfl rfl (by decide +kernel) ⟨Nat.le_of_ble_eq_true rfl, Nat.le_of_ble_eq_true rfl⟩ (fun _ _ _ _ h => h) (va_recv hK hP (ci := 0) (q0 := 0) rfl rfl) (fun _ _ _ => trivial) rfl hl.1 rfl (Nat.le_of_ble_eq_true rfl) dX0_rest_154 ⟨Nat.le_of_ble_eq_true rfl, Nat.le_of_ble_eq_true rfl⟩ ?_
  refine W.lcmp hx hb dX0_rest_157 ?_
  refine br_if_ne_f (tgt := 194) hx hb (kn_cmp (pf_1 _ _)) dX0_rest_158 (by decide) ?_
  refine lv_aload_n hx hb dX0_rest_161 rfl (lv_at hl 2 rfl) ?_
  refine lv_iload_n hx hb dX0_rest_162 rfl (lv_at hl 1 rfl) ?_
  refine lv_bipush (v := -2) hx hb dX0_rest_163 (by decide +kernel) ?_
  refine lv_iand hx hb dX0_rest_165 ?_
  refine pc_V (n := 1) (C := RX1) (b := x) (As := [.int (h &&& (-2))]) (rest := []) ⟨hx, hb, hml, hown, hts⟩ (m_pair l dC dI x z cA (pu_e32 lo) (pu_e32 h) (h &&& (-2))) (lw_V q71 q72 q73 q1 q74) rfl rfl (by decide +kernel) ⟨Nat.le_of_ble_eq_true rfl, Nat.le_of_ble_eq_true rfl⟩ bw_bl (va_recv hK hP (ci := 0) (q0 := 0) rfl rfl) (fun U hU hW => ⟨by rw [hU]; exact hP, va_K.moved hW.alike hK⟩) rfl hl.1 rfl (Nat.le_of_ble_eq_true rfl) dX0_rest_166 ⟨Nat.le_of_ble_eq_true rfl, Nat.le_of_ble_eq_true rfl⟩ ?_
  refine lv_aload_n hx hb dX0_rest_169 rfl (lv_at hl 2 rfl) ?_
  refine lv_iconst (v := 0) hx hb dX0_rest_170 (by decide) ?_
  refine pc_V (n := 1) (C := RX1) (b := x) (As := [.int 0]) (rest := [.long (pf (pu_e32 lo) (pu_e32 h) ((h &&& (-2)) &&& 1).toNatClampNeg)]) ⟨hx, hb, hml, hown, hts⟩ (m_pair l dC dI x z cA (pu_e32 lo) (pu_e32 h) 0) (lw_V q71 q72 q73 q1 q74) rfl rfl (by decide +kernel) ⟨Nat.le_of_ble_eq_true rfl, Nat.le_of_ble_eq_true rfl⟩ bw_bl (va_recv hK hP (ci := 0) (q0 := 0) rfl rfl) (fun U hU hW => ⟨by rw [hU]; exact hP, va_K.moved hW.alike hK⟩) rfl hl.1 rfl (Nat.le_of_ble_eq_true rfl) dX0_rest_171 ⟨Nat.le_of_ble_eq_true rfl, Nat.le_of_ble_eq_true rfl⟩ ?_
  refine W.lcmp hx hb dX0_rest_174 ?_
  refine br_if_ne_f (tgt := 194) hx hb (kn_cmp (by rw [pf_ev])) dX0_rest_175 (by decide) ?_
  refine lv_aload_n hx hb dX0_rest_178 rfl (lv_at hl 2 rfl) ?_
  refine lv_iload_n hx hb dX0_rest_179 rfl (lv_at hl 1 rfl) ?_
  refine lv_iconst (v := 1) hx hb dX0_rest_180 (by decide) ?_
  refine lv_ior hx hb dX0_rest_181 ?_
  refine pc_V (n := 1) (C := RX1) (b := x) (As := [.int (h ||| 1)]) (rest := []) ⟨hx, hb, hml, hown, hts⟩ (m_pair l dC dI x z cA (pu_e32 lo) (pu_e32 h) (h ||| 1)) (lw_V q71 q72 q73 q1 q74) rfl rfl (by decide +kernel) ⟨Nat.le_of_ble_eq_true rfl, Nat.le_of_ble_eq_true rfl⟩ bw_bl (va_recv hK hP (ci := 0) (q0 := 0) rfl rfl) (fun U hU hW => ⟨by rw [hU]; exact hP, va_K.moved hW.alike hK⟩) rfl hl.1 rfl (Nat.le_of_ble_eq_true rfl) dX0_rest_182 ⟨Nat.le_of_ble_eq_true rfl, Nat.le_of_ble_eq_true rfl⟩ ?_
  refine lv_aload_n hx hb dX0_rest_185 rfl (lv_at hl 2 rfl) ?_
  refine lv_iconst (v := 1) hx hb dX0_rest_186 (by decide) ?_
  refine pc_V (n := 1) (C := RX1) (b := x) (As := [.int 1]) (rest := [.long (pf (pu_e32 lo) (pu_e32 h) ((h ||| 1) &&& 1).toNatClampNeg)]) ⟨hx, hb, hml, hown, hts⟩ (m_pair l dC dI x z cA (pu_e32 lo) (pu_e32 h) 1) (lw_V q71 q72 q73 q1 q74) rfl rfl (by decide +kernel) ⟨Nat.le_of_ble_eq_true rfl, Nat.le_of_ble_eq_true rfl⟩ bw_bl (va_recv hK hP (ci := 0) (q0 := 0) rfl rfl) (fun U hU hW => ⟨by rw [hU]; exact hP, va_K.moved hW.alike hK⟩) rfl hl.1 rfl (Nat.le_of_ble_eq_true rfl) dX0_rest_187 ⟨Nat.le_of_ble_eq_true rfl, Nat.le_of_ble_eq_true rfl⟩ ?_
  refine W.lcmp hx hb dX0_rest_190 ?_
  refine br_if_eq_t (tgt := 196) hx hb (kn_cmp (by rw [pf_od])) dX0_rest_191 (by decide) ?_
  refine lv_aload_n hx hb dX0_rest_196 rfl (lv_at hl 2 rfl) ?_
  refine lv_iload_n hx hb dX0_rest_197 rfl (lv_at hl 0 rfl) ?_
  refine lv_iload_n hx hb dX0_rest_198 rfl (lv_at hl 1 rfl) ?_
  refine va_callv (va_runV (As := [.int lo, .int h]) (rest := []) ⟨hx, hb, hml, hown, hts⟩ (m_longOut l dC dI x z cA (pu_e32 lo) (pu_e32 h) lo h hne) (cwV 2 hts (lw_V q51 q52 q53 q1 q54) rfl rfl rfl (by decide +kernel) ⟨Nat.le_of_ble_eq_true rfl, Nat.le_of_ble_eq_true rfl⟩) ⟨fun a U g mk q => ⟨q.1, q.2.1, va_K.moved (u := U) (U := U.calling g mk a) (Vm.Alike.refl U.vm) q.2.2⟩, va_recv hK hP (ci := 0) (q0 := 0) rfl rfl, fun U hU hW => ⟨rfl, by rw [hU]; exact hP, va_K.moved hW.alike hK⟩⟩ rfl rfl hl.1 rfl (lv_room (Nat.le_of_ble_eq_true rfl)) dX0_rest_199 ⟨Nat.le_of_ble_eq_true rfl, Nat.le_of_ble_eq_true rfl⟩) hS (fun q _ h9 => hf2 q h9) (fun q h9 => hf2 q h9) (fun u t H locs ht hvm hw1 hB hz1 hk1 hS => ?_)
  have hP : va_P (dC, dI) bwC (bw x z cA (pu_e32 h) (pu_e32 lo)) t.heap := hB
  rw [ht] at hP
  refine lv_aload_n hx hb dX0_rest_202 rfl (lv_at hl 2 rfl) ?_
  refine lv_iconst (v := 0) hx hb dX0_rest_203 (by decide) ?_
  refine pc_V (n := 1) (C := RX1) (b := x) (As := [.int 0]) (rest := []) ⟨hx, hb, hml, hown, hts⟩ (m_pair l dC dI x z cA (pu_e32 h) (pu_e32 lo) 0) (lw_V q71 q72 q73 q1 q74) rfl rfl (by decide +kernel) ⟨Nat.le_of_ble_eq_true rfl, Nat.le_of_ble_eq_true rfl⟩ bw_bl (va_recv hK hP (ci := 0) (q0 := 0) rfl rfl) (fun U hU hW => ⟨by rw [hU]; exact hP, va_K.moved hW.alike hK⟩) rfl hl.1 rfl (Nat.le_of_ble_eq_true rfl) dX0_rest_204 ⟨Nat.le_of_ble_eq_true rfl, Nat.le_of_ble_eq_true rfl⟩ ?_
  refine lv_aload_n hx hb dX0_rest_207 rfl (lv_at hl 2 rfl) ?_
  refine lv_iload_n hx hb dX0_rest_208 rfl (lv_at hl 1 rfl) ?_
  refine pc_V (n := 1) (C := RX1) (b := x) (As := [.int h]) (rest := [.long (pf (pu_e32 h) (pu_e32 lo) ((0 : Int32) &&& 1).toNatClampNeg)]) ⟨hx, hb, hml, hown, hts⟩ (m_wordOut l x h) (lw_V q36 q37 q38 q1 q39) rfl rfl (by decide +kernel) ⟨Nat.le_of_ble_eq_true rfl, Nat.le_of_ble_eq_true rfl⟩ (fun _ _ _ _ h => h) (va_recv hK hP (ci := 0) (q0 := 0) rfl rfl) (fun _ _ _ => trivial) rfl hl.1 rfl (Nat.le_of_ble_eq_true rfl) dX0_rest_209 ⟨Nat.le_of_ble_eq_true rfl, Nat.le_of_ble_eq_true rfl⟩ ?_
  refine W.lcmp hx hb dX0_rest_212 ?_
  refine br_if_ne_f (tgt := 234) hx hb (kn_cmp (pf_0 _ _)) dX0_rest_213 (by decide) ?_
  refine lv_aload_n hx hb dX0_rest_216 rfl (lv_at hl 2 rfl) ?_
  refine lv_iconst (v := 1) hx hb dX0_rest_217 (by decide) ?_
  refine pc_V (n := 1) (C := RX1) (b := x) (As := [.int 1]) (rest := []) ⟨hx, hb, hml, hown, hts⟩ (m_pair l dC dI x z cA (pu_e32 h) (pu_e32 lo) 1) (lw_V q71 q72 q73 q1 q74) rfl rfl (by decide +kernel) ⟨Nat.le_of_ble_eq_true rfl, Nat.le_of_ble_eq_true rfl⟩ bw_bl (va_recv hK hP (ci := 0) (q0 := 0) rfl rfl) (fun U hU hW => ⟨by rw [hU]; exact hP, va_K.moved hW.alike hK⟩) rfl hl.1 rfl (Nat.le_of_ble_eq_true rfl) dX0_rest_218 ⟨Nat.le_of_ble_eq_true rfl, Nat.le_of_ble_eq_true rfl⟩ ?_
  refine lv_aload_n hx hb dX0_rest_221 rfl (lv_at hl 2 rfl) ?_
  refine lv_iload_n hx hb dX0_rest_222 rfl (lv_at hl 0 rfl) ?_
  refine pc_V (n := 1) (C := RX1) (b := x) (As := [.int lo]) (rest := [.long (pf (pu_e32 h) (pu_e32 lo) ((1 : Int32) &&& 1).toNatClampNeg)]) ⟨hx, hb, hml, hown, hts⟩ (m_wordOut l x lo) (lw_V q36 q37 q38 q1 q39) rfl rfl (by decide +kernel) ⟨Nat.le_of_ble_eq_true rfl, Nat.le_of_ble_eq_true rfl⟩ (fun _ _ _ _ h => h) (va_recv hK hP (ci := 0) (q0 := 0) rfl rfl) (fun _ _ _ => trivial) rfl hl.1 rfl (Nat.le_of_ble_eq_true rfl) dX0_rest_223 ⟨Nat.le_of_ble_eq_true rfl, Nat.le_of_ble_eq_true rfl⟩ ?_
  refine W.lcmp hx hb dX0_rest_226 ?_
  refine br_if_ne_f (tgt := 234) hx hb (kn_cmp (pf_1 _ _)) dX0_rest_227 (by decide) ?_
  refine lv_iconst (v := 1) hx hb dX0_rest_230 (by decide) ?_
  refine lv_goto (tgt := 235) hx hb dX0_rest_231 (by decide) ?_
  refine W.widen (k := 2) (n := 3) (Nat.le_of_ble_eq_true rfl) (Nat.le_of_ble_eq_true rfl) ?_
  exact W.zret (v := 1) hx hb hr rfl (fun t ht hW => ⟨⟨1, (), rfl, rfl, trivial⟩, hS.F ht⟩) hS.2.2 dX0_rest_235
end
section
/-! THE LAW'S LOOP: for every place i below 32 its questions are answered; nothing changes -/
set_option maxHeartbeats 4000000 in
theorem law_loop (l : Launch) {p : Program} {e : Env} {s : State} {m : MethodId} {below : List Frame} {meth : Method} {c : Code} {dC : Nat → ClassId} {dI : Nat → Nat → Nat} {b x z : Nat} {cA : ClassId} {h lo : Int32} {H : Heap} {locs : List Loc} {cells slots : Nat} {Q : State → Prop}
    (hcells : cells ≤ room_1.cells) (hslots : slots ≤ room_1.slots) (hx : p.tables.exec = Jvm.exec) (hb : c.code = cL_law) (hml : c.maxLocals = 10) (hown : s.vm.findClass RX0 = some m.cls) (hts : ∀ w ∈ lw_all, w.before #[Value.ref b] s = true)
    (hK : va_K (dC, dI) bwC [(cA, .long)] s) (hP : va_P (dC, dI) bwC (bw x z cA (pu_e32 lo) (pu_e32 h)) H) (k262 : ∀ ls : Array Slot, lv_has ls 10 [(0, .ref b), (1, .ref x), (2, .int h), (3, .int lo), (4, .long (pu_w h lo))] → W p l e room_1 s m #[Value.ref b] below meth c H locs cells slots Q (F0 m 262 ls [])) :
    ∀ (n i : Nat), i + n = 32 → ∀ ls : Array Slot, lv_has ls 10 [(0, .ref b), (1, .ref x), (2, .int h), (3, .int lo), (4, .long (pu_w h lo)), (6, .int (nI i))] → W p l e room_1 s m #[Value.ref b] below meth c H locs cells slots Q (F0 m 43 ls []) := by
  intro n
  induction n with
  | zero =>
    intro i hi ls hl
    have hi : i = 32 := hi
    subst hi
    refine lv_iload hx hb dL_law_43 (lv_at hl 5 rfl) ?_
    refine lv_bipush (v := 32) hx hb dL_law_45 (by decide +kernel) ?_
    refine br_icmp_ge_t (tgt := 262) hx hb ge_b32 dL_law_47 (by decide) ?_
    exact k262 ls (lv_sub hl [0, 1, 2, 3, 4] rfl)
  | succ n ih =>
    intro i hin ls hl
    have hi : i < 32 := by omega
    refine lv_iload hx hb dL_law_43 (lv_at hl 5 rfl) ?_
    refine lv_bipush (v := 32) hx hb dL_law_45 (by decide +kernel) ?_
    refine br_icmp_ge_f (tgt := 262) hx hb (lt_b32 i hi) dL_law_47 (by decide) ?_
    refine lv_iload_n hx hb dL_law_50 rfl (lv_at hl 3 rfl) ?_
    refine lv_iload hx hb dL_law_51 (lv_at hl 5 rfl) ?_
    refine lv_iushr (v := pu_ju lo (nI i)) hx hb dL_law_53 rfl ?_
    refine lv_iconst (v := 1) hx hb dL_law_54 (by decide) ?_
    refine lv_iand hx hb dL_law_55 ?_
    refine lv_istore (lv' := [(7, .int ((pu_ju lo (nI i)) &&& 1)), (0, .ref b), (1, .ref x), (2, .int h), (3, .int lo), (4, .long (pu_w h lo)), (6, .int (nI i))]) hx hb dL_law_56 hl (by decide) rfl (fun ls hl => ?_)
    have k110 : W p l e room_1 s m #[Value.ref b] below meth c H locs cells slots Q (F0 m 110 ls []) := by
      refine lv_aload_n hx hb dL_law_110 rfl (lv_at hl 2 rfl) ?_
      refine lv_iload_n hx hb dL_law_111 rfl (lv_at hl 4 rfl) ?_
      refine pc_V (n := 1) (C := RX1) (b := x) (As := [.int lo]) (rest := []) ⟨hx, hb, hml, hown, hts⟩ (m_wordOut l x lo) (lw_V q36 q37 q38 q1 q39) rfl rfl (by decide +kernel) ⟨Nat.le_of_ble_eq_true rfl, Nat.le_of_ble_eq_true rfl⟩ (fun _ _ _ _ h => h) (va_recv hK hP (ci := 0) (q0 := 0) rfl rfl) (fun _ _ _ => trivial) rfl hl.1 rfl (Nat.le_of_ble_eq_true rfl) dL_law_112 ⟨hcells, hslots⟩ ?_
      refine lv_iconst (v := 2) hx hb dL_law_115 (by decide) ?_
      refine lv_iload hx hb dL_law_116 (lv_at hl 6 rfl) ?_
      refine lv_imul hx hb dL_law_118 ?_
      refine lv_lushr (v := pu_jU (pu_e32 lo) (2 * (nI i))) hx hb dL_law_119 rfl ?_
      refine lv_ldc2 hx hb hown (hts _ q159) dL_law_120 ?_
      refine lv_land hx hb dL_law_123 ?_
      refine lv_iload hx hb dL_law_124 (lv_at hl 0 rfl) ?_
      refine lv_i2l (v := ((pu_ju lo (nI i)) &&& 1).toInt64) hx hb dL_law_126 rfl ?_
      refine W.lcmp hx hb dL_law_127 ?_
      refine br_if_eq_t (tgt := 133) hx hb (kn_cmp (lf_32 lo hi)) dL_law_128 (by decide) ?_
      refine lv_aload_n hx hb dL_law_133 rfl (lv_at hl 2 rfl) ?_
      refine lv_iload_n hx hb dL_law_134 rfl (lv_at hl 4 rfl) ?_
      refine pc_V (n := 1) (C := RX1) (b := x) (As := [.int lo]) (rest := []) ⟨hx, hb, hml, hown, hts⟩ (m_shuffle l x lo) (lw_V q75 q76 q77 q1 q78) rfl rfl (by decide +kernel) ⟨Nat.le_of_ble_eq_true rfl, Nat.le_of_ble_eq_true rfl⟩ (fun _ _ _ _ h => h) (va_recv hK hP (ci := 0) (q0 := 0) rfl rfl) (fun _ _ _ => trivial) rfl hl.1 rfl (Nat.le_of_ble_eq_true rfl) dL_law_135 ⟨hcells, hslots⟩ ?_
      refine lv_iconst (v := 2) hx hb dL_law_138 (by decide) ?_
      refine lv_iload hx hb dL_law_139 (lv_at hl 6 rfl) ?_
      refine lv_bipush (v := 15) hx hb dL_law_141 (by decide +kernel) ?_
      refine lv_iand hx hb dL_law_143 ?_
      refine lv_imul hx hb dL_law_144 ?_
      refine lv_iload hx hb dL_law_145 (lv_at hl 6 rfl) ?_
      refine lv_iconst (v := 4) hx hb dL_law_147 (by decide) ?_
      refine lv_ishr hx hb dL_law_148 ?_
      refine lv_iadd hx hb dL_law_149 ?_
      refine lv_iushr (v := pu_ju (pu_sh lo) ((2 * ((nI i) &&& 15)) + ((nI i) >>> ((4 : Int32) &&& 31)))) hx hb dL_law_150 rfl ?_
      refine lv_iconst (v := 1) hx hb dL_law_151 (by decide) ?_
      refine lv_iand hx hb dL_law_152 ?_
      refine lv_iload hx hb dL_law_153 (lv_at hl 0 rfl) ?_
      refine br_icmp_eq_t (tgt := 160) hx hb (lf_sh lo hi) dL_law_155 (by decide) ?_
      refine lv_aload_n hx hb dL_law_160 rfl (lv_at hl 2 rfl) ?_
      refine lv_iconst (v := 0) hx hb dL_law_161 (by decide) ?_
      refine pc_V (n := 1) (C := RX1) (b := x) (As := [.int 0]) (rest := []) ⟨hx, hb, hml, hown, hts⟩ (m_pair l dC dI x z cA (pu_e32 lo) (pu_e32 h) 0) (lw_V q71 q72 q73 q1 q74) rfl rfl (by decide +kernel) ⟨Nat.le_of_ble_eq_true rfl, Nat.le_of_ble_eq_true rfl⟩ bw_bl (va_recv hK hP (ci := 0) (q0 := 0) rfl rfl) (fun U hU hW => ⟨by rw [hU]; exact hP, va_K.moved hW.alike hK⟩) rfl hl.1 rfl (Nat.le_of_ble_eq_true rfl) dL_law_162 ⟨hcells, hslots⟩ ?_
      refine lv_iconst (v := 2) hx hb dL_law_165 (by decide) ?_
      refine lv_iload hx hb dL_law_166 (lv_at hl 6 rfl) ?_
      refine lv_imul hx hb dL_law_168 ?_
      refine lv_lushr (v := pu_jU (pf (pu_e32 lo) (pu_e32 h) ((0 : Int32) &&& 1).toNatClampNeg) (2 * (nI i))) hx hb dL_law_169 rfl ?_
      refine lv_ldc2 hx hb hown (hts _ q159) dL_law_170 ?_
      refine lv_land hx hb dL_law_173 ?_
      refine lv_iload hx hb dL_law_174 (lv_at hl 0 rfl) ?_
      refine lv_i2l (v := ((pu_ju lo (nI i)) &&& 1).toInt64) hx hb dL_law_176 rfl ?_
      refine W.lcmp hx hb dL_law_177 ?_
      refine br_if_ne_f (tgt := 206) hx hb (kn_cmp (by rw [pf_0]; exact lf_32 lo hi)) dL_law_178 (by decide) ?_
      refine lv_aload_n hx hb dL_law_181 rfl (lv_at hl 2 rfl) ?_
      refine lv_iconst (v := 1) hx hb dL_law_182 (by decide) ?_
      refine pc_V (n := 1) (C := RX1) (b := x) (As := [.int 1]) (rest := []) ⟨hx, hb, hml, hown, hts⟩ (m_pair l dC dI x z cA (pu_e32 lo) (pu_e32 h) 1) (lw_V q71 q72 q73 q1 q74) rfl rfl (by decide +kernel) ⟨Nat.le_of_ble_eq_true rfl, Nat.le_of_ble_eq_true rfl⟩ bw_bl (va_recv hK hP (ci := 0) (q0 := 0) rfl rfl) (fun U hU hW => ⟨by rw [hU]; exact hP, va_K.moved hW.alike hK⟩) rfl hl.1 rfl (Nat.le_of_ble_eq_true rfl) dL_law_183 ⟨hcells, hslots⟩ ?_
      refine lv_iconst (v := 2) hx hb dL_law_186 (by decide) ?_
      refine lv_iload hx hb dL_law_187 (lv_at hl 6 rfl) ?_
      refine lv_imul hx hb dL_law_189 ?_
      refine lv_lushr (v := pu_jU (pf (pu_e32 lo) (pu_e32 h) ((1 : Int32) &&& 1).toNatClampNeg) (2 * (nI i))) hx hb dL_law_190 rfl ?_
      refine lv_ldc2 hx hb hown (hts _ q159) dL_law_191 ?_
      refine lv_land hx hb dL_law_194 ?_
      refine lv_iload_n hx hb dL_law_195 rfl (lv_at hl 3 rfl) ?_
      refine lv_iload hx hb dL_law_196 (lv_at hl 6 rfl) ?_
      refine lv_iushr (v := pu_ju h (nI i)) hx hb dL_law_198 rfl ?_
      refine lv_iconst (v := 1) hx hb dL_law_199 (by decide) ?_
      refine lv_iand hx hb dL_law_200 ?_
      refine lv_i2l (v := ((pu_ju h (nI i)) &&& 1).toInt64) hx hb dL_law_201 rfl ?_
      refine W.lcmp hx hb dL_law_202 ?_
      refine br_if_eq_t (tgt := 208) hx hb (kn_cmp (by rw [pf_1]; exact lf_32 h hi)) dL_law_203 (by decide) ?_
      refine lv_aload_n hx hb dL_law_208 rfl (lv_at hl 2 rfl) ?_
      refine lv_iload_n hx hb dL_law_209 rfl (lv_at hl 3 rfl) ?_
      refine lv_iload_n hx hb dL_law_210 rfl (lv_at hl 4 rfl) ?_
      refine pc_V (n := 2) (C := RX1) (b := x) (As := [.int h, .int lo]) (rest := []) ⟨hx, hb, hml, hown, hts⟩ (m_longShuffle l x h lo) (lw_V q89 q90 q91 q1 q92) rfl rfl (by decide +kernel) ⟨Nat.le_of_ble_eq_true rfl, Nat.le_of_ble_eq_true rfl⟩ (fun _ _ _ _ h => h) (va_recv hK hP (ci := 0) (q0 := 0) rfl rfl) (fun _ _ _ => trivial) rfl hl.1 rfl (Nat.le_of_ble_eq_true rfl) dL_law_211 ⟨hcells, hslots⟩ ?_
      refine lv_iconst (v := 2) hx hb dL_law_214 (by decide) ?_
      refine lv_iload hx hb dL_law_215 (lv_at hl 6 rfl) ?_
      refine lv_imul hx hb dL_law_217 ?_
      refine lv_lushr (v := pu_jU (pu_sH (pu_w h lo)) (2 * (nI i))) hx hb dL_law_218 rfl ?_
      refine lv_lconst (v := 1) hx hb dL_law_219 (by decide) ?_
      refine lv_land hx hb dL_law_220 ?_
      refine lv_iload hx hb dL_law_221 (lv_at hl 0 rfl) ?_
      refine lv_i2l (v := ((pu_ju lo (nI i)) &&& 1).toInt64) hx hb dL_law_223 rfl ?_
      refine W.lcmp hx hb dL_law_224 ?_
      refine br_if_ne_f (tgt := 254) hx hb (kn_cmp (lf_lo h lo hi)) dL_law_225 (by decide) ?_
      refine lv_aload_n hx hb dL_law_228 rfl (lv_at hl 2 rfl) ?_
      refine lv_iload_n hx hb dL_law_229 rfl (lv_at hl 3 rfl) ?_
      refine lv_iload_n hx hb dL_law_230 rfl (lv_at hl 4 rfl) ?_
      refine pc_V (n := 2) (C := RX1) (b := x) (As := [.int h, .int lo]) (rest := []) ⟨hx, hb, hml, hown, hts⟩ (m_longShuffle l x h lo) (lw_V q89 q90 q91 q1 q92) rfl rfl (by decide +kernel) ⟨Nat.le_of_ble_eq_true rfl, Nat.le_of_ble_eq_true rfl⟩ (fun _ _ _ _ h => h) (va_recv hK hP (ci := 0) (q0 := 0) rfl rfl) (fun _ _ _ => trivial) rfl hl.1 rfl (Nat.le_of_ble_eq_true rfl) dL_law_231 ⟨hcells, hslots⟩ ?_
      refine lv_iconst (v := 2) hx hb dL_law_234 (by decide) ?_
      refine lv_iload hx hb dL_law_235 (lv_at hl 6 rfl) ?_
      refine lv_imul hx hb dL_law_237 ?_
      refine lv_iconst (v := 1) hx hb dL_law_238 (by decide) ?_
      refine lv_iadd hx hb dL_law_239 ?_
      refine lv_lushr (v := pu_jU (pu_sH (pu_w h lo)) ((2 * (nI i)) + 1)) hx hb dL_law_240 rfl ?_
      refine lv_lconst (v := 1) hx hb dL_law_241 (by decide) ?_
      refine lv_land hx hb dL_law_242 ?_
      refine lv_iload_n hx hb dL_law_243 rfl (lv_at hl 3 rfl) ?_
      refine lv_iload hx hb dL_law_244 (lv_at hl 6 rfl) ?_
      refine lv_iushr (v := pu_ju h (nI i)) hx hb dL_law_246 rfl ?_
      refine lv_iconst (v := 1) hx hb dL_law_247 (by decide) ?_
      refine lv_iand hx hb dL_law_248 ?_
      refine lv_i2l (v := ((pu_ju h (nI i)) &&& 1).toInt64) hx hb dL_law_249 rfl ?_
      refine W.lcmp hx hb dL_law_250 ?_
      refine br_if_eq_t (tgt := 256) hx hb (kn_cmp (lf_hi h lo hi)) dL_law_251 (by decide) ?_
      refine lv_iinc (v := nI (i + 1)) (lv' := [(6, .int (nI (i + 1))), (7, .int ((pu_ju lo (nI i)) &&& 1)), (0, .ref b), (1, .ref x), (2, .int h), (3, .int lo), (4, .long (pu_w h lo))]) hx hb dL_law_256 hl (k := 6) rfl (by rw [show Int32.ofInt 1 = 1 by decide]; exact nI_1 i) (by decide) rfl (fun ls hl => ?_)
      refine lv_goto (tgt := 43) hx hb dL_law_259 (by decide) ?_
      exact ih (i + 1) (by omega) ls (lv_sub hl [2, 3, 4, 5, 6, 0] rfl)
    have k84 : W p l e room_1 s m #[Value.ref b] below meth c H locs cells slots Q (F0 m 84 ls []) := by
      refine lv_iload hx hb dL_law_84 (lv_at hl 6 rfl) ?_
      refine lv_bipush (v := 16) hx hb dL_law_86 (by decide +kernel) ?_
      refine lv_icmp_ge (tgt := 110) hx hb dL_law_88 (by decide) (fun _ => k110) (fun q16 => ?_)
      have h16 : i < 16 := lt_b16 i hi q16
      refine lv_aload_n hx hb dL_law_91 rfl (lv_at hl 2 rfl) ?_
      refine lv_iload_n hx hb dL_law_92 rfl (lv_at hl 4 rfl) ?_
      refine pc_V (n := 1) (C := RX1) (b := x) (As := [.int lo]) (rest := []) ⟨hx, hb, hml, hown, hts⟩ (m_halfOut l x lo) (lw_V q24 q25 q26 q1 q27) rfl rfl (by decide +kernel) ⟨Nat.le_of_ble_eq_true rfl, Nat.le_of_ble_eq_true rfl⟩ (fun _ _ _ _ h => h) (va_recv hK hP (ci := 0) (q0 := 0) rfl rfl) (fun _ _ _ => trivial) rfl hl.1 rfl (Nat.le_of_ble_eq_true rfl) dL_law_93 ⟨hcells, hslots⟩ ?_
      refine lv_iconst (v := 2) hx hb dL_law_96 (by decide) ?_
      refine lv_iload hx hb dL_law_97 (lv_at hl 6 rfl) ?_
      refine lv_imul hx hb dL_law_99 ?_
      refine lv_iushr (v := pu_ju (pu_e16 lo) (2 * (nI i))) hx hb dL_law_100 rfl ?_
      refine lv_iconst (v := 3) hx hb dL_law_101 (by decide) ?_
      refine lv_iand hx hb dL_law_102 ?_
      refine lv_iload hx hb dL_law_103 (lv_at hl 0 rfl) ?_
      refine br_icmp_eq_t (tgt := 110) hx hb (lf_16 lo h16) dL_law_105 (by decide) ?_
      exact k110
    refine lv_iload hx hb dL_law_58 (lv_at hl 6 rfl) ?_
    refine lv_bipush (v := 8) hx hb dL_law_60 (by decide +kernel) ?_
    refine lv_icmp_ge (tgt := 84) hx hb dL_law_62 (by decide) (fun _ => k84) (fun q8 => ?_)
    have h8 : i < 8 := lt_b8 i hi q8
    refine lv_aload_n hx hb dL_law_65 rfl (lv_at hl 2 rfl) ?_
    refine lv_iload_n hx hb dL_law_66 rfl (lv_at hl 4 rfl) ?_
    refine pc_V (n := 1) (C := RX1) (b := x) (As := [.int lo]) (rest := []) ⟨hx, hb, hml, hown, hts⟩ (m_byteOut l x lo) (lw_V q17 q18 q19 q1 q20) rfl rfl (by decide +kernel) ⟨Nat.le_of_ble_eq_true rfl, Nat.le_of_ble_eq_true rfl⟩ (fun _ _ _ _ h => h) (va_recv hK hP (ci := 0) (q0 := 0) rfl rfl) (fun _ _ _ => trivial) rfl hl.1 rfl (Nat.le_of_ble_eq_true rfl) dL_law_67 ⟨hcells, hslots⟩ ?_
    refine lv_iconst (v := 2) hx hb dL_law_70 (by decide) ?_
    refine lv_iload hx hb dL_law_71 (lv_at hl 6 rfl) ?_
    refine lv_imul hx hb dL_law_73 ?_
    refine lv_iushr (v := pu_ju (pu_e8 lo) (2 * (nI i))) hx hb dL_law_74 rfl ?_
    refine lv_iconst (v := 3) hx hb dL_law_75 (by decide) ?_
    refine lv_iand hx hb dL_law_76 ?_
    refine lv_iload hx hb dL_law_77 (lv_at hl 0 rfl) ?_
    refine br_icmp_eq_t (tgt := 84) hx hb (lf_8 lo h8) dL_law_79 (by decide) ?_
    exact k84
end
section
/-! THE CLAIM OUT OF ONE WALK OF THE LAW'S BODY. Your part is whole_start (and what it stands on); all else here is the same for every law, but numbers. -/
def R_law : String := "BitWeaveLaw"
def lw_P (b : Addr) (xs : List Int32) (args : Array Value) (s : State) : Prop := args = #[.ref b] ∧ s.IntsAt b xs ∧ xs.length ≤ 2 ∧ (Jvm.Cond.and given_1 narrow_1).before args s = true
def lw_Q (_ : Array Value) (s : State) (o : Outcome) (t : State) : Prop := o = .returned (some (.int 1)) ∧ Framed s o t [] 1200000 5502250
def lw_Z (below : List Frame) (a : Array Value) (s : State) : State → Prop := fun t => ∃ o, t.status = .running ∧ Ended t below o ∧ lw_Q a s o t
/-- the law's own end, with 1 on the stack, nothing written that was there before, its room as the claim has it -/
theorem lw_ret {p : Program} {l : Launch} {e : Env} {s : State} {m : MethodId} {below : List Frame} {meth : Method} {c : Code} {b : Nat} (hx : p.tables.exec = Jvm.exec) (hb : c.code = code) (hr : meth.sig.returnType = ret) (hlocks : meth.locks = false) {pc : Nat} {H : Heap} {ls : Array Slot} (hdg : decode code pc = .ok (.ireturn, 1)) : W p l e room_1 s m #[Value.ref b] below meth c H [] 1200000 5502250 (lw_Z below #[Value.ref b] s) (F0 m pc ls [.int 1]) := by
  intro T hT X
  obtain ⟨fs, hret, hrun, hended, hW, hframe⟩ := X.leave (v := some (.int 1)) (hlocks := hlocks) (fun h => by rw [hr] at h; cases h)
  have hmeth' : T.vm.method? m = some meth := X.method'
  refine ⟨T.setFrames fs, ?_, .returned (some (.int 1)), hrun, hended, rfl, ⟨_, rfl⟩, hW, hframe⟩
  jvm_step X.here [X.here.top, hx, hb, hdg, hmeth', hr, ret, narrow_b1]
  (try refine ⟨rfl, ?_⟩); (try refine ⟨rfl, ?_⟩)
  first | (intro acts; rw [hret _ acts rfl rfl rfl]) | rw [hret _ _ rfl rfl rfl]
  exact Steps.refl _
/-- what holds at the law's entry: the machine, the code, the tables' words (any of lw_tbl by 'hts w (by decide +kernel)'), the script of L ints xs at the cell b, what the Statement gives of the start (any of its parts by flat_of_before) -/
def lw_At (p : Program) (s : State) (m : MethodId) (meth : Method) (c : Code) (b L : Nat) (xs : Nat → Int32) : Prop :=
  p.tables.exec = Jvm.exec ∧ c.code = code ∧ meth.sig.returnType = ret ∧ c.maxLocals = 10 ∧ s.vm.findClass R_law = some m.cls ∧ (∀ w ∈ lw_tbl, w.before #[Value.ref b] s = true) ∧ va_X b L xs s s.heap ∧ b < s.heap.size ∧ meth.locks = false ∧ (Jvm.Cond.and given_1 narrow_1).before #[Value.ref b] s = true
-- ===== YOUR PART BEGINS =====
set_option maxHeartbeats 4000000 in
/-- THE LAW, from its entry -/
theorem whole_start {p : Program} {e : Env} {s : State} {m : MethodId} {below : List Frame} {meth : Method} {c : Code} (l : Launch) (hflags : l.flags = flags0) {b L : Nat} {xs : Nat → Int32} (hL : L ≤ 2) (C0 : lw_At p s m meth c b L xs) : W p l e room_1 s m #[Value.ref b] below meth c s.heap [] 0 0 (lw_Z below #[Value.ref b] s) (entryFrame m ([Value.ref b] : List Value).toArray 10) := by
  obtain ⟨hx, hb, hr, hml, hown, hts0, hX, hbl, hlocks, hgv⟩ := C0
  have hts : ∀ w ∈ lw_all, w.before #[Value.ref b] s = true := fun w h => hts0 w (lw_all_tbl h)
  have hb : c.code = cL_law := hb
  have hown : s.vm.findClass RX0 = some m.cls := hown
  have hbA : ¬ (fun q : Nat => s.heap.size ≤ q) b := Nat.not_le.mpr hbl
  obtain ⟨c0, iS0, hKn0⟩ := u_known (C := RX1) (T := TX1) (N := 1) (n := 1) hts0 (fun w h => lw_all_tbl (in_X1 w h)) (hts0 _ (lw_all_tbl q5))
  obtain ⟨dC, dI, hKc⟩ : ∃ (dC : Nat → ClassId) (dI : Nat → Nat → Nat), ∀ (k : Nat) (q : vw_C), bwC[k]? = some q → u_Kn s q.1 q.2.1 q.2.2 (dC k) (dI k) := by
    refine ⟨fun _ => c0, fun _ => iS0, ?_⟩
    intro k q hq
    match k, hq with
    | 0, hq => cases hq; exact hKn0
    | k + 1, hq => simp [bwC] at hq
  have hK : va_K (dC, dI) bwC [] s := ⟨hKc, fun k q h9 => by simp at h9⟩
  have hA : ∀ q : Nat, s.heap.size ≤ q → (fun q : Nat => s.heap.size ≤ q) q := fun _ h9 => h9
  have hS : va_S (fun q : Nat => s.heap.size ≤ q) s.heap s.heap [] := va_S.rf
  have hP : va_P (dC, dI) bwC [] s.heap := fun k q h9 => by simp at h9
  have hD : va_D (fun q : Nat => s.heap.size ≤ q) [] := ⟨fun i j p q h9 => by simp at h9, fun k q h9 => by simp at h9⟩
  have hl := lv_entry ([.ref b]) (n := 10) (Nat.le_of_ble_eq_true rfl)
  rw [lg_entry_eq]
  generalize (lg_sl ([.ref b]) ++ List.replicate (10 - (lg_sl ([.ref b])).length) Slot.unset).toArray = ls at hl ⊢
  have hl : lv_has ls 10 [(0, .ref b)] := hl
  refine va_new (ci := 0) (fs := [.null]) (C := RX1) (T := TX1) (N := 1) hx hb hts in_X1 tyX1 tyX1_ok hown (hts _ q4) (hts _ q5) (hts _ q1) hK hP hD hS hA rfl (fun j hj => by rcases (show j = 0 by omega) with rfl <;> rfl) (Nat.le_of_ble_eq_true rfl) (Nat.le_of_ble_eq_true rfl) dL_law_0 (fun x H hP hD hS => ?_)
  have hP : va_P (dC, dI) bwC [(x, .inr (0, [.null]))] H := hP
  have hD : va_D (fun q : Nat => s.heap.size ≤ q) [(x, .inr (0, [.null]))] := hD
  have hxs : s.heap.size ≤ x := hD.2 0 _ rfl
  have hs0 : s.heap.size ≤ H.size := hS.1
  have hf : ∀ q : Nat, (q = x ∨ H.size ≤ q) → s.heap.size ≤ q := fun q h9 => h9.elim (fun h8 => by rw [h8]; exact hxs) (fun h8 => Nat.le_trans hs0 h8)
  refine lv_dup hx hb dL_law_3 rfl ?_
  refine va_callv (va_runI (As := []) (rest := [.ref x]) ⟨hx, hb, hml, hown, hts⟩ (m_init l dC dI x H.size) (cwI 0 hts (lw_meth q8) rfl rfl rfl (hts _ q1) (hts _ q6) (hts _ q7) rfl (by decide +kernel) ⟨Nat.le_of_ble_eq_true rfl, Nat.le_of_ble_eq_true rfl⟩) ⟨fun a U g mk q => ⟨q.1, q.2.1, q.2.2.1, va_K.moved (u := U) (U := U.calling g mk a) (Vm.Alike.refl U.vm) q.2.2.2⟩, fun U hU hW => ⟨rfl, by rw [hU], by rw [hU]; exact hP, va_K.moved hW.alike hK⟩⟩ rfl rfl hl.1 rfl (lv_room (Nat.le_of_ble_eq_true rfl)) dL_law_4 ⟨Nat.le_of_ble_eq_true rfl, Nat.le_of_ble_eq_true rfl⟩) hS (fun q _ h9 => hf q h9) (fun q h9 => hf q h9) (fun u t H1 locs ht hvm hw1 hB hz1 hk1 hS => ?_)
  obtain ⟨z, cA⟩ := u
  obtain ⟨hP, hK1, hne, hzs⟩ := hB
  rw [ht] at hP
  have hP : va_P (dC, dI) bwC (bw x z cA 0 0) H1 := hP
  have hK0 := hK
  have hK : va_K (dC, dI) bwC [(cA, .long)] s := va_K.moved hvm.symm hK1
  have hzz : s.heap.size ≤ z := Nat.le_trans hs0 hzs
  have hf2 : ∀ q : Nat, q = z → s.heap.size ≤ q := fun q h9 => by rw [h9]; exact hzz
  refine W.widen (k := 2) (n := 3) (Nat.le_of_ble_eq_true rfl) (Nat.le_of_ble_eq_true rfl) ?_
  refine lv_astore_n (lv' := [(1, .ref x), (0, .ref b)]) hx hb dL_law_7 rfl hl (by decide) rfl (fun ls hl => ?_)
  refine lv_aload_n hx hb dL_law_8 rfl (lv_at hl 1 rfl) ?_
  refine lv_iconst (v := nI 0) hx hb dL_law_9 (by decide) ?_
  refine pc_S (n := 2) (As := [.ref b, .int (nI 0)]) (rest := []) ⟨hx, hb, hml, hown, hts⟩ (m_cell l b L xs 0 (by decide) hL) (lw_S q143 q144 q0 q145) rfl rfl (by decide +kernel) ⟨Nat.le_of_ble_eq_true rfl, Nat.le_of_ble_eq_true rfl⟩ (fun U g mk a h9 => va_X.moved (u := U) (U := U.calling g mk a) (Vm.Alike.refl U.vm) h9) (fun U hU hW => show va_X b L xs U U.heap by rw [hU]; exact (hX.kept (hS.2.1 b hbl hbA)).moved hW.alike) rfl hl.1 rfl (Nat.le_of_ble_eq_true rfl) dL_law_10 ⟨Nat.le_of_ble_eq_true rfl, Nat.le_of_ble_eq_true rfl⟩ ?_
  refine lv_topi (fun h _ => ?_)
  refine lv_istore_n (lv' := [(2, .int h), (1, .ref x), (0, .ref b)]) hx hb dL_law_13 rfl hl (by decide) rfl (fun ls hl => ?_)
  refine lv_aload_n hx hb dL_law_14 rfl (lv_at hl 2 rfl) ?_
  refine lv_iconst (v := nI 1) hx hb dL_law_15 (by decide) ?_
  refine pc_S (n := 2) (As := [.ref b, .int (nI 1)]) (rest := []) ⟨hx, hb, hml, hown, hts⟩ (m_cell l b L xs 1 (by decide) hL) (lw_S q143 q144 q0 q145) rfl rfl (by decide +kernel) ⟨Nat.le_of_ble_eq_true rfl, Nat.le_of_ble_eq_true rfl⟩ (fun U g mk a h9 => va_X.moved (u := U) (U := U.calling g mk a) (Vm.Alike.refl U.vm) h9) (fun U hU hW => show va_X b L xs U U.heap by rw [hU]; exact (hX.kept (hS.2.1 b hbl hbA)).moved hW.alike) rfl hl.1 rfl (Nat.le_of_ble_eq_true rfl) dL_law_16 ⟨Nat.le_of_ble_eq_true rfl, Nat.le_of_ble_eq_true rfl⟩ ?_
  refine lv_topi (fun lo _ => ?_)
  refine lv_istore_n (lv' := [(3, .int lo), (2, .int h), (1, .ref x), (0, .ref b)]) hx hb dL_law_19 rfl hl (by decide) rfl (fun ls hl => ?_)
  refine lv_iload_n hx hb dL_law_20 rfl (lv_at hl 1 rfl) ?_
  refine lv_i2l (v := h.toInt64) hx hb dL_law_21 rfl ?_
  refine lv_bipush (v := 32) hx hb dL_law_22 (by decide +kernel) ?_
  refine lv_lshl (v := pu_jl h.toInt64 32) hx hb dL_law_24 rfl ?_
  refine lv_iload_n hx hb dL_law_25 rfl (lv_at hl 0 rfl) ?_
  refine lv_i2l (v := lo.toInt64) hx hb dL_law_26 rfl ?_
  refine lv_ldc2 hx hb hown (hts _ q158) dL_law_27 ?_
  refine lv_land hx hb dL_law_30 ?_
  refine lv_lor hx hb dL_law_31 ?_
  refine lv_lstore (lv' := [(4, .long (pu_w h lo)), (3, .int lo), (2, .int h), (1, .ref x), (0, .ref b)]) hx hb dL_law_32 hl (by decide) rfl (fun ls hl => ?_)
  refine lv_aload_n hx hb dL_law_34 rfl (lv_at hl 3 rfl) ?_
  refine lv_iload_n hx hb dL_law_35 rfl (lv_at hl 2 rfl) ?_
  refine lv_iload_n hx hb dL_law_36 rfl (lv_at hl 1 rfl) ?_
  refine va_callv (va_runV (As := [.int h, .int lo]) (rest := []) ⟨hx, hb, hml, hown, hts⟩ (m_longOut l dC dI x z cA 0 0 h lo hne) (cwV 2 hts (lw_V q51 q52 q53 q1 q54) rfl rfl rfl (by decide +kernel) ⟨Nat.le_of_ble_eq_true rfl, Nat.le_of_ble_eq_true rfl⟩) ⟨fun a U g mk q => ⟨q.1, q.2.1, va_K.moved (u := U) (U := U.calling g mk a) (Vm.Alike.refl U.vm) q.2.2⟩, va_recv hK hP (ci := 0) (q0 := 0) rfl rfl, fun U hU hW => ⟨rfl, by rw [hU]; exact hP, va_K.moved hW.alike hK⟩⟩ rfl rfl hl.1 rfl (lv_room (Nat.le_of_ble_eq_true rfl)) dL_law_37 ⟨Nat.le_of_ble_eq_true rfl, Nat.le_of_ble_eq_true rfl⟩) hS (fun q _ h9 => hf2 q h9) (fun q h9 => hf2 q h9) (fun u t H locs ht hvm hw1 hB hz1 hk1 hS => ?_)
  have hP : va_P (dC, dI) bwC (bw x z cA (pu_e32 lo) (pu_e32 h)) t.heap := hB
  rw [ht] at hP
  refine lv_iconst (v := nI 0) hx hb dL_law_40 (by decide) ?_
  refine lv_istore (lv' := [(6, .int (nI 0)), (4, .long (pu_w h lo)), (3, .int lo), (2, .int h), (1, .ref x), (0, .ref b)]) hx hb dL_law_41 hl (by decide) rfl (fun ls hl => ?_)
  refine law_loop l (Nat.le_of_ble_eq_true rfl) (Nat.le_of_ble_eq_true rfl) hx hb hml hown hts hK hP (fun ls hl => ?_) 32 0 rfl ls (lv_sub hl [5, 4, 3, 2, 1, 0] rfl)
  refine lv_aload_n hx hb dL_law_262 rfl (lv_at hl 1 rfl) ?_
  refine lv_aload_n hx hb dL_law_263 rfl (lv_at hl 1 rfl) ?_
  refine lv_iload_n hx hb dL_law_264 rfl (lv_at hl 3 rfl) ?_
  refine pc_V (n := 1) (C := RX1) (b := x) (As := [.int lo]) (rest := [.ref x]) ⟨hx, hb, hml, hown, hts⟩ (m_shuffle l x lo) (lw_V q75 q76 q77 q1 q78) rfl rfl (by decide +kernel) ⟨Nat.le_of_ble_eq_true rfl, Nat.le_of_ble_eq_true rfl⟩ (fun _ _ _ _ h => h) (va_recv hK hP (ci := 0) (q0 := 0) rfl rfl) (fun _ _ _ => trivial) rfl hl.1 rfl (Nat.le_of_ble_eq_true rfl) dL_law_265 ⟨Nat.le_of_ble_eq_true rfl, Nat.le_of_ble_eq_true rfl⟩ ?_
  refine pc_V (n := 1) (C := RX1) (b := x) (As := [.int (pu_sh lo)]) (rest := []) ⟨hx, hb, hml, hown, hts⟩ (m_unshuffle l x (pu_sh lo)) (lw_V q82 q83 q84 q1 q85) rfl rfl (by decide +kernel) ⟨Nat.le_of_ble_eq_true rfl, Nat.le_of_ble_eq_true rfl⟩ (fun _ _ _ _ h => h) (va_recv hK hP (ci := 0) (q0 := 0) rfl rfl) (fun _ _ _ => trivial) rfl hl.1 rfl (Nat.le_of_ble_eq_true rfl) dL_law_268 ⟨Nat.le_of_ble_eq_true rfl, Nat.le_of_ble_eq_true rfl⟩ ?_
  refine lv_iload_n hx hb dL_law_271 rfl (lv_at hl 3 rfl) ?_
  refine br_icmp_ne_f (tgt := 297) hx hb (un_sh lo) dL_law_272 (by decide) ?_
  refine lv_aload_n hx hb dL_law_275 rfl (lv_at hl 1 rfl) ?_
  refine lv_aload_n hx hb dL_law_276 rfl (lv_at hl 1 rfl) ?_
  refine lv_iload_n hx hb dL_law_277 rfl (lv_at hl 3 rfl) ?_
  refine pc_V (n := 1) (C := RX1) (b := x) (As := [.int lo]) (rest := [.ref x]) ⟨hx, hb, hml, hown, hts⟩ (m_unshuffle l x lo) (lw_V q82 q83 q84 q1 q85) rfl rfl (by decide +kernel) ⟨Nat.le_of_ble_eq_true rfl, Nat.le_of_ble_eq_true rfl⟩ (fun _ _ _ _ h => h) (va_recv hK hP (ci := 0) (q0 := 0) rfl rfl) (fun _ _ _ => trivial) rfl hl.1 rfl (Nat.le_of_ble_eq_true rfl) dL_law_278 ⟨Nat.le_of_ble_eq_true rfl, Nat.le_of_ble_eq_true rfl⟩ ?_
  refine pc_V (n := 1) (C := RX1) (b := x) (As := [.int (pu_un lo)]) (rest := []) ⟨hx, hb, hml, hown, hts⟩ (m_shuffle l x (pu_un lo)) (lw_V q75 q76 q77 q1 q78) rfl rfl (by decide +kernel) ⟨Nat.le_of_ble_eq_true rfl, Nat.le_of_ble_eq_true rfl⟩ (fun _ _ _ _ h => h) (va_recv hK hP (ci := 0) (q0 := 0) rfl rfl) (fun _ _ _ => trivial) rfl hl.1 rfl (Nat.le_of_ble_eq_true rfl) dL_law_281 ⟨Nat.le_of_ble_eq_true rfl, Nat.le_of_ble_eq_true rfl⟩ ?_
  refine lv_iload_n hx hb dL_law_284 rfl (lv_at hl 3 rfl) ?_
  refine br_icmp_ne_f (tgt := 297) hx hb (sh_un lo) dL_law_285 (by decide) ?_
  refine lv_aload_n hx hb dL_law_288 rfl (lv_at hl 1 rfl) ?_
  refine lv_iload_n hx hb dL_law_289 rfl (lv_at hl 3 rfl) ?_
  refine pc_V (n := 1) (C := RX1) (b := x) (As := [.int lo]) (rest := []) ⟨hx, hb, hml, hown, hts⟩ (m_there l x lo) (lw_V q103 q104 q105 q1 q106) rfl rfl (by decide +kernel) ⟨Nat.le_of_ble_eq_true rfl, Nat.le_of_ble_eq_true rfl⟩ (fun _ _ _ _ h => h) (va_recv hK hP (ci := 0) (q0 := 0) rfl rfl) (fun _ _ _ => trivial) rfl hl.1 rfl (Nat.le_of_ble_eq_true rfl) dL_law_290 ⟨Nat.le_of_ble_eq_true rfl, Nat.le_of_ble_eq_true rfl⟩ ?_
  refine lv_iload_n hx hb dL_law_293 rfl (lv_at hl 3 rfl) ?_
  refine br_icmp_eq_t (tgt := 299) hx hb (u2_s2 lo) dL_law_294 (by decide) ?_
  refine lv_aload_n hx hb dL_law_299 rfl (lv_at hl 1 rfl) ?_
  refine lv_iload_n hx hb dL_law_300 rfl (lv_at hl 2 rfl) ?_
  refine lv_iload_n hx hb dL_law_301 rfl (lv_at hl 3 rfl) ?_
  refine pc_V (n := 2) (C := RX1) (b := x) (As := [.int h, .int lo]) (rest := []) ⟨hx, hb, hml, hown, hts⟩ (m_longShuffle l x h lo) (lw_V q89 q90 q91 q1 q92) rfl rfl (by decide +kernel) ⟨Nat.le_of_ble_eq_true rfl, Nat.le_of_ble_eq_true rfl⟩ (fun _ _ _ _ h => h) (va_recv hK hP (ci := 0) (q0 := 0) rfl rfl) (fun _ _ _ => trivial) rfl hl.1 rfl (Nat.le_of_ble_eq_true rfl) dL_law_302 ⟨Nat.le_of_ble_eq_true rfl, Nat.le_of_ble_eq_true rfl⟩ ?_
  refine lv_lstore (lv' := [(6, .long (pu_sH (pu_w h lo))), (0, .ref b), (1, .ref x), (2, .int h), (3, .int lo), (4, .long (pu_w h lo))]) hx hb dL_law_305 hl (by decide) rfl (fun ls hl => ?_)
  refine lv_aload_n hx hb dL_law_307 rfl (lv_at hl 2 rfl) ?_
  refine lv_iload_n hx hb dL_law_308 rfl (lv_at hl 3 rfl) ?_
  refine lv_iload_n hx hb dL_law_309 rfl (lv_at hl 4 rfl) ?_
  refine pc_V (n := 2) (C := RX1) (b := x) (As := [.int h, .int lo]) (rest := []) ⟨hx, hb, hml, hown, hts⟩ (m_longUnshuffle l x h lo) (lw_V q96 q97 q98 q1 q99) rfl rfl (by decide +kernel) ⟨Nat.le_of_ble_eq_true rfl, Nat.le_of_ble_eq_true rfl⟩ (fun _ _ _ _ h => h) (va_recv hK hP (ci := 0) (q0 := 0) rfl rfl) (fun _ _ _ => trivial) rfl hl.1 rfl (Nat.le_of_ble_eq_true rfl) dL_law_310 ⟨Nat.le_of_ble_eq_true rfl, Nat.le_of_ble_eq_true rfl⟩ ?_
  refine lv_lstore (lv' := [(8, .long (pu_uN (pu_w h lo))), (6, .long (pu_sH (pu_w h lo))), (0, .ref b), (1, .ref x), (2, .int h), (3, .int lo), (4, .long (pu_w h lo))]) hx hb dL_law_313 hl (by decide) rfl (fun ls hl => ?_)
  refine lv_aload_n hx hb dL_law_315 rfl (lv_at hl 3 rfl) ?_
  refine lv_lload hx hb dL_law_316 (lv_at hl 1 rfl) ?_
  refine lv_bipush (v := 32) hx hb dL_law_318 (by decide +kernel) ?_
  refine lv_lshr (v := pu_js (pu_sH (pu_w h lo)) 32) hx hb dL_law_320 rfl ?_
  refine lv_l2i (v := (pu_js (pu_sH (pu_w h lo)) 32).toInt32) hx hb dL_law_321 rfl ?_
  refine lv_lload hx hb dL_law_322 (lv_at hl 1 rfl) ?_
  refine lv_l2i (v := (pu_sH (pu_w h lo)).toInt32) hx hb dL_law_324 rfl ?_
  refine pc_V (n := 2) (C := RX1) (b := x) (As := [.int ((pu_js (pu_sH (pu_w h lo)) 32).toInt32), .int ((pu_sH (pu_w h lo)).toInt32)]) (rest := []) ⟨hx, hb, hml, hown, hts⟩ (m_longUnshuffle l x ((pu_js (pu_sH (pu_w h lo)) 32).toInt32) ((pu_sH (pu_w h lo)).toInt32)) (lw_V q96 q97 q98 q1 q99) rfl rfl (by decide +kernel) ⟨Nat.le_of_ble_eq_true rfl, Nat.le_of_ble_eq_true rfl⟩ (fun _ _ _ _ h => h) (va_recv hK hP (ci := 0) (q0 := 0) rfl rfl) (fun _ _ _ => trivial) rfl hl.1 rfl (Nat.le_of_ble_eq_true rfl) dL_law_325 ⟨Nat.le_of_ble_eq_true rfl, Nat.le_of_ble_eq_true rfl⟩ ?_
  refine lv_lload hx hb dL_law_328 (lv_at hl 6 rfl) ?_
  refine W.lcmp hx hb dL_law_330 ?_
  refine br_if_ne_f (tgt := 353) hx hb (kn_cmp (by rw [w_back, uN_sH])) dL_law_331 (by decide) ?_
  refine lv_aload_n hx hb dL_law_334 rfl (lv_at hl 3 rfl) ?_
  refine lv_lload hx hb dL_law_335 (lv_at hl 0 rfl) ?_
  refine lv_bipush (v := 32) hx hb dL_law_337 (by decide +kernel) ?_
  refine lv_lshr (v := pu_js (pu_uN (pu_w h lo)) 32) hx hb dL_law_339 rfl ?_
  refine lv_l2i (v := (pu_js (pu_uN (pu_w h lo)) 32).toInt32) hx hb dL_law_340 rfl ?_
  refine lv_lload hx hb dL_law_341 (lv_at hl 0 rfl) ?_
  refine lv_l2i (v := (pu_uN (pu_w h lo)).toInt32) hx hb dL_law_343 rfl ?_
  refine pc_V (n := 2) (C := RX1) (b := x) (As := [.int ((pu_js (pu_uN (pu_w h lo)) 32).toInt32), .int ((pu_uN (pu_w h lo)).toInt32)]) (rest := []) ⟨hx, hb, hml, hown, hts⟩ (m_longShuffle l x ((pu_js (pu_uN (pu_w h lo)) 32).toInt32) ((pu_uN (pu_w h lo)).toInt32)) (lw_V q89 q90 q91 q1 q92) rfl rfl (by decide +kernel) ⟨Nat.le_of_ble_eq_true rfl, Nat.le_of_ble_eq_true rfl⟩ (fun _ _ _ _ h => h) (va_recv hK hP (ci := 0) (q0 := 0) rfl rfl) (fun _ _ _ => trivial) rfl hl.1 rfl (Nat.le_of_ble_eq_true rfl) dL_law_344 ⟨Nat.le_of_ble_eq_true rfl, Nat.le_of_ble_eq_true rfl⟩ ?_
  refine lv_lload hx hb dL_law_347 (lv_at hl 6 rfl) ?_
  refine W.lcmp hx hb dL_law_349 ?_
  refine br_if_eq_t (tgt := 355) hx hb (kn_cmp (by rw [w_back, sH_uN])) dL_law_350 (by decide) ?_
  refine lv_aload_n hx hb dL_law_355 rfl (lv_at hl 3 rfl) ?_
  refine lv_iload_n hx hb dL_law_356 rfl (lv_at hl 4 rfl) ?_
  refine lv_iload_n hx hb dL_law_357 rfl (lv_at hl 5 rfl) ?_
  refine pc_V (n := 2) (C := RX1) (b := x) (As := [.int h, .int lo]) (rest := []) ⟨hx, hb, hml, hown, hts⟩ (m_longThere l x h lo) (lw_V q115 q116 q117 q1 q118) rfl rfl (by decide +kernel) ⟨Nat.le_of_ble_eq_true rfl, Nat.le_of_ble_eq_true rfl⟩ (fun _ _ _ _ h => h) (va_recv hK hP (ci := 0) (q0 := 0) rfl rfl) (fun _ _ _ => trivial) rfl hl.1 rfl (Nat.le_of_ble_eq_true rfl) dL_law_358 ⟨Nat.le_of_ble_eq_true rfl, Nat.le_of_ble_eq_true rfl⟩ ?_
  refine lv_lload hx hb dL_law_361 (lv_at hl 6 rfl) ?_
  refine W.lcmp hx hb dL_law_363 ?_
  refine br_if_ne_f (tgt := 396) hx hb (kn_cmp (U2_S2 _)) dL_law_364 (by decide) ?_
  refine lv_aload_n hx hb dL_law_367 rfl (lv_at hl 3 rfl) ?_
  refine lv_iload_n hx hb dL_law_368 rfl (lv_at hl 4 rfl) ?_
  refine lv_iload_n hx hb dL_law_369 rfl (lv_at hl 5 rfl) ?_
  refine pc_V (n := 2) (C := RX1) (b := x) (As := [.int h, .int lo]) (rest := []) ⟨hx, hb, hml, hown, hts⟩ (m_thrice l x h lo) (lw_V q129 q130 q131 q1 q132) rfl rfl (by decide +kernel) ⟨Nat.le_of_ble_eq_true rfl, Nat.le_of_ble_eq_true rfl⟩ (fun _ _ _ _ h => h) (va_recv hK hP (ci := 0) (q0 := 0) rfl rfl) (fun _ _ _ => trivial) rfl hl.1 rfl (Nat.le_of_ble_eq_true rfl) dL_law_370 ⟨Nat.le_of_ble_eq_true rfl, Nat.le_of_ble_eq_true rfl⟩ ?_
  refine lv_lload hx hb dL_law_373 (lv_at hl 6 rfl) ?_
  refine W.lcmp hx hb dL_law_375 ?_
  refine br_if_ne_f (tgt := 396) hx hb (kn_cmp (s3_s3 _)) dL_law_376 (by decide) ?_
  refine lv_aload_n hx hb dL_law_379 rfl (lv_at hl 2 rfl) ?_
  have hs1 : s.heap.size ≤ H.size := hS.1
  refine va_calli (va_runS (As := [.ref b]) (rest := []) ⟨hx, hb, hml, hown, hts⟩ (m_rest l dC dI b L H.size xs hL) (va_cwS 1 hts (lw_S q146 q147 q0 q148) rfl rfl rfl (by decide +kernel) ⟨Nat.le_of_ble_eq_true rfl, Nat.le_of_ble_eq_true rfl⟩) ⟨fun a U g mk q => ⟨q.1, q.2.1, va_X.moved (u := U) (U := U.calling g mk a) (Vm.Alike.refl U.vm) q.2.2.1, va_K.moved (u := U) (U := U.calling g mk a) (Vm.Alike.refl U.vm) q.2.2.2⟩, fun U hU hW => ⟨rfl, by rw [hU], by rw [hU]; exact (hX.kept (hS.2.1 b hbl hbA)).moved hW.alike, va_K.moved hW.alike hK0⟩⟩ rfl rfl hl.1 rfl (lv_room (Nat.le_of_ble_eq_true rfl)) dL_law_380 ⟨Nat.le_of_ble_eq_true rfl, Nat.le_of_ble_eq_true rfl⟩) hS (fun q _ h9 => Nat.le_trans hs1 h9) (fun q h9 => Nat.le_trans hs1 h9) (fun r u t H locs ht hvm hw1 hB hz1 hk1 hS => ?_)
  have hw1 : r = 1 := hw1
  subst hw1
  refine br_if_eq_f (tgt := 396) hx hb (by decide) dL_law_383 (by decide) ?_
  have hs2 : s.heap.size ≤ H.size := hS.1
  refine va_calli (va_runS (As := []) (rest := []) ⟨hx, hb, hml, hown, hts⟩ (m_known l dC dI H.size) (va_cwS 0 hts (lw_S q150 q151 q0 q152) rfl rfl rfl (by decide +kernel) ⟨Nat.le_of_ble_eq_true rfl, Nat.le_of_ble_eq_true rfl⟩) ⟨fun a U g mk q => ⟨q.1, q.2.1, va_K.moved (u := U) (U := U.calling g mk a) (Vm.Alike.refl U.vm) q.2.2⟩, fun U hU hW => ⟨rfl, by rw [hU], va_K.moved hW.alike hK0⟩⟩ rfl rfl hl.1 rfl (lv_room (Nat.le_of_ble_eq_true rfl)) dL_law_386 ⟨Nat.le_of_ble_eq_true rfl, Nat.le_of_ble_eq_true rfl⟩) hS (fun q _ h9 => Nat.le_trans hs2 h9) (fun q h9 => Nat.le_trans hs2 h9) (fun r u t H locs ht hvm hw1 hB hz1 hk1 hS => ?_)
  have hw1 : r = 1 := hw1
  subst hw1
  refine br_if_eq_f (tgt := 396) hx hb (by decide) dL_law_389 (by decide) ?_
  refine lv_iconst (v := 1) hx hb dL_law_392 (by decide) ?_
  refine lv_goto (tgt := 397) hx hb dL_law_393 (by decide) ?_
  refine va_forget (fun q hq => hS.2.2 q hq) ?_
  refine W.widen (k := 1200000) (n := 5502250) (Nat.le_of_ble_eq_true rfl) (Nat.le_of_ble_eq_true rfl) ?_
  exact lw_ret hx hb hr hlocks dL_law_397
-- ===== YOUR PART ENDS =====
set_option maxHeartbeats 4000000 in
theorem lw_walk (l : Launch) (hflags : l.flags = flags0) (b : Addr) (xs : List Int32) : MetFree l x (headSpec (Jvm.Cond.code x code maxLocals ret :: tables_1) room_1) (lw_P b xs) (fun _ _ _ _ _ => True) lw_Q := by
  refine MetFree.of_bodyS (code := code) (maxLocals := maxLocals) (ret := ret) (by decide) ?_ ?_
  · intro args s m h hn
    obtain ⟨meth, c, h1, h2, h3, h4, h5, h6, -, -⟩ := Cond.code_spec hn (atoms_spec (ws := Jvm.Cond.code x code maxLocals ret :: tables_1) h _ List.mem_cons_self)
    exact ⟨meth, c, h1, h2, h3, h4, h5, h6⟩
  · intro p e s m args below meth c s₁ B hml0 hP _
    obtain ⟨rfl, hx, hbd, hgv⟩ := hP
    obtain ⟨scr, harrAt, hlist, hof, hsmall⟩ := hx
    obtain ⟨hcb, hkn, -, -⟩ := State.arrayAt?_spec harrAt
    have hown : s.vm.findClass R_law = some m.cls := findClass_of_methodNamed B.named
    have hts0 : ∀ c ∈ (Jvm.Cond.code x code maxLocals ret :: tables_1), c.before #[Value.ref b] s = true := atoms_spec (ws := Jvm.Cond.code x code maxLocals ret :: tables_1) B.pre
    have hts : ∀ w ∈ lw_tbl, w.before #[Value.ref b] s = true := k2_hts_sels lw_privs (fun w hw => hts0 w (List.mem_cons_of_mem _ hw)) lw_privs_ok
    have hml : c.maxLocals = 10 := B.maxLocals_eq (hts0 _ List.mem_cons_self)
    have X₀ : Stand p l e room_1 s m #[Value.ref b] below meth c s₁ [] 0 0 := Stand.of_body B
    have hh0 : s₁.heap = s.heap := by rw [B.state]; rfl
    have hsz : scr.slots.size = xs.length := by rw [← Array.length_toList, hlist, List.length_map]
    have hval : ∀ j : Nat, j < xs.length → scr.slots[j]? = some (.int (xs.getD j 0)) := fun j hj => by
      rw [← Array.getElem?_toList, hlist]
      simp [hj]
    have hbl : b < s.heap.size := (Array.getElem?_eq_some_iff.mp hcb).1
    have hX : va_X b xs.length (fun j => xs.getD j 0) s s.heap := ⟨scr, hcb, hof, hkn, hsz, hval⟩
    have K : W p l e room_1 s m #[Value.ref b] below meth c s₁.heap [] 0 0 (lw_Z below #[Value.ref b] s) (entryFrame m ([Value.ref b] : List Value).toArray 10) := by
      rw [hh0]
      exact whole_start l hflags hbd ⟨B.exec, B.bytes, B.returns, hml, hown, hts, hX, hbl, B.notSynchronized, hgv⟩
    obtain ⟨t, a1, o, b1, b2, b3⟩ := K s₁ rfl X₀
    exact ⟨t, o, a1, b1, b2, b3⟩
theorem lw_pre_spec {args : Array Value} {s : State} (h : (Jvm.Cond.and given_1 narrow_1).before args s = true) (hr : rest_1_c.before args s = true) : ∃ (b : Addr) (xs : List Int32), lw_P b xs args s := by
  have hs := flat_of_before _ h
  have hq := flat_of_before _ hr
  have hc : (Cond.count 1).before args s = true := hs _ (by decide +kernel)
  have harr : (Cond.arrayOf (.arg 0) .int).before args s = true := hs _ (by decide +kernel)
  have hle : (Cond.le (.length (.arg 0)) (.int 2)).before args s = true := hs _ (by decide +kernel)
  have hlen : (Cond.isInt (.length (.arg 0))).before args s = true := hq _ (by decide +kernel)
  have hall : (Cond.all (.arg 0) (.isInt (.elem (.arg 0) (.index 0)))).before args s = true := hq _ (by decide +kernel)
  obtain ⟨b, xs, hb, hx⟩ := State.ints_of_pre rfl harr hlen hall
  have hsm : xs.length < 2 ^ 31 := hx.choose_spec.2.2.2
  have hev : (Term.length (.arg 0)).eval args s none [] s = some (.int xs.length.toInt32) := hx.length_eval hb
  have hv := Cond.le_ints hev (show (Term.int 2).eval args s none [] s = some (.int 2) from rfl)
  have hd : xs.length.toInt32 ≤ 2 := by
    simpa [Cond.before, Cond.holds, hv] using hle
  have hN : xs.length ≤ 2 := (Int32.ofNat_le_ofNat hsm (by decide)).mp (show Int32.ofNat xs.length ≤ Int32.ofNat 2 from hd)
  exact ⟨b, xs, Cond.one_arg hc (show args[0]? = some (.ref b) from hb), hx, hN, h⟩
theorem lw_comes (l : Launch) (hflags : l.flags = flags0) : Comes l x (Jvm.Cond.code x code maxLocals ret :: tables_1) room_1 (fun tb e args s => Calls_1 tb e args s ∧ rest_1 tb e args s ∧ Pre_1 tb e args s)
    (fun _ _ args s o t => lw_Q args s o t) := by
  intro p e ha hc hk s m args below hf hfit hheap happ hpre
  obtain ⟨b, xs, hP⟩ := lw_pre_spec hpre.2.2 hpre.2.1
  obtain ⟨k, o, h1, h2, h3, hQ⟩ := lw_walk l hflags b xs p e ha hc hk s m args below hf ((Spec.applies_iff_loose hf).mp happ).1 hP trivial
  exact ⟨k, o, h1, h2, h3, hQ⟩
theorem lw_frame {s t : State} {o : Outcome} {args : Array Value} (h : Framed s o t [] 1200000 5502250) :
    Framed s o t (fieldLocs frame_1_writes args s ++ arrayLocs frame_1_arrays args s ++ staticLocs frame_1_statics s) 1200000 5502250 := h
theorem lw_limb (L : Cond) (hL : ∀ (args : Array Value) (s t : State), L.after args s (.returned (some (.int 1))) t = true) :
    ArmFor flags0 classFile x code maxLocals ret World_1 tables_1 room_1 Calls_1 rest_1 Pre_1
      (fun tb e a s o t => postC L tb e a s o t ∧ Framed s o t (fieldLocs frame_1_writes a s ++ arrayLocs frame_1_arrays a s ++ staticLocs frame_1_statics s) 1200000 5502250) := by
  intro l hflags _ _ p e ha hc hk s m args below hf hfit hheap happ hpre
  obtain ⟨k, o, h1, h2, h3, rfl, hF⟩ := lw_comes l hflags p e ha hc hk s m args below hf hfit hheap happ hpre
  exact ⟨k, _, h1, h2, h3, hL args s _, lw_frame hF⟩
theorem i_vc : Claimed_1_1 ∧ Claimed_1_2 := ⟨lw_limb limb_1_1 (fun args s t => by simp [limb_1_1, Cond.after, Cond.holds, Cond.value]), lw_limb limb_1_2 (fun args s t => Cond.after_iff.mpr (by
  first | (rw [show limb_1_2 = Cond.eq .result (.int 1) from rfl, Cond.eq_ints (x := 1) (y := 1) rfl rfl]; simp; done) | (simp [limb_1_2, Cond.value, Term.eval]; done)))⟩
end
