section
-- ===== PART A: goes FIRST, ahead of the names: the tables' words, and 'selects' of the private methods out of them =====
/-- a private method of a class that the tables say can be made, by its rows of tables_1 -/
def lw_okq (q : MethodName × Nat) : Prop := (q.1.cls ≠ "java/lang/invoke/MethodHandle" ∧ q.1.cls ≠ "java/lang/invoke/VarHandle") ∧ Cond.instantiable q.1.cls q.2 ∈ tables_1 ∧ Cond.privateMethod q.1 ∈ tables_1 ∧ Cond.instanceMethod q.1 ∈ tables_1
set_option maxRecDepth 100000
theorem lw_p0 : lw_okq (⟨"WnafDeskModel", "become", "(II)V"⟩, 3) := ⟨⟨by decide +kernel, by decide +kernel⟩, List.mem_of_getElem? (i := 50) rfl, List.mem_of_getElem? (i := 70) rfl, List.mem_of_getElem? (i := 71) rfl⟩
theorem lw_p1 : lw_okq (⟨"WnafDeskModel", "bit", "(I)I"⟩, 3) := ⟨⟨by decide +kernel, by decide +kernel⟩, List.mem_of_getElem? (i := 50) rfl, List.mem_of_getElem? (i := 83) rfl, List.mem_of_getElem? (i := 84) rfl⟩
def lw_privs_1 : List (MethodName × Nat) := [(⟨"WnafDeskModel", "become", "(II)V"⟩, 3), (⟨"WnafDeskModel", "bit", "(I)I"⟩, 3)]
theorem lw_r1 : ∀ q ∈ lw_privs_1, lw_okq q := List.forall_mem_cons.mpr ⟨lw_p0, List.forall_mem_cons.mpr ⟨lw_p1, fun _ h => absurd h List.not_mem_nil⟩⟩
def lw_privs : List (MethodName × Nat) := lw_privs_1
def lw_tbl : List Cond := k2_sels lw_privs ++ tables_1
theorem lw_privs_ok : ∀ q ∈ lw_privs, lw_okq q := lw_r1
-- ===== ONE list of words for every method: the tables' words that hold all through a run =====
def lw_all : List Cond := lw_tbl.filter goodWord
/-- a word of the tables by its place: claim/WORDS.tsv -/
theorem lw_w {w : Cond} (i : Nat) (h : lw_tbl[i]? = some w) (g : goodWord w = true) : w ∈ lw_all := List.mem_filter.mpr ⟨List.mem_of_getElem? h, g⟩
theorem lw_all_tbl {w : Cond} (h : w ∈ lw_all) : w ∈ lw_tbl := (List.mem_filter.mp h).1
theorem lw_self : GoodIn lw_all lw_all := fun w h => ⟨h, good_of_word (List.mem_filter.mp h).2⟩
/-- a class's field words, by their places -/
theorem lw_in (ws : List Cond) (ps : List Nat) (hp : ws = ps.filterMap (fun i => lw_tbl[i]?)) (hg : ws.all goodWord = true) : ∀ w ∈ ws, w ∈ lw_all := by
  intro w h
  have h1 := List.all_eq_true.mp hg w h
  rw [hp] at h
  obtain ⟨i, -, hi⟩ := List.mem_filterMap.mp h
  exact lw_w i hi h1
/-- the words of a contract for the method y with code b, L locals, answer r -/
abbrev ws_ (y : MethodName) (b : ByteArray) (L : Nat) (r : Option FieldType) : List Cond := Cond.code y b L r :: lw_all
theorem lw_meth {y : MethodName} {b : ByteArray} {L : Nat} {r : Option FieldType} (h : Cond.code y b L r ∈ lw_all) : GoodIn lw_all (ws_ y b L r) := by
  intro w hw
  rcases List.mem_cons.mp hw with e | e
  · rw [e]
    exact lw_self _ h
  · exact lw_self _ e
theorem lw_app {a c : List Cond} (ha : ∀ w ∈ a, w ∈ lw_all) (hc : GoodIn lw_all c) : GoodIn lw_all (a ++ c) := by
  intro w hw
  rcases List.mem_append.mp hw with e | e
  · exact lw_self w (ha w e)
  · exact hc w e
/-- what a call through an object asks: cwV n hts (lw_V ..) -/
theorem lw_V {own : String} {idx : Nat} {C : String} {y : MethodName} {b : ByteArray} {L : Nat} {r : Option FieldType} (h1 : Cond.methodLink own idx y ∈ lw_all) (h2 : Cond.instanceMethod y ∈ lw_all) (h3 : Cond.selects C y y ∈ lw_all) (h4 : Cond.initialized C ∈ lw_all) (h5 : Cond.code y b L r ∈ lw_all) : GoodIn lw_all (wsV own idx C y (ws_ y b L r)) := by
  refine lw_app ?_ (lw_meth h5)
  intro w hw
  simp only [List.mem_cons, List.not_mem_nil, or_false] at hw
  rcases hw with e | e | e | e
  · rw [e]; exact h1
  · rw [e]; exact h2
  · rw [e]; exact h3
  · rw [e]; exact h4
/-- what a static call asks: va_cwS n hts (lw_S ..) -/
theorem lw_S {own : String} {idx : Nat} {y : MethodName} {b : ByteArray} {L : Nat} {r : Option FieldType} (h1 : Cond.methodLink own idx y ∈ lw_all) (h2 : Cond.static y ∈ lw_all) (h3 : Cond.initialized y.cls ∈ lw_all) (h4 : Cond.code y b L r ∈ lw_all) : GoodIn lw_all (va_wsS own idx y (ws_ y b L r)) := by
  refine lw_app ?_ (lw_meth h4)
  intro w hw
  simp only [List.mem_cons, List.not_mem_nil, or_false] at hw
  rcases hw with e | e | e
  · rw [e]; exact h1
  · rw [e]; exact h2
  · rw [e]; exact h3
/-- the words of a contract for a method WITH HANDLERS (hh: its table) -/
abbrev wsW_ (y : MethodName) (b : ByteArray) (L : Nat) (r : Option FieldType) (hh : List (Nat × Nat × Nat × Nat)) : List Cond := Cond.codeWith y b L r hh :: lw_all
theorem lw_methW {y : MethodName} {b : ByteArray} {L : Nat} {r : Option FieldType} {hh : List (Nat × Nat × Nat × Nat)} (h : Cond.codeWith y b L r hh ∈ lw_all) : GoodIn lw_all (wsW_ y b L r hh) := by
  intro w hw
  rcases List.mem_cons.mp hw with e | e
  · rw [e]
    exact lw_self _ h
  · exact lw_self _ e
/-- any list of words by their places (lw_in), good -/
theorem lw_good {ws : List Cond} (h : ∀ w ∈ ws, w ∈ lw_all) : GoodIn lw_all ws := fun w hw => lw_self w (h w hw)
/-- what a call of a method with handlers asks: vx_cwVW n hts (lw_VW ..), vx_cwSW n hts (lw_SW ..) -/
theorem lw_VW {own : String} {idx : Nat} {C : String} {y : MethodName} {b : ByteArray} {L : Nat} {r : Option FieldType} {hh : List (Nat × Nat × Nat × Nat)} (h1 : Cond.methodLink own idx y ∈ lw_all) (h2 : Cond.instanceMethod y ∈ lw_all) (h3 : Cond.selects C y y ∈ lw_all) (h4 : Cond.initialized C ∈ lw_all) (h5 : Cond.codeWith y b L r hh ∈ lw_all) : GoodIn lw_all (wsV own idx C y (wsW_ y b L r hh)) := by
  refine lw_app ?_ (lw_methW h5)
  intro w hw
  simp only [List.mem_cons, List.not_mem_nil, or_false] at hw
  rcases hw with e | e | e | e
  · rw [e]; exact h1
  · rw [e]; exact h2
  · rw [e]; exact h3
  · rw [e]; exact h4
theorem lw_SW {own : String} {idx : Nat} {y : MethodName} {b : ByteArray} {L : Nat} {r : Option FieldType} {hh : List (Nat × Nat × Nat × Nat)} (h1 : Cond.methodLink own idx y ∈ lw_all) (h2 : Cond.static y ∈ lw_all) (h3 : Cond.initialized y.cls ∈ lw_all) (h4 : Cond.codeWith y b L r hh ∈ lw_all) : GoodIn lw_all (va_wsS own idx y (wsW_ y b L r hh)) := by
  refine lw_app ?_ (lw_methW h4)
  intro w hw
  simp only [List.mem_cons, List.not_mem_nil, or_false] at hw
  rcases hw with e | e | e
  · rw [e]; exact h1
  · rw [e]; exact h2
  · rw [e]; exact h3
/-- a word by its place in its run of the tables -/
theorem lw_at {r : List Cond} (hr : ∀ w ∈ r, w ∈ lw_tbl) {w : Cond} (i : Nat) (h : r[i]? = some w) : w ∈ lw_tbl := hr w (List.mem_of_getElem? h)
theorem lw_g {w : Cond} (h : w ∈ lw_tbl) (g : goodWord w = true) : w ∈ lw_all := List.mem_filter.mpr ⟨h, g⟩
theorem lw_ms : ∀ w ∈ k2_sels lw_privs, w ∈ lw_tbl := fun w h => show w ∈ k2_sels lw_privs ++ tables_1 from List.mem_append_left _ h
theorem lw_m0 : ∀ w ∈ tables_1, w ∈ lw_tbl := fun w h => show w ∈ k2_sels lw_privs ++ tables_1 from List.mem_append_right (k2_sels lw_privs) h
theorem qs0 : (Cond.selects "WnafDeskModel" ⟨"WnafDeskModel", "become", "(II)V"⟩ ⟨"WnafDeskModel", "become", "(II)V"⟩) ∈ lw_all := lw_g (lw_at lw_ms 0 rfl) rfl
theorem qs1 : (Cond.selects "WnafDeskModel" ⟨"WnafDeskModel", "bit", "(I)I"⟩ ⟨"WnafDeskModel", "bit", "(I)I"⟩) ∈ lw_all := lw_g (lw_at lw_ms 1 rfl) rfl
end
section
/-! DECODE ROWS BY BYTES: one lemma an opcode; a method's code is cut into short pieces once, and a row reads its own piece alone. -/
set_option maxRecDepth 100000
/-- the code has just these bytes from pc on -/
def DkAt (code : ByteArray) (pc : Nat) (bs : List UInt8) : Prop := ∀ (j : Nat) (b : UInt8), bs[j]? = some b → code.data.toList[pc + j]? = some b
/-- the piece W has the bytes bs from its place j on -/
def dkIn (W : List UInt8) (j : Nat) (bs : List UInt8) : Bool := decide ((W.drop j).take bs.length = bs)
theorem dk_seg {l W T : List UInt8} {o o2 : Nat} (h : l.drop o = W ++ T) (n : Nat) (hn : W.length = n) (ho : o + n = o2) : l.drop o2 = T := by
  subst ho
  rw [← List.drop_drop, h, List.drop_left' hn]
theorem dk_at {code : ByteArray} {W T bs : List UInt8} {o pc : Nat} (h : code.data.toList.drop o = W ++ T) (j : Nat) (hp : o + j = pc) (hw : dkIn W j bs = true) : DkAt code pc bs := by
  subst hp
  intro i b e
  have h1 := of_decide_eq_true hw
  have h2 : i < bs.length := (List.getElem?_eq_some_iff.mp e).1
  have h3 : W[j + i]? = some b := by
    rw [← h1, List.getElem?_take, if_pos h2, List.getElem?_drop] at e
    exact e
  have h4 : j + i < W.length := (List.getElem?_eq_some_iff.mp h3).1
  have h5 : (code.data.toList.drop o)[j + i]? = some b := by
    rw [h, List.getElem?_append_left h4]
    exact h3
  rw [List.getElem?_drop, ← Nat.add_assoc] at h5
  exact h5
theorem dk_u1 {A : ByteArray} {p : Nat} {b : UInt8} (h : A.data.toList[p]? = some b) : (Reader.u1 : Reader DecodeError Nat) A p = .ok (b.toNat, p + 1) := by
  obtain ⟨h1, h2⟩ := List.getElem?_eq_some_iff.mp h
  have h3 : p < A.size := by simpa using h1
  have h4 : A[p]'h3 = b := h2
  have e : (Reader.u1 : Reader DecodeError Nat) A p = (if h : p < A.size then .ok (A[p].toNat, p + 1) else .error (HasTruncated.truncated p)) := by
    show (do if h : p < A.size then do set (p + 1); Pure.pure A[p].toNat else MonadExcept.throw (HasTruncated.truncated p) : Reader DecodeError Nat) A p = _
    by_cases hi : p < A.size
    · rw [dif_pos hi, dif_pos hi]; rfl
    · rw [dif_neg hi, dif_neg hi]; rfl
  rw [e, dif_pos h3, h4]
theorem dk_bind {α β : Type} {r : Reader DecodeError α} {f : α → Reader DecodeError β} {A : ByteArray} {p s : Nat} {a : α} (h : r A p = .ok (a, s)) : (r >>= f) A p = f a A s := by
  show (do let (a, s) ← r A p; f a A s : Except DecodeError (β × Nat)) = _
  rw [h]
  rfl
theorem dk_map {α β : Type} {r : Reader DecodeError α} {g : α → β} {A : ByteArray} {p s : Nat} {a : α} (h : r A p = .ok (a, s)) : (g <$> r) A p = .ok (g a, s) := by
  show (do let (a, s) ← r A p; .ok (g a, s) : Except DecodeError (β × Nat)) = _
  rw [h]
  rfl
theorem dk_u2 {A : ByteArray} {p : Nat} {a b : UInt8} (h : A.data.toList[p]? = some a) (h2 : A.data.toList[p + 1]? = some b) : (Reader.u2 : Reader DecodeError Nat) A p = .ok (a.toNat * 256 + b.toNat, p + 2) := by
  show (Reader.u1 >>= fun hi => Reader.u1 >>= fun lo => Pure.pure (hi * 256 + lo) : Reader DecodeError Nat) A p = _
  rw [dk_bind (dk_u1 h), dk_bind (dk_u1 h2)]
  rfl
theorem dk_of {code : ByteArray} {pc n : Nat} {i : Instr} (h : Decoder.instr pc code pc = .ok (i, pc + n)) : decode code pc = .ok (i, n) := by
  have e : decode code pc = (match Decoder.instr pc code pc with | .error x => .error x | .ok (j, s) => .ok (j, s - pc)) := by
    show (do let (j, s) ← Decoder.instr pc code pc; Pure.pure (j, s - pc) : Except DecodeError (Instr × Nat)) = _
    cases Decoder.instr pc code pc <;> rfl
  rw [e, h]
  show Except.ok (i, pc + n - pc) = _
  rw [Nat.add_sub_cancel_left]
theorem dk_2 {code : ByteArray} {pc : Nat} (h : DkAt code pc [2]) : decode code pc = .ok (.iconst (-1), 1) := dk_of ((dk_bind (dk_u1 (h 0 _ rfl))).trans rfl)
theorem dk_3 {code : ByteArray} {pc : Nat} (h : DkAt code pc [3]) : decode code pc = .ok (.iconst 0, 1) := dk_of ((dk_bind (dk_u1 (h 0 _ rfl))).trans rfl)
theorem dk_4 {code : ByteArray} {pc : Nat} (h : DkAt code pc [4]) : decode code pc = .ok (.iconst 1, 1) := dk_of ((dk_bind (dk_u1 (h 0 _ rfl))).trans rfl)
theorem dk_5 {code : ByteArray} {pc : Nat} (h : DkAt code pc [5]) : decode code pc = .ok (.iconst 2, 1) := dk_of ((dk_bind (dk_u1 (h 0 _ rfl))).trans rfl)
theorem dk_6 {code : ByteArray} {pc : Nat} (h : DkAt code pc [6]) : decode code pc = .ok (.iconst 3, 1) := dk_of ((dk_bind (dk_u1 (h 0 _ rfl))).trans rfl)
theorem dk_7 {code : ByteArray} {pc : Nat} (h : DkAt code pc [7]) : decode code pc = .ok (.iconst 4, 1) := dk_of ((dk_bind (dk_u1 (h 0 _ rfl))).trans rfl)
theorem dk_8 {code : ByteArray} {pc : Nat} (h : DkAt code pc [8]) : decode code pc = .ok (.iconst 5, 1) := dk_of ((dk_bind (dk_u1 (h 0 _ rfl))).trans rfl)
theorem dk_16 {code : ByteArray} {pc : Nat} (a : UInt8) (h : DkAt code pc [16, a]) : decode code pc = .ok (.bipush (Reader.signed 8 a.toNat), 2) := dk_of ((dk_bind (dk_u1 (h 0 _ rfl))).trans ((dk_bind (dk_map (dk_u1 (h 1 _ rfl)))).trans rfl))
theorem dk_17 {code : ByteArray} {pc : Nat} (a b : UInt8) (h : DkAt code pc [17, a, b]) : decode code pc = .ok (.sipush (Reader.signed 16 (a.toNat * 256 + b.toNat)), 3) := dk_of ((dk_bind (dk_u1 (h 0 _ rfl))).trans ((dk_bind (dk_map (dk_u2 (h 1 _ rfl) (h 2 _ rfl)))).trans rfl))
theorem dk_18 {code : ByteArray} {pc : Nat} (a : UInt8) (h : DkAt code pc [18, a]) : decode code pc = .ok (.ldc a.toNat, 2) := dk_of ((dk_bind (dk_u1 (h 0 _ rfl))).trans ((dk_bind (dk_u1 (h 1 _ rfl))).trans rfl))
theorem dk_21 {code : ByteArray} {pc : Nat} (a : UInt8) (h : DkAt code pc [21, a]) : decode code pc = .ok (.iload a.toNat, 2) := dk_of ((dk_bind (dk_u1 (h 0 _ rfl))).trans ((dk_bind (dk_u1 (h 1 _ rfl))).trans rfl))
theorem dk_27 {code : ByteArray} {pc : Nat} (h : DkAt code pc [27]) : decode code pc = .ok (.iload_n 1, 1) := dk_of ((dk_bind (dk_u1 (h 0 _ rfl))).trans rfl)
theorem dk_28 {code : ByteArray} {pc : Nat} (h : DkAt code pc [28]) : decode code pc = .ok (.iload_n 2, 1) := dk_of ((dk_bind (dk_u1 (h 0 _ rfl))).trans rfl)
theorem dk_29 {code : ByteArray} {pc : Nat} (h : DkAt code pc [29]) : decode code pc = .ok (.iload_n 3, 1) := dk_of ((dk_bind (dk_u1 (h 0 _ rfl))).trans rfl)
theorem dk_42 {code : ByteArray} {pc : Nat} (h : DkAt code pc [42]) : decode code pc = .ok (.aload_n 0, 1) := dk_of ((dk_bind (dk_u1 (h 0 _ rfl))).trans rfl)
theorem dk_43 {code : ByteArray} {pc : Nat} (h : DkAt code pc [43]) : decode code pc = .ok (.aload_n 1, 1) := dk_of ((dk_bind (dk_u1 (h 0 _ rfl))).trans rfl)
theorem dk_44 {code : ByteArray} {pc : Nat} (h : DkAt code pc [44]) : decode code pc = .ok (.aload_n 2, 1) := dk_of ((dk_bind (dk_u1 (h 0 _ rfl))).trans rfl)
theorem dk_45 {code : ByteArray} {pc : Nat} (h : DkAt code pc [45]) : decode code pc = .ok (.aload_n 3, 1) := dk_of ((dk_bind (dk_u1 (h 0 _ rfl))).trans rfl)
theorem dk_46 {code : ByteArray} {pc : Nat} (h : DkAt code pc [46]) : decode code pc = .ok (.iaload, 1) := dk_of ((dk_bind (dk_u1 (h 0 _ rfl))).trans rfl)
theorem dk_51 {code : ByteArray} {pc : Nat} (h : DkAt code pc [51]) : decode code pc = .ok (.baload, 1) := dk_of ((dk_bind (dk_u1 (h 0 _ rfl))).trans rfl)
theorem dk_54 {code : ByteArray} {pc : Nat} (a : UInt8) (h : DkAt code pc [54, a]) : decode code pc = .ok (.istore a.toNat, 2) := dk_of ((dk_bind (dk_u1 (h 0 _ rfl))).trans ((dk_bind (dk_u1 (h 1 _ rfl))).trans rfl))
theorem dk_61 {code : ByteArray} {pc : Nat} (h : DkAt code pc [61]) : decode code pc = .ok (.istore_n 2, 1) := dk_of ((dk_bind (dk_u1 (h 0 _ rfl))).trans rfl)
theorem dk_62 {code : ByteArray} {pc : Nat} (h : DkAt code pc [62]) : decode code pc = .ok (.istore_n 3, 1) := dk_of ((dk_bind (dk_u1 (h 0 _ rfl))).trans rfl)
theorem dk_76 {code : ByteArray} {pc : Nat} (h : DkAt code pc [76]) : decode code pc = .ok (.astore_n 1, 1) := dk_of ((dk_bind (dk_u1 (h 0 _ rfl))).trans rfl)
theorem dk_77 {code : ByteArray} {pc : Nat} (h : DkAt code pc [77]) : decode code pc = .ok (.astore_n 2, 1) := dk_of ((dk_bind (dk_u1 (h 0 _ rfl))).trans rfl)
theorem dk_78 {code : ByteArray} {pc : Nat} (h : DkAt code pc [78]) : decode code pc = .ok (.astore_n 3, 1) := dk_of ((dk_bind (dk_u1 (h 0 _ rfl))).trans rfl)
theorem dk_79 {code : ByteArray} {pc : Nat} (h : DkAt code pc [79]) : decode code pc = .ok (.iastore, 1) := dk_of ((dk_bind (dk_u1 (h 0 _ rfl))).trans rfl)
theorem dk_84 {code : ByteArray} {pc : Nat} (h : DkAt code pc [84]) : decode code pc = .ok (.bastore, 1) := dk_of ((dk_bind (dk_u1 (h 0 _ rfl))).trans rfl)
theorem dk_89 {code : ByteArray} {pc : Nat} (h : DkAt code pc [89]) : decode code pc = .ok (.dup, 1) := dk_of ((dk_bind (dk_u1 (h 0 _ rfl))).trans rfl)
theorem dk_96 {code : ByteArray} {pc : Nat} (h : DkAt code pc [96]) : decode code pc = .ok (.iadd, 1) := dk_of ((dk_bind (dk_u1 (h 0 _ rfl))).trans rfl)
theorem dk_100 {code : ByteArray} {pc : Nat} (h : DkAt code pc [100]) : decode code pc = .ok (.isub, 1) := dk_of ((dk_bind (dk_u1 (h 0 _ rfl))).trans rfl)
theorem dk_104 {code : ByteArray} {pc : Nat} (h : DkAt code pc [104]) : decode code pc = .ok (.imul, 1) := dk_of ((dk_bind (dk_u1 (h 0 _ rfl))).trans rfl)
theorem dk_108 {code : ByteArray} {pc : Nat} (h : DkAt code pc [108]) : decode code pc = .ok (.idiv, 1) := dk_of ((dk_bind (dk_u1 (h 0 _ rfl))).trans rfl)
theorem dk_112 {code : ByteArray} {pc : Nat} (h : DkAt code pc [112]) : decode code pc = .ok (.irem, 1) := dk_of ((dk_bind (dk_u1 (h 0 _ rfl))).trans rfl)
theorem dk_120 {code : ByteArray} {pc : Nat} (h : DkAt code pc [120]) : decode code pc = .ok (.ishl, 1) := dk_of ((dk_bind (dk_u1 (h 0 _ rfl))).trans rfl)
theorem dk_122 {code : ByteArray} {pc : Nat} (h : DkAt code pc [122]) : decode code pc = .ok (.ishr, 1) := dk_of ((dk_bind (dk_u1 (h 0 _ rfl))).trans rfl)
theorem dk_124 {code : ByteArray} {pc : Nat} (h : DkAt code pc [124]) : decode code pc = .ok (.iushr, 1) := dk_of ((dk_bind (dk_u1 (h 0 _ rfl))).trans rfl)
theorem dk_126 {code : ByteArray} {pc : Nat} (h : DkAt code pc [126]) : decode code pc = .ok (.iand, 1) := dk_of ((dk_bind (dk_u1 (h 0 _ rfl))).trans rfl)
theorem dk_128 {code : ByteArray} {pc : Nat} (h : DkAt code pc [128]) : decode code pc = .ok (.ior, 1) := dk_of ((dk_bind (dk_u1 (h 0 _ rfl))).trans rfl)
theorem dk_132 {code : ByteArray} {pc : Nat} (a b : UInt8) (h : DkAt code pc [132, a, b]) : decode code pc = .ok (.iinc a.toNat (Reader.signed 8 b.toNat), 3) := dk_of ((dk_bind (dk_u1 (h 0 _ rfl))).trans ((dk_bind (dk_u1 (h 1 _ rfl))).trans ((dk_bind (dk_map (dk_u1 (h 2 _ rfl)))).trans rfl)))
theorem dk_145 {code : ByteArray} {pc : Nat} (h : DkAt code pc [145]) : decode code pc = .ok (.i2b, 1) := dk_of ((dk_bind (dk_u1 (h 0 _ rfl))).trans rfl)
theorem dk_153 {code : ByteArray} {pc : Nat} (a b : UInt8) (h : DkAt code pc [153, a, b]) : decode code pc = .ok (.ifCond .eq (Reader.signed 16 (a.toNat * 256 + b.toNat)), 3) := dk_of ((dk_bind (dk_u1 (h 0 _ rfl))).trans ((dk_bind (dk_map (dk_u2 (h 1 _ rfl) (h 2 _ rfl)))).trans rfl))
theorem dk_154 {code : ByteArray} {pc : Nat} (a b : UInt8) (h : DkAt code pc [154, a, b]) : decode code pc = .ok (.ifCond .ne (Reader.signed 16 (a.toNat * 256 + b.toNat)), 3) := dk_of ((dk_bind (dk_u1 (h 0 _ rfl))).trans ((dk_bind (dk_map (dk_u2 (h 1 _ rfl) (h 2 _ rfl)))).trans rfl))
theorem dk_155 {code : ByteArray} {pc : Nat} (a b : UInt8) (h : DkAt code pc [155, a, b]) : decode code pc = .ok (.ifCond .lt (Reader.signed 16 (a.toNat * 256 + b.toNat)), 3) := dk_of ((dk_bind (dk_u1 (h 0 _ rfl))).trans ((dk_bind (dk_map (dk_u2 (h 1 _ rfl) (h 2 _ rfl)))).trans rfl))
theorem dk_159 {code : ByteArray} {pc : Nat} (a b : UInt8) (h : DkAt code pc [159, a, b]) : decode code pc = .ok (.if_icmp .eq (Reader.signed 16 (a.toNat * 256 + b.toNat)), 3) := dk_of ((dk_bind (dk_u1 (h 0 _ rfl))).trans ((dk_bind (dk_map (dk_u2 (h 1 _ rfl) (h 2 _ rfl)))).trans rfl))
theorem dk_160 {code : ByteArray} {pc : Nat} (a b : UInt8) (h : DkAt code pc [160, a, b]) : decode code pc = .ok (.if_icmp .ne (Reader.signed 16 (a.toNat * 256 + b.toNat)), 3) := dk_of ((dk_bind (dk_u1 (h 0 _ rfl))).trans ((dk_bind (dk_map (dk_u2 (h 1 _ rfl) (h 2 _ rfl)))).trans rfl))
theorem dk_161 {code : ByteArray} {pc : Nat} (a b : UInt8) (h : DkAt code pc [161, a, b]) : decode code pc = .ok (.if_icmp .lt (Reader.signed 16 (a.toNat * 256 + b.toNat)), 3) := dk_of ((dk_bind (dk_u1 (h 0 _ rfl))).trans ((dk_bind (dk_map (dk_u2 (h 1 _ rfl) (h 2 _ rfl)))).trans rfl))
theorem dk_162 {code : ByteArray} {pc : Nat} (a b : UInt8) (h : DkAt code pc [162, a, b]) : decode code pc = .ok (.if_icmp .ge (Reader.signed 16 (a.toNat * 256 + b.toNat)), 3) := dk_of ((dk_bind (dk_u1 (h 0 _ rfl))).trans ((dk_bind (dk_map (dk_u2 (h 1 _ rfl) (h 2 _ rfl)))).trans rfl))
theorem dk_163 {code : ByteArray} {pc : Nat} (a b : UInt8) (h : DkAt code pc [163, a, b]) : decode code pc = .ok (.if_icmp .gt (Reader.signed 16 (a.toNat * 256 + b.toNat)), 3) := dk_of ((dk_bind (dk_u1 (h 0 _ rfl))).trans ((dk_bind (dk_map (dk_u2 (h 1 _ rfl) (h 2 _ rfl)))).trans rfl))
theorem dk_167 {code : ByteArray} {pc : Nat} (a b : UInt8) (h : DkAt code pc [167, a, b]) : decode code pc = .ok (.goto (Reader.signed 16 (a.toNat * 256 + b.toNat)), 3) := dk_of ((dk_bind (dk_u1 (h 0 _ rfl))).trans ((dk_bind (dk_map (dk_u2 (h 1 _ rfl) (h 2 _ rfl)))).trans rfl))
theorem dk_172 {code : ByteArray} {pc : Nat} (h : DkAt code pc [172]) : decode code pc = .ok (.ireturn, 1) := dk_of ((dk_bind (dk_u1 (h 0 _ rfl))).trans rfl)
theorem dk_177 {code : ByteArray} {pc : Nat} (h : DkAt code pc [177]) : decode code pc = .ok (.return_, 1) := dk_of ((dk_bind (dk_u1 (h 0 _ rfl))).trans rfl)
theorem dk_180 {code : ByteArray} {pc : Nat} (a b : UInt8) (h : DkAt code pc [180, a, b]) : decode code pc = .ok (.getfield (a.toNat * 256 + b.toNat), 3) := dk_of ((dk_bind (dk_u1 (h 0 _ rfl))).trans ((dk_bind (dk_u2 (h 1 _ rfl) (h 2 _ rfl))).trans rfl))
theorem dk_181 {code : ByteArray} {pc : Nat} (a b : UInt8) (h : DkAt code pc [181, a, b]) : decode code pc = .ok (.putfield (a.toNat * 256 + b.toNat), 3) := dk_of ((dk_bind (dk_u1 (h 0 _ rfl))).trans ((dk_bind (dk_u2 (h 1 _ rfl) (h 2 _ rfl))).trans rfl))
theorem dk_182 {code : ByteArray} {pc : Nat} (a b : UInt8) (h : DkAt code pc [182, a, b]) : decode code pc = .ok (.invokevirtual (a.toNat * 256 + b.toNat), 3) := dk_of ((dk_bind (dk_u1 (h 0 _ rfl))).trans ((dk_bind (dk_u2 (h 1 _ rfl) (h 2 _ rfl))).trans rfl))
theorem dk_183 {code : ByteArray} {pc : Nat} (a b : UInt8) (h : DkAt code pc [183, a, b]) : decode code pc = .ok (.invokespecial (a.toNat * 256 + b.toNat), 3) := dk_of ((dk_bind (dk_u1 (h 0 _ rfl))).trans ((dk_bind (dk_u2 (h 1 _ rfl) (h 2 _ rfl))).trans rfl))
theorem dk_184 {code : ByteArray} {pc : Nat} (a b : UInt8) (h : DkAt code pc [184, a, b]) : decode code pc = .ok (.invokestatic (a.toNat * 256 + b.toNat), 3) := dk_of ((dk_bind (dk_u1 (h 0 _ rfl))).trans ((dk_bind (dk_u2 (h 1 _ rfl) (h 2 _ rfl))).trans rfl))
theorem dk_187 {code : ByteArray} {pc : Nat} (a b : UInt8) (h : DkAt code pc [187, a, b]) : decode code pc = .ok (.new (a.toNat * 256 + b.toNat), 3) := dk_of ((dk_bind (dk_u1 (h 0 _ rfl))).trans ((dk_bind (dk_u2 (h 1 _ rfl) (h 2 _ rfl))).trans rfl))
theorem dk_188_8 {code : ByteArray} {pc : Nat} (h : DkAt code pc [188, 8]) : decode code pc = .ok (.newarray .byte, 2) := dk_of ((dk_bind (dk_u1 (h 0 _ rfl))).trans ((dk_bind (dk_u1 (h 1 _ rfl))).trans rfl))
theorem dk_188_10 {code : ByteArray} {pc : Nat} (h : DkAt code pc [188, 10]) : decode code pc = .ok (.newarray .int, 2) := dk_of ((dk_bind (dk_u1 (h 0 _ rfl))).trans ((dk_bind (dk_u1 (h 1 _ rfl))).trans rfl))
theorem dk_190 {code : ByteArray} {pc : Nat} (h : DkAt code pc [190]) : decode code pc = .ok (.arraylength, 1) := dk_of ((dk_bind (dk_u1 (h 0 _ rfl))).trans rfl)
end
section
/-! java/lang/Object -/
set_option maxRecDepth 100000
def RJ0 : String := "java/lang/Object"
abbrev cJ0_init : ByteArray := object_method_1_code
def yJ0_init : MethodName := ⟨RJ0, "<init>", "()V"⟩
theorem dJ0_init_0 : decode cJ0_init 0 = .ok (.return_, 1) := by decide +kernel
theorem q12 : (Jvm.Cond.instanceMethod ({ cls := "java/lang/Object", name := "<init>", desc := "()V" } : Jvm.MethodName)) ∈ lw_all := lw_g (lw_at lw_m0 10 rfl) rfl
theorem q13 : (Jvm.Cond.code ({ cls := "java/lang/Object", name := "<init>", desc := "()V" } : Jvm.MethodName) object_method_1_code (1 : Nat) (Option.none : Option Jvm.ClassFile.FieldType)) ∈ lw_all := lw_g (lw_at lw_m0 11 rfl) rfl
/-! WnafDesk -/
set_option maxRecDepth 100000
def RX0 : String := "WnafDesk"
def TX0 : u_T := fun k => match k with
  | 0 => ("WnafDesk", "n", "[I", true)
  | 1 => ("WnafDesk", "digits", "[B", false)
  | _ => ("WnafDesk", "width", "I", false)
def tyX0 : Nat → FieldType := fun k => match k with
  | 0 => .array .int
  | 1 => .array .byte
  | _ => .int
abbrev wsX00 : List Cond := u_ws RX0 TX0 3
theorem nmX0 : ∀ a, a < 3 → ∀ b, b < 3 → a ≠ b → (TX0 a).2.1 ≠ (TX0 b).2.1 := by decide +kernel
theorem tyX0_ok : ∀ k, k < 3 → parseFieldDescriptor (TX0 k).2.2.1 = some (tyX0 k) := by decide +kernel
abbrev cX0_init : ByteArray := prog_2_method_1_code
def yX0_init : MethodName := ⟨RX0, "<init>", "()V"⟩
def dkwX0_init_1 : List UInt8 := [181, 0, 17, 177]
abbrev dktX0_init_1 : List UInt8 := dkwX0_init_1 ++ []
def dkwX0_init_0 : List UInt8 := [42, 183, 0, 1, 42, 16, 8, 188, 10, 181, 0, 7, 42, 17, 0, 253, 188, 8, 181, 0, 13, 42, 7]
abbrev dktX0_init_0 : List UInt8 := dkwX0_init_0 ++ dktX0_init_1
theorem dksX0_init_0 : cX0_init.data.toList.drop 0 = dktX0_init_0 := by decide +kernel
theorem dksX0_init_1 : cX0_init.data.toList.drop 23 = dktX0_init_1 := dk_seg dksX0_init_0 23 rfl rfl
theorem dX0_init_0 : decode cX0_init 0 = .ok (.aload_n 0, 1) := dk_42 (dk_at dksX0_init_0 0 rfl rfl)
theorem dX0_init_1 : decode cX0_init 1 = .ok (.invokespecial 1, 3) := dk_183 0 1 (dk_at dksX0_init_0 1 rfl rfl)
theorem dX0_init_4 : decode cX0_init 4 = .ok (.aload_n 0, 1) := dk_42 (dk_at dksX0_init_0 4 rfl rfl)
theorem dX0_init_5 : decode cX0_init 5 = .ok (.bipush 8, 2) := dk_16 8 (dk_at dksX0_init_0 5 rfl rfl)
theorem dX0_init_7 : decode cX0_init 7 = .ok (.newarray .int, 2) := dk_188_10 (dk_at dksX0_init_0 7 rfl rfl)
theorem dX0_init_9 : decode cX0_init 9 = .ok (.putfield 7, 3) := dk_181 0 7 (dk_at dksX0_init_0 9 rfl rfl)
theorem dX0_init_12 : decode cX0_init 12 = .ok (.aload_n 0, 1) := dk_42 (dk_at dksX0_init_0 12 rfl rfl)
theorem dX0_init_13 : decode cX0_init 13 = .ok (.sipush 253, 3) := dk_17 0 253 (dk_at dksX0_init_0 13 rfl rfl)
theorem dX0_init_16 : decode cX0_init 16 = .ok (.newarray .byte, 2) := dk_188_8 (dk_at dksX0_init_0 16 rfl rfl)
theorem dX0_init_18 : decode cX0_init 18 = .ok (.putfield 13, 3) := dk_181 0 13 (dk_at dksX0_init_0 18 rfl rfl)
theorem dX0_init_21 : decode cX0_init 21 = .ok (.aload_n 0, 1) := dk_42 (dk_at dksX0_init_0 21 rfl rfl)
theorem dX0_init_22 : decode cX0_init 22 = .ok (.iconst 4, 1) := dk_7 (dk_at dksX0_init_0 22 rfl rfl)
theorem dX0_init_23 : decode cX0_init 23 = .ok (.putfield 17, 3) := dk_181 0 17 (dk_at dksX0_init_1 0 rfl rfl)
theorem dX0_init_26 : decode cX0_init 26 = .ok (.return_, 1) := dk_177 (dk_at dksX0_init_1 3 rfl rfl)
abbrev cX0_lay : ByteArray := prog_2_method_2_code
def yX0_lay : MethodName := ⟨RX0, "lay", "(IIIII)V"⟩
def dkwX0_lay_2 : List UInt8 := [154, 0, 7, 2, 167, 0, 5, 18, 21, 126, 79, 177]
abbrev dktX0_lay_2 : List UInt8 := dkwX0_lay_2 ++ []
def dkwX0_lay_1 : List UInt8 := [79, 42, 180, 0, 7, 21, 6, 5, 96, 21, 4, 79, 42, 180, 0, 7, 21, 6, 6, 96, 21, 5, 21, 6]
abbrev dktX0_lay_1 : List UInt8 := dkwX0_lay_1 ++ dktX0_lay_2
def dkwX0_lay_0 : List UInt8 := [27, 4, 126, 5, 120, 54, 6, 42, 180, 0, 7, 21, 6, 28, 79, 42, 180, 0, 7, 21, 6, 4, 96, 29]
abbrev dktX0_lay_0 : List UInt8 := dkwX0_lay_0 ++ dktX0_lay_1
theorem dksX0_lay_0 : cX0_lay.data.toList.drop 0 = dktX0_lay_0 := by decide +kernel
theorem dksX0_lay_1 : cX0_lay.data.toList.drop 24 = dktX0_lay_1 := dk_seg dksX0_lay_0 24 rfl rfl
theorem dksX0_lay_2 : cX0_lay.data.toList.drop 48 = dktX0_lay_2 := dk_seg dksX0_lay_1 24 rfl rfl
theorem dX0_lay_0 : decode cX0_lay 0 = .ok (.iload_n 1, 1) := dk_27 (dk_at dksX0_lay_0 0 rfl rfl)
theorem dX0_lay_1 : decode cX0_lay 1 = .ok (.iconst 1, 1) := dk_4 (dk_at dksX0_lay_0 1 rfl rfl)
theorem dX0_lay_2 : decode cX0_lay 2 = .ok (.iand, 1) := dk_126 (dk_at dksX0_lay_0 2 rfl rfl)
theorem dX0_lay_3 : decode cX0_lay 3 = .ok (.iconst 2, 1) := dk_5 (dk_at dksX0_lay_0 3 rfl rfl)
theorem dX0_lay_4 : decode cX0_lay 4 = .ok (.ishl, 1) := dk_120 (dk_at dksX0_lay_0 4 rfl rfl)
theorem dX0_lay_5 : decode cX0_lay 5 = .ok (.istore 6, 2) := dk_54 6 (dk_at dksX0_lay_0 5 rfl rfl)
theorem dX0_lay_7 : decode cX0_lay 7 = .ok (.aload_n 0, 1) := dk_42 (dk_at dksX0_lay_0 7 rfl rfl)
theorem dX0_lay_8 : decode cX0_lay 8 = .ok (.getfield 7, 3) := dk_180 0 7 (dk_at dksX0_lay_0 8 rfl rfl)
theorem dX0_lay_11 : decode cX0_lay 11 = .ok (.iload 6, 2) := dk_21 6 (dk_at dksX0_lay_0 11 rfl rfl)
theorem dX0_lay_13 : decode cX0_lay 13 = .ok (.iload_n 2, 1) := dk_28 (dk_at dksX0_lay_0 13 rfl rfl)
theorem dX0_lay_14 : decode cX0_lay 14 = .ok (.iastore, 1) := dk_79 (dk_at dksX0_lay_0 14 rfl rfl)
theorem dX0_lay_15 : decode cX0_lay 15 = .ok (.aload_n 0, 1) := dk_42 (dk_at dksX0_lay_0 15 rfl rfl)
theorem dX0_lay_16 : decode cX0_lay 16 = .ok (.getfield 7, 3) := dk_180 0 7 (dk_at dksX0_lay_0 16 rfl rfl)
theorem dX0_lay_19 : decode cX0_lay 19 = .ok (.iload 6, 2) := dk_21 6 (dk_at dksX0_lay_0 19 rfl rfl)
theorem dX0_lay_21 : decode cX0_lay 21 = .ok (.iconst 1, 1) := dk_4 (dk_at dksX0_lay_0 21 rfl rfl)
theorem dX0_lay_22 : decode cX0_lay 22 = .ok (.iadd, 1) := dk_96 (dk_at dksX0_lay_0 22 rfl rfl)
theorem dX0_lay_23 : decode cX0_lay 23 = .ok (.iload_n 3, 1) := dk_29 (dk_at dksX0_lay_0 23 rfl rfl)
theorem dX0_lay_24 : decode cX0_lay 24 = .ok (.iastore, 1) := dk_79 (dk_at dksX0_lay_1 0 rfl rfl)
theorem dX0_lay_25 : decode cX0_lay 25 = .ok (.aload_n 0, 1) := dk_42 (dk_at dksX0_lay_1 1 rfl rfl)
theorem dX0_lay_26 : decode cX0_lay 26 = .ok (.getfield 7, 3) := dk_180 0 7 (dk_at dksX0_lay_1 2 rfl rfl)
theorem dX0_lay_29 : decode cX0_lay 29 = .ok (.iload 6, 2) := dk_21 6 (dk_at dksX0_lay_1 5 rfl rfl)
theorem dX0_lay_31 : decode cX0_lay 31 = .ok (.iconst 2, 1) := dk_5 (dk_at dksX0_lay_1 7 rfl rfl)
theorem dX0_lay_32 : decode cX0_lay 32 = .ok (.iadd, 1) := dk_96 (dk_at dksX0_lay_1 8 rfl rfl)
theorem dX0_lay_33 : decode cX0_lay 33 = .ok (.iload 4, 2) := dk_21 4 (dk_at dksX0_lay_1 9 rfl rfl)
theorem dX0_lay_35 : decode cX0_lay 35 = .ok (.iastore, 1) := dk_79 (dk_at dksX0_lay_1 11 rfl rfl)
theorem dX0_lay_36 : decode cX0_lay 36 = .ok (.aload_n 0, 1) := dk_42 (dk_at dksX0_lay_1 12 rfl rfl)
theorem dX0_lay_37 : decode cX0_lay 37 = .ok (.getfield 7, 3) := dk_180 0 7 (dk_at dksX0_lay_1 13 rfl rfl)
theorem dX0_lay_40 : decode cX0_lay 40 = .ok (.iload 6, 2) := dk_21 6 (dk_at dksX0_lay_1 16 rfl rfl)
theorem dX0_lay_42 : decode cX0_lay 42 = .ok (.iconst 3, 1) := dk_6 (dk_at dksX0_lay_1 18 rfl rfl)
theorem dX0_lay_43 : decode cX0_lay 43 = .ok (.iadd, 1) := dk_96 (dk_at dksX0_lay_1 19 rfl rfl)
theorem dX0_lay_44 : decode cX0_lay 44 = .ok (.iload 5, 2) := dk_21 5 (dk_at dksX0_lay_1 20 rfl rfl)
theorem dX0_lay_46 : decode cX0_lay 46 = .ok (.iload 6, 2) := dk_21 6 (dk_at dksX0_lay_1 22 rfl rfl)
theorem dX0_lay_48 : decode cX0_lay 48 = .ok (.ifCond .ne 7, 3) := dk_154 0 7 (dk_at dksX0_lay_2 0 rfl rfl)
theorem dX0_lay_51 : decode cX0_lay 51 = .ok (.iconst (-1), 1) := dk_2 (dk_at dksX0_lay_2 3 rfl rfl)
theorem dX0_lay_52 : decode cX0_lay 52 = .ok (.goto 5, 3) := dk_167 0 5 (dk_at dksX0_lay_2 4 rfl rfl)
theorem dX0_lay_55 : decode cX0_lay 55 = .ok (.ldc 21, 2) := dk_18 21 (dk_at dksX0_lay_2 7 rfl rfl)
theorem dX0_lay_57 : decode cX0_lay 57 = .ok (.iand, 1) := dk_126 (dk_at dksX0_lay_2 9 rfl rfl)
theorem dX0_lay_58 : decode cX0_lay 58 = .ok (.iastore, 1) := dk_79 (dk_at dksX0_lay_2 10 rfl rfl)
theorem dX0_lay_59 : decode cX0_lay 59 = .ok (.return_, 1) := dk_177 (dk_at dksX0_lay_2 11 rfl rfl)
abbrev cX0_few : ByteArray := prog_2_method_3_code
def yX0_few : MethodName := ⟨RX0, "few", "(II)V"⟩
def dkwX0_few_1 : List UInt8 := [28, 79, 177]
abbrev dktX0_few_1 : List UInt8 := dkwX0_few_1 ++ []
def dkwX0_few_0 : List UInt8 := [42, 180, 0, 7, 27, 16, 7, 126, 27, 16, 7, 126, 16, 7, 160, 0, 10, 28, 18, 21, 126, 167, 0, 4]
abbrev dktX0_few_0 : List UInt8 := dkwX0_few_0 ++ dktX0_few_1
theorem dksX0_few_0 : cX0_few.data.toList.drop 0 = dktX0_few_0 := by decide +kernel
theorem dksX0_few_1 : cX0_few.data.toList.drop 24 = dktX0_few_1 := dk_seg dksX0_few_0 24 rfl rfl
theorem dX0_few_0 : decode cX0_few 0 = .ok (.aload_n 0, 1) := dk_42 (dk_at dksX0_few_0 0 rfl rfl)
theorem dX0_few_1 : decode cX0_few 1 = .ok (.getfield 7, 3) := dk_180 0 7 (dk_at dksX0_few_0 1 rfl rfl)
theorem dX0_few_4 : decode cX0_few 4 = .ok (.iload_n 1, 1) := dk_27 (dk_at dksX0_few_0 4 rfl rfl)
theorem dX0_few_5 : decode cX0_few 5 = .ok (.bipush 7, 2) := dk_16 7 (dk_at dksX0_few_0 5 rfl rfl)
theorem dX0_few_7 : decode cX0_few 7 = .ok (.iand, 1) := dk_126 (dk_at dksX0_few_0 7 rfl rfl)
theorem dX0_few_8 : decode cX0_few 8 = .ok (.iload_n 1, 1) := dk_27 (dk_at dksX0_few_0 8 rfl rfl)
theorem dX0_few_9 : decode cX0_few 9 = .ok (.bipush 7, 2) := dk_16 7 (dk_at dksX0_few_0 9 rfl rfl)
theorem dX0_few_11 : decode cX0_few 11 = .ok (.iand, 1) := dk_126 (dk_at dksX0_few_0 11 rfl rfl)
theorem dX0_few_12 : decode cX0_few 12 = .ok (.bipush 7, 2) := dk_16 7 (dk_at dksX0_few_0 12 rfl rfl)
theorem dX0_few_14 : decode cX0_few 14 = .ok (.if_icmp .ne 10, 3) := dk_160 0 10 (dk_at dksX0_few_0 14 rfl rfl)
theorem dX0_few_17 : decode cX0_few 17 = .ok (.iload_n 2, 1) := dk_28 (dk_at dksX0_few_0 17 rfl rfl)
theorem dX0_few_18 : decode cX0_few 18 = .ok (.ldc 21, 2) := dk_18 21 (dk_at dksX0_few_0 18 rfl rfl)
theorem dX0_few_20 : decode cX0_few 20 = .ok (.iand, 1) := dk_126 (dk_at dksX0_few_0 20 rfl rfl)
theorem dX0_few_21 : decode cX0_few 21 = .ok (.goto 4, 3) := dk_167 0 4 (dk_at dksX0_few_0 21 rfl rfl)
theorem dX0_few_24 : decode cX0_few 24 = .ok (.iload_n 2, 1) := dk_28 (dk_at dksX0_few_1 0 rfl rfl)
theorem dX0_few_25 : decode cX0_few 25 = .ok (.iastore, 1) := dk_79 (dk_at dksX0_few_1 1 rfl rfl)
theorem dX0_few_26 : decode cX0_few 26 = .ok (.return_, 1) := dk_177 (dk_at dksX0_few_1 2 rfl rfl)
abbrev cX0_find : ByteArray := prog_2_method_4_code
def yX0_find : MethodName := ⟨RX0, "find", "(I)V"⟩
def dkwX0_find_1 : List UInt8 := [184, 0, 22, 42, 44, 181, 0, 13, 177]
abbrev dktX0_find_1 : List UInt8 := dkwX0_find_1 ++ []
def dkwX0_find_0 : List UInt8 := [42, 6, 27, 6, 126, 96, 181, 0, 17, 17, 0, 253, 188, 8, 77, 42, 180, 0, 7, 42, 180, 0, 17, 44]
abbrev dktX0_find_0 : List UInt8 := dkwX0_find_0 ++ dktX0_find_1
theorem dksX0_find_0 : cX0_find.data.toList.drop 0 = dktX0_find_0 := by decide +kernel
theorem dksX0_find_1 : cX0_find.data.toList.drop 24 = dktX0_find_1 := dk_seg dksX0_find_0 24 rfl rfl
theorem dX0_find_0 : decode cX0_find 0 = .ok (.aload_n 0, 1) := dk_42 (dk_at dksX0_find_0 0 rfl rfl)
theorem dX0_find_1 : decode cX0_find 1 = .ok (.iconst 3, 1) := dk_6 (dk_at dksX0_find_0 1 rfl rfl)
theorem dX0_find_2 : decode cX0_find 2 = .ok (.iload_n 1, 1) := dk_27 (dk_at dksX0_find_0 2 rfl rfl)
theorem dX0_find_3 : decode cX0_find 3 = .ok (.iconst 3, 1) := dk_6 (dk_at dksX0_find_0 3 rfl rfl)
theorem dX0_find_4 : decode cX0_find 4 = .ok (.iand, 1) := dk_126 (dk_at dksX0_find_0 4 rfl rfl)
theorem dX0_find_5 : decode cX0_find 5 = .ok (.iadd, 1) := dk_96 (dk_at dksX0_find_0 5 rfl rfl)
theorem dX0_find_6 : decode cX0_find 6 = .ok (.putfield 17, 3) := dk_181 0 17 (dk_at dksX0_find_0 6 rfl rfl)
theorem dX0_find_9 : decode cX0_find 9 = .ok (.sipush 253, 3) := dk_17 0 253 (dk_at dksX0_find_0 9 rfl rfl)
theorem dX0_find_12 : decode cX0_find 12 = .ok (.newarray .byte, 2) := dk_188_8 (dk_at dksX0_find_0 12 rfl rfl)
theorem dX0_find_14 : decode cX0_find 14 = .ok (.astore_n 2, 1) := dk_77 (dk_at dksX0_find_0 14 rfl rfl)
theorem dX0_find_15 : decode cX0_find 15 = .ok (.aload_n 0, 1) := dk_42 (dk_at dksX0_find_0 15 rfl rfl)
theorem dX0_find_16 : decode cX0_find 16 = .ok (.getfield 7, 3) := dk_180 0 7 (dk_at dksX0_find_0 16 rfl rfl)
theorem dX0_find_19 : decode cX0_find 19 = .ok (.aload_n 0, 1) := dk_42 (dk_at dksX0_find_0 19 rfl rfl)
theorem dX0_find_20 : decode cX0_find 20 = .ok (.getfield 17, 3) := dk_180 0 17 (dk_at dksX0_find_0 20 rfl rfl)
theorem dX0_find_23 : decode cX0_find 23 = .ok (.aload_n 2, 1) := dk_44 (dk_at dksX0_find_0 23 rfl rfl)
theorem dX0_find_24 : decode cX0_find 24 = .ok (.invokestatic 22, 3) := dk_184 0 22 (dk_at dksX0_find_1 0 rfl rfl)
theorem dX0_find_27 : decode cX0_find 27 = .ok (.aload_n 0, 1) := dk_42 (dk_at dksX0_find_1 3 rfl rfl)
theorem dX0_find_28 : decode cX0_find 28 = .ok (.aload_n 2, 1) := dk_44 (dk_at dksX0_find_1 4 rfl rfl)
theorem dX0_find_29 : decode cX0_find 29 = .ok (.putfield 13, 3) := dk_181 0 13 (dk_at dksX0_find_1 5 rfl rfl)
theorem dX0_find_32 : decode cX0_find 32 = .ok (.return_, 1) := dk_177 (dk_at dksX0_find_1 8 rfl rfl)
abbrev cX0_digit : ByteArray := prog_2_method_5_code
def yX0_digit : MethodName := ⟨RX0, "digit", "(I)I"⟩
def dkwX0_digit_0 : List UInt8 := [42, 180, 0, 13, 27, 18, 28, 126, 17, 0, 253, 112, 51, 172]
abbrev dktX0_digit_0 : List UInt8 := dkwX0_digit_0 ++ []
theorem dksX0_digit_0 : cX0_digit.data.toList.drop 0 = dktX0_digit_0 := by decide +kernel
theorem dX0_digit_0 : decode cX0_digit 0 = .ok (.aload_n 0, 1) := dk_42 (dk_at dksX0_digit_0 0 rfl rfl)
theorem dX0_digit_1 : decode cX0_digit 1 = .ok (.getfield 13, 3) := dk_180 0 13 (dk_at dksX0_digit_0 1 rfl rfl)
theorem dX0_digit_4 : decode cX0_digit 4 = .ok (.iload_n 1, 1) := dk_27 (dk_at dksX0_digit_0 4 rfl rfl)
theorem dX0_digit_5 : decode cX0_digit 5 = .ok (.ldc 28, 2) := dk_18 28 (dk_at dksX0_digit_0 5 rfl rfl)
theorem dX0_digit_7 : decode cX0_digit 7 = .ok (.iand, 1) := dk_126 (dk_at dksX0_digit_0 7 rfl rfl)
theorem dX0_digit_8 : decode cX0_digit 8 = .ok (.sipush 253, 3) := dk_17 0 253 (dk_at dksX0_digit_0 8 rfl rfl)
theorem dX0_digit_11 : decode cX0_digit 11 = .ok (.irem, 1) := dk_112 (dk_at dksX0_digit_0 11 rfl rfl)
theorem dX0_digit_12 : decode cX0_digit 12 = .ok (.baload, 1) := dk_51 (dk_at dksX0_digit_0 12 rfl rfl)
theorem dX0_digit_13 : decode cX0_digit 13 = .ok (.ireturn, 1) := dk_172 (dk_at dksX0_digit_0 13 rfl rfl)
abbrev cX0_width : ByteArray := prog_2_method_6_code
def yX0_width : MethodName := ⟨RX0, "width", "()I"⟩
theorem dX0_width_0 : decode cX0_width 0 = .ok (.aload_n 0, 1) := by decide +kernel
theorem dX0_width_1 : decode cX0_width 1 = .ok (.getfield 17, 3) := by decide +kernel
theorem dX0_width_4 : decode cX0_width 4 = .ok (.ireturn, 1) := by decide +kernel
theorem q3 : (Jvm.Cond.initialized "WnafDesk") ∈ lw_all := lw_g (lw_at lw_m0 1 rfl) rfl
theorem q7 : (Jvm.Cond.instantiable "WnafDesk" (3 : Nat)) ∈ lw_all := lw_g (lw_at lw_m0 5 rfl) rfl
theorem q9 : (Jvm.Cond.instanceMethod ({ cls := "WnafDesk", name := "<init>", desc := "()V" } : Jvm.MethodName)) ∈ lw_all := lw_g (lw_at lw_m0 7 rfl) rfl
theorem q10 : (Jvm.Cond.code ({ cls := "WnafDesk", name := "<init>", desc := "()V" } : Jvm.MethodName) prog_2_method_1_code (1 : Nat) (Option.none : Option Jvm.ClassFile.FieldType)) ∈ lw_all := lw_g (lw_at lw_m0 8 rfl) rfl
theorem q11 : (Jvm.Cond.methodLink "WnafDesk" (1 : Nat) ({ cls := "java/lang/Object", name := "<init>", desc := "()V" } : Jvm.MethodName)) ∈ lw_all := lw_g (lw_at lw_m0 9 rfl) rfl
theorem q14 : (Jvm.Cond.fieldLink "WnafDesk" (7 : Nat) "WnafDesk" "n" "[I") ∈ lw_all := lw_g (lw_at lw_m0 12 rfl) rfl
theorem q15 : (Jvm.Cond.fieldLink "WnafDesk" (13 : Nat) "WnafDesk" "digits" "[B") ∈ lw_all := lw_g (lw_at lw_m0 13 rfl) rfl
theorem q16 : (Jvm.Cond.fieldLink "WnafDesk" (17 : Nat) "WnafDesk" "width" "I") ∈ lw_all := lw_g (lw_at lw_m0 14 rfl) rfl
theorem q17 : (Jvm.Cond.laysFinal "WnafDesk" "WnafDesk" "n" "[I") ∈ lw_all := lw_g (lw_at lw_m0 15 rfl) rfl
theorem q18 : (Jvm.Cond.soleField "WnafDesk" "n") ∈ lw_all := lw_g (lw_at lw_m0 16 rfl) rfl
theorem q19 : (Jvm.Cond.lays "WnafDesk" "WnafDesk" "digits" "[B") ∈ lw_all := lw_g (lw_at lw_m0 17 rfl) rfl
theorem q20 : (Jvm.Cond.soleField "WnafDesk" "digits") ∈ lw_all := lw_g (lw_at lw_m0 18 rfl) rfl
theorem q21 : (Jvm.Cond.lays "WnafDesk" "WnafDesk" "width" "I") ∈ lw_all := lw_g (lw_at lw_m0 19 rfl) rfl
theorem q22 : (Jvm.Cond.soleField "WnafDesk" "width") ∈ lw_all := lw_g (lw_at lw_m0 20 rfl) rfl
theorem q23 : (Jvm.Cond.superclass "WnafDesk" "java/lang/Object") ∈ lw_all := lw_g (lw_at lw_m0 21 rfl) rfl
theorem q27 : (Jvm.Cond.instanceMethod ({ cls := "WnafDesk", name := "lay", desc := "(IIIII)V" } : Jvm.MethodName)) ∈ lw_all := lw_g (lw_at lw_m0 25 rfl) rfl
theorem q28 : (Jvm.Cond.selects "WnafDesk" ({ cls := "WnafDesk", name := "lay", desc := "(IIIII)V" } : Jvm.MethodName) ({ cls := "WnafDesk", name := "lay", desc := "(IIIII)V" } : Jvm.MethodName)) ∈ lw_all := lw_g (lw_at lw_m0 26 rfl) rfl
theorem q29 : (Jvm.Cond.code ({ cls := "WnafDesk", name := "lay", desc := "(IIIII)V" } : Jvm.MethodName) prog_2_method_2_code (7 : Nat) (Option.none : Option Jvm.ClassFile.FieldType)) ∈ lw_all := lw_g (lw_at lw_m0 27 rfl) rfl
theorem q30 : (Jvm.Cond.constant "WnafDesk" (21 : Nat) (268435455 : Int32)) ∈ lw_all := lw_g (lw_at lw_m0 28 rfl) rfl
theorem q32 : (Jvm.Cond.instanceMethod ({ cls := "WnafDesk", name := "few", desc := "(II)V" } : Jvm.MethodName)) ∈ lw_all := lw_g (lw_at lw_m0 30 rfl) rfl
theorem q33 : (Jvm.Cond.selects "WnafDesk" ({ cls := "WnafDesk", name := "few", desc := "(II)V" } : Jvm.MethodName) ({ cls := "WnafDesk", name := "few", desc := "(II)V" } : Jvm.MethodName)) ∈ lw_all := lw_g (lw_at lw_m0 31 rfl) rfl
theorem q34 : (Jvm.Cond.code ({ cls := "WnafDesk", name := "few", desc := "(II)V" } : Jvm.MethodName) prog_2_method_3_code (3 : Nat) (Option.none : Option Jvm.ClassFile.FieldType)) ∈ lw_all := lw_g (lw_at lw_m0 32 rfl) rfl
theorem q36 : (Jvm.Cond.instanceMethod ({ cls := "WnafDesk", name := "find", desc := "(I)V" } : Jvm.MethodName)) ∈ lw_all := lw_g (lw_at lw_m0 34 rfl) rfl
theorem q37 : (Jvm.Cond.selects "WnafDesk" ({ cls := "WnafDesk", name := "find", desc := "(I)V" } : Jvm.MethodName) ({ cls := "WnafDesk", name := "find", desc := "(I)V" } : Jvm.MethodName)) ∈ lw_all := lw_g (lw_at lw_m0 35 rfl) rfl
theorem q38 : (Jvm.Cond.code ({ cls := "WnafDesk", name := "find", desc := "(I)V" } : Jvm.MethodName) prog_2_method_4_code (3 : Nat) (Option.none : Option Jvm.ClassFile.FieldType)) ∈ lw_all := lw_g (lw_at lw_m0 36 rfl) rfl
theorem q39 : (Jvm.Cond.methodLink "WnafDesk" (22 : Nat) ({ cls := "Wnaf", name := "getSignedVar", desc := "([II[B)V" } : Jvm.MethodName)) ∈ lw_all := lw_g (lw_at lw_m0 37 rfl) rfl
theorem q43 : (Jvm.Cond.instanceMethod ({ cls := "WnafDesk", name := "digit", desc := "(I)I" } : Jvm.MethodName)) ∈ lw_all := lw_g (lw_at lw_m0 41 rfl) rfl
theorem q44 : (Jvm.Cond.selects "WnafDesk" ({ cls := "WnafDesk", name := "digit", desc := "(I)I" } : Jvm.MethodName) ({ cls := "WnafDesk", name := "digit", desc := "(I)I" } : Jvm.MethodName)) ∈ lw_all := lw_g (lw_at lw_m0 42 rfl) rfl
theorem q45 : (Jvm.Cond.code ({ cls := "WnafDesk", name := "digit", desc := "(I)I" } : Jvm.MethodName) prog_2_method_5_code (2 : Nat) (Option.some Jvm.ClassFile.FieldType.int)) ∈ lw_all := lw_g (lw_at lw_m0 43 rfl) rfl
theorem q46 : (Jvm.Cond.constant "WnafDesk" (28 : Nat) (2147483647 : Int32)) ∈ lw_all := lw_g (lw_at lw_m0 44 rfl) rfl
theorem q48 : (Jvm.Cond.instanceMethod ({ cls := "WnafDesk", name := "width", desc := "()I" } : Jvm.MethodName)) ∈ lw_all := lw_g (lw_at lw_m0 46 rfl) rfl
theorem q49 : (Jvm.Cond.selects "WnafDesk" ({ cls := "WnafDesk", name := "width", desc := "()I" } : Jvm.MethodName) ({ cls := "WnafDesk", name := "width", desc := "()I" } : Jvm.MethodName)) ∈ lw_all := lw_g (lw_at lw_m0 47 rfl) rfl
theorem q50 : (Jvm.Cond.code ({ cls := "WnafDesk", name := "width", desc := "()I" } : Jvm.MethodName) prog_2_method_6_code (1 : Nat) (Option.some Jvm.ClassFile.FieldType.int)) ∈ lw_all := lw_g (lw_at lw_m0 48 rfl) rfl
theorem in_X0 : ∀ w ∈ wsX00, w ∈ lw_all := lw_in wsX00 [17, 19, 21] (by decide +kernel) (by decide +kernel)
/-! Wnaf -/
set_option maxRecDepth 100000
def RX2 : String := "Wnaf"
abbrev cX2_getSignedVar : ByteArray := prog_1_method_2_code
def yX2_getSignedVar : MethodName := ⟨RX2, "getSignedVar", "([II[B)V"⟩
def dkwX2_getSignedVar_7 : List UInt8 := [122, 145, 84, 21, 5, 27, 96, 54, 5, 167, 255, 186, 132, 7, 1, 132, 5, 240, 167, 255, 164, 177]
abbrev dktX2_getSignedVar_7 : List UInt8 := dkwX2_getSignedVar_7 ++ []
def dkwX2_getSignedVar_6 : List UInt8 := [21, 4, 120, 54, 11, 21, 11, 16, 31, 124, 54, 6, 44, 21, 7, 7, 120, 21, 5, 96, 21, 11, 21, 4]
abbrev dktX2_getSignedVar_6 : List UInt8 := dkwX2_getSignedVar_6 ++ dktX2_getSignedVar_7
def dkwX2_getSignedVar_5 : List UInt8 := [21, 9, 4, 126, 54, 10, 21, 10, 21, 6, 160, 0, 9, 132, 5, 1, 167, 255, 226, 21, 9, 4, 128]
abbrev dktX2_getSignedVar_5 : List UInt8 := dkwX2_getSignedVar_5 ++ dktX2_getSignedVar_6
def dkwX2_getSignedVar_4 : List UInt8 := [162, 0, 91, 45, 21, 7, 46, 54, 8, 21, 5, 16, 16, 162, 0, 69, 21, 8, 21, 5, 124, 54, 9]
abbrev dktX2_getSignedVar_4 : List UInt8 := dkwX2_getSignedVar_4 ++ dktX2_getSignedVar_5
def dkwX2_getSignedVar_3 : List UInt8 := [167, 255, 212, 16, 32, 27, 100, 54, 4, 3, 54, 5, 3, 54, 6, 3, 54, 7, 21, 7, 45, 190]
abbrev dktX2_getSignedVar_3 : List UInt8 := dkwX2_getSignedVar_3 ++ dktX2_getSignedVar_4
def dkwX2_getSignedVar_2 : List UInt8 := [16, 16, 124, 21, 4, 16, 16, 120, 128, 79, 45, 132, 6, 255, 21, 6, 21, 7, 89, 54, 4, 79]
abbrev dktX2_getSignedVar_2 : List UInt8 := dkwX2_getSignedVar_2 ++ dktX2_getSignedVar_3
def dkwX2_getSignedVar_1 : List UInt8 := [54, 6, 132, 5, 255, 21, 5, 155, 0, 42, 42, 21, 5, 46, 54, 7, 45, 132, 6, 255, 21, 6, 21, 7]
abbrev dktX2_getSignedVar_1 : List UInt8 := dkwX2_getSignedVar_1 ++ dktX2_getSignedVar_2
def dkwX2_getSignedVar_0 : List UInt8 := [42, 190, 5, 104, 188, 10, 78, 42, 42, 190, 4, 100, 46, 16, 31, 122, 54, 4, 42, 190, 54, 5, 45, 190]
abbrev dktX2_getSignedVar_0 : List UInt8 := dkwX2_getSignedVar_0 ++ dktX2_getSignedVar_1
theorem dksX2_getSignedVar_0 : cX2_getSignedVar.data.toList.drop 0 = dktX2_getSignedVar_0 := by decide +kernel
theorem dksX2_getSignedVar_1 : cX2_getSignedVar.data.toList.drop 24 = dktX2_getSignedVar_1 := dk_seg dksX2_getSignedVar_0 24 rfl rfl
theorem dksX2_getSignedVar_2 : cX2_getSignedVar.data.toList.drop 48 = dktX2_getSignedVar_2 := dk_seg dksX2_getSignedVar_1 24 rfl rfl
theorem dksX2_getSignedVar_3 : cX2_getSignedVar.data.toList.drop 70 = dktX2_getSignedVar_3 := dk_seg dksX2_getSignedVar_2 22 rfl rfl
theorem dksX2_getSignedVar_4 : cX2_getSignedVar.data.toList.drop 92 = dktX2_getSignedVar_4 := dk_seg dksX2_getSignedVar_3 22 rfl rfl
theorem dksX2_getSignedVar_5 : cX2_getSignedVar.data.toList.drop 115 = dktX2_getSignedVar_5 := dk_seg dksX2_getSignedVar_4 23 rfl rfl
theorem dksX2_getSignedVar_6 : cX2_getSignedVar.data.toList.drop 138 = dktX2_getSignedVar_6 := dk_seg dksX2_getSignedVar_5 23 rfl rfl
theorem dksX2_getSignedVar_7 : cX2_getSignedVar.data.toList.drop 162 = dktX2_getSignedVar_7 := dk_seg dksX2_getSignedVar_6 24 rfl rfl
theorem dX2_getSignedVar_0 : decode cX2_getSignedVar 0 = .ok (.aload_n 0, 1) := dk_42 (dk_at dksX2_getSignedVar_0 0 rfl rfl)
theorem dX2_getSignedVar_1 : decode cX2_getSignedVar 1 = .ok (.arraylength, 1) := dk_190 (dk_at dksX2_getSignedVar_0 1 rfl rfl)
theorem dX2_getSignedVar_2 : decode cX2_getSignedVar 2 = .ok (.iconst 2, 1) := dk_5 (dk_at dksX2_getSignedVar_0 2 rfl rfl)
theorem dX2_getSignedVar_3 : decode cX2_getSignedVar 3 = .ok (.imul, 1) := dk_104 (dk_at dksX2_getSignedVar_0 3 rfl rfl)
theorem dX2_getSignedVar_4 : decode cX2_getSignedVar 4 = .ok (.newarray .int, 2) := dk_188_10 (dk_at dksX2_getSignedVar_0 4 rfl rfl)
theorem dX2_getSignedVar_6 : decode cX2_getSignedVar 6 = .ok (.astore_n 3, 1) := dk_78 (dk_at dksX2_getSignedVar_0 6 rfl rfl)
theorem dX2_getSignedVar_7 : decode cX2_getSignedVar 7 = .ok (.aload_n 0, 1) := dk_42 (dk_at dksX2_getSignedVar_0 7 rfl rfl)
theorem dX2_getSignedVar_8 : decode cX2_getSignedVar 8 = .ok (.aload_n 0, 1) := dk_42 (dk_at dksX2_getSignedVar_0 8 rfl rfl)
theorem dX2_getSignedVar_9 : decode cX2_getSignedVar 9 = .ok (.arraylength, 1) := dk_190 (dk_at dksX2_getSignedVar_0 9 rfl rfl)
theorem dX2_getSignedVar_10 : decode cX2_getSignedVar 10 = .ok (.iconst 1, 1) := dk_4 (dk_at dksX2_getSignedVar_0 10 rfl rfl)
theorem dX2_getSignedVar_11 : decode cX2_getSignedVar 11 = .ok (.isub, 1) := dk_100 (dk_at dksX2_getSignedVar_0 11 rfl rfl)
theorem dX2_getSignedVar_12 : decode cX2_getSignedVar 12 = .ok (.iaload, 1) := dk_46 (dk_at dksX2_getSignedVar_0 12 rfl rfl)
theorem dX2_getSignedVar_13 : decode cX2_getSignedVar 13 = .ok (.bipush 31, 2) := dk_16 31 (dk_at dksX2_getSignedVar_0 13 rfl rfl)
theorem dX2_getSignedVar_15 : decode cX2_getSignedVar 15 = .ok (.ishr, 1) := dk_122 (dk_at dksX2_getSignedVar_0 15 rfl rfl)
theorem dX2_getSignedVar_16 : decode cX2_getSignedVar 16 = .ok (.istore 4, 2) := dk_54 4 (dk_at dksX2_getSignedVar_0 16 rfl rfl)
theorem dX2_getSignedVar_18 : decode cX2_getSignedVar 18 = .ok (.aload_n 0, 1) := dk_42 (dk_at dksX2_getSignedVar_0 18 rfl rfl)
theorem dX2_getSignedVar_19 : decode cX2_getSignedVar 19 = .ok (.arraylength, 1) := dk_190 (dk_at dksX2_getSignedVar_0 19 rfl rfl)
theorem dX2_getSignedVar_20 : decode cX2_getSignedVar 20 = .ok (.istore 5, 2) := dk_54 5 (dk_at dksX2_getSignedVar_0 20 rfl rfl)
theorem dX2_getSignedVar_22 : decode cX2_getSignedVar 22 = .ok (.aload_n 3, 1) := dk_45 (dk_at dksX2_getSignedVar_0 22 rfl rfl)
theorem dX2_getSignedVar_23 : decode cX2_getSignedVar 23 = .ok (.arraylength, 1) := dk_190 (dk_at dksX2_getSignedVar_0 23 rfl rfl)
theorem dX2_getSignedVar_24 : decode cX2_getSignedVar 24 = .ok (.istore 6, 2) := dk_54 6 (dk_at dksX2_getSignedVar_1 0 rfl rfl)
theorem dX2_getSignedVar_26 : decode cX2_getSignedVar 26 = .ok (.iinc 5 (-1), 3) := dk_132 5 255 (dk_at dksX2_getSignedVar_1 2 rfl rfl)
theorem dX2_getSignedVar_29 : decode cX2_getSignedVar 29 = .ok (.iload 5, 2) := dk_21 5 (dk_at dksX2_getSignedVar_1 5 rfl rfl)
theorem dX2_getSignedVar_31 : decode cX2_getSignedVar 31 = .ok (.ifCond .lt 42, 3) := dk_155 0 42 (dk_at dksX2_getSignedVar_1 7 rfl rfl)
theorem dX2_getSignedVar_34 : decode cX2_getSignedVar 34 = .ok (.aload_n 0, 1) := dk_42 (dk_at dksX2_getSignedVar_1 10 rfl rfl)
theorem dX2_getSignedVar_35 : decode cX2_getSignedVar 35 = .ok (.iload 5, 2) := dk_21 5 (dk_at dksX2_getSignedVar_1 11 rfl rfl)
theorem dX2_getSignedVar_37 : decode cX2_getSignedVar 37 = .ok (.iaload, 1) := dk_46 (dk_at dksX2_getSignedVar_1 13 rfl rfl)
theorem dX2_getSignedVar_38 : decode cX2_getSignedVar 38 = .ok (.istore 7, 2) := dk_54 7 (dk_at dksX2_getSignedVar_1 14 rfl rfl)
theorem dX2_getSignedVar_40 : decode cX2_getSignedVar 40 = .ok (.aload_n 3, 1) := dk_45 (dk_at dksX2_getSignedVar_1 16 rfl rfl)
theorem dX2_getSignedVar_41 : decode cX2_getSignedVar 41 = .ok (.iinc 6 (-1), 3) := dk_132 6 255 (dk_at dksX2_getSignedVar_1 17 rfl rfl)
theorem dX2_getSignedVar_44 : decode cX2_getSignedVar 44 = .ok (.iload 6, 2) := dk_21 6 (dk_at dksX2_getSignedVar_1 20 rfl rfl)
theorem dX2_getSignedVar_46 : decode cX2_getSignedVar 46 = .ok (.iload 7, 2) := dk_21 7 (dk_at dksX2_getSignedVar_1 22 rfl rfl)
theorem dX2_getSignedVar_48 : decode cX2_getSignedVar 48 = .ok (.bipush 16, 2) := dk_16 16 (dk_at dksX2_getSignedVar_2 0 rfl rfl)
theorem dX2_getSignedVar_50 : decode cX2_getSignedVar 50 = .ok (.iushr, 1) := dk_124 (dk_at dksX2_getSignedVar_2 2 rfl rfl)
theorem dX2_getSignedVar_51 : decode cX2_getSignedVar 51 = .ok (.iload 4, 2) := dk_21 4 (dk_at dksX2_getSignedVar_2 3 rfl rfl)
theorem dX2_getSignedVar_53 : decode cX2_getSignedVar 53 = .ok (.bipush 16, 2) := dk_16 16 (dk_at dksX2_getSignedVar_2 5 rfl rfl)
theorem dX2_getSignedVar_55 : decode cX2_getSignedVar 55 = .ok (.ishl, 1) := dk_120 (dk_at dksX2_getSignedVar_2 7 rfl rfl)
theorem dX2_getSignedVar_56 : decode cX2_getSignedVar 56 = .ok (.ior, 1) := dk_128 (dk_at dksX2_getSignedVar_2 8 rfl rfl)
theorem dX2_getSignedVar_57 : decode cX2_getSignedVar 57 = .ok (.iastore, 1) := dk_79 (dk_at dksX2_getSignedVar_2 9 rfl rfl)
theorem dX2_getSignedVar_58 : decode cX2_getSignedVar 58 = .ok (.aload_n 3, 1) := dk_45 (dk_at dksX2_getSignedVar_2 10 rfl rfl)
theorem dX2_getSignedVar_59 : decode cX2_getSignedVar 59 = .ok (.iinc 6 (-1), 3) := dk_132 6 255 (dk_at dksX2_getSignedVar_2 11 rfl rfl)
theorem dX2_getSignedVar_62 : decode cX2_getSignedVar 62 = .ok (.iload 6, 2) := dk_21 6 (dk_at dksX2_getSignedVar_2 14 rfl rfl)
theorem dX2_getSignedVar_64 : decode cX2_getSignedVar 64 = .ok (.iload 7, 2) := dk_21 7 (dk_at dksX2_getSignedVar_2 16 rfl rfl)
theorem dX2_getSignedVar_66 : decode cX2_getSignedVar 66 = .ok (.dup, 1) := dk_89 (dk_at dksX2_getSignedVar_2 18 rfl rfl)
theorem dX2_getSignedVar_67 : decode cX2_getSignedVar 67 = .ok (.istore 4, 2) := dk_54 4 (dk_at dksX2_getSignedVar_2 19 rfl rfl)
theorem dX2_getSignedVar_69 : decode cX2_getSignedVar 69 = .ok (.iastore, 1) := dk_79 (dk_at dksX2_getSignedVar_2 21 rfl rfl)
theorem dX2_getSignedVar_70 : decode cX2_getSignedVar 70 = .ok (.goto (-44), 3) := dk_167 255 212 (dk_at dksX2_getSignedVar_3 0 rfl rfl)
theorem dX2_getSignedVar_73 : decode cX2_getSignedVar 73 = .ok (.bipush 32, 2) := dk_16 32 (dk_at dksX2_getSignedVar_3 3 rfl rfl)
theorem dX2_getSignedVar_75 : decode cX2_getSignedVar 75 = .ok (.iload_n 1, 1) := dk_27 (dk_at dksX2_getSignedVar_3 5 rfl rfl)
theorem dX2_getSignedVar_76 : decode cX2_getSignedVar 76 = .ok (.isub, 1) := dk_100 (dk_at dksX2_getSignedVar_3 6 rfl rfl)
theorem dX2_getSignedVar_77 : decode cX2_getSignedVar 77 = .ok (.istore 4, 2) := dk_54 4 (dk_at dksX2_getSignedVar_3 7 rfl rfl)
theorem dX2_getSignedVar_79 : decode cX2_getSignedVar 79 = .ok (.iconst 0, 1) := dk_3 (dk_at dksX2_getSignedVar_3 9 rfl rfl)
theorem dX2_getSignedVar_80 : decode cX2_getSignedVar 80 = .ok (.istore 5, 2) := dk_54 5 (dk_at dksX2_getSignedVar_3 10 rfl rfl)
theorem dX2_getSignedVar_82 : decode cX2_getSignedVar 82 = .ok (.iconst 0, 1) := dk_3 (dk_at dksX2_getSignedVar_3 12 rfl rfl)
theorem dX2_getSignedVar_83 : decode cX2_getSignedVar 83 = .ok (.istore 6, 2) := dk_54 6 (dk_at dksX2_getSignedVar_3 13 rfl rfl)
theorem dX2_getSignedVar_85 : decode cX2_getSignedVar 85 = .ok (.iconst 0, 1) := dk_3 (dk_at dksX2_getSignedVar_3 15 rfl rfl)
theorem dX2_getSignedVar_86 : decode cX2_getSignedVar 86 = .ok (.istore 7, 2) := dk_54 7 (dk_at dksX2_getSignedVar_3 16 rfl rfl)
theorem dX2_getSignedVar_88 : decode cX2_getSignedVar 88 = .ok (.iload 7, 2) := dk_21 7 (dk_at dksX2_getSignedVar_3 18 rfl rfl)
theorem dX2_getSignedVar_90 : decode cX2_getSignedVar 90 = .ok (.aload_n 3, 1) := dk_45 (dk_at dksX2_getSignedVar_3 20 rfl rfl)
theorem dX2_getSignedVar_91 : decode cX2_getSignedVar 91 = .ok (.arraylength, 1) := dk_190 (dk_at dksX2_getSignedVar_3 21 rfl rfl)
theorem dX2_getSignedVar_92 : decode cX2_getSignedVar 92 = .ok (.if_icmp .ge 91, 3) := dk_162 0 91 (dk_at dksX2_getSignedVar_4 0 rfl rfl)
theorem dX2_getSignedVar_95 : decode cX2_getSignedVar 95 = .ok (.aload_n 3, 1) := dk_45 (dk_at dksX2_getSignedVar_4 3 rfl rfl)
theorem dX2_getSignedVar_96 : decode cX2_getSignedVar 96 = .ok (.iload 7, 2) := dk_21 7 (dk_at dksX2_getSignedVar_4 4 rfl rfl)
theorem dX2_getSignedVar_98 : decode cX2_getSignedVar 98 = .ok (.iaload, 1) := dk_46 (dk_at dksX2_getSignedVar_4 6 rfl rfl)
theorem dX2_getSignedVar_99 : decode cX2_getSignedVar 99 = .ok (.istore 8, 2) := dk_54 8 (dk_at dksX2_getSignedVar_4 7 rfl rfl)
theorem dX2_getSignedVar_101 : decode cX2_getSignedVar 101 = .ok (.iload 5, 2) := dk_21 5 (dk_at dksX2_getSignedVar_4 9 rfl rfl)
theorem dX2_getSignedVar_103 : decode cX2_getSignedVar 103 = .ok (.bipush 16, 2) := dk_16 16 (dk_at dksX2_getSignedVar_4 11 rfl rfl)
theorem dX2_getSignedVar_105 : decode cX2_getSignedVar 105 = .ok (.if_icmp .ge 69, 3) := dk_162 0 69 (dk_at dksX2_getSignedVar_4 13 rfl rfl)
theorem dX2_getSignedVar_108 : decode cX2_getSignedVar 108 = .ok (.iload 8, 2) := dk_21 8 (dk_at dksX2_getSignedVar_4 16 rfl rfl)
theorem dX2_getSignedVar_110 : decode cX2_getSignedVar 110 = .ok (.iload 5, 2) := dk_21 5 (dk_at dksX2_getSignedVar_4 18 rfl rfl)
theorem dX2_getSignedVar_112 : decode cX2_getSignedVar 112 = .ok (.iushr, 1) := dk_124 (dk_at dksX2_getSignedVar_4 20 rfl rfl)
theorem dX2_getSignedVar_113 : decode cX2_getSignedVar 113 = .ok (.istore 9, 2) := dk_54 9 (dk_at dksX2_getSignedVar_4 21 rfl rfl)
theorem dX2_getSignedVar_115 : decode cX2_getSignedVar 115 = .ok (.iload 9, 2) := dk_21 9 (dk_at dksX2_getSignedVar_5 0 rfl rfl)
theorem dX2_getSignedVar_117 : decode cX2_getSignedVar 117 = .ok (.iconst 1, 1) := dk_4 (dk_at dksX2_getSignedVar_5 2 rfl rfl)
theorem dX2_getSignedVar_118 : decode cX2_getSignedVar 118 = .ok (.iand, 1) := dk_126 (dk_at dksX2_getSignedVar_5 3 rfl rfl)
theorem dX2_getSignedVar_119 : decode cX2_getSignedVar 119 = .ok (.istore 10, 2) := dk_54 10 (dk_at dksX2_getSignedVar_5 4 rfl rfl)
theorem dX2_getSignedVar_121 : decode cX2_getSignedVar 121 = .ok (.iload 10, 2) := dk_21 10 (dk_at dksX2_getSignedVar_5 6 rfl rfl)
theorem dX2_getSignedVar_123 : decode cX2_getSignedVar 123 = .ok (.iload 6, 2) := dk_21 6 (dk_at dksX2_getSignedVar_5 8 rfl rfl)
theorem dX2_getSignedVar_125 : decode cX2_getSignedVar 125 = .ok (.if_icmp .ne 9, 3) := dk_160 0 9 (dk_at dksX2_getSignedVar_5 10 rfl rfl)
theorem dX2_getSignedVar_128 : decode cX2_getSignedVar 128 = .ok (.iinc 5 1, 3) := dk_132 5 1 (dk_at dksX2_getSignedVar_5 13 rfl rfl)
theorem dX2_getSignedVar_131 : decode cX2_getSignedVar 131 = .ok (.goto (-30), 3) := dk_167 255 226 (dk_at dksX2_getSignedVar_5 16 rfl rfl)
theorem dX2_getSignedVar_134 : decode cX2_getSignedVar 134 = .ok (.iload 9, 2) := dk_21 9 (dk_at dksX2_getSignedVar_5 19 rfl rfl)
theorem dX2_getSignedVar_136 : decode cX2_getSignedVar 136 = .ok (.iconst 1, 1) := dk_4 (dk_at dksX2_getSignedVar_5 21 rfl rfl)
theorem dX2_getSignedVar_137 : decode cX2_getSignedVar 137 = .ok (.ior, 1) := dk_128 (dk_at dksX2_getSignedVar_5 22 rfl rfl)
theorem dX2_getSignedVar_138 : decode cX2_getSignedVar 138 = .ok (.iload 4, 2) := dk_21 4 (dk_at dksX2_getSignedVar_6 0 rfl rfl)
theorem dX2_getSignedVar_140 : decode cX2_getSignedVar 140 = .ok (.ishl, 1) := dk_120 (dk_at dksX2_getSignedVar_6 2 rfl rfl)
theorem dX2_getSignedVar_141 : decode cX2_getSignedVar 141 = .ok (.istore 11, 2) := dk_54 11 (dk_at dksX2_getSignedVar_6 3 rfl rfl)
theorem dX2_getSignedVar_143 : decode cX2_getSignedVar 143 = .ok (.iload 11, 2) := dk_21 11 (dk_at dksX2_getSignedVar_6 5 rfl rfl)
theorem dX2_getSignedVar_145 : decode cX2_getSignedVar 145 = .ok (.bipush 31, 2) := dk_16 31 (dk_at dksX2_getSignedVar_6 7 rfl rfl)
theorem dX2_getSignedVar_147 : decode cX2_getSignedVar 147 = .ok (.iushr, 1) := dk_124 (dk_at dksX2_getSignedVar_6 9 rfl rfl)
theorem dX2_getSignedVar_148 : decode cX2_getSignedVar 148 = .ok (.istore 6, 2) := dk_54 6 (dk_at dksX2_getSignedVar_6 10 rfl rfl)
theorem dX2_getSignedVar_150 : decode cX2_getSignedVar 150 = .ok (.aload_n 2, 1) := dk_44 (dk_at dksX2_getSignedVar_6 12 rfl rfl)
theorem dX2_getSignedVar_151 : decode cX2_getSignedVar 151 = .ok (.iload 7, 2) := dk_21 7 (dk_at dksX2_getSignedVar_6 13 rfl rfl)
theorem dX2_getSignedVar_153 : decode cX2_getSignedVar 153 = .ok (.iconst 4, 1) := dk_7 (dk_at dksX2_getSignedVar_6 15 rfl rfl)
theorem dX2_getSignedVar_154 : decode cX2_getSignedVar 154 = .ok (.ishl, 1) := dk_120 (dk_at dksX2_getSignedVar_6 16 rfl rfl)
theorem dX2_getSignedVar_155 : decode cX2_getSignedVar 155 = .ok (.iload 5, 2) := dk_21 5 (dk_at dksX2_getSignedVar_6 17 rfl rfl)
theorem dX2_getSignedVar_157 : decode cX2_getSignedVar 157 = .ok (.iadd, 1) := dk_96 (dk_at dksX2_getSignedVar_6 19 rfl rfl)
theorem dX2_getSignedVar_158 : decode cX2_getSignedVar 158 = .ok (.iload 11, 2) := dk_21 11 (dk_at dksX2_getSignedVar_6 20 rfl rfl)
theorem dX2_getSignedVar_160 : decode cX2_getSignedVar 160 = .ok (.iload 4, 2) := dk_21 4 (dk_at dksX2_getSignedVar_6 22 rfl rfl)
theorem dX2_getSignedVar_162 : decode cX2_getSignedVar 162 = .ok (.ishr, 1) := dk_122 (dk_at dksX2_getSignedVar_7 0 rfl rfl)
theorem dX2_getSignedVar_163 : decode cX2_getSignedVar 163 = .ok (.i2b, 1) := dk_145 (dk_at dksX2_getSignedVar_7 1 rfl rfl)
theorem dX2_getSignedVar_164 : decode cX2_getSignedVar 164 = .ok (.bastore, 1) := dk_84 (dk_at dksX2_getSignedVar_7 2 rfl rfl)
theorem dX2_getSignedVar_165 : decode cX2_getSignedVar 165 = .ok (.iload 5, 2) := dk_21 5 (dk_at dksX2_getSignedVar_7 3 rfl rfl)
theorem dX2_getSignedVar_167 : decode cX2_getSignedVar 167 = .ok (.iload_n 1, 1) := dk_27 (dk_at dksX2_getSignedVar_7 5 rfl rfl)
theorem dX2_getSignedVar_168 : decode cX2_getSignedVar 168 = .ok (.iadd, 1) := dk_96 (dk_at dksX2_getSignedVar_7 6 rfl rfl)
theorem dX2_getSignedVar_169 : decode cX2_getSignedVar 169 = .ok (.istore 5, 2) := dk_54 5 (dk_at dksX2_getSignedVar_7 7 rfl rfl)
theorem dX2_getSignedVar_171 : decode cX2_getSignedVar 171 = .ok (.goto (-70), 3) := dk_167 255 186 (dk_at dksX2_getSignedVar_7 9 rfl rfl)
theorem dX2_getSignedVar_174 : decode cX2_getSignedVar 174 = .ok (.iinc 7 1, 3) := dk_132 7 1 (dk_at dksX2_getSignedVar_7 12 rfl rfl)
theorem dX2_getSignedVar_177 : decode cX2_getSignedVar 177 = .ok (.iinc 5 (-16), 3) := dk_132 5 240 (dk_at dksX2_getSignedVar_7 15 rfl rfl)
theorem dX2_getSignedVar_180 : decode cX2_getSignedVar 180 = .ok (.goto (-92), 3) := dk_167 255 164 (dk_at dksX2_getSignedVar_7 18 rfl rfl)
theorem dX2_getSignedVar_183 : decode cX2_getSignedVar 183 = .ok (.return_, 1) := dk_177 (dk_at dksX2_getSignedVar_7 21 rfl rfl)
theorem q5 : (Jvm.Cond.initialized "Wnaf") ∈ lw_all := lw_g (lw_at lw_m0 3 rfl) rfl
theorem q40 : (Jvm.Cond.static ({ cls := "Wnaf", name := "getSignedVar", desc := "([II[B)V" } : Jvm.MethodName)) ∈ lw_all := lw_g (lw_at lw_m0 38 rfl) rfl
theorem q41 : (Jvm.Cond.code ({ cls := "Wnaf", name := "getSignedVar", desc := "([II[B)V" } : Jvm.MethodName) prog_1_method_2_code (12 : Nat) (Option.none : Option Jvm.ClassFile.FieldType)) ∈ lw_all := lw_g (lw_at lw_m0 39 rfl) rfl
theorem q2 : (Jvm.Cond.initialized "WnafDeskLaw") ∈ lw_all := lw_g (lw_at lw_m0 0 rfl) rfl
set_option maxRecDepth 100000
theorem q6 : (Jvm.Cond.classLink "WnafDeskLaw" (7 : Nat) "WnafDesk") ∈ lw_all := lw_g (lw_at lw_m0 4 rfl) rfl
theorem q8 : (Jvm.Cond.methodLink "WnafDeskLaw" (9 : Nat) ({ cls := "WnafDesk", name := "<init>", desc := "()V" } : Jvm.MethodName)) ∈ lw_all := lw_g (lw_at lw_m0 6 rfl) rfl
theorem q26 : (Jvm.Cond.methodLink "WnafDeskLaw" (13 : Nat) ({ cls := "WnafDesk", name := "lay", desc := "(IIIII)V" } : Jvm.MethodName)) ∈ lw_all := lw_g (lw_at lw_m0 24 rfl) rfl
theorem q31 : (Jvm.Cond.methodLink "WnafDeskLaw" (18 : Nat) ({ cls := "WnafDesk", name := "few", desc := "(II)V" } : Jvm.MethodName)) ∈ lw_all := lw_g (lw_at lw_m0 29 rfl) rfl
theorem q35 : (Jvm.Cond.methodLink "WnafDeskLaw" (23 : Nat) ({ cls := "WnafDesk", name := "find", desc := "(I)V" } : Jvm.MethodName)) ∈ lw_all := lw_g (lw_at lw_m0 33 rfl) rfl
theorem q42 : (Jvm.Cond.methodLink "WnafDeskLaw" (28 : Nat) ({ cls := "WnafDesk", name := "digit", desc := "(I)I" } : Jvm.MethodName)) ∈ lw_all := lw_g (lw_at lw_m0 40 rfl) rfl
theorem q47 : (Jvm.Cond.methodLink "WnafDeskLaw" (33 : Nat) ({ cls := "WnafDesk", name := "width", desc := "()I" } : Jvm.MethodName)) ∈ lw_all := lw_g (lw_at lw_m0 45 rfl) rfl
theorem q51 : (Jvm.Cond.classLink "WnafDeskLaw" (10 : Nat) "WnafDeskModel") ∈ lw_all := lw_g (lw_at lw_m0 49 rfl) rfl
theorem q53 : (Jvm.Cond.methodLink "WnafDeskLaw" (12 : Nat) ({ cls := "WnafDeskModel", name := "<init>", desc := "()V" } : Jvm.MethodName)) ∈ lw_all := lw_g (lw_at lw_m0 51 rfl) rfl
theorem q67 : (Jvm.Cond.methodLink "WnafDeskLaw" (17 : Nat) ({ cls := "WnafDeskModel", name := "lay", desc := "(IIIII)V" } : Jvm.MethodName)) ∈ lw_all := lw_g (lw_at lw_m0 65 rfl) rfl
theorem q76 : (Jvm.Cond.methodLink "WnafDeskLaw" (22 : Nat) ({ cls := "WnafDeskModel", name := "few", desc := "(II)V" } : Jvm.MethodName)) ∈ lw_all := lw_g (lw_at lw_m0 74 rfl) rfl
theorem q80 : (Jvm.Cond.methodLink "WnafDeskLaw" (27 : Nat) ({ cls := "WnafDeskModel", name := "find", desc := "(I)V" } : Jvm.MethodName)) ∈ lw_all := lw_g (lw_at lw_m0 78 rfl) rfl
theorem q88 : (Jvm.Cond.methodLink "WnafDeskLaw" (32 : Nat) ({ cls := "WnafDeskModel", name := "digit", desc := "(I)I" } : Jvm.MethodName)) ∈ lw_all := lw_g (lw_at lw_m0 86 rfl) rfl
theorem q93 : (Jvm.Cond.methodLink "WnafDeskLaw" (37 : Nat) ({ cls := "WnafDeskModel", name := "width", desc := "()I" } : Jvm.MethodName)) ∈ lw_all := lw_g (lw_at lw_m0 91 rfl) rfl
theorem q24 : (Jvm.Cond.arrayClass Jvm.ClassFile.FieldType.int) ∈ lw_all := lw_g (lw_at lw_m0 22 rfl) rfl
set_option maxRecDepth 100000
theorem q25 : (Jvm.Cond.arrayClass Jvm.ClassFile.FieldType.byte) ∈ lw_all := lw_g (lw_at lw_m0 23 rfl) rfl
end
section
/-! WnafDeskModel -/
set_option maxRecDepth 100000
def RX1 : String := "WnafDeskModel"
def TX1 : u_T := fun k => match k with
  | 0 => ("WnafDeskModel", "words", "[I", true)
  | 1 => ("WnafDeskModel", "digits", "[I", false)
  | _ => ("WnafDeskModel", "width", "I", false)
def tyX1 : Nat → FieldType := fun k => match k with
  | 0 => .array .int
  | 1 => .array .int
  | _ => .int
abbrev wsX10 : List Cond := u_ws RX1 TX1 3
theorem nmX1 : ∀ a, a < 3 → ∀ b, b < 3 → a ≠ b → (TX1 a).2.1 ≠ (TX1 b).2.1 := by decide +kernel
theorem tyX1_ok : ∀ k, k < 3 → parseFieldDescriptor (TX1 k).2.2.1 = some (tyX1 k) := by decide +kernel
abbrev cX1_init : ByteArray := prog_4_method_1_code
def yX1_init : MethodName := ⟨RX1, "<init>", "()V"⟩
def dkwX1_init_1 : List UInt8 := [181, 0, 16, 177]
abbrev dktX1_init_1 : List UInt8 := dkwX1_init_1 ++ []
def dkwX1_init_0 : List UInt8 := [42, 183, 0, 1, 42, 16, 8, 188, 10, 181, 0, 7, 42, 17, 0, 253, 188, 10, 181, 0, 13, 42, 7]
abbrev dktX1_init_0 : List UInt8 := dkwX1_init_0 ++ dktX1_init_1
theorem dksX1_init_0 : cX1_init.data.toList.drop 0 = dktX1_init_0 := by decide +kernel
theorem dksX1_init_1 : cX1_init.data.toList.drop 23 = dktX1_init_1 := dk_seg dksX1_init_0 23 rfl rfl
theorem dX1_init_0 : decode cX1_init 0 = .ok (.aload_n 0, 1) := dk_42 (dk_at dksX1_init_0 0 rfl rfl)
theorem dX1_init_1 : decode cX1_init 1 = .ok (.invokespecial 1, 3) := dk_183 0 1 (dk_at dksX1_init_0 1 rfl rfl)
theorem dX1_init_4 : decode cX1_init 4 = .ok (.aload_n 0, 1) := dk_42 (dk_at dksX1_init_0 4 rfl rfl)
theorem dX1_init_5 : decode cX1_init 5 = .ok (.bipush 8, 2) := dk_16 8 (dk_at dksX1_init_0 5 rfl rfl)
theorem dX1_init_7 : decode cX1_init 7 = .ok (.newarray .int, 2) := dk_188_10 (dk_at dksX1_init_0 7 rfl rfl)
theorem dX1_init_9 : decode cX1_init 9 = .ok (.putfield 7, 3) := dk_181 0 7 (dk_at dksX1_init_0 9 rfl rfl)
theorem dX1_init_12 : decode cX1_init 12 = .ok (.aload_n 0, 1) := dk_42 (dk_at dksX1_init_0 12 rfl rfl)
theorem dX1_init_13 : decode cX1_init 13 = .ok (.sipush 253, 3) := dk_17 0 253 (dk_at dksX1_init_0 13 rfl rfl)
theorem dX1_init_16 : decode cX1_init 16 = .ok (.newarray .int, 2) := dk_188_10 (dk_at dksX1_init_0 16 rfl rfl)
theorem dX1_init_18 : decode cX1_init 18 = .ok (.putfield 13, 3) := dk_181 0 13 (dk_at dksX1_init_0 18 rfl rfl)
theorem dX1_init_21 : decode cX1_init 21 = .ok (.aload_n 0, 1) := dk_42 (dk_at dksX1_init_0 21 rfl rfl)
theorem dX1_init_22 : decode cX1_init 22 = .ok (.iconst 4, 1) := dk_7 (dk_at dksX1_init_0 22 rfl rfl)
theorem dX1_init_23 : decode cX1_init 23 = .ok (.putfield 16, 3) := dk_181 0 16 (dk_at dksX1_init_1 0 rfl rfl)
theorem dX1_init_26 : decode cX1_init 26 = .ok (.return_, 1) := dk_177 (dk_at dksX1_init_1 3 rfl rfl)
abbrev cX1_lay : ByteArray := prog_4_method_3_code
def yX1_lay : MethodName := ⟨RX1, "lay", "(IIIII)V"⟩
def dkwX1_lay_1 : List UInt8 := [21, 6, 5, 96, 21, 4, 182, 0, 21, 42, 21, 6, 6, 96, 21, 5, 182, 0, 21, 177]
abbrev dktX1_lay_1 : List UInt8 := dkwX1_lay_1 ++ []
def dkwX1_lay_0 : List UInt8 := [7, 27, 4, 126, 104, 54, 6, 42, 21, 6, 28, 182, 0, 21, 42, 21, 6, 4, 96, 29, 182, 0, 21, 42]
abbrev dktX1_lay_0 : List UInt8 := dkwX1_lay_0 ++ dktX1_lay_1
theorem dksX1_lay_0 : cX1_lay.data.toList.drop 0 = dktX1_lay_0 := by decide +kernel
theorem dksX1_lay_1 : cX1_lay.data.toList.drop 24 = dktX1_lay_1 := dk_seg dksX1_lay_0 24 rfl rfl
theorem dX1_lay_0 : decode cX1_lay 0 = .ok (.iconst 4, 1) := dk_7 (dk_at dksX1_lay_0 0 rfl rfl)
theorem dX1_lay_1 : decode cX1_lay 1 = .ok (.iload_n 1, 1) := dk_27 (dk_at dksX1_lay_0 1 rfl rfl)
theorem dX1_lay_2 : decode cX1_lay 2 = .ok (.iconst 1, 1) := dk_4 (dk_at dksX1_lay_0 2 rfl rfl)
theorem dX1_lay_3 : decode cX1_lay 3 = .ok (.iand, 1) := dk_126 (dk_at dksX1_lay_0 3 rfl rfl)
theorem dX1_lay_4 : decode cX1_lay 4 = .ok (.imul, 1) := dk_104 (dk_at dksX1_lay_0 4 rfl rfl)
theorem dX1_lay_5 : decode cX1_lay 5 = .ok (.istore 6, 2) := dk_54 6 (dk_at dksX1_lay_0 5 rfl rfl)
theorem dX1_lay_7 : decode cX1_lay 7 = .ok (.aload_n 0, 1) := dk_42 (dk_at dksX1_lay_0 7 rfl rfl)
theorem dX1_lay_8 : decode cX1_lay 8 = .ok (.iload 6, 2) := dk_21 6 (dk_at dksX1_lay_0 8 rfl rfl)
theorem dX1_lay_10 : decode cX1_lay 10 = .ok (.iload_n 2, 1) := dk_28 (dk_at dksX1_lay_0 10 rfl rfl)
theorem dX1_lay_11 : decode cX1_lay 11 = .ok (.invokevirtual 21, 3) := dk_182 0 21 (dk_at dksX1_lay_0 11 rfl rfl)
theorem dX1_lay_14 : decode cX1_lay 14 = .ok (.aload_n 0, 1) := dk_42 (dk_at dksX1_lay_0 14 rfl rfl)
theorem dX1_lay_15 : decode cX1_lay 15 = .ok (.iload 6, 2) := dk_21 6 (dk_at dksX1_lay_0 15 rfl rfl)
theorem dX1_lay_17 : decode cX1_lay 17 = .ok (.iconst 1, 1) := dk_4 (dk_at dksX1_lay_0 17 rfl rfl)
theorem dX1_lay_18 : decode cX1_lay 18 = .ok (.iadd, 1) := dk_96 (dk_at dksX1_lay_0 18 rfl rfl)
theorem dX1_lay_19 : decode cX1_lay 19 = .ok (.iload_n 3, 1) := dk_29 (dk_at dksX1_lay_0 19 rfl rfl)
theorem dX1_lay_20 : decode cX1_lay 20 = .ok (.invokevirtual 21, 3) := dk_182 0 21 (dk_at dksX1_lay_0 20 rfl rfl)
theorem dX1_lay_23 : decode cX1_lay 23 = .ok (.aload_n 0, 1) := dk_42 (dk_at dksX1_lay_0 23 rfl rfl)
theorem dX1_lay_24 : decode cX1_lay 24 = .ok (.iload 6, 2) := dk_21 6 (dk_at dksX1_lay_1 0 rfl rfl)
theorem dX1_lay_26 : decode cX1_lay 26 = .ok (.iconst 2, 1) := dk_5 (dk_at dksX1_lay_1 2 rfl rfl)
theorem dX1_lay_27 : decode cX1_lay 27 = .ok (.iadd, 1) := dk_96 (dk_at dksX1_lay_1 3 rfl rfl)
theorem dX1_lay_28 : decode cX1_lay 28 = .ok (.iload 4, 2) := dk_21 4 (dk_at dksX1_lay_1 4 rfl rfl)
theorem dX1_lay_30 : decode cX1_lay 30 = .ok (.invokevirtual 21, 3) := dk_182 0 21 (dk_at dksX1_lay_1 6 rfl rfl)
theorem dX1_lay_33 : decode cX1_lay 33 = .ok (.aload_n 0, 1) := dk_42 (dk_at dksX1_lay_1 9 rfl rfl)
theorem dX1_lay_34 : decode cX1_lay 34 = .ok (.iload 6, 2) := dk_21 6 (dk_at dksX1_lay_1 10 rfl rfl)
theorem dX1_lay_36 : decode cX1_lay 36 = .ok (.iconst 3, 1) := dk_6 (dk_at dksX1_lay_1 12 rfl rfl)
theorem dX1_lay_37 : decode cX1_lay 37 = .ok (.iadd, 1) := dk_96 (dk_at dksX1_lay_1 13 rfl rfl)
theorem dX1_lay_38 : decode cX1_lay 38 = .ok (.iload 5, 2) := dk_21 5 (dk_at dksX1_lay_1 14 rfl rfl)
theorem dX1_lay_40 : decode cX1_lay 40 = .ok (.invokevirtual 21, 3) := dk_182 0 21 (dk_at dksX1_lay_1 16 rfl rfl)
theorem dX1_lay_43 : decode cX1_lay 43 = .ok (.return_, 1) := dk_177 (dk_at dksX1_lay_1 19 rfl rfl)
abbrev cX1_become : ByteArray := prog_4_method_2_code
def yX1_become : MethodName := ⟨RX1, "become", "(II)V"⟩
def dkwX1_become_0 : List UInt8 := [42, 180, 0, 7, 27, 27, 16, 7, 160, 0, 10, 28, 18, 20, 126, 167, 0, 4, 28, 79, 177]
abbrev dktX1_become_0 : List UInt8 := dkwX1_become_0 ++ []
theorem dksX1_become_0 : cX1_become.data.toList.drop 0 = dktX1_become_0 := by decide +kernel
theorem dX1_become_0 : decode cX1_become 0 = .ok (.aload_n 0, 1) := dk_42 (dk_at dksX1_become_0 0 rfl rfl)
theorem dX1_become_1 : decode cX1_become 1 = .ok (.getfield 7, 3) := dk_180 0 7 (dk_at dksX1_become_0 1 rfl rfl)
theorem dX1_become_4 : decode cX1_become 4 = .ok (.iload_n 1, 1) := dk_27 (dk_at dksX1_become_0 4 rfl rfl)
theorem dX1_become_5 : decode cX1_become 5 = .ok (.iload_n 1, 1) := dk_27 (dk_at dksX1_become_0 5 rfl rfl)
theorem dX1_become_6 : decode cX1_become 6 = .ok (.bipush 7, 2) := dk_16 7 (dk_at dksX1_become_0 6 rfl rfl)
theorem dX1_become_8 : decode cX1_become 8 = .ok (.if_icmp .ne 10, 3) := dk_160 0 10 (dk_at dksX1_become_0 8 rfl rfl)
theorem dX1_become_11 : decode cX1_become 11 = .ok (.iload_n 2, 1) := dk_28 (dk_at dksX1_become_0 11 rfl rfl)
theorem dX1_become_12 : decode cX1_become 12 = .ok (.ldc 20, 2) := dk_18 20 (dk_at dksX1_become_0 12 rfl rfl)
theorem dX1_become_14 : decode cX1_become 14 = .ok (.iand, 1) := dk_126 (dk_at dksX1_become_0 14 rfl rfl)
theorem dX1_become_15 : decode cX1_become 15 = .ok (.goto 4, 3) := dk_167 0 4 (dk_at dksX1_become_0 15 rfl rfl)
theorem dX1_become_18 : decode cX1_become 18 = .ok (.iload_n 2, 1) := dk_28 (dk_at dksX1_become_0 18 rfl rfl)
theorem dX1_become_19 : decode cX1_become 19 = .ok (.iastore, 1) := dk_79 (dk_at dksX1_become_0 19 rfl rfl)
theorem dX1_become_20 : decode cX1_become 20 = .ok (.return_, 1) := dk_177 (dk_at dksX1_become_0 20 rfl rfl)
abbrev cX1_few : ByteArray := prog_4_method_4_code
def yX1_few : MethodName := ⟨RX1, "few", "(II)V"⟩
def dkwX1_few_0 : List UInt8 := [42, 27, 16, 7, 126, 28, 182, 0, 21, 177]
abbrev dktX1_few_0 : List UInt8 := dkwX1_few_0 ++ []
theorem dksX1_few_0 : cX1_few.data.toList.drop 0 = dktX1_few_0 := by decide +kernel
theorem dX1_few_0 : decode cX1_few 0 = .ok (.aload_n 0, 1) := dk_42 (dk_at dksX1_few_0 0 rfl rfl)
theorem dX1_few_1 : decode cX1_few 1 = .ok (.iload_n 1, 1) := dk_27 (dk_at dksX1_few_0 1 rfl rfl)
theorem dX1_few_2 : decode cX1_few 2 = .ok (.bipush 7, 2) := dk_16 7 (dk_at dksX1_few_0 2 rfl rfl)
theorem dX1_few_4 : decode cX1_few 4 = .ok (.iand, 1) := dk_126 (dk_at dksX1_few_0 4 rfl rfl)
theorem dX1_few_5 : decode cX1_few 5 = .ok (.iload_n 2, 1) := dk_28 (dk_at dksX1_few_0 5 rfl rfl)
theorem dX1_few_6 : decode cX1_few 6 = .ok (.invokevirtual 21, 3) := dk_182 0 21 (dk_at dksX1_few_0 6 rfl rfl)
theorem dX1_few_9 : decode cX1_few 9 = .ok (.return_, 1) := dk_177 (dk_at dksX1_few_0 9 rfl rfl)
abbrev cX1_find : ByteArray := prog_4_method_6_code
def yX1_find : MethodName := ⟨RX1, "find", "(I)V"⟩
def dkwX1_find_6 : List UInt8 := [153, 0, 7, 4, 167, 0, 4, 3, 61, 29, 42, 180, 0, 16, 96, 62, 167, 255, 122, 177]
abbrev dktX1_find_6 : List UInt8 := dkwX1_find_6 ++ []
def dkwX1_find_5 : List UInt8 := [21, 6, 153, 0, 15, 21, 5, 4, 42, 180, 0, 16, 120, 100, 167, 0, 5, 21, 5, 79, 21, 6]
abbrev dktX1_find_5 : List UInt8 := dkwX1_find_5 ++ dktX1_find_6
def dkwX1_find_4 : List UInt8 := [4, 42, 180, 0, 16, 4, 100, 120, 161, 0, 7, 4, 167, 0, 4, 3, 54, 6, 42, 180, 0, 13, 29]
abbrev dktX1_find_4 : List UInt8 := dkwX1_find_4 ++ dktX1_find_5
def dkwX1_find_3 : List UInt8 := [21, 5, 42, 29, 21, 6, 96, 182, 0, 25, 21, 6, 120, 96, 54, 5, 132, 6, 1, 167, 255, 228, 21, 5]
abbrev dktX1_find_3 : List UInt8 := dkwX1_find_3 ++ dktX1_find_4
def dkwX1_find_2 : List UInt8 := [5, 108, 61, 132, 3, 1, 167, 255, 225, 28, 54, 5, 3, 54, 6, 21, 6, 42, 180, 0, 16, 162, 0, 25]
abbrev dktX1_find_2 : List UInt8 := dkwX1_find_2 ++ dktX1_find_3
def dkwX1_find_1 : List UInt8 := [17, 0, 253, 162, 0, 133, 42, 29, 182, 0, 25, 28, 96, 54, 4, 21, 4, 5, 112, 154, 0, 14, 21, 4]
abbrev dktX1_find_1 : List UInt8 := dkwX1_find_1 ++ dktX1_find_2
def dkwX1_find_0 : List UInt8 := [42, 6, 27, 6, 126, 96, 181, 0, 16, 42, 17, 0, 253, 188, 10, 181, 0, 13, 3, 61, 3, 62, 29]
abbrev dktX1_find_0 : List UInt8 := dkwX1_find_0 ++ dktX1_find_1
theorem dksX1_find_0 : cX1_find.data.toList.drop 0 = dktX1_find_0 := by decide +kernel
theorem dksX1_find_1 : cX1_find.data.toList.drop 23 = dktX1_find_1 := dk_seg dksX1_find_0 23 rfl rfl
theorem dksX1_find_2 : cX1_find.data.toList.drop 47 = dktX1_find_2 := dk_seg dksX1_find_1 24 rfl rfl
theorem dksX1_find_3 : cX1_find.data.toList.drop 71 = dktX1_find_3 := dk_seg dksX1_find_2 24 rfl rfl
theorem dksX1_find_4 : cX1_find.data.toList.drop 95 = dktX1_find_4 := dk_seg dksX1_find_3 24 rfl rfl
theorem dksX1_find_5 : cX1_find.data.toList.drop 118 = dktX1_find_5 := dk_seg dksX1_find_4 23 rfl rfl
theorem dksX1_find_6 : cX1_find.data.toList.drop 140 = dktX1_find_6 := dk_seg dksX1_find_5 22 rfl rfl
theorem dX1_find_0 : decode cX1_find 0 = .ok (.aload_n 0, 1) := dk_42 (dk_at dksX1_find_0 0 rfl rfl)
theorem dX1_find_1 : decode cX1_find 1 = .ok (.iconst 3, 1) := dk_6 (dk_at dksX1_find_0 1 rfl rfl)
theorem dX1_find_2 : decode cX1_find 2 = .ok (.iload_n 1, 1) := dk_27 (dk_at dksX1_find_0 2 rfl rfl)
theorem dX1_find_3 : decode cX1_find 3 = .ok (.iconst 3, 1) := dk_6 (dk_at dksX1_find_0 3 rfl rfl)
theorem dX1_find_4 : decode cX1_find 4 = .ok (.iand, 1) := dk_126 (dk_at dksX1_find_0 4 rfl rfl)
theorem dX1_find_5 : decode cX1_find 5 = .ok (.iadd, 1) := dk_96 (dk_at dksX1_find_0 5 rfl rfl)
theorem dX1_find_6 : decode cX1_find 6 = .ok (.putfield 16, 3) := dk_181 0 16 (dk_at dksX1_find_0 6 rfl rfl)
theorem dX1_find_9 : decode cX1_find 9 = .ok (.aload_n 0, 1) := dk_42 (dk_at dksX1_find_0 9 rfl rfl)
theorem dX1_find_10 : decode cX1_find 10 = .ok (.sipush 253, 3) := dk_17 0 253 (dk_at dksX1_find_0 10 rfl rfl)
theorem dX1_find_13 : decode cX1_find 13 = .ok (.newarray .int, 2) := dk_188_10 (dk_at dksX1_find_0 13 rfl rfl)
theorem dX1_find_15 : decode cX1_find 15 = .ok (.putfield 13, 3) := dk_181 0 13 (dk_at dksX1_find_0 15 rfl rfl)
theorem dX1_find_18 : decode cX1_find 18 = .ok (.iconst 0, 1) := dk_3 (dk_at dksX1_find_0 18 rfl rfl)
theorem dX1_find_19 : decode cX1_find 19 = .ok (.istore_n 2, 1) := dk_61 (dk_at dksX1_find_0 19 rfl rfl)
theorem dX1_find_20 : decode cX1_find 20 = .ok (.iconst 0, 1) := dk_3 (dk_at dksX1_find_0 20 rfl rfl)
theorem dX1_find_21 : decode cX1_find 21 = .ok (.istore_n 3, 1) := dk_62 (dk_at dksX1_find_0 21 rfl rfl)
theorem dX1_find_22 : decode cX1_find 22 = .ok (.iload_n 3, 1) := dk_29 (dk_at dksX1_find_0 22 rfl rfl)
theorem dX1_find_23 : decode cX1_find 23 = .ok (.sipush 253, 3) := dk_17 0 253 (dk_at dksX1_find_1 0 rfl rfl)
theorem dX1_find_26 : decode cX1_find 26 = .ok (.if_icmp .ge 133, 3) := dk_162 0 133 (dk_at dksX1_find_1 3 rfl rfl)
theorem dX1_find_29 : decode cX1_find 29 = .ok (.aload_n 0, 1) := dk_42 (dk_at dksX1_find_1 6 rfl rfl)
theorem dX1_find_30 : decode cX1_find 30 = .ok (.iload_n 3, 1) := dk_29 (dk_at dksX1_find_1 7 rfl rfl)
theorem dX1_find_31 : decode cX1_find 31 = .ok (.invokevirtual 25, 3) := dk_182 0 25 (dk_at dksX1_find_1 8 rfl rfl)
theorem dX1_find_34 : decode cX1_find 34 = .ok (.iload_n 2, 1) := dk_28 (dk_at dksX1_find_1 11 rfl rfl)
theorem dX1_find_35 : decode cX1_find 35 = .ok (.iadd, 1) := dk_96 (dk_at dksX1_find_1 12 rfl rfl)
theorem dX1_find_36 : decode cX1_find 36 = .ok (.istore 4, 2) := dk_54 4 (dk_at dksX1_find_1 13 rfl rfl)
theorem dX1_find_38 : decode cX1_find 38 = .ok (.iload 4, 2) := dk_21 4 (dk_at dksX1_find_1 15 rfl rfl)
theorem dX1_find_40 : decode cX1_find 40 = .ok (.iconst 2, 1) := dk_5 (dk_at dksX1_find_1 17 rfl rfl)
theorem dX1_find_41 : decode cX1_find 41 = .ok (.irem, 1) := dk_112 (dk_at dksX1_find_1 18 rfl rfl)
theorem dX1_find_42 : decode cX1_find 42 = .ok (.ifCond .ne 14, 3) := dk_154 0 14 (dk_at dksX1_find_1 19 rfl rfl)
theorem dX1_find_45 : decode cX1_find 45 = .ok (.iload 4, 2) := dk_21 4 (dk_at dksX1_find_1 22 rfl rfl)
theorem dX1_find_47 : decode cX1_find 47 = .ok (.iconst 2, 1) := dk_5 (dk_at dksX1_find_2 0 rfl rfl)
theorem dX1_find_48 : decode cX1_find 48 = .ok (.idiv, 1) := dk_108 (dk_at dksX1_find_2 1 rfl rfl)
theorem dX1_find_49 : decode cX1_find 49 = .ok (.istore_n 2, 1) := dk_61 (dk_at dksX1_find_2 2 rfl rfl)
theorem dX1_find_50 : decode cX1_find 50 = .ok (.iinc 3 1, 3) := dk_132 3 1 (dk_at dksX1_find_2 3 rfl rfl)
theorem dX1_find_53 : decode cX1_find 53 = .ok (.goto (-31), 3) := dk_167 255 225 (dk_at dksX1_find_2 6 rfl rfl)
theorem dX1_find_56 : decode cX1_find 56 = .ok (.iload_n 2, 1) := dk_28 (dk_at dksX1_find_2 9 rfl rfl)
theorem dX1_find_57 : decode cX1_find 57 = .ok (.istore 5, 2) := dk_54 5 (dk_at dksX1_find_2 10 rfl rfl)
theorem dX1_find_59 : decode cX1_find 59 = .ok (.iconst 0, 1) := dk_3 (dk_at dksX1_find_2 12 rfl rfl)
theorem dX1_find_60 : decode cX1_find 60 = .ok (.istore 6, 2) := dk_54 6 (dk_at dksX1_find_2 13 rfl rfl)
theorem dX1_find_62 : decode cX1_find 62 = .ok (.iload 6, 2) := dk_21 6 (dk_at dksX1_find_2 15 rfl rfl)
theorem dX1_find_64 : decode cX1_find 64 = .ok (.aload_n 0, 1) := dk_42 (dk_at dksX1_find_2 17 rfl rfl)
theorem dX1_find_65 : decode cX1_find 65 = .ok (.getfield 16, 3) := dk_180 0 16 (dk_at dksX1_find_2 18 rfl rfl)
theorem dX1_find_68 : decode cX1_find 68 = .ok (.if_icmp .ge 25, 3) := dk_162 0 25 (dk_at dksX1_find_2 21 rfl rfl)
theorem dX1_find_71 : decode cX1_find 71 = .ok (.iload 5, 2) := dk_21 5 (dk_at dksX1_find_3 0 rfl rfl)
theorem dX1_find_73 : decode cX1_find 73 = .ok (.aload_n 0, 1) := dk_42 (dk_at dksX1_find_3 2 rfl rfl)
theorem dX1_find_74 : decode cX1_find 74 = .ok (.iload_n 3, 1) := dk_29 (dk_at dksX1_find_3 3 rfl rfl)
theorem dX1_find_75 : decode cX1_find 75 = .ok (.iload 6, 2) := dk_21 6 (dk_at dksX1_find_3 4 rfl rfl)
theorem dX1_find_77 : decode cX1_find 77 = .ok (.iadd, 1) := dk_96 (dk_at dksX1_find_3 6 rfl rfl)
theorem dX1_find_78 : decode cX1_find 78 = .ok (.invokevirtual 25, 3) := dk_182 0 25 (dk_at dksX1_find_3 7 rfl rfl)
theorem dX1_find_81 : decode cX1_find 81 = .ok (.iload 6, 2) := dk_21 6 (dk_at dksX1_find_3 10 rfl rfl)
theorem dX1_find_83 : decode cX1_find 83 = .ok (.ishl, 1) := dk_120 (dk_at dksX1_find_3 12 rfl rfl)
theorem dX1_find_84 : decode cX1_find 84 = .ok (.iadd, 1) := dk_96 (dk_at dksX1_find_3 13 rfl rfl)
theorem dX1_find_85 : decode cX1_find 85 = .ok (.istore 5, 2) := dk_54 5 (dk_at dksX1_find_3 14 rfl rfl)
theorem dX1_find_87 : decode cX1_find 87 = .ok (.iinc 6 1, 3) := dk_132 6 1 (dk_at dksX1_find_3 16 rfl rfl)
theorem dX1_find_90 : decode cX1_find 90 = .ok (.goto (-28), 3) := dk_167 255 228 (dk_at dksX1_find_3 19 rfl rfl)
theorem dX1_find_93 : decode cX1_find 93 = .ok (.iload 5, 2) := dk_21 5 (dk_at dksX1_find_3 22 rfl rfl)
theorem dX1_find_95 : decode cX1_find 95 = .ok (.iconst 1, 1) := dk_4 (dk_at dksX1_find_4 0 rfl rfl)
theorem dX1_find_96 : decode cX1_find 96 = .ok (.aload_n 0, 1) := dk_42 (dk_at dksX1_find_4 1 rfl rfl)
theorem dX1_find_97 : decode cX1_find 97 = .ok (.getfield 16, 3) := dk_180 0 16 (dk_at dksX1_find_4 2 rfl rfl)
theorem dX1_find_100 : decode cX1_find 100 = .ok (.iconst 1, 1) := dk_4 (dk_at dksX1_find_4 5 rfl rfl)
theorem dX1_find_101 : decode cX1_find 101 = .ok (.isub, 1) := dk_100 (dk_at dksX1_find_4 6 rfl rfl)
theorem dX1_find_102 : decode cX1_find 102 = .ok (.ishl, 1) := dk_120 (dk_at dksX1_find_4 7 rfl rfl)
theorem dX1_find_103 : decode cX1_find 103 = .ok (.if_icmp .lt 7, 3) := dk_161 0 7 (dk_at dksX1_find_4 8 rfl rfl)
theorem dX1_find_106 : decode cX1_find 106 = .ok (.iconst 1, 1) := dk_4 (dk_at dksX1_find_4 11 rfl rfl)
theorem dX1_find_107 : decode cX1_find 107 = .ok (.goto 4, 3) := dk_167 0 4 (dk_at dksX1_find_4 12 rfl rfl)
theorem dX1_find_110 : decode cX1_find 110 = .ok (.iconst 0, 1) := dk_3 (dk_at dksX1_find_4 15 rfl rfl)
theorem dX1_find_111 : decode cX1_find 111 = .ok (.istore 6, 2) := dk_54 6 (dk_at dksX1_find_4 16 rfl rfl)
theorem dX1_find_113 : decode cX1_find 113 = .ok (.aload_n 0, 1) := dk_42 (dk_at dksX1_find_4 18 rfl rfl)
theorem dX1_find_114 : decode cX1_find 114 = .ok (.getfield 13, 3) := dk_180 0 13 (dk_at dksX1_find_4 19 rfl rfl)
theorem dX1_find_117 : decode cX1_find 117 = .ok (.iload_n 3, 1) := dk_29 (dk_at dksX1_find_4 22 rfl rfl)
theorem dX1_find_118 : decode cX1_find 118 = .ok (.iload 6, 2) := dk_21 6 (dk_at dksX1_find_5 0 rfl rfl)
theorem dX1_find_120 : decode cX1_find 120 = .ok (.ifCond .eq 15, 3) := dk_153 0 15 (dk_at dksX1_find_5 2 rfl rfl)
theorem dX1_find_123 : decode cX1_find 123 = .ok (.iload 5, 2) := dk_21 5 (dk_at dksX1_find_5 5 rfl rfl)
theorem dX1_find_125 : decode cX1_find 125 = .ok (.iconst 1, 1) := dk_4 (dk_at dksX1_find_5 7 rfl rfl)
theorem dX1_find_126 : decode cX1_find 126 = .ok (.aload_n 0, 1) := dk_42 (dk_at dksX1_find_5 8 rfl rfl)
theorem dX1_find_127 : decode cX1_find 127 = .ok (.getfield 16, 3) := dk_180 0 16 (dk_at dksX1_find_5 9 rfl rfl)
theorem dX1_find_130 : decode cX1_find 130 = .ok (.ishl, 1) := dk_120 (dk_at dksX1_find_5 12 rfl rfl)
theorem dX1_find_131 : decode cX1_find 131 = .ok (.isub, 1) := dk_100 (dk_at dksX1_find_5 13 rfl rfl)
theorem dX1_find_132 : decode cX1_find 132 = .ok (.goto 5, 3) := dk_167 0 5 (dk_at dksX1_find_5 14 rfl rfl)
theorem dX1_find_135 : decode cX1_find 135 = .ok (.iload 5, 2) := dk_21 5 (dk_at dksX1_find_5 17 rfl rfl)
theorem dX1_find_137 : decode cX1_find 137 = .ok (.iastore, 1) := dk_79 (dk_at dksX1_find_5 19 rfl rfl)
theorem dX1_find_138 : decode cX1_find 138 = .ok (.iload 6, 2) := dk_21 6 (dk_at dksX1_find_5 20 rfl rfl)
theorem dX1_find_140 : decode cX1_find 140 = .ok (.ifCond .eq 7, 3) := dk_153 0 7 (dk_at dksX1_find_6 0 rfl rfl)
theorem dX1_find_143 : decode cX1_find 143 = .ok (.iconst 1, 1) := dk_4 (dk_at dksX1_find_6 3 rfl rfl)
theorem dX1_find_144 : decode cX1_find 144 = .ok (.goto 4, 3) := dk_167 0 4 (dk_at dksX1_find_6 4 rfl rfl)
theorem dX1_find_147 : decode cX1_find 147 = .ok (.iconst 0, 1) := dk_3 (dk_at dksX1_find_6 7 rfl rfl)
theorem dX1_find_148 : decode cX1_find 148 = .ok (.istore_n 2, 1) := dk_61 (dk_at dksX1_find_6 8 rfl rfl)
theorem dX1_find_149 : decode cX1_find 149 = .ok (.iload_n 3, 1) := dk_29 (dk_at dksX1_find_6 9 rfl rfl)
theorem dX1_find_150 : decode cX1_find 150 = .ok (.aload_n 0, 1) := dk_42 (dk_at dksX1_find_6 10 rfl rfl)
theorem dX1_find_151 : decode cX1_find 151 = .ok (.getfield 16, 3) := dk_180 0 16 (dk_at dksX1_find_6 11 rfl rfl)
theorem dX1_find_154 : decode cX1_find 154 = .ok (.iadd, 1) := dk_96 (dk_at dksX1_find_6 14 rfl rfl)
theorem dX1_find_155 : decode cX1_find 155 = .ok (.istore_n 3, 1) := dk_62 (dk_at dksX1_find_6 15 rfl rfl)
theorem dX1_find_156 : decode cX1_find 156 = .ok (.goto (-134), 3) := dk_167 255 122 (dk_at dksX1_find_6 16 rfl rfl)
theorem dX1_find_159 : decode cX1_find 159 = .ok (.return_, 1) := dk_177 (dk_at dksX1_find_6 19 rfl rfl)
abbrev cX1_bit : ByteArray := prog_4_method_5_code
def yX1_bit : MethodName := ⟨RX1, "bit", "(I)I"⟩
def dkwX1_bit_1 : List UInt8 := [167, 0, 4, 3, 172]
abbrev dktX1_bit_1 : List UInt8 := dkwX1_bit_1 ++ []
def dkwX1_bit_0 : List UInt8 := [27, 17, 0, 252, 162, 0, 22, 42, 180, 0, 7, 27, 16, 32, 108, 46, 27, 16, 32, 112, 124, 4, 126]
abbrev dktX1_bit_0 : List UInt8 := dkwX1_bit_0 ++ dktX1_bit_1
theorem dksX1_bit_0 : cX1_bit.data.toList.drop 0 = dktX1_bit_0 := by decide +kernel
theorem dksX1_bit_1 : cX1_bit.data.toList.drop 23 = dktX1_bit_1 := dk_seg dksX1_bit_0 23 rfl rfl
theorem dX1_bit_0 : decode cX1_bit 0 = .ok (.iload_n 1, 1) := dk_27 (dk_at dksX1_bit_0 0 rfl rfl)
theorem dX1_bit_1 : decode cX1_bit 1 = .ok (.sipush 252, 3) := dk_17 0 252 (dk_at dksX1_bit_0 1 rfl rfl)
theorem dX1_bit_4 : decode cX1_bit 4 = .ok (.if_icmp .ge 22, 3) := dk_162 0 22 (dk_at dksX1_bit_0 4 rfl rfl)
theorem dX1_bit_7 : decode cX1_bit 7 = .ok (.aload_n 0, 1) := dk_42 (dk_at dksX1_bit_0 7 rfl rfl)
theorem dX1_bit_8 : decode cX1_bit 8 = .ok (.getfield 7, 3) := dk_180 0 7 (dk_at dksX1_bit_0 8 rfl rfl)
theorem dX1_bit_11 : decode cX1_bit 11 = .ok (.iload_n 1, 1) := dk_27 (dk_at dksX1_bit_0 11 rfl rfl)
theorem dX1_bit_12 : decode cX1_bit 12 = .ok (.bipush 32, 2) := dk_16 32 (dk_at dksX1_bit_0 12 rfl rfl)
theorem dX1_bit_14 : decode cX1_bit 14 = .ok (.idiv, 1) := dk_108 (dk_at dksX1_bit_0 14 rfl rfl)
theorem dX1_bit_15 : decode cX1_bit 15 = .ok (.iaload, 1) := dk_46 (dk_at dksX1_bit_0 15 rfl rfl)
theorem dX1_bit_16 : decode cX1_bit 16 = .ok (.iload_n 1, 1) := dk_27 (dk_at dksX1_bit_0 16 rfl rfl)
theorem dX1_bit_17 : decode cX1_bit 17 = .ok (.bipush 32, 2) := dk_16 32 (dk_at dksX1_bit_0 17 rfl rfl)
theorem dX1_bit_19 : decode cX1_bit 19 = .ok (.irem, 1) := dk_112 (dk_at dksX1_bit_0 19 rfl rfl)
theorem dX1_bit_20 : decode cX1_bit 20 = .ok (.iushr, 1) := dk_124 (dk_at dksX1_bit_0 20 rfl rfl)
theorem dX1_bit_21 : decode cX1_bit 21 = .ok (.iconst 1, 1) := dk_4 (dk_at dksX1_bit_0 21 rfl rfl)
theorem dX1_bit_22 : decode cX1_bit 22 = .ok (.iand, 1) := dk_126 (dk_at dksX1_bit_0 22 rfl rfl)
theorem dX1_bit_23 : decode cX1_bit 23 = .ok (.goto 4, 3) := dk_167 0 4 (dk_at dksX1_bit_1 0 rfl rfl)
theorem dX1_bit_26 : decode cX1_bit 26 = .ok (.iconst 0, 1) := dk_3 (dk_at dksX1_bit_1 3 rfl rfl)
theorem dX1_bit_27 : decode cX1_bit 27 = .ok (.ireturn, 1) := dk_172 (dk_at dksX1_bit_1 4 rfl rfl)
abbrev cX1_digit : ByteArray := prog_4_method_7_code
def yX1_digit : MethodName := ⟨RX1, "digit", "(I)I"⟩
def dkwX1_digit_0 : List UInt8 := [42, 180, 0, 13, 27, 18, 29, 126, 17, 0, 253, 112, 46, 172]
abbrev dktX1_digit_0 : List UInt8 := dkwX1_digit_0 ++ []
theorem dksX1_digit_0 : cX1_digit.data.toList.drop 0 = dktX1_digit_0 := by decide +kernel
theorem dX1_digit_0 : decode cX1_digit 0 = .ok (.aload_n 0, 1) := dk_42 (dk_at dksX1_digit_0 0 rfl rfl)
theorem dX1_digit_1 : decode cX1_digit 1 = .ok (.getfield 13, 3) := dk_180 0 13 (dk_at dksX1_digit_0 1 rfl rfl)
theorem dX1_digit_4 : decode cX1_digit 4 = .ok (.iload_n 1, 1) := dk_27 (dk_at dksX1_digit_0 4 rfl rfl)
theorem dX1_digit_5 : decode cX1_digit 5 = .ok (.ldc 29, 2) := dk_18 29 (dk_at dksX1_digit_0 5 rfl rfl)
theorem dX1_digit_7 : decode cX1_digit 7 = .ok (.iand, 1) := dk_126 (dk_at dksX1_digit_0 7 rfl rfl)
theorem dX1_digit_8 : decode cX1_digit 8 = .ok (.sipush 253, 3) := dk_17 0 253 (dk_at dksX1_digit_0 8 rfl rfl)
theorem dX1_digit_11 : decode cX1_digit 11 = .ok (.irem, 1) := dk_112 (dk_at dksX1_digit_0 11 rfl rfl)
theorem dX1_digit_12 : decode cX1_digit 12 = .ok (.iaload, 1) := dk_46 (dk_at dksX1_digit_0 12 rfl rfl)
theorem dX1_digit_13 : decode cX1_digit 13 = .ok (.ireturn, 1) := dk_172 (dk_at dksX1_digit_0 13 rfl rfl)
abbrev cX1_width : ByteArray := prog_4_method_8_code
def yX1_width : MethodName := ⟨RX1, "width", "()I"⟩
theorem dX1_width_0 : decode cX1_width 0 = .ok (.aload_n 0, 1) := by decide +kernel
theorem dX1_width_1 : decode cX1_width 1 = .ok (.getfield 16, 3) := by decide +kernel
theorem dX1_width_4 : decode cX1_width 4 = .ok (.ireturn, 1) := by decide +kernel
theorem q4 : (Jvm.Cond.initialized "WnafDeskModel") ∈ lw_all := lw_g (lw_at lw_m0 2 rfl) rfl
theorem q52 : (Jvm.Cond.instantiable "WnafDeskModel" (3 : Nat)) ∈ lw_all := lw_g (lw_at lw_m0 50 rfl) rfl
theorem q54 : (Jvm.Cond.instanceMethod ({ cls := "WnafDeskModel", name := "<init>", desc := "()V" } : Jvm.MethodName)) ∈ lw_all := lw_g (lw_at lw_m0 52 rfl) rfl
theorem q55 : (Jvm.Cond.code ({ cls := "WnafDeskModel", name := "<init>", desc := "()V" } : Jvm.MethodName) prog_4_method_1_code (1 : Nat) (Option.none : Option Jvm.ClassFile.FieldType)) ∈ lw_all := lw_g (lw_at lw_m0 53 rfl) rfl
theorem q56 : (Jvm.Cond.methodLink "WnafDeskModel" (1 : Nat) ({ cls := "java/lang/Object", name := "<init>", desc := "()V" } : Jvm.MethodName)) ∈ lw_all := lw_g (lw_at lw_m0 54 rfl) rfl
theorem q57 : (Jvm.Cond.fieldLink "WnafDeskModel" (7 : Nat) "WnafDeskModel" "words" "[I") ∈ lw_all := lw_g (lw_at lw_m0 55 rfl) rfl
theorem q58 : (Jvm.Cond.fieldLink "WnafDeskModel" (13 : Nat) "WnafDeskModel" "digits" "[I") ∈ lw_all := lw_g (lw_at lw_m0 56 rfl) rfl
theorem q59 : (Jvm.Cond.fieldLink "WnafDeskModel" (16 : Nat) "WnafDeskModel" "width" "I") ∈ lw_all := lw_g (lw_at lw_m0 57 rfl) rfl
theorem q60 : (Jvm.Cond.laysFinal "WnafDeskModel" "WnafDeskModel" "words" "[I") ∈ lw_all := lw_g (lw_at lw_m0 58 rfl) rfl
theorem q61 : (Jvm.Cond.soleField "WnafDeskModel" "words") ∈ lw_all := lw_g (lw_at lw_m0 59 rfl) rfl
theorem q62 : (Jvm.Cond.lays "WnafDeskModel" "WnafDeskModel" "digits" "[I") ∈ lw_all := lw_g (lw_at lw_m0 60 rfl) rfl
theorem q63 : (Jvm.Cond.soleField "WnafDeskModel" "digits") ∈ lw_all := lw_g (lw_at lw_m0 61 rfl) rfl
theorem q64 : (Jvm.Cond.lays "WnafDeskModel" "WnafDeskModel" "width" "I") ∈ lw_all := lw_g (lw_at lw_m0 62 rfl) rfl
theorem q65 : (Jvm.Cond.soleField "WnafDeskModel" "width") ∈ lw_all := lw_g (lw_at lw_m0 63 rfl) rfl
theorem q66 : (Jvm.Cond.superclass "WnafDeskModel" "java/lang/Object") ∈ lw_all := lw_g (lw_at lw_m0 64 rfl) rfl
theorem q68 : (Jvm.Cond.instanceMethod ({ cls := "WnafDeskModel", name := "lay", desc := "(IIIII)V" } : Jvm.MethodName)) ∈ lw_all := lw_g (lw_at lw_m0 66 rfl) rfl
theorem q69 : (Jvm.Cond.selects "WnafDeskModel" ({ cls := "WnafDeskModel", name := "lay", desc := "(IIIII)V" } : Jvm.MethodName) ({ cls := "WnafDeskModel", name := "lay", desc := "(IIIII)V" } : Jvm.MethodName)) ∈ lw_all := lw_g (lw_at lw_m0 67 rfl) rfl
theorem q70 : (Jvm.Cond.code ({ cls := "WnafDeskModel", name := "lay", desc := "(IIIII)V" } : Jvm.MethodName) prog_4_method_3_code (7 : Nat) (Option.none : Option Jvm.ClassFile.FieldType)) ∈ lw_all := lw_g (lw_at lw_m0 68 rfl) rfl
theorem q71 : (Jvm.Cond.methodLink "WnafDeskModel" (21 : Nat) ({ cls := "WnafDeskModel", name := "become", desc := "(II)V" } : Jvm.MethodName)) ∈ lw_all := lw_g (lw_at lw_m0 69 rfl) rfl
theorem q72 : (Jvm.Cond.privateMethod ({ cls := "WnafDeskModel", name := "become", desc := "(II)V" } : Jvm.MethodName)) ∈ lw_tbl := lw_at lw_m0 70 rfl
theorem q73 : (Jvm.Cond.instanceMethod ({ cls := "WnafDeskModel", name := "become", desc := "(II)V" } : Jvm.MethodName)) ∈ lw_all := lw_g (lw_at lw_m0 71 rfl) rfl
theorem q74 : (Jvm.Cond.code ({ cls := "WnafDeskModel", name := "become", desc := "(II)V" } : Jvm.MethodName) prog_4_method_2_code (3 : Nat) (Option.none : Option Jvm.ClassFile.FieldType)) ∈ lw_all := lw_g (lw_at lw_m0 72 rfl) rfl
theorem q75 : (Jvm.Cond.constant "WnafDeskModel" (20 : Nat) (268435455 : Int32)) ∈ lw_all := lw_g (lw_at lw_m0 73 rfl) rfl
theorem q77 : (Jvm.Cond.instanceMethod ({ cls := "WnafDeskModel", name := "few", desc := "(II)V" } : Jvm.MethodName)) ∈ lw_all := lw_g (lw_at lw_m0 75 rfl) rfl
theorem q78 : (Jvm.Cond.selects "WnafDeskModel" ({ cls := "WnafDeskModel", name := "few", desc := "(II)V" } : Jvm.MethodName) ({ cls := "WnafDeskModel", name := "few", desc := "(II)V" } : Jvm.MethodName)) ∈ lw_all := lw_g (lw_at lw_m0 76 rfl) rfl
theorem q79 : (Jvm.Cond.code ({ cls := "WnafDeskModel", name := "few", desc := "(II)V" } : Jvm.MethodName) prog_4_method_4_code (3 : Nat) (Option.none : Option Jvm.ClassFile.FieldType)) ∈ lw_all := lw_g (lw_at lw_m0 77 rfl) rfl
theorem q81 : (Jvm.Cond.instanceMethod ({ cls := "WnafDeskModel", name := "find", desc := "(I)V" } : Jvm.MethodName)) ∈ lw_all := lw_g (lw_at lw_m0 79 rfl) rfl
theorem q82 : (Jvm.Cond.selects "WnafDeskModel" ({ cls := "WnafDeskModel", name := "find", desc := "(I)V" } : Jvm.MethodName) ({ cls := "WnafDeskModel", name := "find", desc := "(I)V" } : Jvm.MethodName)) ∈ lw_all := lw_g (lw_at lw_m0 80 rfl) rfl
theorem q83 : (Jvm.Cond.code ({ cls := "WnafDeskModel", name := "find", desc := "(I)V" } : Jvm.MethodName) prog_4_method_6_code (7 : Nat) (Option.none : Option Jvm.ClassFile.FieldType)) ∈ lw_all := lw_g (lw_at lw_m0 81 rfl) rfl
theorem q84 : (Jvm.Cond.methodLink "WnafDeskModel" (25 : Nat) ({ cls := "WnafDeskModel", name := "bit", desc := "(I)I" } : Jvm.MethodName)) ∈ lw_all := lw_g (lw_at lw_m0 82 rfl) rfl
theorem q85 : (Jvm.Cond.privateMethod ({ cls := "WnafDeskModel", name := "bit", desc := "(I)I" } : Jvm.MethodName)) ∈ lw_tbl := lw_at lw_m0 83 rfl
theorem q86 : (Jvm.Cond.instanceMethod ({ cls := "WnafDeskModel", name := "bit", desc := "(I)I" } : Jvm.MethodName)) ∈ lw_all := lw_g (lw_at lw_m0 84 rfl) rfl
theorem q87 : (Jvm.Cond.code ({ cls := "WnafDeskModel", name := "bit", desc := "(I)I" } : Jvm.MethodName) prog_4_method_5_code (2 : Nat) (Option.some Jvm.ClassFile.FieldType.int)) ∈ lw_all := lw_g (lw_at lw_m0 85 rfl) rfl
theorem q89 : (Jvm.Cond.instanceMethod ({ cls := "WnafDeskModel", name := "digit", desc := "(I)I" } : Jvm.MethodName)) ∈ lw_all := lw_g (lw_at lw_m0 87 rfl) rfl
theorem q90 : (Jvm.Cond.selects "WnafDeskModel" ({ cls := "WnafDeskModel", name := "digit", desc := "(I)I" } : Jvm.MethodName) ({ cls := "WnafDeskModel", name := "digit", desc := "(I)I" } : Jvm.MethodName)) ∈ lw_all := lw_g (lw_at lw_m0 88 rfl) rfl
theorem q91 : (Jvm.Cond.code ({ cls := "WnafDeskModel", name := "digit", desc := "(I)I" } : Jvm.MethodName) prog_4_method_7_code (2 : Nat) (Option.some Jvm.ClassFile.FieldType.int)) ∈ lw_all := lw_g (lw_at lw_m0 89 rfl) rfl
theorem q92 : (Jvm.Cond.constant "WnafDeskModel" (29 : Nat) (2147483647 : Int32)) ∈ lw_all := lw_g (lw_at lw_m0 90 rfl) rfl
theorem q94 : (Jvm.Cond.instanceMethod ({ cls := "WnafDeskModel", name := "width", desc := "()I" } : Jvm.MethodName)) ∈ lw_all := lw_g (lw_at lw_m0 92 rfl) rfl
theorem q95 : (Jvm.Cond.selects "WnafDeskModel" ({ cls := "WnafDeskModel", name := "width", desc := "()I" } : Jvm.MethodName) ({ cls := "WnafDeskModel", name := "width", desc := "()I" } : Jvm.MethodName)) ∈ lw_all := lw_g (lw_at lw_m0 93 rfl) rfl
theorem q96 : (Jvm.Cond.code ({ cls := "WnafDeskModel", name := "width", desc := "()I" } : Jvm.MethodName) prog_4_method_8_code (1 : Nat) (Option.some Jvm.ClassFile.FieldType.int)) ∈ lw_all := lw_g (lw_at lw_m0 94 rfl) rfl
theorem in_X1 : ∀ w ∈ wsX10, w ∈ lw_all := lw_in wsX10 [60, 62, 64] (by decide +kernel) (by decide +kernel)
/-! the law's own entry -/
set_option maxRecDepth 100000
abbrev cL_law : ByteArray := code
def dkwL_law_9 : List UInt8 := [182, 0, 37, 159, 0, 5, 3, 172, 132, 3, 6, 167, 255, 54, 4, 172]
abbrev dktL_law_9 : List UInt8 := dkwL_law_9 ++ []
def dkwL_law_8 : List UInt8 := [182, 0, 28, 44, 42, 29, 4, 96, 46, 182, 0, 32, 159, 0, 18, 3, 172, 43, 182, 0, 33, 44]
abbrev dktL_law_8 : List UInt8 := dkwL_law_8 ++ dktL_law_9
def dkwL_law_7 : List UInt8 := [96, 46, 182, 0, 23, 44, 42, 29, 4, 96, 46, 182, 0, 27, 167, 0, 39, 43, 42, 29, 4, 96, 46]
abbrev dktL_law_7 : List UInt8 := dkwL_law_7 ++ dktL_law_8
def dkwL_law_6 : List UInt8 := [182, 0, 18, 44, 42, 29, 4, 96, 46, 42, 29, 5, 96, 46, 182, 0, 22, 167, 0, 60, 43, 42, 29, 4]
abbrev dktL_law_6 : List UInt8 := dkwL_law_6 ++ dktL_law_7
def dkwL_law_5 : List UInt8 := [96, 46, 42, 29, 8, 96, 46, 182, 0, 17, 167, 0, 91, 43, 42, 29, 4, 96, 46, 42, 29, 5, 96, 46]
abbrev dktL_law_5 : List UInt8 := dkwL_law_5 ++ dktL_law_6
def dkwL_law_4 : List UInt8 := [96, 46, 182, 0, 13, 44, 42, 29, 4, 96, 46, 42, 29, 5, 96, 46, 42, 29, 6, 96, 46, 42, 29, 7]
abbrev dktL_law_4 : List UInt8 := dkwL_law_4 ++ dktL_law_5
def dkwL_law_3 : List UInt8 := [43, 42, 29, 4, 96, 46, 42, 29, 5, 96, 46, 42, 29, 6, 96, 46, 42, 29, 7, 96, 46, 42, 29, 8]
abbrev dktL_law_3 : List UInt8 := dkwL_law_3 ++ dktL_law_4
def dkwL_law_2 : List UInt8 := [170, 0, 0, 0, 0, 0, 184, 0, 0, 0, 0, 0, 0, 0, 4, 0, 0, 0, 35, 0, 0, 0, 96, 0, 0, 0, 127, 0, 0, 0, 148, 0, 0, 0, 171]
abbrev dktL_law_2 : List UInt8 := dkwL_law_2 ++ dktL_law_3
def dkwL_law_1 : List UInt8 := [163, 0, 199, 42, 29, 46, 16, 7, 126]
abbrev dktL_law_1 : List UInt8 := dkwL_law_1 ++ dktL_law_2
def dkwL_law_0 : List UInt8 := [187, 0, 7, 89, 183, 0, 9, 76, 187, 0, 10, 89, 183, 0, 12, 77, 3, 62, 29, 42, 190, 16, 6, 100]
abbrev dktL_law_0 : List UInt8 := dkwL_law_0 ++ dktL_law_1
theorem dksL_law_0 : cL_law.data.toList.drop 0 = dktL_law_0 := by decide +kernel
theorem dksL_law_1 : cL_law.data.toList.drop 24 = dktL_law_1 := dk_seg dksL_law_0 24 rfl rfl
theorem dksL_law_2 : cL_law.data.toList.drop 33 = dktL_law_2 := dk_seg dksL_law_1 9 rfl rfl
theorem dksL_law_3 : cL_law.data.toList.drop 68 = dktL_law_3 := dk_seg dksL_law_2 35 rfl rfl
theorem dksL_law_4 : cL_law.data.toList.drop 92 = dktL_law_4 := dk_seg dksL_law_3 24 rfl rfl
theorem dksL_law_5 : cL_law.data.toList.drop 116 = dktL_law_5 := dk_seg dksL_law_4 24 rfl rfl
theorem dksL_law_6 : cL_law.data.toList.drop 140 = dktL_law_6 := dk_seg dksL_law_5 24 rfl rfl
theorem dksL_law_7 : cL_law.data.toList.drop 164 = dktL_law_7 := dk_seg dksL_law_6 24 rfl rfl
theorem dksL_law_8 : cL_law.data.toList.drop 187 = dktL_law_8 := dk_seg dksL_law_7 23 rfl rfl
theorem dksL_law_9 : cL_law.data.toList.drop 209 = dktL_law_9 := dk_seg dksL_law_8 22 rfl rfl
theorem dL_law_0 : decode cL_law 0 = .ok (.new 7, 3) := dk_187 0 7 (dk_at dksL_law_0 0 rfl rfl)
theorem dL_law_3 : decode cL_law 3 = .ok (.dup, 1) := dk_89 (dk_at dksL_law_0 3 rfl rfl)
theorem dL_law_4 : decode cL_law 4 = .ok (.invokespecial 9, 3) := dk_183 0 9 (dk_at dksL_law_0 4 rfl rfl)
theorem dL_law_7 : decode cL_law 7 = .ok (.astore_n 1, 1) := dk_76 (dk_at dksL_law_0 7 rfl rfl)
theorem dL_law_8 : decode cL_law 8 = .ok (.new 10, 3) := dk_187 0 10 (dk_at dksL_law_0 8 rfl rfl)
theorem dL_law_11 : decode cL_law 11 = .ok (.dup, 1) := dk_89 (dk_at dksL_law_0 11 rfl rfl)
theorem dL_law_12 : decode cL_law 12 = .ok (.invokespecial 12, 3) := dk_183 0 12 (dk_at dksL_law_0 12 rfl rfl)
theorem dL_law_15 : decode cL_law 15 = .ok (.astore_n 2, 1) := dk_77 (dk_at dksL_law_0 15 rfl rfl)
theorem dL_law_16 : decode cL_law 16 = .ok (.iconst 0, 1) := dk_3 (dk_at dksL_law_0 16 rfl rfl)
theorem dL_law_17 : decode cL_law 17 = .ok (.istore_n 3, 1) := dk_62 (dk_at dksL_law_0 17 rfl rfl)
theorem dL_law_18 : decode cL_law 18 = .ok (.iload_n 3, 1) := dk_29 (dk_at dksL_law_0 18 rfl rfl)
theorem dL_law_19 : decode cL_law 19 = .ok (.aload_n 0, 1) := dk_42 (dk_at dksL_law_0 19 rfl rfl)
theorem dL_law_20 : decode cL_law 20 = .ok (.arraylength, 1) := dk_190 (dk_at dksL_law_0 20 rfl rfl)
theorem dL_law_21 : decode cL_law 21 = .ok (.bipush 6, 2) := dk_16 6 (dk_at dksL_law_0 21 rfl rfl)
theorem dL_law_23 : decode cL_law 23 = .ok (.isub, 1) := dk_100 (dk_at dksL_law_0 23 rfl rfl)
theorem dL_law_24 : decode cL_law 24 = .ok (.if_icmp .gt 199, 3) := dk_163 0 199 (dk_at dksL_law_1 0 rfl rfl)
theorem dL_law_27 : decode cL_law 27 = .ok (.aload_n 0, 1) := dk_42 (dk_at dksL_law_1 3 rfl rfl)
theorem dL_law_28 : decode cL_law 28 = .ok (.iload_n 3, 1) := dk_29 (dk_at dksL_law_1 4 rfl rfl)
theorem dL_law_29 : decode cL_law 29 = .ok (.iaload, 1) := dk_46 (dk_at dksL_law_1 5 rfl rfl)
theorem dL_law_30 : decode cL_law 30 = .ok (.bipush 7, 2) := dk_16 7 (dk_at dksL_law_1 6 rfl rfl)
theorem dL_law_32 : decode cL_law 32 = .ok (.iand, 1) := dk_126 (dk_at dksL_law_1 8 rfl rfl)
theorem dL_law_33 : decode cL_law 33 = .ok (.tableswitch 184 0 4 #[35, 96, 127, 148, 171], 35) := by decide +kernel
theorem dL_law_68 : decode cL_law 68 = .ok (.aload_n 1, 1) := dk_43 (dk_at dksL_law_3 0 rfl rfl)
theorem dL_law_69 : decode cL_law 69 = .ok (.aload_n 0, 1) := dk_42 (dk_at dksL_law_3 1 rfl rfl)
theorem dL_law_70 : decode cL_law 70 = .ok (.iload_n 3, 1) := dk_29 (dk_at dksL_law_3 2 rfl rfl)
theorem dL_law_71 : decode cL_law 71 = .ok (.iconst 1, 1) := dk_4 (dk_at dksL_law_3 3 rfl rfl)
theorem dL_law_72 : decode cL_law 72 = .ok (.iadd, 1) := dk_96 (dk_at dksL_law_3 4 rfl rfl)
theorem dL_law_73 : decode cL_law 73 = .ok (.iaload, 1) := dk_46 (dk_at dksL_law_3 5 rfl rfl)
theorem dL_law_74 : decode cL_law 74 = .ok (.aload_n 0, 1) := dk_42 (dk_at dksL_law_3 6 rfl rfl)
theorem dL_law_75 : decode cL_law 75 = .ok (.iload_n 3, 1) := dk_29 (dk_at dksL_law_3 7 rfl rfl)
theorem dL_law_76 : decode cL_law 76 = .ok (.iconst 2, 1) := dk_5 (dk_at dksL_law_3 8 rfl rfl)
theorem dL_law_77 : decode cL_law 77 = .ok (.iadd, 1) := dk_96 (dk_at dksL_law_3 9 rfl rfl)
theorem dL_law_78 : decode cL_law 78 = .ok (.iaload, 1) := dk_46 (dk_at dksL_law_3 10 rfl rfl)
theorem dL_law_79 : decode cL_law 79 = .ok (.aload_n 0, 1) := dk_42 (dk_at dksL_law_3 11 rfl rfl)
theorem dL_law_80 : decode cL_law 80 = .ok (.iload_n 3, 1) := dk_29 (dk_at dksL_law_3 12 rfl rfl)
theorem dL_law_81 : decode cL_law 81 = .ok (.iconst 3, 1) := dk_6 (dk_at dksL_law_3 13 rfl rfl)
theorem dL_law_82 : decode cL_law 82 = .ok (.iadd, 1) := dk_96 (dk_at dksL_law_3 14 rfl rfl)
theorem dL_law_83 : decode cL_law 83 = .ok (.iaload, 1) := dk_46 (dk_at dksL_law_3 15 rfl rfl)
theorem dL_law_84 : decode cL_law 84 = .ok (.aload_n 0, 1) := dk_42 (dk_at dksL_law_3 16 rfl rfl)
theorem dL_law_85 : decode cL_law 85 = .ok (.iload_n 3, 1) := dk_29 (dk_at dksL_law_3 17 rfl rfl)
theorem dL_law_86 : decode cL_law 86 = .ok (.iconst 4, 1) := dk_7 (dk_at dksL_law_3 18 rfl rfl)
theorem dL_law_87 : decode cL_law 87 = .ok (.iadd, 1) := dk_96 (dk_at dksL_law_3 19 rfl rfl)
theorem dL_law_88 : decode cL_law 88 = .ok (.iaload, 1) := dk_46 (dk_at dksL_law_3 20 rfl rfl)
theorem dL_law_89 : decode cL_law 89 = .ok (.aload_n 0, 1) := dk_42 (dk_at dksL_law_3 21 rfl rfl)
theorem dL_law_90 : decode cL_law 90 = .ok (.iload_n 3, 1) := dk_29 (dk_at dksL_law_3 22 rfl rfl)
theorem dL_law_91 : decode cL_law 91 = .ok (.iconst 5, 1) := dk_8 (dk_at dksL_law_3 23 rfl rfl)
theorem dL_law_92 : decode cL_law 92 = .ok (.iadd, 1) := dk_96 (dk_at dksL_law_4 0 rfl rfl)
theorem dL_law_93 : decode cL_law 93 = .ok (.iaload, 1) := dk_46 (dk_at dksL_law_4 1 rfl rfl)
theorem dL_law_94 : decode cL_law 94 = .ok (.invokevirtual 13, 3) := dk_182 0 13 (dk_at dksL_law_4 2 rfl rfl)
theorem dL_law_97 : decode cL_law 97 = .ok (.aload_n 2, 1) := dk_44 (dk_at dksL_law_4 5 rfl rfl)
theorem dL_law_98 : decode cL_law 98 = .ok (.aload_n 0, 1) := dk_42 (dk_at dksL_law_4 6 rfl rfl)
theorem dL_law_99 : decode cL_law 99 = .ok (.iload_n 3, 1) := dk_29 (dk_at dksL_law_4 7 rfl rfl)
theorem dL_law_100 : decode cL_law 100 = .ok (.iconst 1, 1) := dk_4 (dk_at dksL_law_4 8 rfl rfl)
theorem dL_law_101 : decode cL_law 101 = .ok (.iadd, 1) := dk_96 (dk_at dksL_law_4 9 rfl rfl)
theorem dL_law_102 : decode cL_law 102 = .ok (.iaload, 1) := dk_46 (dk_at dksL_law_4 10 rfl rfl)
theorem dL_law_103 : decode cL_law 103 = .ok (.aload_n 0, 1) := dk_42 (dk_at dksL_law_4 11 rfl rfl)
theorem dL_law_104 : decode cL_law 104 = .ok (.iload_n 3, 1) := dk_29 (dk_at dksL_law_4 12 rfl rfl)
theorem dL_law_105 : decode cL_law 105 = .ok (.iconst 2, 1) := dk_5 (dk_at dksL_law_4 13 rfl rfl)
theorem dL_law_106 : decode cL_law 106 = .ok (.iadd, 1) := dk_96 (dk_at dksL_law_4 14 rfl rfl)
theorem dL_law_107 : decode cL_law 107 = .ok (.iaload, 1) := dk_46 (dk_at dksL_law_4 15 rfl rfl)
theorem dL_law_108 : decode cL_law 108 = .ok (.aload_n 0, 1) := dk_42 (dk_at dksL_law_4 16 rfl rfl)
theorem dL_law_109 : decode cL_law 109 = .ok (.iload_n 3, 1) := dk_29 (dk_at dksL_law_4 17 rfl rfl)
theorem dL_law_110 : decode cL_law 110 = .ok (.iconst 3, 1) := dk_6 (dk_at dksL_law_4 18 rfl rfl)
theorem dL_law_111 : decode cL_law 111 = .ok (.iadd, 1) := dk_96 (dk_at dksL_law_4 19 rfl rfl)
theorem dL_law_112 : decode cL_law 112 = .ok (.iaload, 1) := dk_46 (dk_at dksL_law_4 20 rfl rfl)
theorem dL_law_113 : decode cL_law 113 = .ok (.aload_n 0, 1) := dk_42 (dk_at dksL_law_4 21 rfl rfl)
theorem dL_law_114 : decode cL_law 114 = .ok (.iload_n 3, 1) := dk_29 (dk_at dksL_law_4 22 rfl rfl)
theorem dL_law_115 : decode cL_law 115 = .ok (.iconst 4, 1) := dk_7 (dk_at dksL_law_4 23 rfl rfl)
theorem dL_law_116 : decode cL_law 116 = .ok (.iadd, 1) := dk_96 (dk_at dksL_law_5 0 rfl rfl)
theorem dL_law_117 : decode cL_law 117 = .ok (.iaload, 1) := dk_46 (dk_at dksL_law_5 1 rfl rfl)
theorem dL_law_118 : decode cL_law 118 = .ok (.aload_n 0, 1) := dk_42 (dk_at dksL_law_5 2 rfl rfl)
theorem dL_law_119 : decode cL_law 119 = .ok (.iload_n 3, 1) := dk_29 (dk_at dksL_law_5 3 rfl rfl)
theorem dL_law_120 : decode cL_law 120 = .ok (.iconst 5, 1) := dk_8 (dk_at dksL_law_5 4 rfl rfl)
theorem dL_law_121 : decode cL_law 121 = .ok (.iadd, 1) := dk_96 (dk_at dksL_law_5 5 rfl rfl)
theorem dL_law_122 : decode cL_law 122 = .ok (.iaload, 1) := dk_46 (dk_at dksL_law_5 6 rfl rfl)
theorem dL_law_123 : decode cL_law 123 = .ok (.invokevirtual 17, 3) := dk_182 0 17 (dk_at dksL_law_5 7 rfl rfl)
theorem dL_law_126 : decode cL_law 126 = .ok (.goto 91, 3) := dk_167 0 91 (dk_at dksL_law_5 10 rfl rfl)
theorem dL_law_129 : decode cL_law 129 = .ok (.aload_n 1, 1) := dk_43 (dk_at dksL_law_5 13 rfl rfl)
theorem dL_law_130 : decode cL_law 130 = .ok (.aload_n 0, 1) := dk_42 (dk_at dksL_law_5 14 rfl rfl)
theorem dL_law_131 : decode cL_law 131 = .ok (.iload_n 3, 1) := dk_29 (dk_at dksL_law_5 15 rfl rfl)
theorem dL_law_132 : decode cL_law 132 = .ok (.iconst 1, 1) := dk_4 (dk_at dksL_law_5 16 rfl rfl)
theorem dL_law_133 : decode cL_law 133 = .ok (.iadd, 1) := dk_96 (dk_at dksL_law_5 17 rfl rfl)
theorem dL_law_134 : decode cL_law 134 = .ok (.iaload, 1) := dk_46 (dk_at dksL_law_5 18 rfl rfl)
theorem dL_law_135 : decode cL_law 135 = .ok (.aload_n 0, 1) := dk_42 (dk_at dksL_law_5 19 rfl rfl)
theorem dL_law_136 : decode cL_law 136 = .ok (.iload_n 3, 1) := dk_29 (dk_at dksL_law_5 20 rfl rfl)
theorem dL_law_137 : decode cL_law 137 = .ok (.iconst 2, 1) := dk_5 (dk_at dksL_law_5 21 rfl rfl)
theorem dL_law_138 : decode cL_law 138 = .ok (.iadd, 1) := dk_96 (dk_at dksL_law_5 22 rfl rfl)
theorem dL_law_139 : decode cL_law 139 = .ok (.iaload, 1) := dk_46 (dk_at dksL_law_5 23 rfl rfl)
theorem dL_law_140 : decode cL_law 140 = .ok (.invokevirtual 18, 3) := dk_182 0 18 (dk_at dksL_law_6 0 rfl rfl)
theorem dL_law_143 : decode cL_law 143 = .ok (.aload_n 2, 1) := dk_44 (dk_at dksL_law_6 3 rfl rfl)
theorem dL_law_144 : decode cL_law 144 = .ok (.aload_n 0, 1) := dk_42 (dk_at dksL_law_6 4 rfl rfl)
theorem dL_law_145 : decode cL_law 145 = .ok (.iload_n 3, 1) := dk_29 (dk_at dksL_law_6 5 rfl rfl)
theorem dL_law_146 : decode cL_law 146 = .ok (.iconst 1, 1) := dk_4 (dk_at dksL_law_6 6 rfl rfl)
theorem dL_law_147 : decode cL_law 147 = .ok (.iadd, 1) := dk_96 (dk_at dksL_law_6 7 rfl rfl)
theorem dL_law_148 : decode cL_law 148 = .ok (.iaload, 1) := dk_46 (dk_at dksL_law_6 8 rfl rfl)
theorem dL_law_149 : decode cL_law 149 = .ok (.aload_n 0, 1) := dk_42 (dk_at dksL_law_6 9 rfl rfl)
theorem dL_law_150 : decode cL_law 150 = .ok (.iload_n 3, 1) := dk_29 (dk_at dksL_law_6 10 rfl rfl)
theorem dL_law_151 : decode cL_law 151 = .ok (.iconst 2, 1) := dk_5 (dk_at dksL_law_6 11 rfl rfl)
theorem dL_law_152 : decode cL_law 152 = .ok (.iadd, 1) := dk_96 (dk_at dksL_law_6 12 rfl rfl)
theorem dL_law_153 : decode cL_law 153 = .ok (.iaload, 1) := dk_46 (dk_at dksL_law_6 13 rfl rfl)
theorem dL_law_154 : decode cL_law 154 = .ok (.invokevirtual 22, 3) := dk_182 0 22 (dk_at dksL_law_6 14 rfl rfl)
theorem dL_law_157 : decode cL_law 157 = .ok (.goto 60, 3) := dk_167 0 60 (dk_at dksL_law_6 17 rfl rfl)
theorem dL_law_160 : decode cL_law 160 = .ok (.aload_n 1, 1) := dk_43 (dk_at dksL_law_6 20 rfl rfl)
theorem dL_law_161 : decode cL_law 161 = .ok (.aload_n 0, 1) := dk_42 (dk_at dksL_law_6 21 rfl rfl)
theorem dL_law_162 : decode cL_law 162 = .ok (.iload_n 3, 1) := dk_29 (dk_at dksL_law_6 22 rfl rfl)
theorem dL_law_163 : decode cL_law 163 = .ok (.iconst 1, 1) := dk_4 (dk_at dksL_law_6 23 rfl rfl)
theorem dL_law_164 : decode cL_law 164 = .ok (.iadd, 1) := dk_96 (dk_at dksL_law_7 0 rfl rfl)
theorem dL_law_165 : decode cL_law 165 = .ok (.iaload, 1) := dk_46 (dk_at dksL_law_7 1 rfl rfl)
theorem dL_law_166 : decode cL_law 166 = .ok (.invokevirtual 23, 3) := dk_182 0 23 (dk_at dksL_law_7 2 rfl rfl)
theorem dL_law_169 : decode cL_law 169 = .ok (.aload_n 2, 1) := dk_44 (dk_at dksL_law_7 5 rfl rfl)
theorem dL_law_170 : decode cL_law 170 = .ok (.aload_n 0, 1) := dk_42 (dk_at dksL_law_7 6 rfl rfl)
theorem dL_law_171 : decode cL_law 171 = .ok (.iload_n 3, 1) := dk_29 (dk_at dksL_law_7 7 rfl rfl)
theorem dL_law_172 : decode cL_law 172 = .ok (.iconst 1, 1) := dk_4 (dk_at dksL_law_7 8 rfl rfl)
theorem dL_law_173 : decode cL_law 173 = .ok (.iadd, 1) := dk_96 (dk_at dksL_law_7 9 rfl rfl)
theorem dL_law_174 : decode cL_law 174 = .ok (.iaload, 1) := dk_46 (dk_at dksL_law_7 10 rfl rfl)
theorem dL_law_175 : decode cL_law 175 = .ok (.invokevirtual 27, 3) := dk_182 0 27 (dk_at dksL_law_7 11 rfl rfl)
theorem dL_law_178 : decode cL_law 178 = .ok (.goto 39, 3) := dk_167 0 39 (dk_at dksL_law_7 14 rfl rfl)
theorem dL_law_181 : decode cL_law 181 = .ok (.aload_n 1, 1) := dk_43 (dk_at dksL_law_7 17 rfl rfl)
theorem dL_law_182 : decode cL_law 182 = .ok (.aload_n 0, 1) := dk_42 (dk_at dksL_law_7 18 rfl rfl)
theorem dL_law_183 : decode cL_law 183 = .ok (.iload_n 3, 1) := dk_29 (dk_at dksL_law_7 19 rfl rfl)
theorem dL_law_184 : decode cL_law 184 = .ok (.iconst 1, 1) := dk_4 (dk_at dksL_law_7 20 rfl rfl)
theorem dL_law_185 : decode cL_law 185 = .ok (.iadd, 1) := dk_96 (dk_at dksL_law_7 21 rfl rfl)
theorem dL_law_186 : decode cL_law 186 = .ok (.iaload, 1) := dk_46 (dk_at dksL_law_7 22 rfl rfl)
theorem dL_law_187 : decode cL_law 187 = .ok (.invokevirtual 28, 3) := dk_182 0 28 (dk_at dksL_law_8 0 rfl rfl)
theorem dL_law_190 : decode cL_law 190 = .ok (.aload_n 2, 1) := dk_44 (dk_at dksL_law_8 3 rfl rfl)
theorem dL_law_191 : decode cL_law 191 = .ok (.aload_n 0, 1) := dk_42 (dk_at dksL_law_8 4 rfl rfl)
theorem dL_law_192 : decode cL_law 192 = .ok (.iload_n 3, 1) := dk_29 (dk_at dksL_law_8 5 rfl rfl)
theorem dL_law_193 : decode cL_law 193 = .ok (.iconst 1, 1) := dk_4 (dk_at dksL_law_8 6 rfl rfl)
theorem dL_law_194 : decode cL_law 194 = .ok (.iadd, 1) := dk_96 (dk_at dksL_law_8 7 rfl rfl)
theorem dL_law_195 : decode cL_law 195 = .ok (.iaload, 1) := dk_46 (dk_at dksL_law_8 8 rfl rfl)
theorem dL_law_196 : decode cL_law 196 = .ok (.invokevirtual 32, 3) := dk_182 0 32 (dk_at dksL_law_8 9 rfl rfl)
theorem dL_law_199 : decode cL_law 199 = .ok (.if_icmp .eq 18, 3) := dk_159 0 18 (dk_at dksL_law_8 12 rfl rfl)
theorem dL_law_202 : decode cL_law 202 = .ok (.iconst 0, 1) := dk_3 (dk_at dksL_law_8 15 rfl rfl)
theorem dL_law_203 : decode cL_law 203 = .ok (.ireturn, 1) := dk_172 (dk_at dksL_law_8 16 rfl rfl)
theorem dL_law_204 : decode cL_law 204 = .ok (.aload_n 1, 1) := dk_43 (dk_at dksL_law_8 17 rfl rfl)
theorem dL_law_205 : decode cL_law 205 = .ok (.invokevirtual 33, 3) := dk_182 0 33 (dk_at dksL_law_8 18 rfl rfl)
theorem dL_law_208 : decode cL_law 208 = .ok (.aload_n 2, 1) := dk_44 (dk_at dksL_law_8 21 rfl rfl)
theorem dL_law_209 : decode cL_law 209 = .ok (.invokevirtual 37, 3) := dk_182 0 37 (dk_at dksL_law_9 0 rfl rfl)
theorem dL_law_212 : decode cL_law 212 = .ok (.if_icmp .eq 5, 3) := dk_159 0 5 (dk_at dksL_law_9 3 rfl rfl)
theorem dL_law_215 : decode cL_law 215 = .ok (.iconst 0, 1) := dk_3 (dk_at dksL_law_9 6 rfl rfl)
theorem dL_law_216 : decode cL_law 216 = .ok (.ireturn, 1) := dk_172 (dk_at dksL_law_9 7 rfl rfl)
theorem dL_law_217 : decode cL_law 217 = .ok (.iinc 3 6, 3) := dk_132 3 6 (dk_at dksL_law_9 8 rfl rfl)
theorem dL_law_220 : decode cL_law 220 = .ok (.goto (-202), 3) := dk_167 255 54 (dk_at dksL_law_9 11 rfl rfl)
theorem dL_law_223 : decode cL_law 223 = .ok (.iconst 1, 1) := dk_4 (dk_at dksL_law_9 14 rfl rfl)
theorem dL_law_224 : decode cL_law 224 = .ok (.ireturn, 1) := dk_172 (dk_at dksL_law_9 15 rfl rfl)
end
section
/-! ===== Int32 by its bits: bt x i ===== -/
def bt (x : Int32) (i : Nat) : Bool := x.toBitVec.getLsbD i
theorem b_ext {x y : Int32} (h : ∀ i, i < 32 → bt x i = bt y i) : x = y := Int32.toBitVec_inj.mp (BitVec.eq_of_getLsbD_eq (fun i hi => h i hi))
theorem b_or (x y : Int32) (i : Nat) : bt (x ||| y) i = (bt x i || bt y i) := by unfold bt; rw [Int32.toBitVec_or, BitVec.getLsbD_or]
theorem b_and (x y : Int32) (i : Nat) : bt (x &&& y) i = (bt x i && bt y i) := by unfold bt; rw [Int32.toBitVec_and, BitVec.getLsbD_and]
theorem b_xor (x y : Int32) (i : Nat) : bt (x ^^^ y) i = (bt x i ^^ bt y i) := by unfold bt; rw [Int32.toBitVec_xor, BitVec.getLsbD_xor]
theorem b_big {x : Int32} {i : Nat} (h : 32 ≤ i) : bt x i = false := BitVec.getLsbD_of_ge _ _ h
theorem b_255 (i : Nat) : bt 255 i = decide (i < 8) := by
  rcases Nat.lt_or_ge i 32 with h | h
  · exact (by decide +kernel : ∀ i, i < 32 → bt 255 i = decide (i < 8)) i h
  · rw [b_big h, decide_eq_false (by omega)]
theorem b_65535 (i : Nat) : bt 65535 i = decide (i < 16) := by
  rcases Nat.lt_or_ge i 32 with h | h
  · exact (by decide +kernel : ∀ i, i < 32 → bt 65535 i = decide (i < 16)) i h
  · rw [b_big h, decide_eq_false (by omega)]
theorem b_m1 : ∀ i, i < 32 → bt (-1) i = true := by decide +kernel
theorem b_0 (i : Nat) : bt 0 i = false := BitVec.getLsbD_zero
theorem s_l : ∀ n, n < 32 → ((nI n &&& 31).toBitVec.smod 32).toNat = n := by decide +kernel
theorem s_u : ∀ n, n < 32 → (((nI n).toUInt32 &&& Int32.toUInt32 31).toBitVec % 32).toNat = n := by decide +kernel
theorem b_shl (n : Nat) (hn : n < 32) (x : Int32) {i : Nat} (hi : i < 32) : bt (x <<< (nI n &&& 31)) i = (decide (n ≤ i) && bt x (i - n)) := by
  unfold bt
  rw [Int32.toBitVec_shiftLeft]
  show (x.toBitVec <<< ((nI n &&& 31).toBitVec.smod 32).toNat).getLsbD i = _
  rw [s_l n hn, BitVec.getLsbD_shiftLeft]
  rcases Nat.lt_or_ge i n with h | h
  · simp [h, Nat.not_le.mpr h]
  · simp [hi, h, Nat.not_lt.mpr h]
theorem b_ushr (n : Nat) (hn : n < 32) (x : Int32) (i : Nat) : bt ((x.toUInt32 >>> ((nI n).toUInt32 &&& Int32.toUInt32 31)).toInt32) i = bt x (n + i) := by
  show (x.toUInt32 >>> ((nI n).toUInt32 &&& Int32.toUInt32 31)).toBitVec.getLsbD i = x.toUInt32.toBitVec.getLsbD (n + i)
  rw [UInt32.toBitVec_shiftRight]
  show (x.toUInt32.toBitVec >>> (((nI n).toUInt32 &&& Int32.toUInt32 31).toBitVec % 32).toNat).getLsbD i = _
  rw [s_u n hn, BitVec.getLsbD_ushiftRight]
theorem b_sshr (n : Nat) (hn : n < 32) (x : Int32) {i : Nat} (hi : i < 32) : bt (x >>> (nI n &&& 31)) i = if n + i < 32 then bt x (n + i) else bt x 31 := by
  unfold bt
  rw [Int32.toBitVec_shiftRight]
  show (x.toBitVec.sshiftRight ((nI n &&& 31).toBitVec.smod 32).toNat).getLsbD i = _
  rw [s_l n hn, BitVec.getLsbD_sshiftRight, BitVec.msb_eq_getLsbD_last]
  simp [hi]
theorem b_shl8 (x : Int32) {i : Nat} (hi : i < 32) : bt (x <<< ((8 : Int32) &&& 31)) i = (decide (8 ≤ i) && bt x (i - 8)) := b_shl 8 (by omega) x hi
theorem b_shl16 (x : Int32) {i : Nat} (hi : i < 32) : bt (x <<< ((16 : Int32) &&& 31)) i = (decide (16 ≤ i) && bt x (i - 16)) := b_shl 16 (by omega) x hi
theorem b_shl24 (x : Int32) {i : Nat} (hi : i < 32) : bt (x <<< ((24 : Int32) &&& 31)) i = (decide (24 ≤ i) && bt x (i - 24)) := b_shl 24 (by omega) x hi
theorem b_sshr8 (x : Int32) {i : Nat} (hi : i < 32) : bt (x >>> ((8 : Int32) &&& 31)) i = if 8 + i < 32 then bt x (8 + i) else bt x 31 := b_sshr 8 (by omega) x hi
end
section
/-! THE PLAIN LAW: the signed sliding window form of a number X below 2^252, by its bits. Both sides of the law compute wn_run. -/
/-- bit p of X -/
def wn_bit (X p : Nat) : Nat := X / 2 ^ p % 2
/-- the window of width w at place p, with what is carried -/
def wn_v (X w p c : Nat) : Nat := c + X / 2 ^ p % 2 ^ w
/-- the digit that a window gives -/
def wn_d (w v : Nat) : Int32 := if 2 ^ (w - 1) ≤ v then nI v - nI (2 ^ w) else nI v
/-- what a window carries on -/
def wn_c (w v : Nat) : Nat := if 2 ^ (w - 1) ≤ v then 1 else 0
/-- the digits from place p on, with c carried: at most f steps -/
def wn_run (X w : Nat) : Nat → Nat → Nat → (Nat → Int32) → Nat → Int32
  | 0, _, _, d => d
  | f + 1, p, c, d => if 253 ≤ p then d else if wn_bit X p = c then wn_run X w f (p + 1) c d else wn_run X w f (p + w) (wn_c w (wn_v X w p c)) (upd d p (wn_d w (wn_v X w p c)))
theorem wn_succ (X w f p c : Nat) (d : Nat → Int32) : wn_run X w (f + 1) p c d = if 253 ≤ p then d else if wn_bit X p = c then wn_run X w f (p + 1) c d else wn_run X w f (p + w) (wn_c w (wn_v X w p c)) (upd d p (wn_d w (wn_v X w p c))) := rfl
theorem wn_end (X w : Nat) {p : Nat} (h : 253 ≤ p) (f c : Nat) (d : Nat → Int32) : wn_run X w f p c d = d := by
  cases f with
  | zero => rfl
  | succ f => rw [wn_succ, if_pos h]
/-- what a run of either side keeps: the digits D come out of the state p, c, d -/
def wn_I (X w : Nat) (D : Nat → Int32) (p c : Nat) (d : Nat → Int32) : Prop := c ≤ 1 ∧ (c = 1 → p ≤ 252) ∧ ∃ f, 253 ≤ p + f ∧ wn_run X w f p c d = D
theorem wn_I_0 (X w : Nat) (d : Nat → Int32) : wn_I X w (wn_run X w 253 0 0 d) 0 0 d := ⟨by omega, by omega, 253, by omega, rfl⟩
theorem wn_I_end {X w p c : Nat} {D d : Nat → Int32} (h : wn_I X w D p c d) (hp : 253 ≤ p) : d = D := by
  obtain ⟨-, -, f, -, h4⟩ := h
  rw [wn_end X w hp] at h4
  exact h4
theorem wn_bit_2 (X p : Nat) : wn_bit X p < 2 := Nat.mod_lt _ (by decide)
theorem wn_bit_hi {X : Nat} (hX : X < 2 ^ 252) {p : Nat} (h : 252 ≤ p) : wn_bit X p = 0 := by
  have e : X / 2 ^ p = 0 := Nat.div_eq_of_lt (Nat.lt_of_lt_of_le hX (Nat.pow_le_pow_right (by decide) h))
  unfold wn_bit
  rw [e]
theorem wn_I_skip {X w : Nat} {D d : Nat → Int32} {p c : Nat} (hX : X < 2 ^ 252) (h : wn_I X w D p c d) (hb : wn_bit X p = c) : wn_I X w D (p + 1) c d := by
  obtain ⟨h1, h2, f, h3, h4⟩ := h
  refine ⟨h1, fun e => ?_, ?_⟩
  · rcases Nat.lt_or_ge p 252 with q | q
    · omega
    · have h5 := wn_bit_hi hX q
      omega
  · rcases Nat.lt_or_ge p 253 with q | q
    · cases f with
      | zero => omega
      | succ f =>
        rw [wn_succ, if_neg (by omega), if_pos hb] at h4
        exact ⟨f, by omega, h4⟩
    · rw [wn_end X w q] at h4
      exact ⟨f, by omega, by rw [wn_end X w (by omega)]; exact h4⟩
theorem wn_I_low {X w : Nat} {D d : Nat → Int32} {p c : Nat} (hX : X < 2 ^ 252) (h : wn_I X w D p c d) (hb : ¬ wn_bit X p = c) : p ≤ 252 := by
  obtain ⟨h1, h2, -⟩ := h
  rcases Nat.lt_or_ge p 253 with q | q
  · omega
  · have h5 := wn_bit_hi hX (p := p) (by omega)
    exact h2 (by omega)
theorem wn_top_bit {Y w c : Nat} (hw : 2 ≤ w) (hc : c ≤ 1) (hb : ¬ Y % 2 = c) (hv : 2 ^ (w - 1) ≤ c + Y % 2 ^ w) : 2 ^ (w - 1) ≤ Y := by
  obtain ⟨u, rfl⟩ : ∃ u, w = u + 2 := ⟨w - 2, by omega⟩
  have e : 2 ^ (u + 2 - 1) = 2 * 2 ^ u := by
    rw [show u + 2 - 1 = u + 1 from rfl, Nat.pow_succ, Nat.mul_comm]
  have h1 := Nat.mod_le Y (2 ^ (u + 2))
  rw [e] at hv ⊢
  generalize Y % 2 ^ (u + 2) = Z at h1 hv
  generalize 2 ^ u = K at hv ⊢
  omega
theorem wn_I_dig {X w : Nat} {D d : Nat → Int32} {p c : Nat} (hX : X < 2 ^ 252) (hw : 2 ≤ w) (h : wn_I X w D p c d) (hb : ¬ wn_bit X p = c) : wn_I X w D (p + w) (wn_c w (wn_v X w p c)) (upd d p (wn_d w (wn_v X w p c))) := by
  have hp := wn_I_low hX h hb
  obtain ⟨h1, h2, f, h3, h4⟩ := h
  refine ⟨by unfold wn_c; split <;> omega, fun e => ?_, ?_⟩
  · have hv : 2 ^ (w - 1) ≤ wn_v X w p c := by
      rcases Nat.lt_or_ge (wn_v X w p c) (2 ^ (w - 1)) with q | q
      · exfalso
        unfold wn_c at e
        rw [if_neg (Nat.not_le.mpr q)] at e
        omega
      · exact q
    have hv2 : 2 ^ (w - 1) ≤ X / 2 ^ p := wn_top_bit hw h1 hb hv
    have hv3 : 2 ^ (w - 1) * 2 ^ p ≤ X := (Nat.le_div_iff_mul_le (Nat.two_pow_pos p)).mp hv2
    rw [← Nat.pow_add] at hv3
    rcases Nat.lt_or_ge (w - 1 + p) 252 with q | q
    · omega
    · exact absurd (Nat.lt_of_le_of_lt hv3 hX) (Nat.not_lt.mpr (Nat.pow_le_pow_right (by decide) q))
  · cases f with
    | zero => omega
    | succ f =>
      rw [wn_succ, if_neg (by omega), if_neg hb] at h4
      exact ⟨f, by omega, h4⟩
/-! numbers as ints, by their bits -/
theorem wn_bt (n i : Nat) : bt (nI n) i = (decide (i < 32) && n.testBit i) := by
  show (BitVec.ofNat 32 n).getLsbD i = _
  rw [BitVec.getLsbD_ofNat]
theorem wn_mod32 (n : Nat) : nI n = nI (n % 2 ^ 32) := by
  apply Int32.toBitVec_inj.mp
  apply BitVec.eq_of_toNat_eq
  show n % 2 ^ 32 = n % 2 ^ 32 % 2 ^ 32
  rw [Nat.mod_mod]
theorem wn_cong {a b : Nat} (h : a % 2 ^ 32 = b % 2 ^ 32) : nI a = nI b := by
  rw [wn_mod32 a, wn_mod32 b, h]
theorem wn_or (a b : Nat) : nI a ||| nI b = nI (a ||| b) := by
  apply b_ext
  intro i hi
  rw [b_or, wn_bt, wn_bt, wn_bt, Nat.testBit_or]
  simp [hi]
theorem wn_shl (n k : Nat) (hk : k < 32) : nI n <<< (nI k &&& 31) = nI (n * 2 ^ k) := by
  apply Int32.toBitVec_inj.mp
  apply BitVec.eq_of_toNat_eq
  rw [pk_shl _ _ k (s_l k hk)]
  show n % 2 ^ 32 * 2 ^ k % 2 ^ 32 = n * 2 ^ k % 2 ^ 32
  rw [Nat.mod_mul_mod]
theorem wn_mdm (Y : Nat) {j k n : Nat} (h : j + k ≤ n) : Y % 2 ^ n / 2 ^ j % 2 ^ k = Y / 2 ^ j % 2 ^ k := by
  apply Nat.eq_of_testBit_eq
  intro i
  rw [Nat.testBit_mod_two_pow, Nat.testBit_mod_two_pow, Nat.testBit_div_two_pow, Nat.testBit_div_two_pow, Nat.testBit_mod_two_pow]
  by_cases hi : i < k
  · rw [decide_eq_true (show i + j < n by omega), Bool.true_and]
  · rw [decide_eq_false hi, Bool.false_and, Bool.false_and]
theorem wn_dd (X a b : Nat) : X / 2 ^ a / 2 ^ b = X / 2 ^ (a + b) := by
  rw [Nat.div_div_eq_div_mul, ← Nat.pow_add]
/-! the component's word and half words -/
theorem wn_sgn {X : Nat} (hX : X < 2 ^ 252) : nI (X / 2 ^ (32 * 7)) >>> (nI 31 &&& 31) = nI (X / 2 ^ (32 * 8)) := by
  have h1 : X / 2 ^ (32 * 7) < 2 ^ 28 := Nat.div_lt_of_lt_mul (by rw [← Nat.pow_add]; exact hX)
  rw [pk_shrN (by omega) _ 31 (s_l 31 (by decide)), wn_dd, wn_cong]
  have h2 : X / 2 ^ (32 * 7 + 31) = 0 := Nat.div_eq_of_lt (Nat.lt_of_lt_of_le hX (Nat.pow_le_pow_right (by decide) (by decide)))
  have h3 : X / 2 ^ (32 * 8) = 0 := Nat.div_eq_of_lt (Nat.lt_of_lt_of_le hX (Nat.pow_le_pow_right (by decide) (by decide)))
  rw [h2, h3]
theorem wn_half (X i : Nat) : ((nI (X / 2 ^ (32 * i))).toUInt32 >>> ((nI 16).toUInt32 &&& Int32.toUInt32 31)).toInt32 ||| (nI (X / 2 ^ (32 * (i + 1))) <<< (nI 16 &&& 31)) = nI (X / 2 ^ (16 * (2 * i + 1))) := by
  apply b_ext
  intro k hk
  rw [b_or, b_ushr 16 (by decide), b_shl 16 (by decide) _ hk, wn_bt, wn_bt, wn_bt, Nat.testBit_div_two_pow, Nat.testBit_div_two_pow, Nat.testBit_div_two_pow]
  rcases Nat.lt_or_ge k 16 with q | q
  · rw [decide_eq_true (show 16 + k < 32 by omega), decide_eq_false (show ¬ 16 ≤ k by omega), decide_eq_true hk, Bool.true_and, Bool.true_and, Bool.false_and, Bool.or_false, show 16 + k + 32 * i = k + 16 * (2 * i + 1) by omega]
  · rw [decide_eq_false (show ¬ 16 + k < 32 by omega), decide_eq_true q, decide_eq_true hk, decide_eq_true (show k - 16 < 32 by omega), Bool.true_and, Bool.true_and, Bool.true_and, Bool.false_and, Bool.false_or, show k - 16 + 32 * (i + 1) = k + 16 * (2 * i + 1) by omega]
/-- the word of a half word's place i, moved down by j -/
def wn_M (X i j : Nat) : Nat := X / 2 ^ (16 * i) % 2 ^ 32 / 2 ^ j
theorem wn_M_eq (X i j : Nat) (hj : j < 16) : ((nI (X / 2 ^ (16 * i))).toUInt32 >>> ((nI j).toUInt32 &&& Int32.toUInt32 31)).toInt32 = nI (wn_M X i j) := by
  rw [wn_mod32 (X / 2 ^ (16 * i))]
  exact pk_ushrN (Nat.mod_lt _ (by decide)) _ j (s_u j (by omega))
theorem wn_M_lt (X i j : Nat) : wn_M X i j < 2 ^ 32 := Nat.lt_of_le_of_lt (Nat.div_le_self _ _) (Nat.mod_lt _ (by decide))
theorem wn_M_mod (X i : Nat) {j w : Nat} (h : j + w ≤ 32) : wn_M X i j % 2 ^ w = X / 2 ^ (16 * i + j) % 2 ^ w := by
  unfold wn_M
  rw [wn_mdm _ h, wn_dd]
theorem wn_M_bit (X i : Nat) {j : Nat} (hj : j < 16) : nI (wn_M X i j) &&& nI 1 = nI (wn_bit X (16 * i + j)) := by
  rw [pk_andN (wn_M_lt X i j) 1 (m := nI 1) (by decide), wn_M_mod X i (by omega)]
  rfl
theorem wn_or1 (Z : Nat) : Z ||| 1 = Z + (1 - Z % 2) := by
  have h := Nat.two_pow_add_eq_or_of_lt (i := 1) (b := 1) (by decide) (Z / 2)
  rcases Nat.mod_two_eq_zero_or_one Z with q | q
  · have e : Z = 2 ^ 1 * (Z / 2) := by omega
    rw [← e] at h
    omega
  · have e : Z = 2 ^ 1 * (Z / 2) + 1 := by omega
    rw [← e] at h
    have h2 : Z ||| 1 = Z := by
      rw [h, Nat.or_assoc, Nat.or_self]
    omega
theorem wn_M_or (X i : Nat) {j w c : Nat} (hw : 1 ≤ w) (h : j + w ≤ 32) (hc : c ≤ 1) (hb : ¬ wn_bit X (16 * i + j) = c) : (wn_M X i j ||| 1) % 2 ^ w = wn_v X w (16 * i + j) c := by
  rw [Nat.or_mod_two_pow, wn_M_mod X i h, Nat.mod_eq_of_lt (show 1 < 2 ^ w from Nat.one_lt_two_pow (by omega)), wn_or1]
  have e : X / 2 ^ (16 * i + j) % 2 ^ w % 2 = wn_bit X (16 * i + j) := by
    unfold wn_bit
    obtain ⟨u, rfl⟩ : ∃ u, w = u + 1 := ⟨w - 1, by omega⟩
    exact Nat.mod_mod_of_dvd _ ⟨2 ^ u, by rw [Nat.pow_succ, Nat.mul_comm]⟩
  have h2 := wn_bit_2 X (16 * i + j)
  unfold wn_v
  rw [e]
  omega
theorem wn_v_lt (X w p c : Nat) (hw : 1 ≤ w) (hc : c ≤ 1) (hb : ¬ wn_bit X p = c) : wn_v X w p c < 2 ^ w := by
  obtain ⟨u, rfl⟩ : ∃ u, w = u + 1 := ⟨w - 1, by omega⟩
  unfold wn_v
  unfold wn_bit at hb
  have h1 : X / 2 ^ p % 2 ^ (u + 1) < 2 ^ (u + 1) := Nat.mod_lt _ (Nat.two_pow_pos _)
  have e : X / 2 ^ p % 2 ^ (u + 1) % 2 = X / 2 ^ p % 2 := Nat.mod_mod_of_dvd _ ⟨2 ^ u, by rw [Nat.pow_succ, Nat.mul_comm]⟩
  rw [Nat.pow_succ, Nat.mul_comm] at h1 ⊢
  rw [Nat.pow_succ, Nat.mul_comm] at e
  generalize X / 2 ^ p = Y at h1 e hb ⊢
  generalize Y % (2 * 2 ^ u) = Z at h1 e ⊢
  generalize 2 ^ u = K at h1 ⊢
  omega
theorem wn_dg (X i : Nat) {j w c : Nat} (hw : 1 ≤ w) (hw2 : w ≤ 16) (hj : j < 16) (hc : c ≤ 1) (hb : ¬ wn_bit X (16 * i + j) = c) : (nI (wn_M X i j) ||| nI 1) <<< (nI (32 - w) &&& 31) = nI (wn_v X w (16 * i + j) c * 2 ^ (32 - w)) := by
  rw [wn_or, wn_shl _ _ (by omega)]
  apply wn_cong
  have e : 2 ^ 32 = 2 ^ w * 2 ^ (32 - w) := by rw [← Nat.pow_add]; congr 1; omega
  rw [e, Nat.mul_mod_mul_right, Nat.mul_mod_mul_right, wn_M_or X i hw (by omega) hc hb, Nat.mod_eq_of_lt (wn_v_lt X w _ c hw hc hb)]
theorem wn_t_c : ∀ w, w < 7 → 3 ≤ w → ∀ v, v < 64 → v < 2 ^ w → ((nI (v * 2 ^ (32 - w))).toUInt32 >>> ((nI 31).toUInt32 &&& Int32.toUInt32 31)).toInt32 = nI (wn_c w v) := by decide +kernel
theorem wn_t_d : ∀ w, w < 7 → 3 ≤ w → ∀ v, v < 64 → v < 2 ^ w → (nI (v * 2 ^ (32 - w)) >>> (nI (32 - w) &&& 31)).toInt8.toInt32 = wn_d w v := by decide +kernel
theorem wn_lt64 {w v : Nat} (h6 : w ≤ 6) (h : v < 2 ^ w) : v < 64 := Nat.lt_of_lt_of_le h (show 2 ^ w ≤ 2 ^ 6 from Nat.pow_le_pow_right (by decide) h6)
theorem wn_dg_c {w v : Nat} (h3 : 3 ≤ w) (h6 : w ≤ 6) (h : v < 2 ^ w) : ((nI (v * 2 ^ (32 - w))).toUInt32 >>> ((nI 31).toUInt32 &&& Int32.toUInt32 31)).toInt32 = nI (wn_c w v) := wn_t_c w (by omega) h3 v (wn_lt64 h6 h) h
theorem wn_dg_d {w v : Nat} (h3 : 3 ≤ w) (h6 : w ≤ 6) (h : v < 2 ^ w) : (nI (v * 2 ^ (32 - w)) >>> (nI (32 - w) &&& 31)).toInt8.toInt32 = wn_d w v := wn_t_d w (by omega) h3 v (wn_lt64 h6 h) h
theorem wn_nar {w v : Nat} (h3 : 3 ≤ w) (h6 : w ≤ 6) (h : v < 2 ^ w) : vp_nar .byte (wn_d w v) = wn_d w v := by
  rw [← wn_dg_d h3 h6 h]
  exact pk_vb _
theorem wn_ix (i j : Nat) : (nI i <<< (nI 4 &&& 31)) + nI j = nI (16 * i + j) := by
  rw [wn_shl _ _ (by decide), nI_add]
  exact congrArg nI (by omega)
/-! the reference's own sums -/
theorem wn_here {b c : Nat} (hb : b < 2) (hc : c ≤ 1) : nI b + nI c = nI (b + c) := nI_add b c
theorem wn_sum (X p c k : Nat) (hk : k < 32) : nI (c + X / 2 ^ p % 2 ^ k) + (nI (wn_bit X (p + k)) <<< (nI k &&& 31)) = nI (c + X / 2 ^ p % 2 ^ (k + 1)) := by
  rw [wn_shl _ _ hk, nI_add, Nat.mod_pow_succ, wn_dd]
  unfold wn_bit
  exact congrArg nI (by rw [Nat.mul_comm (2 ^ k), Nat.add_assoc])
/-- a bit of the words -/
theorem wn_wbit {X i : Nat} : ((nI (X / 2 ^ (32 * (i / 32)))).toUInt32 >>> ((nI (i % 32)).toUInt32 &&& Int32.toUInt32 31)).toInt32 &&& nI 1 = nI (wn_bit X i) := by
  have h1 : i % 32 < 32 := Nat.mod_lt _ (by decide)
  rw [wn_mod32 (X / 2 ^ (32 * (i / 32))), pk_ushrN (Nat.mod_lt _ (by decide)) _ (i % 32) (s_u _ h1), pk_andN (Nat.lt_of_le_of_lt (Nat.div_le_self _ _) (Nat.mod_lt _ (by decide))) 1 (m := nI 1) (by decide), wn_mdm _ (by omega), wn_dd, Nat.div_add_mod]
  rfl
/-! a word's number out of its eight words -/
theorem wn_of32 (x : Int32) : x = nI x.toBitVec.toNat := by
  apply Int32.toBitVec_inj.mp
  apply BitVec.eq_of_toNat_eq
  exact (Nat.mod_eq_of_lt x.toBitVec.isLt).symm
theorem wn_num (a : Nat → Int32) : ∀ n, ∃ X, X < 2 ^ (32 * n) ∧ ∀ k, k < n → a k = nI (X / 2 ^ (32 * k)) := by
  intro n
  induction n with
  | zero => exact ⟨0, by decide, fun k h => by omega⟩
  | succ n ih =>
    obtain ⟨X, h1, h2⟩ := ih
    have ht := (a n).toBitVec.isLt
    refine ⟨X + 2 ^ (32 * n) * (a n).toBitVec.toNat, ?_, fun k hk => ?_⟩
    · have h3 : 2 ^ (32 * n) * ((a n).toBitVec.toNat + 1) ≤ 2 ^ (32 * n) * 2 ^ 32 := Nat.mul_le_mul_left _ ht
      rw [Nat.mul_succ, ← Nat.pow_add] at h3
      rw [show 32 * (n + 1) = 32 * n + 32 by omega]
      omega
    · rcases Nat.lt_or_ge k n with q | q
      · have e : 2 ^ (32 * n) * (a n).toBitVec.toNat = 2 ^ (32 * k) * (2 ^ 32 * (2 ^ (32 * (n - k - 1)) * (a n).toBitVec.toNat)) := by
          rw [← Nat.mul_assoc, ← Nat.mul_assoc, ← Nat.pow_add, ← Nat.pow_add]
          congr 2
          omega
        rw [e, Nat.add_mul_div_left _ _ (Nat.two_pow_pos _), h2 k q]
        apply wn_cong
        rw [Nat.add_mul_mod_self_left]
      · have e : k = n := by omega
        subst e
        rw [Nat.add_mul_div_left _ _ (Nat.two_pow_pos _), Nat.div_eq_of_lt h1, Nat.zero_add]
        exact wn_of32 _
/-- the top word has 28 bits -/
def wn_ok (a : Nat → Int32) : Prop := (a 7).toBitVec.toNat < 2 ^ 28
/-- the eight words are the number X -/
def wn_X (a : Nat → Int32) (X : Nat) : Prop := X < 2 ^ 252 ∧ ∀ k, k < 8 → a k = nI (X / 2 ^ (32 * k))
theorem wn_X_of {a : Nat → Int32} (h : wn_ok a) : ∃ X, wn_X a X := by
  obtain ⟨X, h1, h2⟩ := wn_num a 8
  refine ⟨X, ?_, h2⟩
  have h3 : X / 2 ^ (32 * 7) < 2 ^ 32 := Nat.div_lt_of_lt_mul (by rw [← Nat.pow_add]; exact h1)
  unfold wn_ok at h
  rw [h2 7 (by decide), pk_tn h3] at h
  have h4 := (Nat.div_lt_iff_lt_mul (Nat.two_pow_pos _)).mp h
  rw [← Nat.pow_add] at h4
  exact h4
/-! what is written: a word at its place, the top one under its mask -/
def wn_put (a : Nat → Int32) (i : Nat) (x : Int32) : Nat → Int32 := upd a i (if i = 7 then x &&& 268435455 else x)
theorem wn_msk (x : Int32) : (x &&& 268435455).toBitVec.toNat < 2 ^ 28 := by
  have h : x.toBitVec.toNat % 2 ^ 28 < 2 ^ 28 := Nat.mod_lt _ (by decide)
  rw [pk_and x 28 (m := 268435455) (by decide), pk_tn (by omega)]
  exact h
theorem wn_ok_0 : wn_ok (fun _ => 0) := by unfold wn_ok; decide
theorem wn_ok_put {a : Nat → Int32} (h : wn_ok a) (i : Nat) (x : Int32) : wn_ok (wn_put a i x) := by
  unfold wn_ok wn_put
  by_cases e : i = 7
  · subst e
    rw [pk_us, if_pos rfl]
    exact wn_msk x
  · rw [pk_un (by omega)]
    exact h
theorem wn_put_lo {a : Nat → Int32} {i : Nat} (x : Int32) (h : i ≠ 7) : wn_put a i x = upd a i x := by
  unfold wn_put
  rw [if_neg h]
theorem wn_put_hi {a : Nat → Int32} (x : Int32) : wn_put a 7 x = upd a 7 (x &&& 268435455) := by
  unfold wn_put
  rw [if_pos rfl]
theorem wn_m1 (x : Int32) : x &&& (-1) = x := by
  apply b_ext
  intro i hi
  rw [b_and, b_m1 i hi, Bool.and_true]
/-- lay: the half at 4h -/
def wn_lay (a : Nat → Int32) (h : Nat) (p q r s : Int32) : Nat → Int32 := wn_put (wn_put (wn_put (wn_put a (4 * h) p) (4 * h + 1) q) (4 * h + 2) r) (4 * h + 3) s
theorem wn_ok_lay {a : Nat → Int32} (ha : wn_ok a) (h : Nat) (p q r s : Int32) : wn_ok (wn_lay a h p q r s) := wn_ok_put (wn_ok_put (wn_ok_put (wn_ok_put ha _ _) _ _) _ _) _ _
/-- the half of a lay, the place of a few, the width of a find, the place of a digit -/
def wn_hf (x : Int32) : Nat := x.toBitVec.toNat % 2 ^ 1
def wn_pl (x : Int32) : Nat := x.toBitVec.toNat % 2 ^ 3
def wn_wd (x : Int32) : Nat := 3 + x.toBitVec.toNat % 2 ^ 2
def wn_dp (x : Int32) : Nat := x.toBitVec.toNat % 2 ^ 31 % 253
theorem wn_hf_lt (x : Int32) : wn_hf x < 2 := Nat.mod_lt _ (by decide)
theorem wn_pl_lt (x : Int32) : wn_pl x < 8 := Nat.mod_lt _ (by decide)
theorem wn_wd_in (x : Int32) : 3 ≤ wn_wd x ∧ wn_wd x ≤ 6 := by
  have h : x.toBitVec.toNat % 2 ^ 2 < 2 ^ 2 := Nat.mod_lt _ (by decide)
  unfold wn_wd
  omega
theorem wn_dp_lt (x : Int32) : wn_dp x < 253 := Nat.mod_lt _ (by decide)
theorem wn_hf_eq (x : Int32) : x &&& nI 1 = nI (wn_hf x) := pk_and x 1 (m := nI 1) (by decide)
theorem wn_pl_eq (x : Int32) : x &&& nI 7 = nI (wn_pl x) := pk_and x 3 (m := nI 7) (by decide)
theorem wn_wd_eq (x : Int32) : nI 3 + (x &&& nI 3) = nI (wn_wd x) := by
  rw [pk_and x 2 (m := nI 3) (by decide), nI_add]
  rfl
theorem wn_dp_eq (x : Int32) : (x &&& 2147483647) - (x &&& 2147483647) / nI 253 * nI 253 = nI (wn_dp x) := by
  rw [pk_and x 31 (m := 2147483647) (by decide), pk_rem (Nat.mod_lt _ (by decide)) (by decide) (by decide)]
  rfl
/-! steps of a counter -/
theorem wn_dec {n k : Nat} (h : n = k + 1) : nI n + Int32.ofInt (-1) = nI k := by
  subst h
  rw [show Int32.ofInt (-1) = -1 from by decide]
  exact pk_m1 k
theorem wn_inc (n : Nat) : nI n + Int32.ofInt 1 = nI (n + 1) := by
  rw [show Int32.ofInt 1 = nI 1 from by decide, nI_add]
theorem wn_inc6 (n : Nat) : nI n + Int32.ofInt 6 = nI (n + 6) := by
  rw [show Int32.ofInt 6 = nI 6 from by decide, nI_add]
theorem wn_dec16 {n : Nat} (h : 16 ≤ n) : nI n + Int32.ofInt (-16) = nI (n - 16) := by
  rw [show Int32.ofInt (-16) = -nI 16 from by decide, ← Int32.sub_eq_add_neg, pk_sub h]
theorem wn_x4 (h : Nat) : nI h <<< (nI 2 &&& 31) = nI (4 * h) := by
  rw [wn_shl _ _ (by decide)]
  exact congrArg nI (by omega)
theorem wn_p1 {k : Nat} (hk : k < 32) : nI 1 <<< (nI k &&& 31) = nI (2 ^ k) := by
  rw [wn_shl _ _ hk, Nat.one_mul]
theorem wn_lay_lo {a : Nat → Int32} {h : Nat} {p q r s : Int32} (hh : h = 0) : upd (upd (upd (upd a (4 * h) p) (4 * h + 1) q) (4 * h + 2) r) (4 * h + 3) s = wn_lay a h p q r s := by
  subst hh
  rfl
theorem wn_lay_hi {a : Nat → Int32} {h : Nat} {p q r s : Int32} (hh : h = 1) : upd (upd (upd (upd a (4 * h) p) (4 * h + 1) q) (4 * h + 2) r) (4 * h + 3) (s &&& 268435455) = wn_lay a h p q r s := by
  subst hh
  rfl
theorem wn_v_0 (X p c : Nat) : nI c = nI (c + X / 2 ^ p % 2 ^ 0) := by
  rw [Nat.pow_zero, Nat.mod_one, Nat.add_zero]
theorem wn_d_lo {w v : Nat} (h : v < 2 ^ (w - 1)) : nI v = wn_d w v := by
  unfold wn_d
  rw [if_neg (Nat.not_le.mpr h)]
theorem wn_d_hi {w v : Nat} (h : 2 ^ (w - 1) ≤ v) : nI v - nI (2 ^ w) = wn_d w v := by
  unfold wn_d
  rw [if_pos h]
theorem wn_c_lo {w v : Nat} (h : v < 2 ^ (w - 1)) : nI 0 = nI (wn_c w v) := by
  unfold wn_c
  rw [if_neg (Nat.not_le.mpr h)]
theorem wn_c_hi {w v : Nat} (h : 2 ^ (w - 1) ≤ v) : nI 1 = nI (wn_c w v) := by
  unfold wn_c
  rw [if_pos h]
theorem wn_pw {w : Nat} (h6 : w ≤ 6) : 2 ^ w ≤ 64 := show 2 ^ w ≤ 2 ^ 6 from Nat.pow_le_pow_right (by decide) h6
/-- the law's loop goes on: six more ints -/
theorem wn_go {L i : Nat} (hL : L ≤ 144) (hi : i ≤ L) (h : ¬ nI L - nI 6 < nI i) : i + 6 ≤ L := by
  rw [Int32.lt_iff_toInt_lt, pk_sub_toInt (by omega) (by omega), nI_toInt (by omega)] at h
  omega
end
section
/-! ROWS of ours over the kit's: a value under another name, arrays at an index that is a number -/
section WN
variable {p : Program} {l : Launch} {e : Env} {R : Room} {s : State} {m : MethodId} {args : Array Value} {below : List Frame} {meth : Method} {c : Code} {H : Heap} {locs : List Loc} {cells slots : Nat} {Q : State → Prop}
variable {cc : ByteArray} {pc : Nat} {ls : Array Slot} {rest : List Value} {D : va_G} {cl : List vw_C} {A : Nat → Prop} {a : Nat} {tys : List (ClassId × FieldType)} {ws : va_W} {H0 : Heap}
theorem wn_top {x y : Int32} (he : x = y) (k : W p l e R s m args below meth c H locs cells slots Q (F0 m pc ls (.int y :: rest))) : W p l e R s m args below meth c H locs cells slots Q (F0 m pc ls (.int x :: rest)) := by
  subst he
  exact k
theorem wn_iald (hexec : p.tables.exec = Jvm.exec) (hb : c.code = cc) (hK : va_K D cl tys s) (hP : va_P D cl ws H) (q0 t0 : Nat) {cA : ClassId} {n : Nat} {f : Nat → Int32} (ha : ws[q0]? = some (a, .inl (cA, n, .inl f))) (ht : tys[t0]? = some (cA, .int)) {k : Nat} (hk : k < n) (hn : n < 2 ^ 31) (hdg : decode cc pc = .ok (.iaload, 1))
    (kk : W p l e R s m args below meth c H locs cells slots Q (F0 m (pc + 1) ls (.int (f k) :: rest))) : W p l e R s m args below meth c H locs cells slots Q (F0 m pc ls (.int (nI k) :: .ref a :: rest)) := by
  refine va_iald hexec hb hK hP q0 t0 ha ht (vp_in_nI hk hn) hdg ?_
  rw [nI_clamp (Nat.lt_trans hk hn)]
  exact kk
theorem wn_bald (hexec : p.tables.exec = Jvm.exec) (hb : c.code = cc) (hK : va_K D cl tys s) (hP : va_P D cl ws H) (q0 t0 : Nat) {cA : ClassId} {n : Nat} {f : Nat → Int32} (ha : ws[q0]? = some (a, .inl (cA, n, .inl f))) (ht : tys[t0]? = some (cA, .byte)) {k : Nat} (hk : k < n) (hn : n < 2 ^ 31) (hdg : decode cc pc = .ok (.baload, 1))
    (kk : W p l e R s m args below meth c H locs cells slots Q (F0 m (pc + 1) ls (.int (f k) :: rest))) : W p l e R s m args below meth c H locs cells slots Q (F0 m pc ls (.int (nI k) :: .ref a :: rest)) := by
  refine va_bald hexec hb hK hP q0 t0 ha ht (vp_in_nI hk hn) hdg ?_
  rw [nI_clamp (Nat.lt_trans hk hn)]
  exact kk
theorem wn_iast (hexec : p.tables.exec = Jvm.exec) (hb : c.code = cc) (hK : va_K D cl tys s) (hP : va_P D cl ws H) (hD : va_D A ws) (hS : va_S A H0 H locs) (q0 t0 : Nat) {cA : ClassId} {n : Nat} {f : Nat → Int32} (ha : ws[q0]? = some (a, .inl (cA, n, .inl f))) (ht : tys[t0]? = some (cA, .int)) {k : Nat} {x : Int32} (hk : k < n) (hn : n < 2 ^ 31) (hdg : decode cc pc = .ok (.iastore, 1))
    (kk : ∀ (H1 : Heap) (locs1 : List Loc), va_P D cl (ws.set q0 (a, .inl (cA, n, .inl (upd f k x)))) H1 → va_D A (ws.set q0 (a, .inl (cA, n, .inl (upd f k x)))) → va_S A H0 H1 locs1 → W p l e R s m args below meth c H1 locs1 cells slots Q (F0 m (pc + 1) ls rest)) : W p l e R s m args below meth c H locs cells slots Q (F0 m pc ls (.int x :: .int (nI k) :: .ref a :: rest)) := by
  refine va_iast hexec hb hK hP hD hS q0 t0 ha ht (vp_in_nI hk hn) hdg ?_
  rw [nI_clamp (Nat.lt_trans hk hn)]
  exact kk
theorem wn_bast (hexec : p.tables.exec = Jvm.exec) (hb : c.code = cc) (hK : va_K D cl tys s) (hP : va_P D cl ws H) (hD : va_D A ws) (hS : va_S A H0 H locs) (q0 t0 : Nat) {cA : ClassId} {n : Nat} {f : Nat → Int32} (ha : ws[q0]? = some (a, .inl (cA, n, .inl f))) (ht : tys[t0]? = some (cA, .byte)) {k : Nat} {x : Int32} (hx : vp_nar .byte x = x) (hk : k < n) (hn : n < 2 ^ 31) (hdg : decode cc pc = .ok (.bastore, 1))
    (kk : ∀ (H1 : Heap) (locs1 : List Loc), va_P D cl (ws.set q0 (a, .inl (cA, n, .inl (upd f k x)))) H1 → va_D A (ws.set q0 (a, .inl (cA, n, .inl (upd f k x)))) → va_S A H0 H1 locs1 → W p l e R s m args below meth c H1 locs1 cells slots Q (F0 m (pc + 1) ls rest)) : W p l e R s m args below meth c H locs cells slots Q (F0 m pc ls (.int x :: .int (nI k) :: .ref a :: rest)) := by
  refine va_bast hexec hb hK hP hD hS q0 t0 ha ht (vp_in_nI hk hn) hdg ?_
  rw [nI_clamp (Nat.lt_trans hk hn), hx]
  exact kk
theorem wn_sld (hexec : p.tables.exec = Jvm.exec) (hb : c.code = cc) {b L : Nat} {xs : Nat → Int32} (hX : va_X b L xs s H0) (hbl : b < H0.size) (hbA : ¬ A b) (hS : va_S A H0 H locs) {k : Nat} (hk : k < L) (hn : L < 2 ^ 31) (hdg : decode cc pc = .ok (.iaload, 1))
    (kk : W p l e R s m args below meth c H locs cells slots Q (F0 m (pc + 1) ls (.int (xs k) :: rest))) : W p l e R s m args below meth c H locs cells slots Q (F0 m pc ls (.int (nI k) :: .ref b :: rest)) := by
  refine va_sld hexec hb hX hbl hbA hS (vp_in_nI hk hn) hdg ?_
  rw [nI_clamp (Nat.lt_trans hk hn)]
  exact kk
end WN
/-- the classes whose objects the worlds hold -/
abbrev vwCl : List vw_C := [(RX0, TX0, 3), (RX1, TX1, 3)]
/-- a WnafDesk at h0: its words a, its digits d, its width x -/
abbrev wn_B0 (dC : Nat → ClassId) (dI : Nat → Nat → Nat) (A : Nat → Prop) (h0 n0 g0 : Nat) (cI cB : ClassId) (a d : Nat → Int32) (x : Int32) (t : State) : Prop := va_P (dC, dI) vwCl [(h0, .inr (0, [.ref n0, .ref g0, .int x])), (n0, .inl (cI, 8, .inl a)), (g0, .inl (cB, 253, .inl d))] t.heap ∧ va_K (dC, dI) vwCl [(cI, .int), (cB, .byte)] t ∧ va_D A [(h0, .inr (0, [.ref n0, .ref g0, .int x])), (n0, .inl (cI, 8, .inl a)), (g0, .inl (cB, 253, .inl d))]
/-- a WnafDeskModel at h0: its words a, its digits d, its width x -/
abbrev wn_B1 (dC : Nat → ClassId) (dI : Nat → Nat → Nat) (A : Nat → Prop) (h0 n0 g0 : Nat) (cI cB : ClassId) (a d : Nat → Int32) (x : Int32) (t : State) : Prop := va_P (dC, dI) vwCl [(h0, .inr (1, [.ref n0, .ref g0, .int x])), (n0, .inl (cI, 8, .inl a)), (g0, .inl (cB, 253, .inl d))] t.heap ∧ va_K (dC, dI) vwCl [(cI, .int), (cB, .int)] t ∧ va_D A [(h0, .inr (1, [.ref n0, .ref g0, .int x])), (n0, .inl (cI, 8, .inl a)), (g0, .inl (cB, 253, .inl d))]
/-- the half word array of getSignedVar beside the two that it's given -/
abbrev wn_BG (dC : Nat → ClassId) (dI : Nat → Nat → Nat) (A : Nat → Prop) (n0 g0 : Nat) (cI cB : ClassId) (a d : Nat → Int32) (t : State) : Prop := va_P (dC, dI) vwCl [(n0, .inl (cI, 8, .inl a)), (g0, .inl (cB, 253, .inl d))] t.heap ∧ va_K (dC, dI) vwCl [(cI, .int), (cB, .byte)] t ∧ va_D A [(n0, .inl (cI, 8, .inl a)), (g0, .inl (cB, 253, .inl d))]
end
section
/-! Wnaf.getSignedVar: the half words, then the digits; it comes to wn_run -/
set_option maxHeartbeats 4000000 in
set_option maxRecDepth 100000 in
/-- the loop that fills the half words, from the top down -/
theorem wn_loop1 {p : Program} {l : Launch} {e : Env} {R : Room} {s : State} {m : MethodId} {args : Array Value} {below : List Frame} {meth : Method} {c : Code} {cells slots : Nat} {Q : State → Prop} {dC : Nat → ClassId} {dI : Nat → Nat → Nat} {A : Nat → Prop} {H0 : Heap} {n0 g0 t0 : Nat} {cI cB cT : ClassId} {a z : Nat → Int32} {X w : Nat} (hx : p.tables.exec = Jvm.exec) (hb : c.code = cX2_getSignedVar) (hX : wn_X a X) (hK : va_K (dC, dI) vwCl [(cI, .int), (cB, .byte), (cT, .int)] s)
    (kk : ∀ (t : Nat → Int32) (H : Heap) (locs : List Loc) (ls : Array Slot), (∀ q, q < 16 → t q = nI (X / 2 ^ (16 * q))) → va_P (dC, dI) vwCl [(n0, .inl (cI, 8, .inl a)), (g0, .inl (cB, 253, .inl z)), (t0, .inl (cT, 16, .inl t))] H → va_D A [(n0, .inl (cI, 8, .inl a)), (g0, .inl (cB, 253, .inl z)), (t0, .inl (cT, 16, .inl t))] → va_S A H0 H locs → lv_has ls 12 [(0, .ref n0), (1, .int (nI w)), (2, .ref g0), (3, .ref t0)] → W p l e R s m args below meth c H locs cells slots Q (F0 m 73 ls [])) :
    ∀ (i : Nat), i ≤ 8 → ∀ (t : Nat → Int32) (H : Heap) (locs : List Loc) (ls : Array Slot), (∀ q, 2 * i ≤ q → q < 16 → t q = nI (X / 2 ^ (16 * q))) → va_P (dC, dI) vwCl [(n0, .inl (cI, 8, .inl a)), (g0, .inl (cB, 253, .inl z)), (t0, .inl (cT, 16, .inl t))] H → va_D A [(n0, .inl (cI, 8, .inl a)), (g0, .inl (cB, 253, .inl z)), (t0, .inl (cT, 16, .inl t))] → va_S A H0 H locs → lv_has ls 12 [(0, .ref n0), (1, .int (nI w)), (2, .ref g0), (3, .ref t0), (4, .int (nI (X / 2 ^ (32 * i)))), (5, .int (nI i)), (6, .int (nI (2 * i)))] → W p l e R s m args below meth c H locs cells slots Q (F0 m 26 ls []) := by
  intro i
  induction i with
  | zero =>
    intro hi t H locs ls ht hP hD hS hl
    refine lv_iinc (v := (-1)) (lv' := [(5, .int (-1)), (0, .ref n0), (1, .int (nI w)), (2, .ref g0), (3, .ref t0), (4, .int (nI (X / 2 ^ (32 * 0)))), (6, .int (nI (2 * 0)))]) hx hb dX2_getSignedVar_26 hl (k := 5) rfl (by decide) (by decide) rfl (fun ls hl => ?_)
    refine lv_iload hx hb dX2_getSignedVar_29 (lv_at hl 0 rfl) ?_
    refine lv_if_lt (tgt := 73) hx hb dX2_getSignedVar_31 (by decide) (fun c1 => ?_) (fun c1 => absurd (by decide) c1)
    exact kk t H locs ls (fun q h => ht q (by omega) h) hP hD hS (lv_sub hl [1, 2, 3, 4] rfl)
  | succ i ih =>
    intro hi t H locs ls ht hP hD hS hl
    refine lv_iinc (v := nI i) (lv' := [(5, .int (nI i)), (0, .ref n0), (1, .int (nI w)), (2, .ref g0), (3, .ref t0), (4, .int (nI (X / 2 ^ (32 * (i + 1))))), (6, .int (nI (2 * (i + 1))))]) hx hb dX2_getSignedVar_26 hl (k := 5) rfl (wn_dec rfl) (by decide) rfl (fun ls hl => ?_)
    refine lv_iload hx hb dX2_getSignedVar_29 (lv_at hl 0 rfl) ?_
    refine lv_if_lt (tgt := 73) hx hb dX2_getSignedVar_31 (by decide) (fun c1 => absurd c1 (nI_pos (by omega))) (fun c1 => ?_)
    refine lv_aload_n hx hb dX2_getSignedVar_34 rfl (lv_at hl 1 rfl) ?_
    refine lv_iload hx hb dX2_getSignedVar_35 (lv_at hl 0 rfl) ?_
    refine wn_iald (k := i) hx hb hK hP 0 0 rfl rfl (by omega) (by decide) dX2_getSignedVar_37 ?_
    refine wn_top (y := nI (X / 2 ^ (32 * i))) (hX.2 i (by omega)) ?_
    refine lv_istore (lv' := [(7, .int (nI (X / 2 ^ (32 * i)))), (5, .int (nI i)), (0, .ref n0), (1, .int (nI w)), (2, .ref g0), (3, .ref t0), (4, .int (nI (X / 2 ^ (32 * (i + 1))))), (6, .int (nI (2 * (i + 1))))]) hx hb dX2_getSignedVar_38 hl (by decide) rfl (fun ls hl => ?_)
    refine lv_aload_n hx hb dX2_getSignedVar_40 rfl (lv_at hl 5 rfl) ?_
    refine lv_iinc (v := nI (2 * i + 1)) (lv' := [(6, .int (nI (2 * i + 1))), (7, .int (nI (X / 2 ^ (32 * i)))), (5, .int (nI i)), (0, .ref n0), (1, .int (nI w)), (2, .ref g0), (3, .ref t0), (4, .int (nI (X / 2 ^ (32 * (i + 1)))))]) hx hb dX2_getSignedVar_41 hl (k := 7) rfl (wn_dec (by omega)) (by decide) rfl (fun ls hl => ?_)
    refine lv_iload hx hb dX2_getSignedVar_44 (lv_at hl 0 rfl) ?_
    refine lv_iload hx hb dX2_getSignedVar_46 (lv_at hl 1 rfl) ?_
    refine lv_bipush (v := nI 16) hx hb dX2_getSignedVar_48 (by decide) ?_
    refine lv_iushr (v := ((nI (X / 2 ^ (32 * i))).toUInt32 >>> ((nI 16).toUInt32 &&& Int32.toUInt32 31)).toInt32) hx hb dX2_getSignedVar_50 (rfl) ?_
    refine lv_iload hx hb dX2_getSignedVar_51 (lv_at hl 7 rfl) ?_
    refine lv_bipush (v := nI 16) hx hb dX2_getSignedVar_53 (by decide) ?_
    refine lv_ishl hx hb dX2_getSignedVar_55 ?_
    refine lv_ior hx hb dX2_getSignedVar_56 ?_
    refine wn_top (y := nI (X / 2 ^ (16 * (2 * i + 1)))) (wn_half X i) ?_
    refine wn_iast (k := 2 * i + 1) (x := (nI (X / 2 ^ (16 * (2 * i + 1))))) hx hb hK hP hD hS 2 2 rfl rfl (by omega) (by decide) dX2_getSignedVar_57 (fun H locs hP hD hS => ?_)
    have hP : va_P (dC, dI) vwCl [(n0, .inl (cI, 8, .inl a)), (g0, .inl (cB, 253, .inl z)), (t0, .inl (cT, 16, .inl (upd t (2 * i + 1) (nI (X / 2 ^ (16 * (2 * i + 1)))))))] H := hP
    have hD : va_D A [(n0, .inl (cI, 8, .inl a)), (g0, .inl (cB, 253, .inl z)), (t0, .inl (cT, 16, .inl (upd t (2 * i + 1) (nI (X / 2 ^ (16 * (2 * i + 1)))))))] := hD
    refine lv_aload_n hx hb dX2_getSignedVar_58 rfl (lv_at hl 6 rfl) ?_
    refine lv_iinc (v := nI (2 * i)) (lv' := [(6, .int (nI (2 * i))), (7, .int (nI (X / 2 ^ (32 * i)))), (5, .int (nI i)), (0, .ref n0), (1, .int (nI w)), (2, .ref g0), (3, .ref t0), (4, .int (nI (X / 2 ^ (32 * (i + 1)))))]) hx hb dX2_getSignedVar_59 hl (k := 0) rfl (wn_dec rfl) (by decide) rfl (fun ls hl => ?_)
    refine lv_iload hx hb dX2_getSignedVar_62 (lv_at hl 0 rfl) ?_
    refine lv_iload hx hb dX2_getSignedVar_64 (lv_at hl 1 rfl) ?_
    refine lv_dup hx hb dX2_getSignedVar_66 rfl ?_
    refine lv_istore (lv' := [(4, .int (nI (X / 2 ^ (32 * i)))), (6, .int (nI (2 * i))), (7, .int (nI (X / 2 ^ (32 * i)))), (5, .int (nI i)), (0, .ref n0), (1, .int (nI w)), (2, .ref g0), (3, .ref t0)]) hx hb dX2_getSignedVar_67 hl (by decide) rfl (fun ls hl => ?_)
    refine wn_iast (k := 2 * i) (x := (nI (X / 2 ^ (32 * i)))) hx hb hK hP hD hS 2 2 rfl rfl (by omega) (by decide) dX2_getSignedVar_69 (fun H locs hP hD hS => ?_)
    have hP : va_P (dC, dI) vwCl [(n0, .inl (cI, 8, .inl a)), (g0, .inl (cB, 253, .inl z)), (t0, .inl (cT, 16, .inl (upd (upd t (2 * i + 1) (nI (X / 2 ^ (16 * (2 * i + 1))))) (2 * i) (nI (X / 2 ^ (32 * i))))))] H := hP
    have hD : va_D A [(n0, .inl (cI, 8, .inl a)), (g0, .inl (cB, 253, .inl z)), (t0, .inl (cT, 16, .inl (upd (upd t (2 * i + 1) (nI (X / 2 ^ (16 * (2 * i + 1))))) (2 * i) (nI (X / 2 ^ (32 * i))))))] := hD
    refine lv_goto (tgt := 26) hx hb dX2_getSignedVar_70 (by decide) ?_
    refine ih (by omega) _ H locs ls ?_ hP hD hS (lv_sub hl [4, 5, 6, 7, 0, 3, 1] rfl)
    intro q h1 h2
    by_cases e1 : q = 2 * i
    · subst e1
      rw [pk_us]
      exact congrArg nI (by rw [show 16 * (2 * i) = 32 * i by omega])
    · rw [pk_un e1]
      by_cases e2 : q = 2 * i + 1
      · subst e2
        rw [pk_us]
      · rw [pk_un e2]
        exact ht q (by omega) h2
set_option maxHeartbeats 4000000 in
set_option maxRecDepth 100000 in
/-- the digits: at the inner loop's head, at half word i and place j of it -/
theorem wn_main {p : Program} {l : Launch} {e : Env} {R : Room} {s : State} {m : MethodId} {args : Array Value} {below : List Frame} {meth : Method} {c : Code} {cells slots : Nat} {Q : State → Prop} {dC : Nat → ClassId} {dI : Nat → Nat → Nat} {A : Nat → Prop} {H0 : Heap} {n0 g0 t0 : Nat} {cI cB cT : ClassId} {a t D0 : Nat → Int32} {X w : Nat} (hx : p.tables.exec = Jvm.exec) (hb : c.code = cX2_getSignedVar) (hX : X < 2 ^ 252) (h3 : 3 ≤ w) (h6 : w ≤ 6) (ht : ∀ q, q < 16 → t q = nI (X / 2 ^ (16 * q))) (hK : va_K (dC, dI) vwCl [(cI, .int), (cB, .byte), (cT, .int)] s)
    (kk : ∀ (H : Heap) (locs : List Loc) (ls : Array Slot), va_P (dC, dI) vwCl [(n0, .inl (cI, 8, .inl a)), (g0, .inl (cB, 253, .inl D0)), (t0, .inl (cT, 16, .inl t))] H → va_D A [(n0, .inl (cI, 8, .inl a)), (g0, .inl (cB, 253, .inl D0)), (t0, .inl (cT, 16, .inl t))] → va_S A H0 H locs → W p l e R s m args below meth c H locs cells slots Q (F0 m 183 ls [])) :
    ∀ (n i j cr : Nat) (d : Nat → Int32) (H : Heap) (locs : List Loc) (ls : Array Slot), i < 16 → 316 < n + (16 * i + j) + i → j ≤ 21 → wn_I X w D0 (16 * i + j) cr d → va_P (dC, dI) vwCl [(n0, .inl (cI, 8, .inl a)), (g0, .inl (cB, 253, .inl d)), (t0, .inl (cT, 16, .inl t))] H → va_D A [(n0, .inl (cI, 8, .inl a)), (g0, .inl (cB, 253, .inl d)), (t0, .inl (cT, 16, .inl t))] → va_S A H0 H locs → lv_has ls 12 [(0, .ref n0), (1, .int (nI w)), (2, .ref g0), (3, .ref t0), (4, .int (nI (32 - w))), (5, .int (nI j)), (6, .int (nI cr)), (7, .int (nI i)), (8, .int (nI (X / 2 ^ (16 * i))))] → W p l e R s m args below meth c H locs cells slots Q (F0 m 101 ls []) := by
  intro n
  induction n with
  | zero =>
    intro i j cr d H locs ls hi hn hj hI
    exact absurd hn (by omega)
  | succ n ih =>
    intro i j cr d H locs ls hi hn hj2 hI hP hD hS hl
    refine lv_iload hx hb dX2_getSignedVar_101 (lv_at hl 5 rfl) ?_
    refine lv_bipush (v := nI 16) hx hb dX2_getSignedVar_103 (by decide) ?_
    refine lv_icmp_ge (tgt := 174) hx hb dX2_getSignedVar_105 (by decide) (fun c1 => ?_) (fun c1 => ?_)
    · have hj : 16 ≤ j := (nI_leI (by decide) (by omega)).mp c1
      refine lv_iinc (v := nI (i + 1)) (lv' := [(7, .int (nI (i + 1))), (0, .ref n0), (1, .int (nI w)), (2, .ref g0), (3, .ref t0), (4, .int (nI (32 - w))), (5, .int (nI j)), (6, .int (nI cr)), (8, .int (nI (X / 2 ^ (16 * i))))]) hx hb dX2_getSignedVar_174 hl (k := 7) rfl (wn_inc i) (by decide) rfl (fun ls hl => ?_)
      refine lv_iinc (v := nI (j - 16)) (lv' := [(5, .int (nI (j - 16))), (7, .int (nI (i + 1))), (0, .ref n0), (1, .int (nI w)), (2, .ref g0), (3, .ref t0), (4, .int (nI (32 - w))), (6, .int (nI cr)), (8, .int (nI (X / 2 ^ (16 * i))))]) hx hb dX2_getSignedVar_177 hl (k := 6) rfl (wn_dec16 hj) (by decide) rfl (fun ls hl => ?_)
      refine lv_goto (tgt := 88) hx hb dX2_getSignedVar_180 (by decide) ?_
      rcases Nat.lt_or_ge (i + 1) 16 with hi2 | hi2
      · refine lv_iload hx hb dX2_getSignedVar_88 (lv_at hl 1 rfl) ?_
        refine lv_aload_n hx hb dX2_getSignedVar_90 rfl (lv_at hl 5 rfl) ?_
        refine va_alen (v := nI 16) hx hb hK hP 2 2 rfl rfl rfl dX2_getSignedVar_91 ?_
        refine lv_icmp_ge (tgt := 183) hx hb dX2_getSignedVar_92 (by decide) (fun c3 => absurd c3 (nI_ge hi2 (by decide))) (fun c3 => ?_)
        refine lv_aload_n hx hb dX2_getSignedVar_95 rfl (lv_at hl 5 rfl) ?_
        refine lv_iload hx hb dX2_getSignedVar_96 (lv_at hl 1 rfl) ?_
        refine wn_iald (k := i + 1) hx hb hK hP 2 2 rfl rfl (hi2) (by decide) dX2_getSignedVar_98 ?_
        refine wn_top (y := nI (X / 2 ^ (16 * (i + 1)))) (ht (i + 1) hi2) ?_
        refine lv_istore (lv' := [(8, .int (nI (X / 2 ^ (16 * (i + 1))))), (5, .int (nI (j - 16))), (7, .int (nI (i + 1))), (0, .ref n0), (1, .int (nI w)), (2, .ref g0), (3, .ref t0), (4, .int (nI (32 - w))), (6, .int (nI cr))]) hx hb dX2_getSignedVar_99 hl (by decide) rfl (fun ls hl => ?_)
        exact ih (i + 1) (j - 16) cr d H locs ls hi2 (by omega) (by omega) (by rw [show 16 * (i + 1) + (j - 16) = 16 * i + j by omega]; exact hI) hP hD hS (lv_sub hl [3, 4, 5, 6, 7, 1, 8, 2, 0] rfl)
      · refine lv_iload hx hb dX2_getSignedVar_88 (lv_at hl 1 rfl) ?_
        refine lv_aload_n hx hb dX2_getSignedVar_90 rfl (lv_at hl 5 rfl) ?_
        refine va_alen (v := nI 16) hx hb hK hP 2 2 rfl rfl rfl dX2_getSignedVar_91 ?_
        refine lv_icmp_ge (tgt := 183) hx hb dX2_getSignedVar_92 (by decide) (fun c3 => ?_) (fun c3 => absurd (nI_le hi2 (by omega)) c3)
        rw [wn_I_end hI (by omega)] at hP hD
        exact kk H locs ls hP hD hS
    · have hj : j < 16 := Nat.lt_of_not_le (fun q => c1 (nI_le q (by omega)))
      have hcr : cr ≤ 1 := hI.1
      refine lv_iload hx hb dX2_getSignedVar_108 (lv_at hl 8 rfl) ?_
      refine lv_iload hx hb dX2_getSignedVar_110 (lv_at hl 5 rfl) ?_
      refine lv_iushr (v := nI (wn_M X i j)) hx hb dX2_getSignedVar_112 (wn_M_eq X i j hj) ?_
      refine lv_istore (lv' := [(9, .int (nI (wn_M X i j))), (0, .ref n0), (1, .int (nI w)), (2, .ref g0), (3, .ref t0), (4, .int (nI (32 - w))), (5, .int (nI j)), (6, .int (nI cr)), (7, .int (nI i)), (8, .int (nI (X / 2 ^ (16 * i))))]) hx hb dX2_getSignedVar_113 hl (by decide) rfl (fun ls hl => ?_)
      refine lv_iload hx hb dX2_getSignedVar_115 (lv_at hl 0 rfl) ?_
      refine lv_iconst (v := nI 1) hx hb dX2_getSignedVar_117 (by decide) ?_
      refine lv_iand hx hb dX2_getSignedVar_118 ?_
      refine wn_top (y := nI (wn_bit X (16 * i + j))) (wn_M_bit X i hj) ?_
      refine lv_istore (lv' := [(10, .int (nI (wn_bit X (16 * i + j)))), (9, .int (nI (wn_M X i j))), (0, .ref n0), (1, .int (nI w)), (2, .ref g0), (3, .ref t0), (4, .int (nI (32 - w))), (5, .int (nI j)), (6, .int (nI cr)), (7, .int (nI i)), (8, .int (nI (X / 2 ^ (16 * i))))]) hx hb dX2_getSignedVar_119 hl (by decide) rfl (fun ls hl => ?_)
      refine lv_iload hx hb dX2_getSignedVar_121 (lv_at hl 0 rfl) ?_
      refine lv_iload hx hb dX2_getSignedVar_123 (lv_at hl 8 rfl) ?_
      refine lv_icmp_ne (tgt := 134) hx hb dX2_getSignedVar_125 (by decide) (fun c2 => ?_) (fun c2 => ?_)
      · have hne : ¬ wn_bit X (16 * i + j) = cr := fun h => c2 (by rw [h])
        have hv := wn_v_lt X w (16 * i + j) cr (by omega) hcr hne
        have hlow := wn_I_low hX hI hne
        refine lv_iload hx hb dX2_getSignedVar_134 (lv_at hl 1 rfl) ?_
        refine lv_iconst (v := nI 1) hx hb dX2_getSignedVar_136 (by decide) ?_
        refine lv_ior hx hb dX2_getSignedVar_137 ?_
        refine lv_iload hx hb dX2_getSignedVar_138 (lv_at hl 6 rfl) ?_
        refine lv_ishl hx hb dX2_getSignedVar_140 ?_
        refine wn_top (y := nI (wn_v X w (16 * i + j) cr * 2 ^ (32 - w))) (wn_dg X i (by omega) (by omega) hj hcr hne) ?_
        refine lv_istore (lv' := [(11, .int (nI (wn_v X w (16 * i + j) cr * 2 ^ (32 - w)))), (10, .int (nI (wn_bit X (16 * i + j)))), (9, .int (nI (wn_M X i j))), (0, .ref n0), (1, .int (nI w)), (2, .ref g0), (3, .ref t0), (4, .int (nI (32 - w))), (5, .int (nI j)), (6, .int (nI cr)), (7, .int (nI i)), (8, .int (nI (X / 2 ^ (16 * i))))]) hx hb dX2_getSignedVar_141 hl (by decide) rfl (fun ls hl => ?_)
        refine lv_iload hx hb dX2_getSignedVar_143 (lv_at hl 0 rfl) ?_
        refine lv_bipush (v := nI 31) hx hb dX2_getSignedVar_145 (by decide) ?_
        refine lv_iushr (v := nI (wn_c w (wn_v X w (16 * i + j) cr))) hx hb dX2_getSignedVar_147 (wn_dg_c h3 h6 hv) ?_
        refine lv_istore (lv' := [(6, .int (nI (wn_c w (wn_v X w (16 * i + j) cr)))), (11, .int (nI (wn_v X w (16 * i + j) cr * 2 ^ (32 - w)))), (10, .int (nI (wn_bit X (16 * i + j)))), (9, .int (nI (wn_M X i j))), (0, .ref n0), (1, .int (nI w)), (2, .ref g0), (3, .ref t0), (4, .int (nI (32 - w))), (5, .int (nI j)), (7, .int (nI i)), (8, .int (nI (X / 2 ^ (16 * i))))]) hx hb dX2_getSignedVar_148 hl (by decide) rfl (fun ls hl => ?_)
        refine lv_aload_n hx hb dX2_getSignedVar_150 rfl (lv_at hl 6 rfl) ?_
        refine lv_iload hx hb dX2_getSignedVar_151 (lv_at hl 10 rfl) ?_
        refine lv_iconst (v := nI 4) hx hb dX2_getSignedVar_153 (by decide) ?_
        refine lv_ishl hx hb dX2_getSignedVar_154 ?_
        refine lv_iload hx hb dX2_getSignedVar_155 (lv_at hl 9 rfl) ?_
        refine lv_iadd hx hb dX2_getSignedVar_157 ?_
        refine wn_top (y := nI (16 * i + j)) (wn_ix i j) ?_
        refine lv_iload hx hb dX2_getSignedVar_158 (lv_at hl 1 rfl) ?_
        refine lv_iload hx hb dX2_getSignedVar_160 (lv_at hl 8 rfl) ?_
        refine lv_ishr hx hb dX2_getSignedVar_162 ?_
        refine lv_i2b (v := wn_d w (wn_v X w (16 * i + j) cr)) hx hb dX2_getSignedVar_163 (wn_dg_d h3 h6 hv) ?_
        refine wn_bast (k := 16 * i + j) (x := (wn_d w (wn_v X w (16 * i + j) cr))) hx hb hK hP hD hS 1 1 rfl rfl (wn_nar h3 h6 hv) (by omega) (by decide) dX2_getSignedVar_164 (fun H locs hP hD hS => ?_)
        have hP : va_P (dC, dI) vwCl [(n0, .inl (cI, 8, .inl a)), (g0, .inl (cB, 253, .inl (upd d (16 * i + j) (wn_d w (wn_v X w (16 * i + j) cr))))), (t0, .inl (cT, 16, .inl t))] H := hP
        have hD : va_D A [(n0, .inl (cI, 8, .inl a)), (g0, .inl (cB, 253, .inl (upd d (16 * i + j) (wn_d w (wn_v X w (16 * i + j) cr))))), (t0, .inl (cT, 16, .inl t))] := hD
        refine lv_iload hx hb dX2_getSignedVar_165 (lv_at hl 9 rfl) ?_
        refine lv_iload_n hx hb dX2_getSignedVar_167 rfl (lv_at hl 5 rfl) ?_
        refine lv_iadd hx hb dX2_getSignedVar_168 ?_
        refine wn_top (y := nI (j + w)) (nI_add j w) ?_
        refine lv_istore (lv' := [(5, .int (nI (j + w))), (6, .int (nI (wn_c w (wn_v X w (16 * i + j) cr)))), (11, .int (nI (wn_v X w (16 * i + j) cr * 2 ^ (32 - w)))), (10, .int (nI (wn_bit X (16 * i + j)))), (9, .int (nI (wn_M X i j))), (0, .ref n0), (1, .int (nI w)), (2, .ref g0), (3, .ref t0), (4, .int (nI (32 - w))), (7, .int (nI i)), (8, .int (nI (X / 2 ^ (16 * i))))]) hx hb dX2_getSignedVar_169 hl (by decide) rfl (fun ls hl => ?_)
        refine lv_goto (tgt := 101) hx hb dX2_getSignedVar_171 (by decide) ?_
        have hI2 := wn_I_dig hX (by omega) hI hne
        rw [Nat.add_assoc (16 * i) j w] at hI2
        exact ih i (j + w) _ _ H locs ls hi (by omega) (by omega) hI2 hP hD hS (lv_sub hl [5, 6, 7, 8, 9, 0, 1, 10, 11] rfl)
      · have heq : wn_bit X (16 * i + j) = cr := (nI_eq (Nat.lt_trans (wn_bit_2 X _) (by decide)) (by omega)).mp c2
        refine lv_iinc (v := nI (j + 1)) (lv' := [(5, .int (nI (j + 1))), (10, .int (nI (wn_bit X (16 * i + j)))), (9, .int (nI (wn_M X i j))), (0, .ref n0), (1, .int (nI w)), (2, .ref g0), (3, .ref t0), (4, .int (nI (32 - w))), (6, .int (nI cr)), (7, .int (nI i)), (8, .int (nI (X / 2 ^ (16 * i))))]) hx hb dX2_getSignedVar_128 hl (k := 7) rfl (wn_inc j) (by decide) rfl (fun ls hl => ?_)
        refine lv_goto (tgt := 101) hx hb dX2_getSignedVar_131 (by decide) ?_
        exact ih i (j + 1) cr d H locs ls hi (by omega) (by omega) (wn_I_skip hX hI heq) hP hD hS (lv_sub hl [3, 4, 5, 6, 7, 0, 8, 9, 10] rfl)
set_option maxHeartbeats 4000000 in
set_option maxRecDepth 100000 in
/-- getSignedVar(n, width, ws): the digits of the number X of the words, laid over ws; one array of 16 ints is made -/
theorem metX2_getSignedVar (l : Launch) (dC : Nat → ClassId) (dI : Nat → Nat → Nat) (n0 g0 : Nat) (cI cB : ClassId) (sz : Nat) (a z : Nat → Int32) (X w : Nat) (hX : wn_X a X) (h3 : 3 ≤ w) (h6 : w ≤ 6) : Met l yX2_getSignedVar (ws_ yX2_getSignedVar cX2_getSignedVar 12 none) ({ frames := 0, cells := 1, slots := 16, locals := 0 }) (va_Pc [.ref n0, .int (nI w), .ref g0] (fun U => U.heap.size = sz ∧ va_P (dC, dI) vwCl [(n0, .inl (cI, 8, .inl a)), (g0, .inl (cB, 253, .inl z))] U.heap ∧ va_K (dC, dI) vwCl [(cI, .int), (cB, .byte)] U ∧ va_D (fun _ => True) [(n0, .inl (cI, 8, .inl a)), (g0, .inl (cB, 253, .inl z))])) (va_Qv (fun _ : Unit => True) (fun _ => wn_BG dC dI (va_A [(n0, .inl (cI, 8, .inl a)), (g0, .inl (cB, 253, .inl z))] sz) n0 g0 cI cB a (wn_run X w 253 0 0 z)) (va_A [(n0, .inl (cI, 8, .inl a)), (g0, .inl (cB, 253, .inl z))] sz)) 1 16 (va_A [(n0, .inl (cI, 8, .inl a)), (g0, .inl (cB, 253, .inl z))] sz) := by
  refine Met.ofW (cc := cX2_getSignedVar) (maxL := 12) (ret := none) (by decide) rfl ?_
  intro p e s m args below meth c s₁ B hml hv
  obtain ⟨rfl, hsz, hP, hK, hD0⟩ := hv
  have hx := B.exec
  have hb := B.bytes
  have hr := B.returns
  have hts := atoms_spec (ws := (ws_ yX2_getSignedVar cX2_getSignedVar 12 none)) B.pre
  have hts : ∀ w ∈ lw_all, w.before _ s = true := fun w h => hts w (List.mem_cons_of_mem _ h)
  have hown : s.vm.findClass RX2 = some m.cls := findClass_of_methodNamed B.named
  have hlocks := B.notSynchronized
  subst hsz
  have hD := hD0.self (sz := s.heap.size)
  generalize hAe : va_A [(n0, .inl (cI, 8, .inl a)), (g0, .inl (cB, 253, .inl z))] s.heap.size = A at hD ⊢
  have hA : ∀ q : Nat, s.heap.size ≤ q → A q := fun q h => by rw [← hAe]; exact Or.inr h
  have hS : va_S A s.heap s.heap [] := va_S.rf
  have hP : va_P (dC, dI) vwCl [(n0, .inl (cI, 8, .inl a)), (g0, .inl (cB, 253, .inl z))] s.heap := hP
  have hl := lv_entry ([.ref n0, .int (nI w), .ref g0]) (n := 12) (Nat.le_of_ble_eq_true rfl)
  rw [lg_entry_eq]
  generalize (lg_sl ([.ref n0, .int (nI w), .ref g0]) ++ List.replicate (12 - (lg_sl ([.ref n0, .int (nI w), .ref g0])).length) Slot.unset).toArray = ls at hl ⊢
  have hl : lv_has ls 12 [(0, .ref n0), (1, .int (nI w)), (2, .ref g0)] := hl
  refine lv_aload_n hx hb dX2_getSignedVar_0 rfl (lv_at hl 0 rfl) ?_
  refine va_alen (v := nI 8) hx hb hK hP 0 0 rfl rfl rfl dX2_getSignedVar_1 ?_
  refine lv_iconst (v := nI 2) hx hb dX2_getSignedVar_2 (by decide) ?_
  refine lv_imul hx hb dX2_getSignedVar_3 ?_
  refine wn_top (y := nI 16) (by decide) ?_
  refine va_newa (D := (dC, dI)) (atype := .int) (N' := 16) (a0 := (16, .inl (fun _ => 0))) hx hb (hts _ q24) rfl hK hP hD hS hA (fun _ => rfl) (by decide) (by decide) (Nat.le_of_ble_eq_true rfl) (Nat.le_of_ble_eq_true rfl) (Nat.le_of_ble_eq_true rfl) dX2_getSignedVar_4 (fun t0 cT H hK hP hD hS => ?_)
  have hP : va_P (dC, dI) vwCl [(n0, .inl (cI, 8, .inl a)), (g0, .inl (cB, 253, .inl z)), (t0, .inl (cT, 16, .inl (fun _ => 0)))] H := hP
  have hD : va_D A [(n0, .inl (cI, 8, .inl a)), (g0, .inl (cB, 253, .inl z)), (t0, .inl (cT, 16, .inl (fun _ => 0)))] := hD
  have hK : va_K (dC, dI) vwCl [(cI, .int), (cB, .byte), (cT, .int)] s := hK
  refine W.widen (k := 1) (n := 16) (Nat.le_of_ble_eq_true rfl) (Nat.le_of_ble_eq_true rfl) ?_
  refine lv_astore_n (lv' := [(3, .ref t0), (0, .ref n0), (1, .int (nI w)), (2, .ref g0)]) hx hb dX2_getSignedVar_6 rfl hl (by decide) rfl (fun ls hl => ?_)
  refine lv_aload_n hx hb dX2_getSignedVar_7 rfl (lv_at hl 1 rfl) ?_
  refine lv_aload_n hx hb dX2_getSignedVar_8 rfl (lv_at hl 1 rfl) ?_
  refine va_alen (v := nI 8) hx hb hK hP 0 0 rfl rfl rfl dX2_getSignedVar_9 ?_
  refine lv_iconst (v := nI 1) hx hb dX2_getSignedVar_10 (by decide) ?_
  refine lv_isub hx hb dX2_getSignedVar_11 ?_
  refine wn_top (y := nI 7) (by decide) ?_
  refine wn_iald (k := 7) hx hb hK hP 0 0 rfl rfl (by decide) (by decide) dX2_getSignedVar_12 ?_
  refine wn_top (y := nI (X / 2 ^ (32 * 7))) (hX.2 7 (by decide)) ?_
  refine lv_bipush (v := nI 31) hx hb dX2_getSignedVar_13 (by decide) ?_
  refine lv_ishr hx hb dX2_getSignedVar_15 ?_
  refine wn_top (y := nI (X / 2 ^ (32 * 8))) (wn_sgn hX.1) ?_
  refine lv_istore (lv' := [(4, .int (nI (X / 2 ^ (32 * 8)))), (3, .ref t0), (0, .ref n0), (1, .int (nI w)), (2, .ref g0)]) hx hb dX2_getSignedVar_16 hl (by decide) rfl (fun ls hl => ?_)
  refine lv_aload_n hx hb dX2_getSignedVar_18 rfl (lv_at hl 2 rfl) ?_
  refine va_alen (v := nI 8) hx hb hK hP 0 0 rfl rfl rfl dX2_getSignedVar_19 ?_
  refine lv_istore (lv' := [(5, .int (nI 8)), (4, .int (nI (X / 2 ^ (32 * 8)))), (3, .ref t0), (0, .ref n0), (1, .int (nI w)), (2, .ref g0)]) hx hb dX2_getSignedVar_20 hl (by decide) rfl (fun ls hl => ?_)
  refine lv_aload_n hx hb dX2_getSignedVar_22 rfl (lv_at hl 2 rfl) ?_
  refine va_alen (v := nI 16) hx hb hK hP 2 2 rfl rfl rfl dX2_getSignedVar_23 ?_
  refine lv_istore (lv' := [(6, .int (nI 16)), (5, .int (nI 8)), (4, .int (nI (X / 2 ^ (32 * 8)))), (3, .ref t0), (0, .ref n0), (1, .int (nI w)), (2, .ref g0)]) hx hb dX2_getSignedVar_24 hl (by decide) rfl (fun ls hl => ?_)
  refine wn_loop1 hx hb hX hK (fun t H locs ls ht hP hD hS hl => ?_) 8 (Nat.le_refl 8) (fun _ => 0) H _ ls (fun q h1 h2 => absurd h2 (by omega)) hP hD hS (lv_sub hl [4, 5, 6, 3, 2, 1, 0] rfl)
  refine lv_bipush (v := nI 32) hx hb dX2_getSignedVar_73 (by decide) ?_
  refine lv_iload_n hx hb dX2_getSignedVar_75 rfl (lv_at hl 1 rfl) ?_
  refine lv_isub hx hb dX2_getSignedVar_76 ?_
  refine wn_top (y := nI (32 - w)) (pk_sub (by omega)) ?_
  refine lv_istore (lv' := [(4, .int (nI (32 - w))), (0, .ref n0), (1, .int (nI w)), (2, .ref g0), (3, .ref t0)]) hx hb dX2_getSignedVar_77 hl (by decide) rfl (fun ls hl => ?_)
  refine lv_iconst (v := nI 0) hx hb dX2_getSignedVar_79 (by decide) ?_
  refine lv_istore (lv' := [(5, .int (nI 0)), (4, .int (nI (32 - w))), (0, .ref n0), (1, .int (nI w)), (2, .ref g0), (3, .ref t0)]) hx hb dX2_getSignedVar_80 hl (by decide) rfl (fun ls hl => ?_)
  refine lv_iconst (v := nI 0) hx hb dX2_getSignedVar_82 (by decide) ?_
  refine lv_istore (lv' := [(6, .int (nI 0)), (5, .int (nI 0)), (4, .int (nI (32 - w))), (0, .ref n0), (1, .int (nI w)), (2, .ref g0), (3, .ref t0)]) hx hb dX2_getSignedVar_83 hl (by decide) rfl (fun ls hl => ?_)
  refine lv_iconst (v := nI 0) hx hb dX2_getSignedVar_85 (by decide) ?_
  refine lv_istore (lv' := [(7, .int (nI 0)), (6, .int (nI 0)), (5, .int (nI 0)), (4, .int (nI (32 - w))), (0, .ref n0), (1, .int (nI w)), (2, .ref g0), (3, .ref t0)]) hx hb dX2_getSignedVar_86 hl (by decide) rfl (fun ls hl => ?_)
  have hi0 : 0 < 16 := by decide
  refine lv_iload hx hb dX2_getSignedVar_88 (lv_at hl 0 rfl) ?_
  refine lv_aload_n hx hb dX2_getSignedVar_90 rfl (lv_at hl 7 rfl) ?_
  refine va_alen (v := nI 16) hx hb hK hP 2 2 rfl rfl rfl dX2_getSignedVar_91 ?_
  refine lv_icmp_ge (tgt := 183) hx hb dX2_getSignedVar_92 (by decide) (fun c3 => absurd c3 (nI_ge hi0 (by decide))) (fun c3 => ?_)
  refine lv_aload_n hx hb dX2_getSignedVar_95 rfl (lv_at hl 7 rfl) ?_
  refine lv_iload hx hb dX2_getSignedVar_96 (lv_at hl 0 rfl) ?_
  refine wn_iald (k := 0) hx hb hK hP 2 2 rfl rfl (hi0) (by decide) dX2_getSignedVar_98 ?_
  refine wn_top (y := nI (X / 2 ^ (16 * 0))) (ht 0 hi0) ?_
  refine lv_istore (lv' := [(8, .int (nI (X / 2 ^ (16 * 0)))), (7, .int (nI 0)), (6, .int (nI 0)), (5, .int (nI 0)), (4, .int (nI (32 - w))), (0, .ref n0), (1, .int (nI w)), (2, .ref g0), (3, .ref t0)]) hx hb dX2_getSignedVar_99 hl (by decide) rfl (fun ls hl => ?_)
  refine wn_main hx hb hX.1 h3 h6 ht hK (fun H locs ls hP hD hS => ?_) 317 0 0 0 z H locs ls (by decide) (by decide) (by decide) (wn_I_0 X w z) hP hD hS (lv_sub hl [5, 6, 7, 8, 4, 3, 2, 1, 0] rfl)
  have hP9 := hP.sub (ws' := [(n0, .inl (cI, 8, .inl a)), (g0, .inl (cB, 253, .inl (wn_run X w 253 0 0 z)))]) [0, 1] rfl
  have hD9 := hD.sub (ws' := [(n0, .inl (cI, 8, .inl a)), (g0, .inl (cB, 253, .inl (wn_run X w 253 0 0 z)))]) [0, 1] (by decide) rfl
  have hK9 := hK.sub (tys' := [(cI, .int), (cB, .byte)]) [0, 1] rfl
  exact W.vret hx hb hr (fun t ht hW => ⟨⟨(), rfl, trivial, by rw [ht]; exact hP9, va_K.moved hW.alike hK9, hD9⟩, hS.F ht⟩) hS.2.2 dX2_getSignedVar_183
end
section
/-! WnafDesk: its six methods -/
set_option maxHeartbeats 4000000 in
set_option maxRecDepth 100000 in
/-- WnafDesk(): eight words of 0, 253 digits of 0, width 4; two arrays are made -/
theorem metX0_init (l : Launch) (dC : Nat → ClassId) (dI : Nat → Nat → Nat) (h0 : Nat) (sz : Nat) : Met l yX0_init (ws_ yX0_init cX0_init 1 none) ({ frames := 1, cells := 2, slots := 261, locals := 12 }) (va_Pc [.ref h0] (fun U => U.heap.size = sz ∧ va_P (dC, dI) vwCl [(h0, .inr (0, [.null, .null, .int 0]))] U.heap ∧ va_K (dC, dI) vwCl [] U ∧ va_D (fun _ => True) [(h0, .inr (0, [.null, .null, .int 0]))])) (va_Qv (fun _ : Unit => True) (fun _ t => ∃ (n0 g0 : Nat) (cI cB : ClassId), wn_B0 dC dI (va_A [(h0, .inr (0, [.null, .null, .int 0]))] sz) h0 n0 g0 cI cB (fun _ => 0) (fun _ => 0) (nI 4) t) (va_A [(h0, .inr (0, [.null, .null, .int 0]))] sz)) 2 261 (va_A [(h0, .inr (0, [.null, .null, .int 0]))] sz) := by
  refine Met.ofW (cc := cX0_init) (maxL := 1) (ret := none) (by decide) rfl ?_
  intro p e s m args below meth c s₁ B hml hv
  obtain ⟨rfl, hsz, hP, hK, hD0⟩ := hv
  have hx := B.exec
  have hb := B.bytes
  have hr := B.returns
  have hts := atoms_spec (ws := (ws_ yX0_init cX0_init 1 none)) B.pre
  have hts : ∀ w ∈ lw_all, w.before _ s = true := fun w h => hts w (List.mem_cons_of_mem _ h)
  have hown : s.vm.findClass RX0 = some m.cls := findClass_of_methodNamed B.named
  have hlocks := B.notSynchronized
  have hin : meth.name = "<init>" := (name_of_methodNamed B.named B.method).1
  subst hsz
  have hD := hD0.self (sz := s.heap.size)
  generalize hAe : va_A [(h0, .inr (0, [.null, .null, .int 0]))] s.heap.size = A at hD ⊢
  have hA : ∀ q : Nat, s.heap.size ≤ q → A q := fun q h => by rw [← hAe]; exact Or.inr h
  have hS : va_S A s.heap s.heap [] := va_S.rf
  have hP : va_P (dC, dI) vwCl [(h0, .inr (0, [.null, .null, .int 0]))] s.heap := hP
  have hl := lv_entry ([.ref h0]) (n := 1) (Nat.le_of_ble_eq_true rfl)
  rw [lg_entry_eq]
  generalize (lg_sl ([.ref h0]) ++ List.replicate (1 - (lg_sl ([.ref h0])).length) Slot.unset).toArray = ls at hl ⊢
  have hl : lv_has ls 1 [(0, .ref h0)] := hl
  refine lv_aload_n hx hb dX0_init_0 rfl (lv_at hl 0 rfl) ?_
  refine W.objInit hx hb hown (hts _ q11) (hts _ q12) (hts _ q13) rfl (by rw [hml]; exact hl.1) rfl dX0_init_1 (Nat.le_of_ble_eq_true rfl) (Nat.le_of_ble_eq_true rfl) ?_
  refine W.eq (g2 := F0 m 4 ls []) rfl ?_
  refine lv_aload_n hx hb dX0_init_4 rfl (lv_at hl 0 rfl) ?_
  refine lv_bipush (v := nI 8) hx hb dX0_init_5 (by decide) ?_
  refine va_newa (D := (dC, dI)) (atype := .int) (N' := 8) (a0 := (8, .inl (fun _ => 0))) hx hb (hts _ q24) rfl hK hP hD hS hA (fun _ => rfl) (by decide) (by decide) (Nat.le_of_ble_eq_true rfl) (Nat.le_of_ble_eq_true rfl) (Nat.le_of_ble_eq_true rfl) dX0_init_7 (fun n0 cI H hK hP hD hS => ?_)
  have hP : va_P (dC, dI) vwCl [(h0, .inr (0, [.null, .null, .int 0])), (n0, .inl (cI, 8, .inl (fun _ => 0)))] H := hP
  have hD : va_D A [(h0, .inr (0, [.null, .null, .int 0])), (n0, .inl (cI, 8, .inl (fun _ => 0)))] := hD
  have hK : va_K (dC, dI) vwCl [(cI, .int)] s := hK
  refine W.widen (k := 1) (n := 8) (Nat.le_of_ble_eq_true rfl) (Nat.le_of_ble_eq_true rfl) ?_
  refine va_putF (D := (dC, dI)) (ci := 0) (v := .ref n0) (ty := .array .int) (C := RX0) (T := TX0) (N := 3) hx hb hts in_X0 tyX0 tyX0_ok nmX0 hown hK hP hD hS 0 rfl rfl 0 (by decide) (hts _ q14) (fun _ h9 => h9) rfl hin rfl (by decide +kernel) rfl rfl (Nat.le_of_ble_eq_true rfl) dX0_init_9 (fun H locs hP hD hS => ?_)
  have hP : va_P (dC, dI) vwCl [(h0, .inr (0, [.ref n0, .null, .int 0])), (n0, .inl (cI, 8, .inl (fun _ => 0)))] H := hP
  have hD : va_D A [(h0, .inr (0, [.ref n0, .null, .int 0])), (n0, .inl (cI, 8, .inl (fun _ => 0)))] := hD
  refine lv_aload_n hx hb dX0_init_12 rfl (lv_at hl 0 rfl) ?_
  refine lv_sipush (v := nI 253) hx hb dX0_init_13 (by decide) ?_
  refine va_newa (D := (dC, dI)) (atype := .byte) (N' := 253) (a0 := (253, .inl (fun _ => 0))) hx hb (hts _ q25) rfl hK hP hD hS hA (fun _ => rfl) (by decide) (by decide) (Nat.le_of_ble_eq_true rfl) (Nat.le_of_ble_eq_true rfl) (Nat.le_of_ble_eq_true rfl) dX0_init_16 (fun g0 cB H hK hP hD hS => ?_)
  have hP : va_P (dC, dI) vwCl [(h0, .inr (0, [.ref n0, .null, .int 0])), (n0, .inl (cI, 8, .inl (fun _ => 0))), (g0, .inl (cB, 253, .inl (fun _ => 0)))] H := hP
  have hD : va_D A [(h0, .inr (0, [.ref n0, .null, .int 0])), (n0, .inl (cI, 8, .inl (fun _ => 0))), (g0, .inl (cB, 253, .inl (fun _ => 0)))] := hD
  have hK : va_K (dC, dI) vwCl [(cI, .int), (cB, .byte)] s := hK
  refine W.widen (k := 2) (n := 261) (Nat.le_of_ble_eq_true rfl) (Nat.le_of_ble_eq_true rfl) ?_
  refine va_put (D := (dC, dI)) (ci := 0) (v := .ref g0) (ty := .array .byte) (C := RX0) (T := TX0) (N := 3) hx hb hts in_X0 tyX0 tyX0_ok nmX0 hown hK hP hD hS 0 rfl rfl 1 (by decide) (hts _ q15) (fun _ h9 => h9) rfl (by decide +kernel) rfl rfl (Nat.le_of_ble_eq_true rfl) dX0_init_18 (fun H locs hP hD hS => ?_)
  have hP : va_P (dC, dI) vwCl [(h0, .inr (0, [.ref n0, .ref g0, .int 0])), (n0, .inl (cI, 8, .inl (fun _ => 0))), (g0, .inl (cB, 253, .inl (fun _ => 0)))] H := hP
  have hD : va_D A [(h0, .inr (0, [.ref n0, .ref g0, .int 0])), (n0, .inl (cI, 8, .inl (fun _ => 0))), (g0, .inl (cB, 253, .inl (fun _ => 0)))] := hD
  refine lv_aload_n hx hb dX0_init_21 rfl (lv_at hl 0 rfl) ?_
  refine lv_iconst (v := nI 4) hx hb dX0_init_22 (by decide) ?_
  refine va_put (D := (dC, dI)) (ci := 0) (v := .int (nI 4)) (ty := .int) (C := RX0) (T := TX0) (N := 3) hx hb hts in_X0 tyX0 tyX0_ok nmX0 hown hK hP hD hS 0 rfl rfl 2 (by decide) (hts _ q16) (fun _ h9 => h9) rfl (by decide +kernel) rfl rfl (Nat.le_of_ble_eq_true rfl) dX0_init_23 (fun H locs hP hD hS => ?_)
  have hP : va_P (dC, dI) vwCl [(h0, .inr (0, [.ref n0, .ref g0, .int (nI 4)])), (n0, .inl (cI, 8, .inl (fun _ => 0))), (g0, .inl (cB, 253, .inl (fun _ => 0)))] H := hP
  have hD : va_D A [(h0, .inr (0, [.ref n0, .ref g0, .int (nI 4)])), (n0, .inl (cI, 8, .inl (fun _ => 0))), (g0, .inl (cB, 253, .inl (fun _ => 0)))] := hD
  exact W.vret hx hb hr (fun t ht hW => ⟨⟨(), rfl, trivial, n0, g0, cI, cB, by rw [ht]; exact hP, va_K.moved hW.alike hK, hD⟩, hS.F ht⟩) hS.2.2 dX0_init_26
set_option maxHeartbeats 4000000 in
set_option maxRecDepth 100000 in
/-- lay(half, ..): four words -/
theorem metX0_lay (l : Launch) (dC : Nat → ClassId) (dI : Nat → Nat → Nat) (h0 n0 g0 : Nat) (cI cB : ClassId) (sz : Nat) (a d : Nat → Int32) (x : Int32) (y0 : Int32) (y1 : Int32) (y2 : Int32) (y3 : Int32) (y4 : Int32) : Met l yX0_lay (ws_ yX0_lay cX0_lay 7 none) ({ frames := 0, cells := 0, slots := 0, locals := 0 }) (va_Pc [.ref h0, .int y0, .int y1, .int y2, .int y3, .int y4] (fun U => U.heap.size = sz ∧ va_P (dC, dI) vwCl [(h0, .inr (0, [.ref n0, .ref g0, .int x])), (n0, .inl (cI, 8, .inl a)), (g0, .inl (cB, 253, .inl d))] U.heap ∧ va_K (dC, dI) vwCl [(cI, .int), (cB, .byte)] U ∧ va_D (fun _ => True) [(h0, .inr (0, [.ref n0, .ref g0, .int x])), (n0, .inl (cI, 8, .inl a)), (g0, .inl (cB, 253, .inl d))])) (va_Qv (fun _ : Unit => True) (fun _ => wn_B0 dC dI (va_A [(h0, .inr (0, [.ref n0, .ref g0, .int x])), (n0, .inl (cI, 8, .inl a)), (g0, .inl (cB, 253, .inl d))] sz) h0 n0 g0 cI cB (wn_lay a (wn_hf y0) y1 y2 y3 y4) d x) (va_A [(h0, .inr (0, [.ref n0, .ref g0, .int x])), (n0, .inl (cI, 8, .inl a)), (g0, .inl (cB, 253, .inl d))] sz)) 0 0 (va_A [(h0, .inr (0, [.ref n0, .ref g0, .int x])), (n0, .inl (cI, 8, .inl a)), (g0, .inl (cB, 253, .inl d))] sz) := by
  refine Met.ofW (cc := cX0_lay) (maxL := 7) (ret := none) (by decide) rfl ?_
  intro p e s m args below meth c s₁ B hml hv
  obtain ⟨rfl, hsz, hP, hK, hD0⟩ := hv
  have hx := B.exec
  have hb := B.bytes
  have hr := B.returns
  have hts := atoms_spec (ws := (ws_ yX0_lay cX0_lay 7 none)) B.pre
  have hts : ∀ w ∈ lw_all, w.before _ s = true := fun w h => hts w (List.mem_cons_of_mem _ h)
  have hown : s.vm.findClass RX0 = some m.cls := findClass_of_methodNamed B.named
  have hlocks := B.notSynchronized
  subst hsz
  have hD := hD0.self (sz := s.heap.size)
  generalize hAe : va_A [(h0, .inr (0, [.ref n0, .ref g0, .int x])), (n0, .inl (cI, 8, .inl a)), (g0, .inl (cB, 253, .inl d))] s.heap.size = A at hD ⊢
  have hA : ∀ q : Nat, s.heap.size ≤ q → A q := fun q h => by rw [← hAe]; exact Or.inr h
  have hS : va_S A s.heap s.heap [] := va_S.rf
  have hP : va_P (dC, dI) vwCl [(h0, .inr (0, [.ref n0, .ref g0, .int x])), (n0, .inl (cI, 8, .inl a)), (g0, .inl (cB, 253, .inl d))] s.heap := hP
  have hl := lv_entry ([.ref h0, .int y0, .int y1, .int y2, .int y3, .int y4]) (n := 7) (Nat.le_of_ble_eq_true rfl)
  rw [lg_entry_eq]
  generalize (lg_sl ([.ref h0, .int y0, .int y1, .int y2, .int y3, .int y4]) ++ List.replicate (7 - (lg_sl ([.ref h0, .int y0, .int y1, .int y2, .int y3, .int y4])).length) Slot.unset).toArray = ls at hl ⊢
  have hl : lv_has ls 7 [(0, .ref h0), (1, .int y0), (2, .int y1), (3, .int y2), (4, .int y3), (5, .int y4)] := hl
  have hh := wn_hf_lt y0
  refine lv_iload_n hx hb dX0_lay_0 rfl (lv_at hl 1 rfl) ?_
  refine lv_iconst (v := nI 1) hx hb dX0_lay_1 (by decide) ?_
  refine lv_iand hx hb dX0_lay_2 ?_
  refine wn_top (y := nI (wn_hf y0)) (wn_hf_eq y0) ?_
  refine lv_iconst (v := nI 2) hx hb dX0_lay_3 (by decide) ?_
  refine lv_ishl hx hb dX0_lay_4 ?_
  refine wn_top (y := nI (4 * wn_hf y0)) (wn_x4 _) ?_
  refine lv_istore (lv' := [(6, .int (nI (4 * wn_hf y0))), (0, .ref h0), (1, .int y0), (2, .int y1), (3, .int y2), (4, .int y3), (5, .int y4)]) hx hb dX0_lay_5 hl (by decide) rfl (fun ls hl => ?_)
  refine lv_aload_n hx hb dX0_lay_7 rfl (lv_at hl 1 rfl) ?_
  refine va_get (D := (dC, dI)) (ci := 0) (v := .ref n0) (C := RX0) (T := TX0) (N := 3) hx hb hts in_X0 hown hK hP 0 rfl rfl 0 (by decide) (hts _ q14) (fun _ h9 => h9) rfl dX0_lay_8 ?_
  refine lv_iload hx hb dX0_lay_11 (lv_at hl 0 rfl) ?_
  refine lv_iload_n hx hb dX0_lay_13 rfl (lv_at hl 3 rfl) ?_
  refine wn_iast (k := 4 * wn_hf y0) (x := y1) hx hb hK hP hD hS 1 0 rfl rfl (by omega) (by decide) dX0_lay_14 (fun H locs hP hD hS => ?_)
  have hP : va_P (dC, dI) vwCl [(h0, .inr (0, [.ref n0, .ref g0, .int x])), (n0, .inl (cI, 8, .inl (upd a (4 * wn_hf y0) y1))), (g0, .inl (cB, 253, .inl d))] H := hP
  have hD : va_D A [(h0, .inr (0, [.ref n0, .ref g0, .int x])), (n0, .inl (cI, 8, .inl (upd a (4 * wn_hf y0) y1))), (g0, .inl (cB, 253, .inl d))] := hD
  refine lv_aload_n hx hb dX0_lay_15 rfl (lv_at hl 1 rfl) ?_
  refine va_get (D := (dC, dI)) (ci := 0) (v := .ref n0) (C := RX0) (T := TX0) (N := 3) hx hb hts in_X0 hown hK hP 0 rfl rfl 0 (by decide) (hts _ q14) (fun _ h9 => h9) rfl dX0_lay_16 ?_
  refine lv_iload hx hb dX0_lay_19 (lv_at hl 0 rfl) ?_
  refine lv_iconst (v := nI 1) hx hb dX0_lay_21 (by decide) ?_
  refine lv_iadd hx hb dX0_lay_22 ?_
  refine wn_top (y := nI (4 * wn_hf y0 + 1)) (nI_add _ 1) ?_
  refine lv_iload_n hx hb dX0_lay_23 rfl (lv_at hl 4 rfl) ?_
  refine wn_iast (k := 4 * wn_hf y0 + 1) (x := y2) hx hb hK hP hD hS 1 0 rfl rfl (by omega) (by decide) dX0_lay_24 (fun H locs hP hD hS => ?_)
  have hP : va_P (dC, dI) vwCl [(h0, .inr (0, [.ref n0, .ref g0, .int x])), (n0, .inl (cI, 8, .inl (upd (upd a (4 * wn_hf y0) y1) (4 * wn_hf y0 + 1) y2))), (g0, .inl (cB, 253, .inl d))] H := hP
  have hD : va_D A [(h0, .inr (0, [.ref n0, .ref g0, .int x])), (n0, .inl (cI, 8, .inl (upd (upd a (4 * wn_hf y0) y1) (4 * wn_hf y0 + 1) y2))), (g0, .inl (cB, 253, .inl d))] := hD
  refine lv_aload_n hx hb dX0_lay_25 rfl (lv_at hl 1 rfl) ?_
  refine va_get (D := (dC, dI)) (ci := 0) (v := .ref n0) (C := RX0) (T := TX0) (N := 3) hx hb hts in_X0 hown hK hP 0 rfl rfl 0 (by decide) (hts _ q14) (fun _ h9 => h9) rfl dX0_lay_26 ?_
  refine lv_iload hx hb dX0_lay_29 (lv_at hl 0 rfl) ?_
  refine lv_iconst (v := nI 2) hx hb dX0_lay_31 (by decide) ?_
  refine lv_iadd hx hb dX0_lay_32 ?_
  refine wn_top (y := nI (4 * wn_hf y0 + 2)) (nI_add _ 2) ?_
  refine lv_iload hx hb dX0_lay_33 (lv_at hl 5 rfl) ?_
  refine wn_iast (k := 4 * wn_hf y0 + 2) (x := y3) hx hb hK hP hD hS 1 0 rfl rfl (by omega) (by decide) dX0_lay_35 (fun H locs hP hD hS => ?_)
  have hP : va_P (dC, dI) vwCl [(h0, .inr (0, [.ref n0, .ref g0, .int x])), (n0, .inl (cI, 8, .inl (upd (upd (upd a (4 * wn_hf y0) y1) (4 * wn_hf y0 + 1) y2) (4 * wn_hf y0 + 2) y3))), (g0, .inl (cB, 253, .inl d))] H := hP
  have hD : va_D A [(h0, .inr (0, [.ref n0, .ref g0, .int x])), (n0, .inl (cI, 8, .inl (upd (upd (upd a (4 * wn_hf y0) y1) (4 * wn_hf y0 + 1) y2) (4 * wn_hf y0 + 2) y3))), (g0, .inl (cB, 253, .inl d))] := hD
  refine lv_aload_n hx hb dX0_lay_36 rfl (lv_at hl 1 rfl) ?_
  refine va_get (D := (dC, dI)) (ci := 0) (v := .ref n0) (C := RX0) (T := TX0) (N := 3) hx hb hts in_X0 hown hK hP 0 rfl rfl 0 (by decide) (hts _ q14) (fun _ h9 => h9) rfl dX0_lay_37 ?_
  refine lv_iload hx hb dX0_lay_40 (lv_at hl 0 rfl) ?_
  refine lv_iconst (v := nI 3) hx hb dX0_lay_42 (by decide) ?_
  refine lv_iadd hx hb dX0_lay_43 ?_
  refine wn_top (y := nI (4 * wn_hf y0 + 3)) (nI_add _ 3) ?_
  refine lv_iload hx hb dX0_lay_44 (lv_at hl 6 rfl) ?_
  refine lv_iload hx hb dX0_lay_46 (lv_at hl 0 rfl) ?_
  refine lv_if_ne (tgt := 55) hx hb dX0_lay_48 (by decide) (fun c1 => ?_) (fun c1 => ?_)
  · have h1 : wn_hf y0 = 1 := by
      rcases Nat.lt_or_ge (wn_hf y0) 1 with q | q
      · exact absurd (congrArg nI (show 4 * wn_hf y0 = 0 by omega)) c1
      · omega
    refine lv_ldc hx hb hown (hts _ q30) dX0_lay_55 ?_
    refine lv_iand hx hb dX0_lay_57 ?_
    refine wn_iast (k := 4 * wn_hf y0 + 3) (x := (y4 &&& 268435455)) hx hb hK hP hD hS 1 0 rfl rfl (by omega) (by decide) dX0_lay_58 (fun H locs hP hD hS => ?_)
    have hP : va_P (dC, dI) vwCl [(h0, .inr (0, [.ref n0, .ref g0, .int x])), (n0, .inl (cI, 8, .inl (upd (upd (upd (upd a (4 * wn_hf y0) y1) (4 * wn_hf y0 + 1) y2) (4 * wn_hf y0 + 2) y3) (4 * wn_hf y0 + 3) (y4 &&& 268435455)))), (g0, .inl (cB, 253, .inl d))] H := hP
    have hD : va_D A [(h0, .inr (0, [.ref n0, .ref g0, .int x])), (n0, .inl (cI, 8, .inl (upd (upd (upd (upd a (4 * wn_hf y0) y1) (4 * wn_hf y0 + 1) y2) (4 * wn_hf y0 + 2) y3) (4 * wn_hf y0 + 3) (y4 &&& 268435455)))), (g0, .inl (cB, 253, .inl d))] := hD
    rw [wn_lay_hi h1] at hP hD
    exact W.vret hx hb hr (fun t ht hW => ⟨⟨(), rfl, trivial, by rw [ht]; exact hP, va_K.moved hW.alike hK, hD⟩, hS.F ht⟩) hS.2.2 dX0_lay_59
  · have h1 : wn_hf y0 = 0 := by
      have h2 := (nI_eq (show 4 * wn_hf y0 < 2 ^ 31 by omega) (show 0 < 2 ^ 31 by decide)).mp c1
      omega
    refine lv_iconst (v := (-1)) hx hb dX0_lay_51 (by decide) ?_
    refine lv_goto (tgt := 57) hx hb dX0_lay_52 (by decide) ?_
    refine lv_iand hx hb dX0_lay_57 ?_
    refine wn_top (y := y4) (wn_m1 y4) ?_
    refine wn_iast (k := 4 * wn_hf y0 + 3) (x := y4) hx hb hK hP hD hS 1 0 rfl rfl (by omega) (by decide) dX0_lay_58 (fun H locs hP hD hS => ?_)
    have hP : va_P (dC, dI) vwCl [(h0, .inr (0, [.ref n0, .ref g0, .int x])), (n0, .inl (cI, 8, .inl (upd (upd (upd (upd a (4 * wn_hf y0) y1) (4 * wn_hf y0 + 1) y2) (4 * wn_hf y0 + 2) y3) (4 * wn_hf y0 + 3) y4))), (g0, .inl (cB, 253, .inl d))] H := hP
    have hD : va_D A [(h0, .inr (0, [.ref n0, .ref g0, .int x])), (n0, .inl (cI, 8, .inl (upd (upd (upd (upd a (4 * wn_hf y0) y1) (4 * wn_hf y0 + 1) y2) (4 * wn_hf y0 + 2) y3) (4 * wn_hf y0 + 3) y4))), (g0, .inl (cB, 253, .inl d))] := hD
    rw [wn_lay_lo h1] at hP hD
    exact W.vret hx hb hr (fun t ht hW => ⟨⟨(), rfl, trivial, by rw [ht]; exact hP, va_K.moved hW.alike hK, hD⟩, hS.F ht⟩) hS.2.2 dX0_lay_59
set_option maxHeartbeats 4000000 in
set_option maxRecDepth 100000 in
/-- few(i, v): one word -/
theorem metX0_few (l : Launch) (dC : Nat → ClassId) (dI : Nat → Nat → Nat) (h0 n0 g0 : Nat) (cI cB : ClassId) (sz : Nat) (a d : Nat → Int32) (x : Int32) (y0 : Int32) (y1 : Int32) : Met l yX0_few (ws_ yX0_few cX0_few 3 none) ({ frames := 0, cells := 0, slots := 0, locals := 0 }) (va_Pc [.ref h0, .int y0, .int y1] (fun U => U.heap.size = sz ∧ va_P (dC, dI) vwCl [(h0, .inr (0, [.ref n0, .ref g0, .int x])), (n0, .inl (cI, 8, .inl a)), (g0, .inl (cB, 253, .inl d))] U.heap ∧ va_K (dC, dI) vwCl [(cI, .int), (cB, .byte)] U ∧ va_D (fun _ => True) [(h0, .inr (0, [.ref n0, .ref g0, .int x])), (n0, .inl (cI, 8, .inl a)), (g0, .inl (cB, 253, .inl d))])) (va_Qv (fun _ : Unit => True) (fun _ => wn_B0 dC dI (va_A [(h0, .inr (0, [.ref n0, .ref g0, .int x])), (n0, .inl (cI, 8, .inl a)), (g0, .inl (cB, 253, .inl d))] sz) h0 n0 g0 cI cB (wn_put a (wn_pl y0) y1) d x) (va_A [(h0, .inr (0, [.ref n0, .ref g0, .int x])), (n0, .inl (cI, 8, .inl a)), (g0, .inl (cB, 253, .inl d))] sz)) 0 0 (va_A [(h0, .inr (0, [.ref n0, .ref g0, .int x])), (n0, .inl (cI, 8, .inl a)), (g0, .inl (cB, 253, .inl d))] sz) := by
  refine Met.ofW (cc := cX0_few) (maxL := 3) (ret := none) (by decide) rfl ?_
  intro p e s m args below meth c s₁ B hml hv
  obtain ⟨rfl, hsz, hP, hK, hD0⟩ := hv
  have hx := B.exec
  have hb := B.bytes
  have hr := B.returns
  have hts := atoms_spec (ws := (ws_ yX0_few cX0_few 3 none)) B.pre
  have hts : ∀ w ∈ lw_all, w.before _ s = true := fun w h => hts w (List.mem_cons_of_mem _ h)
  have hown : s.vm.findClass RX0 = some m.cls := findClass_of_methodNamed B.named
  have hlocks := B.notSynchronized
  subst hsz
  have hD := hD0.self (sz := s.heap.size)
  generalize hAe : va_A [(h0, .inr (0, [.ref n0, .ref g0, .int x])), (n0, .inl (cI, 8, .inl a)), (g0, .inl (cB, 253, .inl d))] s.heap.size = A at hD ⊢
  have hA : ∀ q : Nat, s.heap.size ≤ q → A q := fun q h => by rw [← hAe]; exact Or.inr h
  have hS : va_S A s.heap s.heap [] := va_S.rf
  have hP : va_P (dC, dI) vwCl [(h0, .inr (0, [.ref n0, .ref g0, .int x])), (n0, .inl (cI, 8, .inl a)), (g0, .inl (cB, 253, .inl d))] s.heap := hP
  have hl := lv_entry ([.ref h0, .int y0, .int y1]) (n := 3) (Nat.le_of_ble_eq_true rfl)
  rw [lg_entry_eq]
  generalize (lg_sl ([.ref h0, .int y0, .int y1]) ++ List.replicate (3 - (lg_sl ([.ref h0, .int y0, .int y1])).length) Slot.unset).toArray = ls at hl ⊢
  have hl : lv_has ls 3 [(0, .ref h0), (1, .int y0), (2, .int y1)] := hl
  have hh := wn_pl_lt y0
  refine lv_aload_n hx hb dX0_few_0 rfl (lv_at hl 0 rfl) ?_
  refine va_get (D := (dC, dI)) (ci := 0) (v := .ref n0) (C := RX0) (T := TX0) (N := 3) hx hb hts in_X0 hown hK hP 0 rfl rfl 0 (by decide) (hts _ q14) (fun _ h9 => h9) rfl dX0_few_1 ?_
  refine lv_iload_n hx hb dX0_few_4 rfl (lv_at hl 1 rfl) ?_
  refine lv_bipush (v := nI 7) hx hb dX0_few_5 (by decide) ?_
  refine lv_iand hx hb dX0_few_7 ?_
  refine wn_top (y := nI (wn_pl y0)) (wn_pl_eq y0) ?_
  refine lv_iload_n hx hb dX0_few_8 rfl (lv_at hl 1 rfl) ?_
  refine lv_bipush (v := nI 7) hx hb dX0_few_9 (by decide) ?_
  refine lv_iand hx hb dX0_few_11 ?_
  refine wn_top (y := nI (wn_pl y0)) (wn_pl_eq y0) ?_
  refine lv_bipush (v := nI 7) hx hb dX0_few_12 (by decide) ?_
  refine lv_icmp_ne (tgt := 24) hx hb dX0_few_14 (by decide) (fun c1 => ?_) (fun c1 => ?_)
  · refine lv_iload_n hx hb dX0_few_24 rfl (lv_at hl 2 rfl) ?_
    refine wn_iast (k := wn_pl y0) (x := y1) hx hb hK hP hD hS 1 0 rfl rfl (hh) (by decide) dX0_few_25 (fun H locs hP hD hS => ?_)
    have hP : va_P (dC, dI) vwCl [(h0, .inr (0, [.ref n0, .ref g0, .int x])), (n0, .inl (cI, 8, .inl (upd a (wn_pl y0) y1))), (g0, .inl (cB, 253, .inl d))] H := hP
    have hD : va_D A [(h0, .inr (0, [.ref n0, .ref g0, .int x])), (n0, .inl (cI, 8, .inl (upd a (wn_pl y0) y1))), (g0, .inl (cB, 253, .inl d))] := hD
    rw [← wn_put_lo y1 (fun h => c1 (congrArg nI h))] at hP hD
    exact W.vret hx hb hr (fun t ht hW => ⟨⟨(), rfl, trivial, by rw [ht]; exact hP, va_K.moved hW.alike hK, hD⟩, hS.F ht⟩) hS.2.2 dX0_few_26
  · have h1 : wn_pl y0 = 7 := (nI_eq (by omega) (by decide)).mp c1
    refine lv_iload_n hx hb dX0_few_17 rfl (lv_at hl 2 rfl) ?_
    refine lv_ldc hx hb hown (hts _ q30) dX0_few_18 ?_
    refine lv_iand hx hb dX0_few_20 ?_
    refine lv_goto (tgt := 25) hx hb dX0_few_21 (by decide) ?_
    refine wn_iast (k := wn_pl y0) (x := (y1 &&& 268435455)) hx hb hK hP hD hS 1 0 rfl rfl (hh) (by decide) dX0_few_25 (fun H locs hP hD hS => ?_)
    have hP : va_P (dC, dI) vwCl [(h0, .inr (0, [.ref n0, .ref g0, .int x])), (n0, .inl (cI, 8, .inl (upd a (wn_pl y0) (y1 &&& 268435455)))), (g0, .inl (cB, 253, .inl d))] H := hP
    have hD : va_D A [(h0, .inr (0, [.ref n0, .ref g0, .int x])), (n0, .inl (cI, 8, .inl (upd a (wn_pl y0) (y1 &&& 268435455)))), (g0, .inl (cB, 253, .inl d))] := hD
    rw [show upd a (wn_pl y0) (y1 &&& 268435455) = wn_put a (wn_pl y0) y1 by rw [h1, wn_put_hi]] at hP hD
    exact W.vret hx hb hr (fun t ht hW => ⟨⟨(), rfl, trivial, by rw [ht]; exact hP, va_K.moved hW.alike hK, hD⟩, hS.F ht⟩) hS.2.2 dX0_few_26
set_option maxHeartbeats 4000000 in
set_option maxRecDepth 100000 in
/-- find(w): the width and the digits of the number X of the words; two arrays are made -/
theorem metX0_find (l : Launch) (dC : Nat → ClassId) (dI : Nat → Nat → Nat) (h0 n0 g0 : Nat) (cI cB : ClassId) (sz : Nat) (a d : Nat → Int32) (x : Int32) (y0 : Int32) (X : Nat) (hX : wn_X a X) : Met l yX0_find (ws_ yX0_find cX0_find 3 none) ({ frames := 1, cells := 2, slots := 269, locals := 31 }) (va_Pc [.ref h0, .int y0] (fun U => U.heap.size = sz ∧ va_P (dC, dI) vwCl [(h0, .inr (0, [.ref n0, .ref g0, .int x])), (n0, .inl (cI, 8, .inl a)), (g0, .inl (cB, 253, .inl d))] U.heap ∧ va_K (dC, dI) vwCl [(cI, .int), (cB, .byte)] U ∧ va_D (fun _ => True) [(h0, .inr (0, [.ref n0, .ref g0, .int x])), (n0, .inl (cI, 8, .inl a)), (g0, .inl (cB, 253, .inl d))])) (va_Qv (fun _ : Unit => True) (fun _ t => ∃ (g1 : Nat) (cN : ClassId), wn_B0 dC dI (va_A [(h0, .inr (0, [.ref n0, .ref g0, .int x])), (n0, .inl (cI, 8, .inl a)), (g0, .inl (cB, 253, .inl d))] sz) h0 n0 g1 cI cN a (wn_run X (wn_wd y0) 253 0 0 (fun _ => 0)) (nI (wn_wd y0)) t) (va_A [(h0, .inr (0, [.ref n0, .ref g0, .int x])), (n0, .inl (cI, 8, .inl a)), (g0, .inl (cB, 253, .inl d))] sz)) 2 269 (va_A [(h0, .inr (0, [.ref n0, .ref g0, .int x])), (n0, .inl (cI, 8, .inl a)), (g0, .inl (cB, 253, .inl d))] sz) := by
  refine Met.ofW (cc := cX0_find) (maxL := 3) (ret := none) (by decide) rfl ?_
  intro p e s m args below meth c s₁ B hml hv
  obtain ⟨rfl, hsz, hP, hK, hD0⟩ := hv
  have hx := B.exec
  have hb := B.bytes
  have hr := B.returns
  have hts := atoms_spec (ws := (ws_ yX0_find cX0_find 3 none)) B.pre
  have hts : ∀ w ∈ lw_all, w.before _ s = true := fun w h => hts w (List.mem_cons_of_mem _ h)
  have hown : s.vm.findClass RX0 = some m.cls := findClass_of_methodNamed B.named
  have hlocks := B.notSynchronized
  subst hsz
  have hD := hD0.self (sz := s.heap.size)
  generalize hAe : va_A [(h0, .inr (0, [.ref n0, .ref g0, .int x])), (n0, .inl (cI, 8, .inl a)), (g0, .inl (cB, 253, .inl d))] s.heap.size = A at hD ⊢
  have hA : ∀ q : Nat, s.heap.size ≤ q → A q := fun q h => by rw [← hAe]; exact Or.inr h
  have hS : va_S A s.heap s.heap [] := va_S.rf
  have hP : va_P (dC, dI) vwCl [(h0, .inr (0, [.ref n0, .ref g0, .int x])), (n0, .inl (cI, 8, .inl a)), (g0, .inl (cB, 253, .inl d))] s.heap := hP
  have hl := lv_entry ([.ref h0, .int y0]) (n := 3) (Nat.le_of_ble_eq_true rfl)
  rw [lg_entry_eq]
  generalize (lg_sl ([.ref h0, .int y0]) ++ List.replicate (3 - (lg_sl ([.ref h0, .int y0])).length) Slot.unset).toArray = ls at hl ⊢
  have hl : lv_has ls 3 [(0, .ref h0), (1, .int y0)] := hl
  have hh := wn_wd_in y0
  refine lv_aload_n hx hb dX0_find_0 rfl (lv_at hl 0 rfl) ?_
  refine lv_iconst (v := nI 3) hx hb dX0_find_1 (by decide) ?_
  refine lv_iload_n hx hb dX0_find_2 rfl (lv_at hl 1 rfl) ?_
  refine lv_iconst (v := nI 3) hx hb dX0_find_3 (by decide) ?_
  refine lv_iand hx hb dX0_find_4 ?_
  refine lv_iadd hx hb dX0_find_5 ?_
  refine wn_top (y := nI (wn_wd y0)) (wn_wd_eq y0) ?_
  refine va_put (D := (dC, dI)) (ci := 0) (v := .int (nI (wn_wd y0))) (ty := .int) (C := RX0) (T := TX0) (N := 3) hx hb hts in_X0 tyX0 tyX0_ok nmX0 hown hK hP hD hS 0 rfl rfl 2 (by decide) (hts _ q16) (fun _ h9 => h9) rfl (by decide +kernel) rfl rfl (Nat.le_of_ble_eq_true rfl) dX0_find_6 (fun H locs hP hD hS => ?_)
  have hP : va_P (dC, dI) vwCl [(h0, .inr (0, [.ref n0, .ref g0, .int (nI (wn_wd y0))])), (n0, .inl (cI, 8, .inl a)), (g0, .inl (cB, 253, .inl d))] H := hP
  have hD : va_D A [(h0, .inr (0, [.ref n0, .ref g0, .int (nI (wn_wd y0))])), (n0, .inl (cI, 8, .inl a)), (g0, .inl (cB, 253, .inl d))] := hD
  refine lv_sipush (v := nI 253) hx hb dX0_find_9 (by decide) ?_
  refine va_newa (D := (dC, dI)) (atype := .byte) (N' := 253) (a0 := (253, .inl (fun _ => 0))) hx hb (hts _ q25) rfl hK hP hD hS hA (fun _ => rfl) (by decide) (by decide) (Nat.le_of_ble_eq_true rfl) (Nat.le_of_ble_eq_true rfl) (Nat.le_of_ble_eq_true rfl) dX0_find_12 (fun g1 cN H hK hP hD hS => ?_)
  have hP : va_P (dC, dI) vwCl [(h0, .inr (0, [.ref n0, .ref g0, .int (nI (wn_wd y0))])), (n0, .inl (cI, 8, .inl a)), (g0, .inl (cB, 253, .inl d)), (g1, .inl (cN, 253, .inl (fun _ => 0)))] H := hP
  have hD : va_D A [(h0, .inr (0, [.ref n0, .ref g0, .int (nI (wn_wd y0))])), (n0, .inl (cI, 8, .inl a)), (g0, .inl (cB, 253, .inl d)), (g1, .inl (cN, 253, .inl (fun _ => 0)))] := hD
  have hK : va_K (dC, dI) vwCl [(cI, .int), (cB, .byte), (cN, .byte)] s := hK
  refine W.widen (k := 1) (n := 253) (Nat.le_of_ble_eq_true rfl) (Nat.le_of_ble_eq_true rfl) ?_
  refine lv_astore_n (lv' := [(2, .ref g1), (0, .ref h0), (1, .int y0)]) hx hb dX0_find_14 rfl hl (by decide) rfl (fun ls hl => ?_)
  refine lv_aload_n hx hb dX0_find_15 rfl (lv_at hl 1 rfl) ?_
  refine va_get (D := (dC, dI)) (ci := 0) (v := .ref n0) (C := RX0) (T := TX0) (N := 3) hx hb hts in_X0 hown hK hP 0 rfl rfl 0 (by decide) (hts _ q14) (fun _ h9 => h9) rfl dX0_find_16 ?_
  refine lv_aload_n hx hb dX0_find_19 rfl (lv_at hl 1 rfl) ?_
  refine va_get (D := (dC, dI)) (ci := 0) (v := .int (nI (wn_wd y0))) (C := RX0) (T := TX0) (N := 3) hx hb hts in_X0 hown hK hP 0 rfl rfl 2 (by decide) (hts _ q16) (fun _ h9 => h9) rfl dX0_find_20 ?_
  refine lv_aload_n hx hb dX0_find_23 rfl (lv_at hl 0 rfl) ?_
  have hPc := hP.sub (ws' := [(n0, .inl (cI, 8, .inl a)), (g1, .inl (cN, 253, .inl (fun _ => 0)))]) [1, 3] rfl
  have hDc := hD.sub (ws' := [(n0, .inl (cI, 8, .inl a)), (g1, .inl (cN, 253, .inl (fun _ => 0)))]) [1, 3] (by decide) rfl
  have hKc := hK.sub (tys' := [(cI, .int), (cN, .byte)]) [0, 2] rfl
  have hFc := va_free (wc := [(n0, .inl (cI, 8, .inl a)), (g1, .inl (cN, 253, .inl (fun _ => 0)))]) hD hS hA [1, 3] rfl
  refine va_callv (va_runS (As := [.ref n0, .int (nI (wn_wd y0)), .ref g1]) (rest := []) ⟨hx, hb, hml, hown, hts⟩ (metX2_getSignedVar l dC dI n0 g1 cI cN H.size a (fun _ => 0) X (wn_wd y0) hX hh.1 hh.2) (va_cwS 3 hts (lw_S q39 q40 q5 q41) rfl rfl rfl (by decide +kernel) ⟨Nat.le_of_ble_eq_true rfl, Nat.le_of_ble_eq_true rfl⟩) ⟨fun a U g mk q => by obtain ⟨q0, q1, qP, qK, qD⟩ := q; exact ⟨q0, q1, qP, va_K.moved (u := U) (U := U.calling g mk a) (Vm.Alike.refl U.vm) qK, qD⟩, fun U hU hW => ⟨rfl, by rw [hU], by rw [hU]; exact hPc, va_K.moved hW.alike hKc, hDc.weaken (fun _ _ _ _ => trivial)⟩⟩ rfl rfl hl.1 rfl (lv_room (Nat.le_of_ble_eq_true rfl)) dX0_find_24 ⟨Nat.le_of_ble_eq_true rfl, Nat.le_of_ble_eq_true rfl⟩) hS (fun q _ h => hFc q h) hFc (fun u t H1 locs ht hvm hw hB hz1 hk1 hS => ?_)
  obtain ⟨hP1, hK1, hD1⟩ := hB
  rw [ht] at hP1
  have hK1 := va_K.moved hvm.symm hK1
  obtain ⟨hP, hD⟩ := va_join (wr := [(h0, .inr (0, [.ref n0, .ref g0, .int (nI (wn_wd y0))])), (g0, .inl (cB, 253, .inl d))]) (w1 := [(n0, .inl (cI, 8, .inl a)), (g1, .inl (cN, 253, .inl (wn_run X (wn_wd y0) 253 0 0 (fun _ => 0))))]) hP hD [1, 3] [0, 2] rfl rfl (by decide) (by decide) hk1 hFc hP1 hD1
  have hK := (hK.sub (tys' := [(cB, .byte)]) [1] rfl).app hK1
  generalize H1 = H at hP hS ⊢
  have hP : va_P (dC, dI) vwCl [(h0, .inr (0, [.ref n0, .ref g0, .int (nI (wn_wd y0))])), (g0, .inl (cB, 253, .inl d)), (n0, .inl (cI, 8, .inl a)), (g1, .inl (cN, 253, .inl (wn_run X (wn_wd y0) 253 0 0 (fun _ => 0))))] H := hP
  have hD : va_D A [(h0, .inr (0, [.ref n0, .ref g0, .int (nI (wn_wd y0))])), (g0, .inl (cB, 253, .inl d)), (n0, .inl (cI, 8, .inl a)), (g1, .inl (cN, 253, .inl (wn_run X (wn_wd y0) 253 0 0 (fun _ => 0))))] := hD
  have hK : va_K (dC, dI) vwCl [(cB, .byte), (cI, .int), (cN, .byte)] s := hK
  refine W.widen (k := 2) (n := 269) (Nat.le_of_ble_eq_true rfl) (Nat.le_of_ble_eq_true rfl) ?_
  refine lv_aload_n hx hb dX0_find_27 rfl (lv_at hl 1 rfl) ?_
  refine lv_aload_n hx hb dX0_find_28 rfl (lv_at hl 0 rfl) ?_
  refine va_put (D := (dC, dI)) (ci := 0) (v := .ref g1) (ty := .array .byte) (C := RX0) (T := TX0) (N := 3) hx hb hts in_X0 tyX0 tyX0_ok nmX0 hown hK hP hD hS 0 rfl rfl 1 (by decide) (hts _ q15) (fun _ h9 => h9) rfl (by decide +kernel) rfl rfl (Nat.le_of_ble_eq_true rfl) dX0_find_29 (fun H locs hP hD hS => ?_)
  have hP : va_P (dC, dI) vwCl [(h0, .inr (0, [.ref n0, .ref g1, .int (nI (wn_wd y0))])), (g0, .inl (cB, 253, .inl d)), (n0, .inl (cI, 8, .inl a)), (g1, .inl (cN, 253, .inl (wn_run X (wn_wd y0) 253 0 0 (fun _ => 0))))] H := hP
  have hD : va_D A [(h0, .inr (0, [.ref n0, .ref g1, .int (nI (wn_wd y0))])), (g0, .inl (cB, 253, .inl d)), (n0, .inl (cI, 8, .inl a)), (g1, .inl (cN, 253, .inl (wn_run X (wn_wd y0) 253 0 0 (fun _ => 0))))] := hD
  have hP9 := hP.sub (ws' := [(h0, .inr (0, [.ref n0, .ref g1, .int (nI (wn_wd y0))])), (n0, .inl (cI, 8, .inl a)), (g1, .inl (cN, 253, .inl (wn_run X (wn_wd y0) 253 0 0 (fun _ => 0))))]) [0, 2, 3] rfl
  have hD9 := hD.sub (ws' := [(h0, .inr (0, [.ref n0, .ref g1, .int (nI (wn_wd y0))])), (n0, .inl (cI, 8, .inl a)), (g1, .inl (cN, 253, .inl (wn_run X (wn_wd y0) 253 0 0 (fun _ => 0))))]) [0, 2, 3] (by decide) rfl
  have hK9 := hK.sub (tys' := [(cI, .int), (cN, .byte)]) [1, 2] rfl
  exact W.vret hx hb hr (fun t ht hW => ⟨⟨(), rfl, trivial, g1, cN, by rw [ht]; exact hP9, va_K.moved hW.alike hK9, hD9⟩, hS.F ht⟩) hS.2.2 dX0_find_32
set_option maxHeartbeats 4000000 in
set_option maxRecDepth 100000 in
/-- digit(i): the digit at i, its sign off, modulo 253 -/
theorem metX0_digit (l : Launch) (dC : Nat → ClassId) (dI : Nat → Nat → Nat) (h0 n0 g0 : Nat) (cI cB : ClassId) (sz : Nat) (a d : Nat → Int32) (x : Int32) (y0 : Int32) : Met l yX0_digit (ws_ yX0_digit cX0_digit 2 (some .int)) ({ frames := 0, cells := 0, slots := 0, locals := 0 }) (va_Pc [.ref h0, .int y0] (fun U => U.heap.size = sz ∧ va_P (dC, dI) vwCl [(h0, .inr (0, [.ref n0, .ref g0, .int x])), (n0, .inl (cI, 8, .inl a)), (g0, .inl (cB, 253, .inl d))] U.heap ∧ va_K (dC, dI) vwCl [(cI, .int), (cB, .byte)] U ∧ va_D (fun _ => True) [(h0, .inr (0, [.ref n0, .ref g0, .int x])), (n0, .inl (cI, 8, .inl a)), (g0, .inl (cB, 253, .inl d))])) (va_Qi (fun (r : Int32) (_ : Unit) => r = d (wn_dp y0)) (fun _ => wn_B0 dC dI (va_A [(h0, .inr (0, [.ref n0, .ref g0, .int x])), (n0, .inl (cI, 8, .inl a)), (g0, .inl (cB, 253, .inl d))] sz) h0 n0 g0 cI cB a d x) (va_A [(h0, .inr (0, [.ref n0, .ref g0, .int x])), (n0, .inl (cI, 8, .inl a)), (g0, .inl (cB, 253, .inl d))] sz)) 0 0 (va_A [(h0, .inr (0, [.ref n0, .ref g0, .int x])), (n0, .inl (cI, 8, .inl a)), (g0, .inl (cB, 253, .inl d))] sz) := by
  refine Met.ofW (cc := cX0_digit) (maxL := 2) (ret := (some .int)) (by decide) rfl ?_
  intro p e s m args below meth c s₁ B hml hv
  obtain ⟨rfl, hsz, hP, hK, hD0⟩ := hv
  have hx := B.exec
  have hb := B.bytes
  have hr := B.returns
  have hts := atoms_spec (ws := (ws_ yX0_digit cX0_digit 2 (some .int))) B.pre
  have hts : ∀ w ∈ lw_all, w.before _ s = true := fun w h => hts w (List.mem_cons_of_mem _ h)
  have hown : s.vm.findClass RX0 = some m.cls := findClass_of_methodNamed B.named
  have hlocks := B.notSynchronized
  subst hsz
  have hD := hD0.self (sz := s.heap.size)
  generalize hAe : va_A [(h0, .inr (0, [.ref n0, .ref g0, .int x])), (n0, .inl (cI, 8, .inl a)), (g0, .inl (cB, 253, .inl d))] s.heap.size = A at hD ⊢
  have hA : ∀ q : Nat, s.heap.size ≤ q → A q := fun q h => by rw [← hAe]; exact Or.inr h
  have hS : va_S A s.heap s.heap [] := va_S.rf
  have hP : va_P (dC, dI) vwCl [(h0, .inr (0, [.ref n0, .ref g0, .int x])), (n0, .inl (cI, 8, .inl a)), (g0, .inl (cB, 253, .inl d))] s.heap := hP
  have hl := lv_entry ([.ref h0, .int y0]) (n := 2) (Nat.le_of_ble_eq_true rfl)
  rw [lg_entry_eq]
  generalize (lg_sl ([.ref h0, .int y0]) ++ List.replicate (2 - (lg_sl ([.ref h0, .int y0])).length) Slot.unset).toArray = ls at hl ⊢
  have hl : lv_has ls 2 [(0, .ref h0), (1, .int y0)] := hl
  refine lv_aload_n hx hb dX0_digit_0 rfl (lv_at hl 0 rfl) ?_
  refine va_get (D := (dC, dI)) (ci := 0) (v := .ref g0) (C := RX0) (T := TX0) (N := 3) hx hb hts in_X0 hown hK hP 0 rfl rfl 1 (by decide) (hts _ q15) (fun _ h9 => h9) rfl dX0_digit_1 ?_
  refine lv_iload_n hx hb dX0_digit_4 rfl (lv_at hl 1 rfl) ?_
  refine lv_ldc hx hb hown (hts _ q46) dX0_digit_5 ?_
  refine lv_iand hx hb dX0_digit_7 ?_
  refine lv_sipush (v := nI 253) hx hb dX0_digit_8 (by decide) ?_
  refine lv_irem hx hb dX0_digit_11 (by decide) ?_
  refine wn_top (y := nI (wn_dp y0)) (wn_dp_eq y0) ?_
  refine wn_bald (k := wn_dp y0) hx hb hK hP 2 1 rfl rfl (wn_dp_lt y0) (by decide) dX0_digit_12 ?_
  exact W.iret (v := d (wn_dp y0)) hx hb hr (fun t ht hW => ⟨⟨d (wn_dp y0), (), rfl, rfl, by rw [ht]; exact hP, va_K.moved hW.alike hK, hD⟩, hS.F ht⟩) hS.2.2 dX0_digit_13
set_option maxHeartbeats 4000000 in
set_option maxRecDepth 100000 in
/-- width(): the width -/
theorem metX0_width (l : Launch) (dC : Nat → ClassId) (dI : Nat → Nat → Nat) (h0 n0 g0 : Nat) (cI cB : ClassId) (sz : Nat) (a d : Nat → Int32) (x : Int32) : Met l yX0_width (ws_ yX0_width cX0_width 1 (some .int)) ({ frames := 0, cells := 0, slots := 0, locals := 0 }) (va_Pc [.ref h0] (fun U => U.heap.size = sz ∧ va_P (dC, dI) vwCl [(h0, .inr (0, [.ref n0, .ref g0, .int x])), (n0, .inl (cI, 8, .inl a)), (g0, .inl (cB, 253, .inl d))] U.heap ∧ va_K (dC, dI) vwCl [(cI, .int), (cB, .byte)] U ∧ va_D (fun _ => True) [(h0, .inr (0, [.ref n0, .ref g0, .int x])), (n0, .inl (cI, 8, .inl a)), (g0, .inl (cB, 253, .inl d))])) (va_Qi (fun (r : Int32) (_ : Unit) => r = x) (fun _ => wn_B0 dC dI (va_A [(h0, .inr (0, [.ref n0, .ref g0, .int x])), (n0, .inl (cI, 8, .inl a)), (g0, .inl (cB, 253, .inl d))] sz) h0 n0 g0 cI cB a d x) (va_A [(h0, .inr (0, [.ref n0, .ref g0, .int x])), (n0, .inl (cI, 8, .inl a)), (g0, .inl (cB, 253, .inl d))] sz)) 0 0 (va_A [(h0, .inr (0, [.ref n0, .ref g0, .int x])), (n0, .inl (cI, 8, .inl a)), (g0, .inl (cB, 253, .inl d))] sz) := by
  refine Met.ofW (cc := cX0_width) (maxL := 1) (ret := (some .int)) (by decide) rfl ?_
  intro p e s m args below meth c s₁ B hml hv
  obtain ⟨rfl, hsz, hP, hK, hD0⟩ := hv
  have hx := B.exec
  have hb := B.bytes
  have hr := B.returns
  have hts := atoms_spec (ws := (ws_ yX0_width cX0_width 1 (some .int))) B.pre
  have hts : ∀ w ∈ lw_all, w.before _ s = true := fun w h => hts w (List.mem_cons_of_mem _ h)
  have hown : s.vm.findClass RX0 = some m.cls := findClass_of_methodNamed B.named
  have hlocks := B.notSynchronized
  subst hsz
  have hD := hD0.self (sz := s.heap.size)
  generalize hAe : va_A [(h0, .inr (0, [.ref n0, .ref g0, .int x])), (n0, .inl (cI, 8, .inl a)), (g0, .inl (cB, 253, .inl d))] s.heap.size = A at hD ⊢
  have hA : ∀ q : Nat, s.heap.size ≤ q → A q := fun q h => by rw [← hAe]; exact Or.inr h
  have hS : va_S A s.heap s.heap [] := va_S.rf
  have hP : va_P (dC, dI) vwCl [(h0, .inr (0, [.ref n0, .ref g0, .int x])), (n0, .inl (cI, 8, .inl a)), (g0, .inl (cB, 253, .inl d))] s.heap := hP
  have hl := lv_entry ([.ref h0]) (n := 1) (Nat.le_of_ble_eq_true rfl)
  rw [lg_entry_eq]
  generalize (lg_sl ([.ref h0]) ++ List.replicate (1 - (lg_sl ([.ref h0])).length) Slot.unset).toArray = ls at hl ⊢
  have hl : lv_has ls 1 [(0, .ref h0)] := hl
  refine lv_aload_n hx hb dX0_width_0 rfl (lv_at hl 0 rfl) ?_
  refine va_get (D := (dC, dI)) (ci := 0) (v := .int x) (C := RX0) (T := TX0) (N := 3) hx hb hts in_X0 hown hK hP 0 rfl rfl 2 (by decide) (hts _ q16) (fun _ h9 => h9) rfl dX0_width_1 ?_
  exact W.iret (v := x) hx hb hr (fun t ht hW => ⟨⟨x, (), rfl, rfl, by rw [ht]; exact hP, va_K.moved hW.alike hK, hD⟩, hS.F ht⟩) hS.2.2 dX0_width_4
end
section
/-! WnafDeskModel: its eight methods -/
set_option maxHeartbeats 4000000 in
set_option maxRecDepth 100000 in
/-- WnafDeskModel(): eight words of 0, 253 digits of 0, width 4; two arrays are made -/
theorem metX1_init (l : Launch) (dC : Nat → ClassId) (dI : Nat → Nat → Nat) (h0 : Nat) (sz : Nat) : Met l yX1_init (ws_ yX1_init cX1_init 1 none) ({ frames := 1, cells := 2, slots := 261, locals := 12 }) (va_Pc [.ref h0] (fun U => U.heap.size = sz ∧ va_P (dC, dI) vwCl [(h0, .inr (1, [.null, .null, .int 0]))] U.heap ∧ va_K (dC, dI) vwCl [] U ∧ va_D (fun _ => True) [(h0, .inr (1, [.null, .null, .int 0]))])) (va_Qv (fun _ : Unit => True) (fun _ t => ∃ (n0 g0 : Nat) (cI cB : ClassId), wn_B1 dC dI (va_A [(h0, .inr (1, [.null, .null, .int 0]))] sz) h0 n0 g0 cI cB (fun _ => 0) (fun _ => 0) (nI 4) t) (va_A [(h0, .inr (1, [.null, .null, .int 0]))] sz)) 2 261 (va_A [(h0, .inr (1, [.null, .null, .int 0]))] sz) := by
  refine Met.ofW (cc := cX1_init) (maxL := 1) (ret := none) (by decide) rfl ?_
  intro p e s m args below meth c s₁ B hml hv
  obtain ⟨rfl, hsz, hP, hK, hD0⟩ := hv
  have hx := B.exec
  have hb := B.bytes
  have hr := B.returns
  have hts := atoms_spec (ws := (ws_ yX1_init cX1_init 1 none)) B.pre
  have hts : ∀ w ∈ lw_all, w.before _ s = true := fun w h => hts w (List.mem_cons_of_mem _ h)
  have hown : s.vm.findClass RX1 = some m.cls := findClass_of_methodNamed B.named
  have hlocks := B.notSynchronized
  have hin : meth.name = "<init>" := (name_of_methodNamed B.named B.method).1
  subst hsz
  have hD := hD0.self (sz := s.heap.size)
  generalize hAe : va_A [(h0, .inr (1, [.null, .null, .int 0]))] s.heap.size = A at hD ⊢
  have hA : ∀ q : Nat, s.heap.size ≤ q → A q := fun q h => by rw [← hAe]; exact Or.inr h
  have hS : va_S A s.heap s.heap [] := va_S.rf
  have hP : va_P (dC, dI) vwCl [(h0, .inr (1, [.null, .null, .int 0]))] s.heap := hP
  have hl := lv_entry ([.ref h0]) (n := 1) (Nat.le_of_ble_eq_true rfl)
  rw [lg_entry_eq]
  generalize (lg_sl ([.ref h0]) ++ List.replicate (1 - (lg_sl ([.ref h0])).length) Slot.unset).toArray = ls at hl ⊢
  have hl : lv_has ls 1 [(0, .ref h0)] := hl
  refine lv_aload_n hx hb dX1_init_0 rfl (lv_at hl 0 rfl) ?_
  refine W.objInit hx hb hown (hts _ q56) (hts _ q12) (hts _ q13) rfl (by rw [hml]; exact hl.1) rfl dX1_init_1 (Nat.le_of_ble_eq_true rfl) (Nat.le_of_ble_eq_true rfl) ?_
  refine W.eq (g2 := F0 m 4 ls []) rfl ?_
  refine lv_aload_n hx hb dX1_init_4 rfl (lv_at hl 0 rfl) ?_
  refine lv_bipush (v := nI 8) hx hb dX1_init_5 (by decide) ?_
  refine va_newa (D := (dC, dI)) (atype := .int) (N' := 8) (a0 := (8, .inl (fun _ => 0))) hx hb (hts _ q24) rfl hK hP hD hS hA (fun _ => rfl) (by decide) (by decide) (Nat.le_of_ble_eq_true rfl) (Nat.le_of_ble_eq_true rfl) (Nat.le_of_ble_eq_true rfl) dX1_init_7 (fun n0 cI H hK hP hD hS => ?_)
  have hP : va_P (dC, dI) vwCl [(h0, .inr (1, [.null, .null, .int 0])), (n0, .inl (cI, 8, .inl (fun _ => 0)))] H := hP
  have hD : va_D A [(h0, .inr (1, [.null, .null, .int 0])), (n0, .inl (cI, 8, .inl (fun _ => 0)))] := hD
  have hK : va_K (dC, dI) vwCl [(cI, .int)] s := hK
  refine W.widen (k := 1) (n := 8) (Nat.le_of_ble_eq_true rfl) (Nat.le_of_ble_eq_true rfl) ?_
  refine va_putF (D := (dC, dI)) (ci := 1) (v := .ref n0) (ty := .array .int) (C := RX1) (T := TX1) (N := 3) hx hb hts in_X1 tyX1 tyX1_ok nmX1 hown hK hP hD hS 0 rfl rfl 0 (by decide) (hts _ q57) (fun _ h9 => h9) rfl hin rfl (by decide +kernel) rfl rfl (Nat.le_of_ble_eq_true rfl) dX1_init_9 (fun H locs hP hD hS => ?_)
  have hP : va_P (dC, dI) vwCl [(h0, .inr (1, [.ref n0, .null, .int 0])), (n0, .inl (cI, 8, .inl (fun _ => 0)))] H := hP
  have hD : va_D A [(h0, .inr (1, [.ref n0, .null, .int 0])), (n0, .inl (cI, 8, .inl (fun _ => 0)))] := hD
  refine lv_aload_n hx hb dX1_init_12 rfl (lv_at hl 0 rfl) ?_
  refine lv_sipush (v := nI 253) hx hb dX1_init_13 (by decide) ?_
  refine va_newa (D := (dC, dI)) (atype := .int) (N' := 253) (a0 := (253, .inl (fun _ => 0))) hx hb (hts _ q24) rfl hK hP hD hS hA (fun _ => rfl) (by decide) (by decide) (Nat.le_of_ble_eq_true rfl) (Nat.le_of_ble_eq_true rfl) (Nat.le_of_ble_eq_true rfl) dX1_init_16 (fun g0 cB H hK hP hD hS => ?_)
  have hP : va_P (dC, dI) vwCl [(h0, .inr (1, [.ref n0, .null, .int 0])), (n0, .inl (cI, 8, .inl (fun _ => 0))), (g0, .inl (cB, 253, .inl (fun _ => 0)))] H := hP
  have hD : va_D A [(h0, .inr (1, [.ref n0, .null, .int 0])), (n0, .inl (cI, 8, .inl (fun _ => 0))), (g0, .inl (cB, 253, .inl (fun _ => 0)))] := hD
  have hK : va_K (dC, dI) vwCl [(cI, .int), (cB, .int)] s := hK
  refine W.widen (k := 2) (n := 261) (Nat.le_of_ble_eq_true rfl) (Nat.le_of_ble_eq_true rfl) ?_
  refine va_put (D := (dC, dI)) (ci := 1) (v := .ref g0) (ty := .array .int) (C := RX1) (T := TX1) (N := 3) hx hb hts in_X1 tyX1 tyX1_ok nmX1 hown hK hP hD hS 0 rfl rfl 1 (by decide) (hts _ q58) (fun _ h9 => h9) rfl (by decide +kernel) rfl rfl (Nat.le_of_ble_eq_true rfl) dX1_init_18 (fun H locs hP hD hS => ?_)
  have hP : va_P (dC, dI) vwCl [(h0, .inr (1, [.ref n0, .ref g0, .int 0])), (n0, .inl (cI, 8, .inl (fun _ => 0))), (g0, .inl (cB, 253, .inl (fun _ => 0)))] H := hP
  have hD : va_D A [(h0, .inr (1, [.ref n0, .ref g0, .int 0])), (n0, .inl (cI, 8, .inl (fun _ => 0))), (g0, .inl (cB, 253, .inl (fun _ => 0)))] := hD
  refine lv_aload_n hx hb dX1_init_21 rfl (lv_at hl 0 rfl) ?_
  refine lv_iconst (v := nI 4) hx hb dX1_init_22 (by decide) ?_
  refine va_put (D := (dC, dI)) (ci := 1) (v := .int (nI 4)) (ty := .int) (C := RX1) (T := TX1) (N := 3) hx hb hts in_X1 tyX1 tyX1_ok nmX1 hown hK hP hD hS 0 rfl rfl 2 (by decide) (hts _ q59) (fun _ h9 => h9) rfl (by decide +kernel) rfl rfl (Nat.le_of_ble_eq_true rfl) dX1_init_23 (fun H locs hP hD hS => ?_)
  have hP : va_P (dC, dI) vwCl [(h0, .inr (1, [.ref n0, .ref g0, .int (nI 4)])), (n0, .inl (cI, 8, .inl (fun _ => 0))), (g0, .inl (cB, 253, .inl (fun _ => 0)))] H := hP
  have hD : va_D A [(h0, .inr (1, [.ref n0, .ref g0, .int (nI 4)])), (n0, .inl (cI, 8, .inl (fun _ => 0))), (g0, .inl (cB, 253, .inl (fun _ => 0)))] := hD
  exact W.vret hx hb hr (fun t ht hW => ⟨⟨(), rfl, trivial, n0, g0, cI, cB, by rw [ht]; exact hP, va_K.moved hW.alike hK, hD⟩, hS.F ht⟩) hS.2.2 dX1_init_26
set_option maxHeartbeats 4000000 in
set_option maxRecDepth 100000 in
/-- become(i, v): one word -/
theorem metX1_become (l : Launch) (dC : Nat → ClassId) (dI : Nat → Nat → Nat) (h0 n0 g0 : Nat) (cI cB : ClassId) (sz : Nat) (a d : Nat → Int32) (x : Int32) (i : Nat) (y1 : Int32) (hi : i < 8) : Met l yX1_become (ws_ yX1_become cX1_become 3 none) ({ frames := 0, cells := 0, slots := 0, locals := 0 }) (va_Pc [.ref h0, .int (nI i), .int y1] (fun U => U.heap.size = sz ∧ va_P (dC, dI) vwCl [(h0, .inr (1, [.ref n0, .ref g0, .int x])), (n0, .inl (cI, 8, .inl a)), (g0, .inl (cB, 253, .inl d))] U.heap ∧ va_K (dC, dI) vwCl [(cI, .int), (cB, .int)] U ∧ va_D (fun _ => True) [(h0, .inr (1, [.ref n0, .ref g0, .int x])), (n0, .inl (cI, 8, .inl a)), (g0, .inl (cB, 253, .inl d))])) (va_Qv (fun _ : Unit => True) (fun _ => wn_B1 dC dI (va_A [(h0, .inr (1, [.ref n0, .ref g0, .int x])), (n0, .inl (cI, 8, .inl a)), (g0, .inl (cB, 253, .inl d))] sz) h0 n0 g0 cI cB (wn_put a i y1) d x) (va_A [(h0, .inr (1, [.ref n0, .ref g0, .int x])), (n0, .inl (cI, 8, .inl a)), (g0, .inl (cB, 253, .inl d))] sz)) 0 0 (va_A [(h0, .inr (1, [.ref n0, .ref g0, .int x])), (n0, .inl (cI, 8, .inl a)), (g0, .inl (cB, 253, .inl d))] sz) := by
  refine Met.ofW (cc := cX1_become) (maxL := 3) (ret := none) (by decide) rfl ?_
  intro p e s m args below meth c s₁ B hml hv
  obtain ⟨rfl, hsz, hP, hK, hD0⟩ := hv
  have hx := B.exec
  have hb := B.bytes
  have hr := B.returns
  have hts := atoms_spec (ws := (ws_ yX1_become cX1_become 3 none)) B.pre
  have hts : ∀ w ∈ lw_all, w.before _ s = true := fun w h => hts w (List.mem_cons_of_mem _ h)
  have hown : s.vm.findClass RX1 = some m.cls := findClass_of_methodNamed B.named
  have hlocks := B.notSynchronized
  subst hsz
  have hD := hD0.self (sz := s.heap.size)
  generalize hAe : va_A [(h0, .inr (1, [.ref n0, .ref g0, .int x])), (n0, .inl (cI, 8, .inl a)), (g0, .inl (cB, 253, .inl d))] s.heap.size = A at hD ⊢
  have hA : ∀ q : Nat, s.heap.size ≤ q → A q := fun q h => by rw [← hAe]; exact Or.inr h
  have hS : va_S A s.heap s.heap [] := va_S.rf
  have hP : va_P (dC, dI) vwCl [(h0, .inr (1, [.ref n0, .ref g0, .int x])), (n0, .inl (cI, 8, .inl a)), (g0, .inl (cB, 253, .inl d))] s.heap := hP
  have hl := lv_entry ([.ref h0, .int (nI i), .int y1]) (n := 3) (Nat.le_of_ble_eq_true rfl)
  rw [lg_entry_eq]
  generalize (lg_sl ([.ref h0, .int (nI i), .int y1]) ++ List.replicate (3 - (lg_sl ([.ref h0, .int (nI i), .int y1])).length) Slot.unset).toArray = ls at hl ⊢
  have hl : lv_has ls 3 [(0, .ref h0), (1, .int (nI i)), (2, .int y1)] := hl
  refine lv_aload_n hx hb dX1_become_0 rfl (lv_at hl 0 rfl) ?_
  refine va_get (D := (dC, dI)) (ci := 1) (v := .ref n0) (C := RX1) (T := TX1) (N := 3) hx hb hts in_X1 hown hK hP 0 rfl rfl 0 (by decide) (hts _ q57) (fun _ h9 => h9) rfl dX1_become_1 ?_
  refine lv_iload_n hx hb dX1_become_4 rfl (lv_at hl 1 rfl) ?_
  refine lv_iload_n hx hb dX1_become_5 rfl (lv_at hl 1 rfl) ?_
  refine lv_bipush (v := nI 7) hx hb dX1_become_6 (by decide) ?_
  refine lv_icmp_ne (tgt := 18) hx hb dX1_become_8 (by decide) (fun c1 => ?_) (fun c1 => ?_)
  · refine lv_iload_n hx hb dX1_become_18 rfl (lv_at hl 2 rfl) ?_
    refine wn_iast (k := i) (x := y1) hx hb hK hP hD hS 1 0 rfl rfl (hi) (by decide) dX1_become_19 (fun H locs hP hD hS => ?_)
    have hP : va_P (dC, dI) vwCl [(h0, .inr (1, [.ref n0, .ref g0, .int x])), (n0, .inl (cI, 8, .inl (upd a i y1))), (g0, .inl (cB, 253, .inl d))] H := hP
    have hD : va_D A [(h0, .inr (1, [.ref n0, .ref g0, .int x])), (n0, .inl (cI, 8, .inl (upd a i y1))), (g0, .inl (cB, 253, .inl d))] := hD
    rw [← wn_put_lo y1 (fun h => c1 (congrArg nI h))] at hP hD
    exact W.vret hx hb hr (fun t ht hW => ⟨⟨(), rfl, trivial, by rw [ht]; exact hP, va_K.moved hW.alike hK, hD⟩, hS.F ht⟩) hS.2.2 dX1_become_20
  · have h1 : i = 7 := (nI_eq (by omega) (by decide)).mp c1
    refine lv_iload_n hx hb dX1_become_11 rfl (lv_at hl 2 rfl) ?_
    refine lv_ldc hx hb hown (hts _ q75) dX1_become_12 ?_
    refine lv_iand hx hb dX1_become_14 ?_
    refine lv_goto (tgt := 19) hx hb dX1_become_15 (by decide) ?_
    refine wn_iast (k := i) (x := (y1 &&& 268435455)) hx hb hK hP hD hS 1 0 rfl rfl (hi) (by decide) dX1_become_19 (fun H locs hP hD hS => ?_)
    have hP : va_P (dC, dI) vwCl [(h0, .inr (1, [.ref n0, .ref g0, .int x])), (n0, .inl (cI, 8, .inl (upd a i (y1 &&& 268435455)))), (g0, .inl (cB, 253, .inl d))] H := hP
    have hD : va_D A [(h0, .inr (1, [.ref n0, .ref g0, .int x])), (n0, .inl (cI, 8, .inl (upd a i (y1 &&& 268435455)))), (g0, .inl (cB, 253, .inl d))] := hD
    rw [show upd a i (y1 &&& 268435455) = wn_put a i y1 by rw [h1, wn_put_hi]] at hP hD
    exact W.vret hx hb hr (fun t ht hW => ⟨⟨(), rfl, trivial, by rw [ht]; exact hP, va_K.moved hW.alike hK, hD⟩, hS.F ht⟩) hS.2.2 dX1_become_20
set_option maxHeartbeats 4000000 in
set_option maxRecDepth 100000 in
/-- lay(half, ..): four words -/
theorem metX1_lay (l : Launch) (dC : Nat → ClassId) (dI : Nat → Nat → Nat) (h0 n0 g0 : Nat) (cI cB : ClassId) (sz : Nat) (a d : Nat → Int32) (x : Int32) (y0 : Int32) (y1 : Int32) (y2 : Int32) (y3 : Int32) (y4 : Int32) : Met l yX1_lay (ws_ yX1_lay cX1_lay 7 none) ({ frames := 1, cells := 0, slots := 0, locals := 22 }) (va_Pc [.ref h0, .int y0, .int y1, .int y2, .int y3, .int y4] (fun U => U.heap.size = sz ∧ va_P (dC, dI) vwCl [(h0, .inr (1, [.ref n0, .ref g0, .int x])), (n0, .inl (cI, 8, .inl a)), (g0, .inl (cB, 253, .inl d))] U.heap ∧ va_K (dC, dI) vwCl [(cI, .int), (cB, .int)] U ∧ va_D (fun _ => True) [(h0, .inr (1, [.ref n0, .ref g0, .int x])), (n0, .inl (cI, 8, .inl a)), (g0, .inl (cB, 253, .inl d))])) (va_Qv (fun _ : Unit => True) (fun _ => wn_B1 dC dI (va_A [(h0, .inr (1, [.ref n0, .ref g0, .int x])), (n0, .inl (cI, 8, .inl a)), (g0, .inl (cB, 253, .inl d))] sz) h0 n0 g0 cI cB (wn_lay a (wn_hf y0) y1 y2 y3 y4) d x) (va_A [(h0, .inr (1, [.ref n0, .ref g0, .int x])), (n0, .inl (cI, 8, .inl a)), (g0, .inl (cB, 253, .inl d))] sz)) 0 0 (va_A [(h0, .inr (1, [.ref n0, .ref g0, .int x])), (n0, .inl (cI, 8, .inl a)), (g0, .inl (cB, 253, .inl d))] sz) := by
  refine Met.ofW (cc := cX1_lay) (maxL := 7) (ret := none) (by decide) rfl ?_
  intro p e s m args below meth c s₁ B hml hv
  obtain ⟨rfl, hsz, hP, hK, hD0⟩ := hv
  have hx := B.exec
  have hb := B.bytes
  have hr := B.returns
  have hts := atoms_spec (ws := (ws_ yX1_lay cX1_lay 7 none)) B.pre
  have hts : ∀ w ∈ lw_all, w.before _ s = true := fun w h => hts w (List.mem_cons_of_mem _ h)
  have hown : s.vm.findClass RX1 = some m.cls := findClass_of_methodNamed B.named
  have hlocks := B.notSynchronized
  subst hsz
  have hD := hD0.self (sz := s.heap.size)
  generalize hAe : va_A [(h0, .inr (1, [.ref n0, .ref g0, .int x])), (n0, .inl (cI, 8, .inl a)), (g0, .inl (cB, 253, .inl d))] s.heap.size = A at hD ⊢
  have hA : ∀ q : Nat, s.heap.size ≤ q → A q := fun q h => by rw [← hAe]; exact Or.inr h
  have hS : va_S A s.heap s.heap [] := va_S.rf
  have hP : va_P (dC, dI) vwCl [(h0, .inr (1, [.ref n0, .ref g0, .int x])), (n0, .inl (cI, 8, .inl a)), (g0, .inl (cB, 253, .inl d))] s.heap := hP
  have hl := lv_entry ([.ref h0, .int y0, .int y1, .int y2, .int y3, .int y4]) (n := 7) (Nat.le_of_ble_eq_true rfl)
  rw [lg_entry_eq]
  generalize (lg_sl ([.ref h0, .int y0, .int y1, .int y2, .int y3, .int y4]) ++ List.replicate (7 - (lg_sl ([.ref h0, .int y0, .int y1, .int y2, .int y3, .int y4])).length) Slot.unset).toArray = ls at hl ⊢
  have hl : lv_has ls 7 [(0, .ref h0), (1, .int y0), (2, .int y1), (3, .int y2), (4, .int y3), (5, .int y4)] := hl
  have hh := wn_hf_lt y0
  refine lv_iconst (v := nI 4) hx hb dX1_lay_0 (by decide) ?_
  refine lv_iload_n hx hb dX1_lay_1 rfl (lv_at hl 1 rfl) ?_
  refine lv_iconst (v := nI 1) hx hb dX1_lay_2 (by decide) ?_
  refine lv_iand hx hb dX1_lay_3 ?_
  refine wn_top (y := nI (wn_hf y0)) (wn_hf_eq y0) ?_
  refine lv_imul hx hb dX1_lay_4 ?_
  refine wn_top (y := nI (4 * wn_hf y0)) (pk_mul 4 _) ?_
  refine lv_istore (lv' := [(6, .int (nI (4 * wn_hf y0))), (0, .ref h0), (1, .int y0), (2, .int y1), (3, .int y2), (4, .int y3), (5, .int y4)]) hx hb dX1_lay_5 hl (by decide) rfl (fun ls hl => ?_)
  refine lv_aload_n hx hb dX1_lay_7 rfl (lv_at hl 1 rfl) ?_
  refine lv_iload hx hb dX1_lay_8 (lv_at hl 0 rfl) ?_
  refine lv_iload_n hx hb dX1_lay_10 rfl (lv_at hl 3 rfl) ?_
  have hPc := hP.sub (ws' := [(h0, .inr (1, [.ref n0, .ref g0, .int x])), (n0, .inl (cI, 8, .inl a)), (g0, .inl (cB, 253, .inl d))]) [0, 1, 2] rfl
  have hDc := hD.sub (ws' := [(h0, .inr (1, [.ref n0, .ref g0, .int x])), (n0, .inl (cI, 8, .inl a)), (g0, .inl (cB, 253, .inl d))]) [0, 1, 2] (by decide) rfl
  have hKc := hK.sub (tys' := [(cI, .int), (cB, .int)]) [0, 1] rfl
  have hFc := va_free (wc := [(h0, .inr (1, [.ref n0, .ref g0, .int x])), (n0, .inl (cI, 8, .inl a)), (g0, .inl (cB, 253, .inl d))]) hD hS hA [0, 1, 2] rfl
  refine va_callv (va_runV (As := [.int (nI (4 * wn_hf y0)), .int y1]) (rest := []) ⟨hx, hb, hml, hown, hts⟩ (metX1_become l dC dI h0 n0 g0 cI cB _ a d x (4 * wn_hf y0) y1 (by omega)) (cwV 2 hts (lw_V q71 q73 qs0 q4 q74) rfl rfl rfl (by decide +kernel) ⟨Nat.le_of_ble_eq_true rfl, Nat.le_of_ble_eq_true rfl⟩) ⟨fun a U g mk q => by obtain ⟨q0, q1, qP, qK, qD⟩ := q; exact ⟨q0, q1, qP, va_K.moved (u := U) (U := U.calling g mk a) (Vm.Alike.refl U.vm) qK, qD⟩, va_recv hKc hPc (ci := 1) (q0 := 0) rfl rfl, fun U hU hW => ⟨rfl, by rw [hU], by rw [hU]; exact hPc, va_K.moved hW.alike hKc, hDc.weaken (fun _ _ _ _ => trivial)⟩⟩ rfl rfl hl.1 rfl (lv_room (Nat.le_of_ble_eq_true rfl)) dX1_lay_11 ⟨Nat.le_of_ble_eq_true rfl, Nat.le_of_ble_eq_true rfl⟩) hS (fun q _ h => hFc q h) hFc (fun u t H1 locs ht hvm hw hB hz1 hk1 hS => ?_)
  obtain ⟨hP1, hK1, hD1⟩ := hB
  rw [ht] at hP1
  have hK1 := va_K.moved hvm.symm hK1
  obtain ⟨hP, hD⟩ := va_join (wr := []) (w1 := [(h0, .inr (1, [.ref n0, .ref g0, .int x])), (n0, .inl (cI, 8, .inl (wn_put a (4 * wn_hf y0) y1))), (g0, .inl (cB, 253, .inl d))]) hP hD [0, 1, 2] [] rfl rfl (by decide) (by decide) hk1 hFc hP1 hD1
  have hK := (hK.sub (tys' := []) [] rfl).app hK1
  generalize H1 = H at hP hS ⊢
  have hP : va_P (dC, dI) vwCl [(h0, .inr (1, [.ref n0, .ref g0, .int x])), (n0, .inl (cI, 8, .inl (wn_put a (4 * wn_hf y0) y1))), (g0, .inl (cB, 253, .inl d))] H := hP
  have hD : va_D A [(h0, .inr (1, [.ref n0, .ref g0, .int x])), (n0, .inl (cI, 8, .inl (wn_put a (4 * wn_hf y0) y1))), (g0, .inl (cB, 253, .inl d))] := hD
  have hK : va_K (dC, dI) vwCl [(cI, .int), (cB, .int)] s := hK
  refine lv_aload_n hx hb dX1_lay_14 rfl (lv_at hl 1 rfl) ?_
  refine lv_iload hx hb dX1_lay_15 (lv_at hl 0 rfl) ?_
  refine lv_iconst (v := nI 1) hx hb dX1_lay_17 (by decide) ?_
  refine lv_iadd hx hb dX1_lay_18 ?_
  refine wn_top (y := nI (4 * wn_hf y0 + 1)) (nI_add _ 1) ?_
  refine lv_iload_n hx hb dX1_lay_19 rfl (lv_at hl 4 rfl) ?_
  have hPc := hP.sub (ws' := [(h0, .inr (1, [.ref n0, .ref g0, .int x])), (n0, .inl (cI, 8, .inl (wn_put a (4 * wn_hf y0) y1))), (g0, .inl (cB, 253, .inl d))]) [0, 1, 2] rfl
  have hDc := hD.sub (ws' := [(h0, .inr (1, [.ref n0, .ref g0, .int x])), (n0, .inl (cI, 8, .inl (wn_put a (4 * wn_hf y0) y1))), (g0, .inl (cB, 253, .inl d))]) [0, 1, 2] (by decide) rfl
  have hKc := hK.sub (tys' := [(cI, .int), (cB, .int)]) [0, 1] rfl
  have hFc := va_free (wc := [(h0, .inr (1, [.ref n0, .ref g0, .int x])), (n0, .inl (cI, 8, .inl (wn_put a (4 * wn_hf y0) y1))), (g0, .inl (cB, 253, .inl d))]) hD hS hA [0, 1, 2] rfl
  refine va_callv (va_runV (As := [.int (nI (4 * wn_hf y0 + 1)), .int y2]) (rest := []) ⟨hx, hb, hml, hown, hts⟩ (metX1_become l dC dI h0 n0 g0 cI cB _ ((wn_put a (4 * wn_hf y0) y1)) d x (4 * wn_hf y0 + 1) y2 (by omega)) (cwV 2 hts (lw_V q71 q73 qs0 q4 q74) rfl rfl rfl (by decide +kernel) ⟨Nat.le_of_ble_eq_true rfl, Nat.le_of_ble_eq_true rfl⟩) ⟨fun a U g mk q => by obtain ⟨q0, q1, qP, qK, qD⟩ := q; exact ⟨q0, q1, qP, va_K.moved (u := U) (U := U.calling g mk a) (Vm.Alike.refl U.vm) qK, qD⟩, va_recv hKc hPc (ci := 1) (q0 := 0) rfl rfl, fun U hU hW => ⟨rfl, by rw [hU], by rw [hU]; exact hPc, va_K.moved hW.alike hKc, hDc.weaken (fun _ _ _ _ => trivial)⟩⟩ rfl rfl hl.1 rfl (lv_room (Nat.le_of_ble_eq_true rfl)) dX1_lay_20 ⟨Nat.le_of_ble_eq_true rfl, Nat.le_of_ble_eq_true rfl⟩) hS (fun q _ h => hFc q h) hFc (fun u t H1 locs ht hvm hw hB hz1 hk1 hS => ?_)
  obtain ⟨hP1, hK1, hD1⟩ := hB
  rw [ht] at hP1
  have hK1 := va_K.moved hvm.symm hK1
  obtain ⟨hP, hD⟩ := va_join (wr := []) (w1 := [(h0, .inr (1, [.ref n0, .ref g0, .int x])), (n0, .inl (cI, 8, .inl (wn_put (wn_put a (4 * wn_hf y0) y1) (4 * wn_hf y0 + 1) y2))), (g0, .inl (cB, 253, .inl d))]) hP hD [0, 1, 2] [] rfl rfl (by decide) (by decide) hk1 hFc hP1 hD1
  have hK := (hK.sub (tys' := []) [] rfl).app hK1
  generalize H1 = H at hP hS ⊢
  have hP : va_P (dC, dI) vwCl [(h0, .inr (1, [.ref n0, .ref g0, .int x])), (n0, .inl (cI, 8, .inl (wn_put (wn_put a (4 * wn_hf y0) y1) (4 * wn_hf y0 + 1) y2))), (g0, .inl (cB, 253, .inl d))] H := hP
  have hD : va_D A [(h0, .inr (1, [.ref n0, .ref g0, .int x])), (n0, .inl (cI, 8, .inl (wn_put (wn_put a (4 * wn_hf y0) y1) (4 * wn_hf y0 + 1) y2))), (g0, .inl (cB, 253, .inl d))] := hD
  have hK : va_K (dC, dI) vwCl [(cI, .int), (cB, .int)] s := hK
  refine lv_aload_n hx hb dX1_lay_23 rfl (lv_at hl 1 rfl) ?_
  refine lv_iload hx hb dX1_lay_24 (lv_at hl 0 rfl) ?_
  refine lv_iconst (v := nI 2) hx hb dX1_lay_26 (by decide) ?_
  refine lv_iadd hx hb dX1_lay_27 ?_
  refine wn_top (y := nI (4 * wn_hf y0 + 2)) (nI_add _ 2) ?_
  refine lv_iload hx hb dX1_lay_28 (lv_at hl 5 rfl) ?_
  have hPc := hP.sub (ws' := [(h0, .inr (1, [.ref n0, .ref g0, .int x])), (n0, .inl (cI, 8, .inl (wn_put (wn_put a (4 * wn_hf y0) y1) (4 * wn_hf y0 + 1) y2))), (g0, .inl (cB, 253, .inl d))]) [0, 1, 2] rfl
  have hDc := hD.sub (ws' := [(h0, .inr (1, [.ref n0, .ref g0, .int x])), (n0, .inl (cI, 8, .inl (wn_put (wn_put a (4 * wn_hf y0) y1) (4 * wn_hf y0 + 1) y2))), (g0, .inl (cB, 253, .inl d))]) [0, 1, 2] (by decide) rfl
  have hKc := hK.sub (tys' := [(cI, .int), (cB, .int)]) [0, 1] rfl
  have hFc := va_free (wc := [(h0, .inr (1, [.ref n0, .ref g0, .int x])), (n0, .inl (cI, 8, .inl (wn_put (wn_put a (4 * wn_hf y0) y1) (4 * wn_hf y0 + 1) y2))), (g0, .inl (cB, 253, .inl d))]) hD hS hA [0, 1, 2] rfl
  refine va_callv (va_runV (As := [.int (nI (4 * wn_hf y0 + 2)), .int y3]) (rest := []) ⟨hx, hb, hml, hown, hts⟩ (metX1_become l dC dI h0 n0 g0 cI cB _ ((wn_put (wn_put a (4 * wn_hf y0) y1) (4 * wn_hf y0 + 1) y2)) d x (4 * wn_hf y0 + 2) y3 (by omega)) (cwV 2 hts (lw_V q71 q73 qs0 q4 q74) rfl rfl rfl (by decide +kernel) ⟨Nat.le_of_ble_eq_true rfl, Nat.le_of_ble_eq_true rfl⟩) ⟨fun a U g mk q => by obtain ⟨q0, q1, qP, qK, qD⟩ := q; exact ⟨q0, q1, qP, va_K.moved (u := U) (U := U.calling g mk a) (Vm.Alike.refl U.vm) qK, qD⟩, va_recv hKc hPc (ci := 1) (q0 := 0) rfl rfl, fun U hU hW => ⟨rfl, by rw [hU], by rw [hU]; exact hPc, va_K.moved hW.alike hKc, hDc.weaken (fun _ _ _ _ => trivial)⟩⟩ rfl rfl hl.1 rfl (lv_room (Nat.le_of_ble_eq_true rfl)) dX1_lay_30 ⟨Nat.le_of_ble_eq_true rfl, Nat.le_of_ble_eq_true rfl⟩) hS (fun q _ h => hFc q h) hFc (fun u t H1 locs ht hvm hw hB hz1 hk1 hS => ?_)
  obtain ⟨hP1, hK1, hD1⟩ := hB
  rw [ht] at hP1
  have hK1 := va_K.moved hvm.symm hK1
  obtain ⟨hP, hD⟩ := va_join (wr := []) (w1 := [(h0, .inr (1, [.ref n0, .ref g0, .int x])), (n0, .inl (cI, 8, .inl (wn_put (wn_put (wn_put a (4 * wn_hf y0) y1) (4 * wn_hf y0 + 1) y2) (4 * wn_hf y0 + 2) y3))), (g0, .inl (cB, 253, .inl d))]) hP hD [0, 1, 2] [] rfl rfl (by decide) (by decide) hk1 hFc hP1 hD1
  have hK := (hK.sub (tys' := []) [] rfl).app hK1
  generalize H1 = H at hP hS ⊢
  have hP : va_P (dC, dI) vwCl [(h0, .inr (1, [.ref n0, .ref g0, .int x])), (n0, .inl (cI, 8, .inl (wn_put (wn_put (wn_put a (4 * wn_hf y0) y1) (4 * wn_hf y0 + 1) y2) (4 * wn_hf y0 + 2) y3))), (g0, .inl (cB, 253, .inl d))] H := hP
  have hD : va_D A [(h0, .inr (1, [.ref n0, .ref g0, .int x])), (n0, .inl (cI, 8, .inl (wn_put (wn_put (wn_put a (4 * wn_hf y0) y1) (4 * wn_hf y0 + 1) y2) (4 * wn_hf y0 + 2) y3))), (g0, .inl (cB, 253, .inl d))] := hD
  have hK : va_K (dC, dI) vwCl [(cI, .int), (cB, .int)] s := hK
  refine lv_aload_n hx hb dX1_lay_33 rfl (lv_at hl 1 rfl) ?_
  refine lv_iload hx hb dX1_lay_34 (lv_at hl 0 rfl) ?_
  refine lv_iconst (v := nI 3) hx hb dX1_lay_36 (by decide) ?_
  refine lv_iadd hx hb dX1_lay_37 ?_
  refine wn_top (y := nI (4 * wn_hf y0 + 3)) (nI_add _ 3) ?_
  refine lv_iload hx hb dX1_lay_38 (lv_at hl 6 rfl) ?_
  have hPc := hP.sub (ws' := [(h0, .inr (1, [.ref n0, .ref g0, .int x])), (n0, .inl (cI, 8, .inl (wn_put (wn_put (wn_put a (4 * wn_hf y0) y1) (4 * wn_hf y0 + 1) y2) (4 * wn_hf y0 + 2) y3))), (g0, .inl (cB, 253, .inl d))]) [0, 1, 2] rfl
  have hDc := hD.sub (ws' := [(h0, .inr (1, [.ref n0, .ref g0, .int x])), (n0, .inl (cI, 8, .inl (wn_put (wn_put (wn_put a (4 * wn_hf y0) y1) (4 * wn_hf y0 + 1) y2) (4 * wn_hf y0 + 2) y3))), (g0, .inl (cB, 253, .inl d))]) [0, 1, 2] (by decide) rfl
  have hKc := hK.sub (tys' := [(cI, .int), (cB, .int)]) [0, 1] rfl
  have hFc := va_free (wc := [(h0, .inr (1, [.ref n0, .ref g0, .int x])), (n0, .inl (cI, 8, .inl (wn_put (wn_put (wn_put a (4 * wn_hf y0) y1) (4 * wn_hf y0 + 1) y2) (4 * wn_hf y0 + 2) y3))), (g0, .inl (cB, 253, .inl d))]) hD hS hA [0, 1, 2] rfl
  refine va_callv (va_runV (As := [.int (nI (4 * wn_hf y0 + 3)), .int y4]) (rest := []) ⟨hx, hb, hml, hown, hts⟩ (metX1_become l dC dI h0 n0 g0 cI cB _ ((wn_put (wn_put (wn_put a (4 * wn_hf y0) y1) (4 * wn_hf y0 + 1) y2) (4 * wn_hf y0 + 2) y3)) d x (4 * wn_hf y0 + 3) y4 (by omega)) (cwV 2 hts (lw_V q71 q73 qs0 q4 q74) rfl rfl rfl (by decide +kernel) ⟨Nat.le_of_ble_eq_true rfl, Nat.le_of_ble_eq_true rfl⟩) ⟨fun a U g mk q => by obtain ⟨q0, q1, qP, qK, qD⟩ := q; exact ⟨q0, q1, qP, va_K.moved (u := U) (U := U.calling g mk a) (Vm.Alike.refl U.vm) qK, qD⟩, va_recv hKc hPc (ci := 1) (q0 := 0) rfl rfl, fun U hU hW => ⟨rfl, by rw [hU], by rw [hU]; exact hPc, va_K.moved hW.alike hKc, hDc.weaken (fun _ _ _ _ => trivial)⟩⟩ rfl rfl hl.1 rfl (lv_room (Nat.le_of_ble_eq_true rfl)) dX1_lay_40 ⟨Nat.le_of_ble_eq_true rfl, Nat.le_of_ble_eq_true rfl⟩) hS (fun q _ h => hFc q h) hFc (fun u t H1 locs ht hvm hw hB hz1 hk1 hS => ?_)
  obtain ⟨hP1, hK1, hD1⟩ := hB
  rw [ht] at hP1
  have hK1 := va_K.moved hvm.symm hK1
  obtain ⟨hP, hD⟩ := va_join (wr := []) (w1 := [(h0, .inr (1, [.ref n0, .ref g0, .int x])), (n0, .inl (cI, 8, .inl (wn_put (wn_put (wn_put (wn_put a (4 * wn_hf y0) y1) (4 * wn_hf y0 + 1) y2) (4 * wn_hf y0 + 2) y3) (4 * wn_hf y0 + 3) y4))), (g0, .inl (cB, 253, .inl d))]) hP hD [0, 1, 2] [] rfl rfl (by decide) (by decide) hk1 hFc hP1 hD1
  have hK := (hK.sub (tys' := []) [] rfl).app hK1
  generalize H1 = H at hP hS ⊢
  have hP : va_P (dC, dI) vwCl [(h0, .inr (1, [.ref n0, .ref g0, .int x])), (n0, .inl (cI, 8, .inl (wn_put (wn_put (wn_put (wn_put a (4 * wn_hf y0) y1) (4 * wn_hf y0 + 1) y2) (4 * wn_hf y0 + 2) y3) (4 * wn_hf y0 + 3) y4))), (g0, .inl (cB, 253, .inl d))] H := hP
  have hD : va_D A [(h0, .inr (1, [.ref n0, .ref g0, .int x])), (n0, .inl (cI, 8, .inl (wn_put (wn_put (wn_put (wn_put a (4 * wn_hf y0) y1) (4 * wn_hf y0 + 1) y2) (4 * wn_hf y0 + 2) y3) (4 * wn_hf y0 + 3) y4))), (g0, .inl (cB, 253, .inl d))] := hD
  have hK : va_K (dC, dI) vwCl [(cI, .int), (cB, .int)] s := hK
  exact W.vret hx hb hr (fun t ht hW => ⟨⟨(), rfl, trivial, by rw [ht]; exact hP, va_K.moved hW.alike hK, hD⟩, hS.F ht⟩) hS.2.2 dX1_lay_43
set_option maxHeartbeats 4000000 in
set_option maxRecDepth 100000 in
/-- few(i, v): one word -/
theorem metX1_few (l : Launch) (dC : Nat → ClassId) (dI : Nat → Nat → Nat) (h0 n0 g0 : Nat) (cI cB : ClassId) (sz : Nat) (a d : Nat → Int32) (x : Int32) (y0 : Int32) (y1 : Int32) : Met l yX1_few (ws_ yX1_few cX1_few 3 none) ({ frames := 1, cells := 0, slots := 0, locals := 22 }) (va_Pc [.ref h0, .int y0, .int y1] (fun U => U.heap.size = sz ∧ va_P (dC, dI) vwCl [(h0, .inr (1, [.ref n0, .ref g0, .int x])), (n0, .inl (cI, 8, .inl a)), (g0, .inl (cB, 253, .inl d))] U.heap ∧ va_K (dC, dI) vwCl [(cI, .int), (cB, .int)] U ∧ va_D (fun _ => True) [(h0, .inr (1, [.ref n0, .ref g0, .int x])), (n0, .inl (cI, 8, .inl a)), (g0, .inl (cB, 253, .inl d))])) (va_Qv (fun _ : Unit => True) (fun _ => wn_B1 dC dI (va_A [(h0, .inr (1, [.ref n0, .ref g0, .int x])), (n0, .inl (cI, 8, .inl a)), (g0, .inl (cB, 253, .inl d))] sz) h0 n0 g0 cI cB (wn_put a (wn_pl y0) y1) d x) (va_A [(h0, .inr (1, [.ref n0, .ref g0, .int x])), (n0, .inl (cI, 8, .inl a)), (g0, .inl (cB, 253, .inl d))] sz)) 0 0 (va_A [(h0, .inr (1, [.ref n0, .ref g0, .int x])), (n0, .inl (cI, 8, .inl a)), (g0, .inl (cB, 253, .inl d))] sz) := by
  refine Met.ofW (cc := cX1_few) (maxL := 3) (ret := none) (by decide) rfl ?_
  intro p e s m args below meth c s₁ B hml hv
  obtain ⟨rfl, hsz, hP, hK, hD0⟩ := hv
  have hx := B.exec
  have hb := B.bytes
  have hr := B.returns
  have hts := atoms_spec (ws := (ws_ yX1_few cX1_few 3 none)) B.pre
  have hts : ∀ w ∈ lw_all, w.before _ s = true := fun w h => hts w (List.mem_cons_of_mem _ h)
  have hown : s.vm.findClass RX1 = some m.cls := findClass_of_methodNamed B.named
  have hlocks := B.notSynchronized
  subst hsz
  have hD := hD0.self (sz := s.heap.size)
  generalize hAe : va_A [(h0, .inr (1, [.ref n0, .ref g0, .int x])), (n0, .inl (cI, 8, .inl a)), (g0, .inl (cB, 253, .inl d))] s.heap.size = A at hD ⊢
  have hA : ∀ q : Nat, s.heap.size ≤ q → A q := fun q h => by rw [← hAe]; exact Or.inr h
  have hS : va_S A s.heap s.heap [] := va_S.rf
  have hP : va_P (dC, dI) vwCl [(h0, .inr (1, [.ref n0, .ref g0, .int x])), (n0, .inl (cI, 8, .inl a)), (g0, .inl (cB, 253, .inl d))] s.heap := hP
  have hl := lv_entry ([.ref h0, .int y0, .int y1]) (n := 3) (Nat.le_of_ble_eq_true rfl)
  rw [lg_entry_eq]
  generalize (lg_sl ([.ref h0, .int y0, .int y1]) ++ List.replicate (3 - (lg_sl ([.ref h0, .int y0, .int y1])).length) Slot.unset).toArray = ls at hl ⊢
  have hl : lv_has ls 3 [(0, .ref h0), (1, .int y0), (2, .int y1)] := hl
  have hh := wn_pl_lt y0
  refine lv_aload_n hx hb dX1_few_0 rfl (lv_at hl 0 rfl) ?_
  refine lv_iload_n hx hb dX1_few_1 rfl (lv_at hl 1 rfl) ?_
  refine lv_bipush (v := nI 7) hx hb dX1_few_2 (by decide) ?_
  refine lv_iand hx hb dX1_few_4 ?_
  refine wn_top (y := nI (wn_pl y0)) (wn_pl_eq y0) ?_
  refine lv_iload_n hx hb dX1_few_5 rfl (lv_at hl 2 rfl) ?_
  have hPc := hP.sub (ws' := [(h0, .inr (1, [.ref n0, .ref g0, .int x])), (n0, .inl (cI, 8, .inl a)), (g0, .inl (cB, 253, .inl d))]) [0, 1, 2] rfl
  have hDc := hD.sub (ws' := [(h0, .inr (1, [.ref n0, .ref g0, .int x])), (n0, .inl (cI, 8, .inl a)), (g0, .inl (cB, 253, .inl d))]) [0, 1, 2] (by decide) rfl
  have hKc := hK.sub (tys' := [(cI, .int), (cB, .int)]) [0, 1] rfl
  have hFc := va_free (wc := [(h0, .inr (1, [.ref n0, .ref g0, .int x])), (n0, .inl (cI, 8, .inl a)), (g0, .inl (cB, 253, .inl d))]) hD hS hA [0, 1, 2] rfl
  refine va_callv (va_runV (As := [.int (nI (wn_pl y0)), .int y1]) (rest := []) ⟨hx, hb, hml, hown, hts⟩ (metX1_become l dC dI h0 n0 g0 cI cB _ a d x (wn_pl y0) y1 (hh)) (cwV 2 hts (lw_V q71 q73 qs0 q4 q74) rfl rfl rfl (by decide +kernel) ⟨Nat.le_of_ble_eq_true rfl, Nat.le_of_ble_eq_true rfl⟩) ⟨fun a U g mk q => by obtain ⟨q0, q1, qP, qK, qD⟩ := q; exact ⟨q0, q1, qP, va_K.moved (u := U) (U := U.calling g mk a) (Vm.Alike.refl U.vm) qK, qD⟩, va_recv hKc hPc (ci := 1) (q0 := 0) rfl rfl, fun U hU hW => ⟨rfl, by rw [hU], by rw [hU]; exact hPc, va_K.moved hW.alike hKc, hDc.weaken (fun _ _ _ _ => trivial)⟩⟩ rfl rfl hl.1 rfl (lv_room (Nat.le_of_ble_eq_true rfl)) dX1_few_6 ⟨Nat.le_of_ble_eq_true rfl, Nat.le_of_ble_eq_true rfl⟩) hS (fun q _ h => hFc q h) hFc (fun u t H1 locs ht hvm hw hB hz1 hk1 hS => ?_)
  obtain ⟨hP1, hK1, hD1⟩ := hB
  rw [ht] at hP1
  have hK1 := va_K.moved hvm.symm hK1
  obtain ⟨hP, hD⟩ := va_join (wr := []) (w1 := [(h0, .inr (1, [.ref n0, .ref g0, .int x])), (n0, .inl (cI, 8, .inl (wn_put a (wn_pl y0) y1))), (g0, .inl (cB, 253, .inl d))]) hP hD [0, 1, 2] [] rfl rfl (by decide) (by decide) hk1 hFc hP1 hD1
  have hK := (hK.sub (tys' := []) [] rfl).app hK1
  generalize H1 = H at hP hS ⊢
  have hP : va_P (dC, dI) vwCl [(h0, .inr (1, [.ref n0, .ref g0, .int x])), (n0, .inl (cI, 8, .inl (wn_put a (wn_pl y0) y1))), (g0, .inl (cB, 253, .inl d))] H := hP
  have hD : va_D A [(h0, .inr (1, [.ref n0, .ref g0, .int x])), (n0, .inl (cI, 8, .inl (wn_put a (wn_pl y0) y1))), (g0, .inl (cB, 253, .inl d))] := hD
  have hK : va_K (dC, dI) vwCl [(cI, .int), (cB, .int)] s := hK
  exact W.vret hx hb hr (fun t ht hW => ⟨⟨(), rfl, trivial, by rw [ht]; exact hP, va_K.moved hW.alike hK, hD⟩, hS.F ht⟩) hS.2.2 dX1_few_9
set_option maxHeartbeats 4000000 in
set_option maxRecDepth 100000 in
/-- bit(i): bit i of the number X of the words -/
theorem metX1_bit (l : Launch) (dC : Nat → ClassId) (dI : Nat → Nat → Nat) (h0 n0 g0 : Nat) (cI cB : ClassId) (sz : Nat) (a d : Nat → Int32) (x : Int32) (X : Nat) (hX : wn_X a X) (i : Nat) (hi : i < 300) : Met l yX1_bit (ws_ yX1_bit cX1_bit 2 (some .int)) ({ frames := 0, cells := 0, slots := 0, locals := 0 }) (va_Pc [.ref h0, .int (nI i)] (fun U => U.heap.size = sz ∧ va_P (dC, dI) vwCl [(h0, .inr (1, [.ref n0, .ref g0, .int x])), (n0, .inl (cI, 8, .inl a)), (g0, .inl (cB, 253, .inl d))] U.heap ∧ va_K (dC, dI) vwCl [(cI, .int), (cB, .int)] U ∧ va_D (fun _ => True) [(h0, .inr (1, [.ref n0, .ref g0, .int x])), (n0, .inl (cI, 8, .inl a)), (g0, .inl (cB, 253, .inl d))])) (va_Qi (fun (r : Int32) (_ : Unit) => r = nI (wn_bit X i)) (fun _ => wn_B1 dC dI (va_A [(h0, .inr (1, [.ref n0, .ref g0, .int x])), (n0, .inl (cI, 8, .inl a)), (g0, .inl (cB, 253, .inl d))] sz) h0 n0 g0 cI cB a d x) (va_A [(h0, .inr (1, [.ref n0, .ref g0, .int x])), (n0, .inl (cI, 8, .inl a)), (g0, .inl (cB, 253, .inl d))] sz)) 0 0 (va_A [(h0, .inr (1, [.ref n0, .ref g0, .int x])), (n0, .inl (cI, 8, .inl a)), (g0, .inl (cB, 253, .inl d))] sz) := by
  refine Met.ofW (cc := cX1_bit) (maxL := 2) (ret := (some .int)) (by decide) rfl ?_
  intro p e s m args below meth c s₁ B hml hv
  obtain ⟨rfl, hsz, hP, hK, hD0⟩ := hv
  have hx := B.exec
  have hb := B.bytes
  have hr := B.returns
  have hts := atoms_spec (ws := (ws_ yX1_bit cX1_bit 2 (some .int))) B.pre
  have hts : ∀ w ∈ lw_all, w.before _ s = true := fun w h => hts w (List.mem_cons_of_mem _ h)
  have hown : s.vm.findClass RX1 = some m.cls := findClass_of_methodNamed B.named
  have hlocks := B.notSynchronized
  subst hsz
  have hD := hD0.self (sz := s.heap.size)
  generalize hAe : va_A [(h0, .inr (1, [.ref n0, .ref g0, .int x])), (n0, .inl (cI, 8, .inl a)), (g0, .inl (cB, 253, .inl d))] s.heap.size = A at hD ⊢
  have hA : ∀ q : Nat, s.heap.size ≤ q → A q := fun q h => by rw [← hAe]; exact Or.inr h
  have hS : va_S A s.heap s.heap [] := va_S.rf
  have hP : va_P (dC, dI) vwCl [(h0, .inr (1, [.ref n0, .ref g0, .int x])), (n0, .inl (cI, 8, .inl a)), (g0, .inl (cB, 253, .inl d))] s.heap := hP
  have hl := lv_entry ([.ref h0, .int (nI i)]) (n := 2) (Nat.le_of_ble_eq_true rfl)
  rw [lg_entry_eq]
  generalize (lg_sl ([.ref h0, .int (nI i)]) ++ List.replicate (2 - (lg_sl ([.ref h0, .int (nI i)])).length) Slot.unset).toArray = ls at hl ⊢
  have hl : lv_has ls 2 [(0, .ref h0), (1, .int (nI i))] := hl
  refine lv_iload_n hx hb dX1_bit_0 rfl (lv_at hl 1 rfl) ?_
  refine lv_sipush (v := nI 252) hx hb dX1_bit_1 (by decide) ?_
  refine lv_icmp_ge (tgt := 26) hx hb dX1_bit_4 (by decide) (fun c1 => ?_) (fun c1 => ?_)
  · have h1 : 252 ≤ i := (nI_leI (by decide) (by omega)).mp c1
    refine lv_iconst (v := nI 0) hx hb dX1_bit_26 (by decide) ?_
    exact W.iret (v := nI 0) hx hb hr (fun t ht hW => ⟨⟨nI 0, (), rfl, by rw [wn_bit_hi hX.1 h1], by rw [ht]; exact hP, va_K.moved hW.alike hK, hD⟩, hS.F ht⟩) hS.2.2 dX1_bit_27
  · have h1 : i < 252 := Nat.lt_of_not_le (fun q => c1 (nI_le q (by omega)))
    refine lv_aload_n hx hb dX1_bit_7 rfl (lv_at hl 0 rfl) ?_
    refine va_get (D := (dC, dI)) (ci := 1) (v := .ref n0) (C := RX1) (T := TX1) (N := 3) hx hb hts in_X1 hown hK hP 0 rfl rfl 0 (by decide) (hts _ q57) (fun _ h9 => h9) rfl dX1_bit_8 ?_
    refine lv_iload_n hx hb dX1_bit_11 rfl (lv_at hl 1 rfl) ?_
    refine lv_bipush (v := nI 32) hx hb dX1_bit_12 (by decide) ?_
    refine lv_idiv hx hb dX1_bit_14 (by decide) ?_
    refine wn_top (y := nI (i / 32)) (pk_div (by omega) (by decide) (by decide)) ?_
    refine wn_iald (k := i / 32) hx hb hK hP 1 0 rfl rfl (by omega) (by decide) dX1_bit_15 ?_
    refine wn_top (y := nI (X / 2 ^ (32 * (i / 32)))) (hX.2 _ (by omega)) ?_
    refine lv_iload_n hx hb dX1_bit_16 rfl (lv_at hl 1 rfl) ?_
    refine lv_bipush (v := nI 32) hx hb dX1_bit_17 (by decide) ?_
    refine lv_irem hx hb dX1_bit_19 (by decide) ?_
    refine wn_top (y := nI (i % 32)) (pk_rem (by omega) (by decide) (by decide)) ?_
    refine lv_iushr (v := ((nI (X / 2 ^ (32 * (i / 32)))).toUInt32 >>> ((nI (i % 32)).toUInt32 &&& Int32.toUInt32 31)).toInt32) hx hb dX1_bit_20 (rfl) ?_
    refine lv_iconst (v := nI 1) hx hb dX1_bit_21 (by decide) ?_
    refine lv_iand hx hb dX1_bit_22 ?_
    refine wn_top (y := nI (wn_bit X i)) (wn_wbit) ?_
    refine lv_goto (tgt := 27) hx hb dX1_bit_23 (by decide) ?_
    exact W.iret (v := nI (wn_bit X i)) hx hb hr (fun t ht hW => ⟨⟨nI (wn_bit X i), (), rfl, rfl, by rw [ht]; exact hP, va_K.moved hW.alike hK, hD⟩, hS.F ht⟩) hS.2.2 dX1_bit_27
set_option maxHeartbeats 4000000 in
set_option maxRecDepth 100000 in
/-- digit(i): the digit at i, its sign off, modulo 253 -/
theorem metX1_digit (l : Launch) (dC : Nat → ClassId) (dI : Nat → Nat → Nat) (h0 n0 g0 : Nat) (cI cB : ClassId) (sz : Nat) (a d : Nat → Int32) (x : Int32) (y0 : Int32) : Met l yX1_digit (ws_ yX1_digit cX1_digit 2 (some .int)) ({ frames := 0, cells := 0, slots := 0, locals := 0 }) (va_Pc [.ref h0, .int y0] (fun U => U.heap.size = sz ∧ va_P (dC, dI) vwCl [(h0, .inr (1, [.ref n0, .ref g0, .int x])), (n0, .inl (cI, 8, .inl a)), (g0, .inl (cB, 253, .inl d))] U.heap ∧ va_K (dC, dI) vwCl [(cI, .int), (cB, .int)] U ∧ va_D (fun _ => True) [(h0, .inr (1, [.ref n0, .ref g0, .int x])), (n0, .inl (cI, 8, .inl a)), (g0, .inl (cB, 253, .inl d))])) (va_Qi (fun (r : Int32) (_ : Unit) => r = d (wn_dp y0)) (fun _ => wn_B1 dC dI (va_A [(h0, .inr (1, [.ref n0, .ref g0, .int x])), (n0, .inl (cI, 8, .inl a)), (g0, .inl (cB, 253, .inl d))] sz) h0 n0 g0 cI cB a d x) (va_A [(h0, .inr (1, [.ref n0, .ref g0, .int x])), (n0, .inl (cI, 8, .inl a)), (g0, .inl (cB, 253, .inl d))] sz)) 0 0 (va_A [(h0, .inr (1, [.ref n0, .ref g0, .int x])), (n0, .inl (cI, 8, .inl a)), (g0, .inl (cB, 253, .inl d))] sz) := by
  refine Met.ofW (cc := cX1_digit) (maxL := 2) (ret := (some .int)) (by decide) rfl ?_
  intro p e s m args below meth c s₁ B hml hv
  obtain ⟨rfl, hsz, hP, hK, hD0⟩ := hv
  have hx := B.exec
  have hb := B.bytes
  have hr := B.returns
  have hts := atoms_spec (ws := (ws_ yX1_digit cX1_digit 2 (some .int))) B.pre
  have hts : ∀ w ∈ lw_all, w.before _ s = true := fun w h => hts w (List.mem_cons_of_mem _ h)
  have hown : s.vm.findClass RX1 = some m.cls := findClass_of_methodNamed B.named
  have hlocks := B.notSynchronized
  subst hsz
  have hD := hD0.self (sz := s.heap.size)
  generalize hAe : va_A [(h0, .inr (1, [.ref n0, .ref g0, .int x])), (n0, .inl (cI, 8, .inl a)), (g0, .inl (cB, 253, .inl d))] s.heap.size = A at hD ⊢
  have hA : ∀ q : Nat, s.heap.size ≤ q → A q := fun q h => by rw [← hAe]; exact Or.inr h
  have hS : va_S A s.heap s.heap [] := va_S.rf
  have hP : va_P (dC, dI) vwCl [(h0, .inr (1, [.ref n0, .ref g0, .int x])), (n0, .inl (cI, 8, .inl a)), (g0, .inl (cB, 253, .inl d))] s.heap := hP
  have hl := lv_entry ([.ref h0, .int y0]) (n := 2) (Nat.le_of_ble_eq_true rfl)
  rw [lg_entry_eq]
  generalize (lg_sl ([.ref h0, .int y0]) ++ List.replicate (2 - (lg_sl ([.ref h0, .int y0])).length) Slot.unset).toArray = ls at hl ⊢
  have hl : lv_has ls 2 [(0, .ref h0), (1, .int y0)] := hl
  refine lv_aload_n hx hb dX1_digit_0 rfl (lv_at hl 0 rfl) ?_
  refine va_get (D := (dC, dI)) (ci := 1) (v := .ref g0) (C := RX1) (T := TX1) (N := 3) hx hb hts in_X1 hown hK hP 0 rfl rfl 1 (by decide) (hts _ q58) (fun _ h9 => h9) rfl dX1_digit_1 ?_
  refine lv_iload_n hx hb dX1_digit_4 rfl (lv_at hl 1 rfl) ?_
  refine lv_ldc hx hb hown (hts _ q92) dX1_digit_5 ?_
  refine lv_iand hx hb dX1_digit_7 ?_
  refine lv_sipush (v := nI 253) hx hb dX1_digit_8 (by decide) ?_
  refine lv_irem hx hb dX1_digit_11 (by decide) ?_
  refine wn_top (y := nI (wn_dp y0)) (wn_dp_eq y0) ?_
  refine wn_iald (k := wn_dp y0) hx hb hK hP 2 1 rfl rfl (wn_dp_lt y0) (by decide) dX1_digit_12 ?_
  exact W.iret (v := d (wn_dp y0)) hx hb hr (fun t ht hW => ⟨⟨d (wn_dp y0), (), rfl, rfl, by rw [ht]; exact hP, va_K.moved hW.alike hK, hD⟩, hS.F ht⟩) hS.2.2 dX1_digit_13
set_option maxHeartbeats 4000000 in
set_option maxRecDepth 100000 in
/-- width(): the width -/
theorem metX1_width (l : Launch) (dC : Nat → ClassId) (dI : Nat → Nat → Nat) (h0 n0 g0 : Nat) (cI cB : ClassId) (sz : Nat) (a d : Nat → Int32) (x : Int32) : Met l yX1_width (ws_ yX1_width cX1_width 1 (some .int)) ({ frames := 0, cells := 0, slots := 0, locals := 0 }) (va_Pc [.ref h0] (fun U => U.heap.size = sz ∧ va_P (dC, dI) vwCl [(h0, .inr (1, [.ref n0, .ref g0, .int x])), (n0, .inl (cI, 8, .inl a)), (g0, .inl (cB, 253, .inl d))] U.heap ∧ va_K (dC, dI) vwCl [(cI, .int), (cB, .int)] U ∧ va_D (fun _ => True) [(h0, .inr (1, [.ref n0, .ref g0, .int x])), (n0, .inl (cI, 8, .inl a)), (g0, .inl (cB, 253, .inl d))])) (va_Qi (fun (r : Int32) (_ : Unit) => r = x) (fun _ => wn_B1 dC dI (va_A [(h0, .inr (1, [.ref n0, .ref g0, .int x])), (n0, .inl (cI, 8, .inl a)), (g0, .inl (cB, 253, .inl d))] sz) h0 n0 g0 cI cB a d x) (va_A [(h0, .inr (1, [.ref n0, .ref g0, .int x])), (n0, .inl (cI, 8, .inl a)), (g0, .inl (cB, 253, .inl d))] sz)) 0 0 (va_A [(h0, .inr (1, [.ref n0, .ref g0, .int x])), (n0, .inl (cI, 8, .inl a)), (g0, .inl (cB, 253, .inl d))] sz) := by
  refine Met.ofW (cc := cX1_width) (maxL := 1) (ret := (some .int)) (by decide) rfl ?_
  intro p e s m args below meth c s₁ B hml hv
  obtain ⟨rfl, hsz, hP, hK, hD0⟩ := hv
  have hx := B.exec
  have hb := B.bytes
  have hr := B.returns
  have hts := atoms_spec (ws := (ws_ yX1_width cX1_width 1 (some .int))) B.pre
  have hts : ∀ w ∈ lw_all, w.before _ s = true := fun w h => hts w (List.mem_cons_of_mem _ h)
  have hown : s.vm.findClass RX1 = some m.cls := findClass_of_methodNamed B.named
  have hlocks := B.notSynchronized
  subst hsz
  have hD := hD0.self (sz := s.heap.size)
  generalize hAe : va_A [(h0, .inr (1, [.ref n0, .ref g0, .int x])), (n0, .inl (cI, 8, .inl a)), (g0, .inl (cB, 253, .inl d))] s.heap.size = A at hD ⊢
  have hA : ∀ q : Nat, s.heap.size ≤ q → A q := fun q h => by rw [← hAe]; exact Or.inr h
  have hS : va_S A s.heap s.heap [] := va_S.rf
  have hP : va_P (dC, dI) vwCl [(h0, .inr (1, [.ref n0, .ref g0, .int x])), (n0, .inl (cI, 8, .inl a)), (g0, .inl (cB, 253, .inl d))] s.heap := hP
  have hl := lv_entry ([.ref h0]) (n := 1) (Nat.le_of_ble_eq_true rfl)
  rw [lg_entry_eq]
  generalize (lg_sl ([.ref h0]) ++ List.replicate (1 - (lg_sl ([.ref h0])).length) Slot.unset).toArray = ls at hl ⊢
  have hl : lv_has ls 1 [(0, .ref h0)] := hl
  refine lv_aload_n hx hb dX1_width_0 rfl (lv_at hl 0 rfl) ?_
  refine va_get (D := (dC, dI)) (ci := 1) (v := .int x) (C := RX1) (T := TX1) (N := 3) hx hb hts in_X1 hown hK hP 0 rfl rfl 2 (by decide) (hts _ q59) (fun _ h9 => h9) rfl dX1_width_1 ?_
  exact W.iret (v := x) hx hb hr (fun t ht hW => ⟨⟨x, (), rfl, rfl, by rw [ht]; exact hP, va_K.moved hW.alike hK, hD⟩, hS.F ht⟩) hS.2.2 dX1_width_4
end
section
/-! WnafDeskModel.find: the digits one by one; it comes to wn_run -/
set_option maxHeartbeats 4000000 in
set_option maxRecDepth 100000 in
/-- the window, bit by bit -/
theorem wn_win {p : Program} {l : Launch} {e : Env} {R : Room} {s : State} {m : MethodId} {args : Array Value} {below : List Frame} {meth : Method} {c : Code} {cells slots : Nat} {Q : State → Prop} {dC : Nat → ClassId} {dI : Nat → Nat → Nat} {A : Nat → Prop} {h0 n0 g0 : Nat} {cI cB : ClassId} {a : Nat → Int32} {X w : Nat} {d : Nat → Int32} {q cr : Nat} (hx : p.tables.exec = Jvm.exec) (hb : c.code = cX1_find) (hml : c.maxLocals = 7) (hown : s.vm.findClass RX1 = some m.cls) (hts : ∀ w ∈ lw_all, w.before args s = true) (hA : ∀ q : Nat, s.heap.size ≤ q → A q) (hR1 : 0 + 1 ≤ R.frames) (hR2 : 8 + (2 + 11) + 0 ≤ R.locals) (hRc : cells + 0 ≤ R.cells) (hRs : slots + 0 ≤ R.slots) (hX : wn_X a X) (h3 : 3 ≤ w) (h6 : w ≤ 6) (hq : q ≤ 252) (hK : va_K (dC, dI) vwCl [(cI, .int), (cB, .int)] s)
    (kk : ∀ (H : Heap) (locs : List Loc) (ls : Array Slot), va_P (dC, dI) vwCl [(h0, .inr (1, [.ref n0, .ref g0, .int (nI w)])), (n0, .inl (cI, 8, .inl a)), (g0, .inl (cB, 253, .inl d))] H → va_D A [(h0, .inr (1, [.ref n0, .ref g0, .int (nI w)])), (n0, .inl (cI, 8, .inl a)), (g0, .inl (cB, 253, .inl d))] → va_S A s.heap H locs → lv_has ls 7 [(0, .ref h0), (2, .int (nI cr)), (3, .int (nI q)), (5, .int (nI (wn_v X w q cr)))] → W p l e R s m args below meth c H locs cells slots Q (F0 m 93 ls [])) :
    ∀ (n k : Nat) (H : Heap) (locs : List Loc) (ls : Array Slot), k + n = w → va_P (dC, dI) vwCl [(h0, .inr (1, [.ref n0, .ref g0, .int (nI w)])), (n0, .inl (cI, 8, .inl a)), (g0, .inl (cB, 253, .inl d))] H → va_D A [(h0, .inr (1, [.ref n0, .ref g0, .int (nI w)])), (n0, .inl (cI, 8, .inl a)), (g0, .inl (cB, 253, .inl d))] → va_S A s.heap H locs → lv_has ls 7 [(0, .ref h0), (2, .int (nI cr)), (3, .int (nI q)), (5, .int (nI (cr + X / 2 ^ q % 2 ^ k))), (6, .int (nI k))] → W p l e R s m args below meth c H locs cells slots Q (F0 m 62 ls []) := by
  intro n
  induction n with
  | zero =>
    intro k H locs ls hk hP hD hS hl
    have hk : k = w := hk
    subst hk
    refine lv_iload hx hb dX1_find_62 (lv_at hl 4 rfl) ?_
    refine lv_aload_n hx hb dX1_find_64 rfl (lv_at hl 0 rfl) ?_
    refine va_get (D := (dC, dI)) (ci := 1) (v := .int (nI k)) (C := RX1) (T := TX1) (N := 3) hx hb hts in_X1 hown hK hP 0 rfl rfl 2 (by decide) (hts _ q59) (fun _ h9 => h9) rfl dX1_find_65 ?_
    refine lv_icmp_ge (tgt := 93) hx hb dX1_find_68 (by decide) (fun c1 => ?_) (fun c1 => absurd (nI_le (Nat.le_refl k) (by omega)) c1)
    exact kk H locs ls hP hD hS (lv_sub hl [0, 1, 2, 3] rfl)
  | succ n ih =>
    intro k H locs ls hk hP hD hS hl
    refine lv_iload hx hb dX1_find_62 (lv_at hl 4 rfl) ?_
    refine lv_aload_n hx hb dX1_find_64 rfl (lv_at hl 0 rfl) ?_
    refine va_get (D := (dC, dI)) (ci := 1) (v := .int (nI w)) (C := RX1) (T := TX1) (N := 3) hx hb hts in_X1 hown hK hP 0 rfl rfl 2 (by decide) (hts _ q59) (fun _ h9 => h9) rfl dX1_find_65 ?_
    refine lv_icmp_ge (tgt := 93) hx hb dX1_find_68 (by decide) (fun c1 => absurd c1 (nI_ge (by omega) (by omega))) (fun c1 => ?_)
    refine lv_iload hx hb dX1_find_71 (lv_at hl 3 rfl) ?_
    refine lv_aload_n hx hb dX1_find_73 rfl (lv_at hl 0 rfl) ?_
    refine lv_iload_n hx hb dX1_find_74 rfl (lv_at hl 2 rfl) ?_
    refine lv_iload hx hb dX1_find_75 (lv_at hl 4 rfl) ?_
    refine lv_iadd hx hb dX1_find_77 ?_
    refine wn_top (y := nI (q + k)) (nI_add q k) ?_
    have hPc := hP.sub (ws' := [(h0, .inr (1, [.ref n0, .ref g0, .int (nI w)])), (n0, .inl (cI, 8, .inl a)), (g0, .inl (cB, 253, .inl d))]) [0, 1, 2] rfl
    have hDc := hD.sub (ws' := [(h0, .inr (1, [.ref n0, .ref g0, .int (nI w)])), (n0, .inl (cI, 8, .inl a)), (g0, .inl (cB, 253, .inl d))]) [0, 1, 2] (by decide) rfl
    have hKc := hK.sub (tys' := [(cI, .int), (cB, .int)]) [0, 1] rfl
    have hFc := va_free (wc := [(h0, .inr (1, [.ref n0, .ref g0, .int (nI w)])), (n0, .inl (cI, 8, .inl a)), (g0, .inl (cB, 253, .inl d))]) hD hS hA [0, 1, 2] rfl
    refine va_calli (va_runV (As := [.int (nI (q + k))]) (rest := [.int (nI (cr + X / 2 ^ q % 2 ^ k))]) ⟨hx, hb, hml, hown, hts⟩ (metX1_bit l dC dI h0 n0 g0 cI cB H.size a d (nI w) X hX (q + k) (by omega)) (cwV 1 hts (lw_V q84 q86 qs1 q4 q87) rfl rfl rfl (by decide +kernel) ⟨hR1, hR2⟩) ⟨fun a U g mk q => by obtain ⟨q0, q1, qP, qK, qD⟩ := q; exact ⟨q0, q1, qP, va_K.moved (u := U) (U := U.calling g mk a) (Vm.Alike.refl U.vm) qK, qD⟩, va_recv hKc hPc (ci := 1) (q0 := 0) rfl rfl, fun U hU hW => ⟨rfl, by rw [hU], by rw [hU]; exact hPc, va_K.moved hW.alike hKc, hDc.weaken (fun _ _ _ _ => trivial)⟩⟩ rfl rfl hl.1 rfl (lv_room (Nat.le_of_ble_eq_true rfl)) dX1_find_78 ⟨hRc, hRs⟩) hS (fun q _ h => hFc q h) hFc (fun r1 u t H1 locs ht hvm hw hB hz1 hk1 hS => ?_)
    obtain ⟨hP1, hK1, hD1⟩ := hB
    rw [ht] at hP1
    have hK1 := va_K.moved hvm.symm hK1
    obtain ⟨hP, hD⟩ := va_join (wr := []) (w1 := [(h0, .inr (1, [.ref n0, .ref g0, .int (nI w)])), (n0, .inl (cI, 8, .inl a)), (g0, .inl (cB, 253, .inl d))]) hP hD [0, 1, 2] [] rfl rfl (by decide) (by decide) hk1 hFc hP1 hD1
    have hK := (hK.sub (tys' := []) [] rfl).app hK1
    generalize H1 = H at hP hS ⊢
    have hP : va_P (dC, dI) vwCl [(h0, .inr (1, [.ref n0, .ref g0, .int (nI w)])), (n0, .inl (cI, 8, .inl a)), (g0, .inl (cB, 253, .inl d))] H := hP
    have hD : va_D A [(h0, .inr (1, [.ref n0, .ref g0, .int (nI w)])), (n0, .inl (cI, 8, .inl a)), (g0, .inl (cB, 253, .inl d))] := hD
    have hK : va_K (dC, dI) vwCl [(cI, .int), (cB, .int)] s := hK
    have hw : r1 = nI (wn_bit X (q + k)) := hw
    subst hw
    refine lv_iload hx hb dX1_find_81 (lv_at hl 4 rfl) ?_
    refine lv_ishl hx hb dX1_find_83 ?_
    refine lv_iadd hx hb dX1_find_84 ?_
    refine wn_top (y := nI (cr + X / 2 ^ q % 2 ^ (k + 1))) (wn_sum X q cr k (by omega)) ?_
    refine lv_istore (lv' := [(5, .int (nI (cr + X / 2 ^ q % 2 ^ (k + 1)))), (0, .ref h0), (2, .int (nI cr)), (3, .int (nI q)), (6, .int (nI k))]) hx hb dX1_find_85 hl (by decide) rfl (fun ls hl => ?_)
    refine lv_iinc (v := nI (k + 1)) (lv' := [(6, .int (nI (k + 1))), (5, .int (nI (cr + X / 2 ^ q % 2 ^ (k + 1)))), (0, .ref h0), (2, .int (nI cr)), (3, .int (nI q))]) hx hb dX1_find_87 hl (k := 4) rfl (wn_inc k) (by decide) rfl (fun ls hl => ?_)
    refine lv_goto (tgt := 62) hx hb dX1_find_90 (by decide) ?_
    exact ih (k + 1) H locs ls (by omega) hP hD hS (lv_sub hl [2, 3, 4, 1, 0] rfl)
set_option maxHeartbeats 4000000 in
set_option maxRecDepth 100000 in
/-- the loop over the places -/
theorem wn_find {p : Program} {l : Launch} {e : Env} {R : Room} {s : State} {m : MethodId} {args : Array Value} {below : List Frame} {meth : Method} {c : Code} {cells slots : Nat} {Q : State → Prop} {dC : Nat → ClassId} {dI : Nat → Nat → Nat} {A : Nat → Prop} {h0 n0 g0 : Nat} {cI cB : ClassId} {a : Nat → Int32} {X w : Nat} {D0 : Nat → Int32} (hx : p.tables.exec = Jvm.exec) (hb : c.code = cX1_find) (hml : c.maxLocals = 7) (hown : s.vm.findClass RX1 = some m.cls) (hts : ∀ w ∈ lw_all, w.before args s = true) (hA : ∀ q : Nat, s.heap.size ≤ q → A q) (hR1 : 0 + 1 ≤ R.frames) (hR2 : 8 + (2 + 11) + 0 ≤ R.locals) (hRc : cells + 0 ≤ R.cells) (hRs : slots + 0 ≤ R.slots) (hX : wn_X a X) (h3 : 3 ≤ w) (h6 : w ≤ 6) (hK : va_K (dC, dI) vwCl [(cI, .int), (cB, .int)] s)
    (kk : ∀ (H : Heap) (locs : List Loc) (ls : Array Slot), va_P (dC, dI) vwCl [(h0, .inr (1, [.ref n0, .ref g0, .int (nI w)])), (n0, .inl (cI, 8, .inl a)), (g0, .inl (cB, 253, .inl D0))] H → va_D A [(h0, .inr (1, [.ref n0, .ref g0, .int (nI w)])), (n0, .inl (cI, 8, .inl a)), (g0, .inl (cB, 253, .inl D0))] → va_S A s.heap H locs → W p l e R s m args below meth c H locs cells slots Q (F0 m 159 ls [])) :
    ∀ (n q cr : Nat) (d : Nat → Int32) (H : Heap) (locs : List Loc) (ls : Array Slot), 300 < n + q → q ≤ 260 → wn_I X w D0 q cr d → va_P (dC, dI) vwCl [(h0, .inr (1, [.ref n0, .ref g0, .int (nI w)])), (n0, .inl (cI, 8, .inl a)), (g0, .inl (cB, 253, .inl d))] H → va_D A [(h0, .inr (1, [.ref n0, .ref g0, .int (nI w)])), (n0, .inl (cI, 8, .inl a)), (g0, .inl (cB, 253, .inl d))] → va_S A s.heap H locs → lv_has ls 7 [(0, .ref h0), (2, .int (nI cr)), (3, .int (nI q))] → W p l e R s m args below meth c H locs cells slots Q (F0 m 22 ls []) := by
  intro n
  induction n with
  | zero =>
    intro q cr d H locs ls hn hq
    exact absurd hn (by omega)
  | succ n ih =>
    intro q cr d H locs ls hn hq hI hP hD hS hl
    have hcr : cr ≤ 1 := hI.1
    refine lv_iload_n hx hb dX1_find_22 rfl (lv_at hl 2 rfl) ?_
    refine lv_sipush (v := nI 253) hx hb dX1_find_23 (by decide) ?_
    refine lv_icmp_ge (tgt := 159) hx hb dX1_find_26 (by decide) (fun c1 => ?_) (fun c1 => ?_)
    · have h1 : 253 ≤ q := (nI_leI (by decide) (by omega)).mp c1
      rw [wn_I_end hI h1] at hP hD
      exact kk H locs ls hP hD hS
    · have h1 : q < 253 := Nat.lt_of_not_le (fun z => c1 (nI_le z (by omega)))
      have hb2 := wn_bit_2 X q
      refine lv_aload_n hx hb dX1_find_29 rfl (lv_at hl 0 rfl) ?_
      refine lv_iload_n hx hb dX1_find_30 rfl (lv_at hl 2 rfl) ?_
      have hPc := hP.sub (ws' := [(h0, .inr (1, [.ref n0, .ref g0, .int (nI w)])), (n0, .inl (cI, 8, .inl a)), (g0, .inl (cB, 253, .inl d))]) [0, 1, 2] rfl
      have hDc := hD.sub (ws' := [(h0, .inr (1, [.ref n0, .ref g0, .int (nI w)])), (n0, .inl (cI, 8, .inl a)), (g0, .inl (cB, 253, .inl d))]) [0, 1, 2] (by decide) rfl
      have hKc := hK.sub (tys' := [(cI, .int), (cB, .int)]) [0, 1] rfl
      have hFc := va_free (wc := [(h0, .inr (1, [.ref n0, .ref g0, .int (nI w)])), (n0, .inl (cI, 8, .inl a)), (g0, .inl (cB, 253, .inl d))]) hD hS hA [0, 1, 2] rfl
      refine va_calli (va_runV (As := [.int (nI q)]) (rest := []) ⟨hx, hb, hml, hown, hts⟩ (metX1_bit l dC dI h0 n0 g0 cI cB H.size a d (nI w) X hX q (by omega)) (cwV 1 hts (lw_V q84 q86 qs1 q4 q87) rfl rfl rfl (by decide +kernel) ⟨hR1, hR2⟩) ⟨fun a U g mk q => by obtain ⟨q0, q1, qP, qK, qD⟩ := q; exact ⟨q0, q1, qP, va_K.moved (u := U) (U := U.calling g mk a) (Vm.Alike.refl U.vm) qK, qD⟩, va_recv hKc hPc (ci := 1) (q0 := 0) rfl rfl, fun U hU hW => ⟨rfl, by rw [hU], by rw [hU]; exact hPc, va_K.moved hW.alike hKc, hDc.weaken (fun _ _ _ _ => trivial)⟩⟩ rfl rfl hl.1 rfl (lv_room (Nat.le_of_ble_eq_true rfl)) dX1_find_31 ⟨hRc, hRs⟩) hS (fun q _ h => hFc q h) hFc (fun r1 u t H1 locs ht hvm hw hB hz1 hk1 hS => ?_)
      obtain ⟨hP1, hK1, hD1⟩ := hB
      rw [ht] at hP1
      have hK1 := va_K.moved hvm.symm hK1
      obtain ⟨hP, hD⟩ := va_join (wr := []) (w1 := [(h0, .inr (1, [.ref n0, .ref g0, .int (nI w)])), (n0, .inl (cI, 8, .inl a)), (g0, .inl (cB, 253, .inl d))]) hP hD [0, 1, 2] [] rfl rfl (by decide) (by decide) hk1 hFc hP1 hD1
      have hK := (hK.sub (tys' := []) [] rfl).app hK1
      generalize H1 = H at hP hS ⊢
      have hP : va_P (dC, dI) vwCl [(h0, .inr (1, [.ref n0, .ref g0, .int (nI w)])), (n0, .inl (cI, 8, .inl a)), (g0, .inl (cB, 253, .inl d))] H := hP
      have hD : va_D A [(h0, .inr (1, [.ref n0, .ref g0, .int (nI w)])), (n0, .inl (cI, 8, .inl a)), (g0, .inl (cB, 253, .inl d))] := hD
      have hK : va_K (dC, dI) vwCl [(cI, .int), (cB, .int)] s := hK
      have hw : r1 = nI (wn_bit X q) := hw
      subst hw
      refine lv_iload_n hx hb dX1_find_34 rfl (lv_at hl 1 rfl) ?_
      refine lv_iadd hx hb dX1_find_35 ?_
      refine wn_top (y := nI (wn_bit X q + cr)) (nI_add _ cr) ?_
      refine lv_istore (lv' := [(4, .int (nI (wn_bit X q + cr))), (0, .ref h0), (2, .int (nI cr)), (3, .int (nI q))]) hx hb dX1_find_36 hl (by decide) rfl (fun ls hl => ?_)
      refine lv_iload hx hb dX1_find_38 (lv_at hl 0 rfl) ?_
      refine lv_iconst (v := nI 2) hx hb dX1_find_40 (by decide) ?_
      refine lv_irem hx hb dX1_find_41 (by decide) ?_
      refine wn_top (y := nI ((wn_bit X q + cr) % 2)) (pk_rem (by omega) (by decide) (by decide)) ?_
      refine lv_if_ne (tgt := 56) hx hb dX1_find_42 (by decide) (fun c2 => ?_) (fun c2 => ?_)
      · have hne : ¬ wn_bit X q = cr := fun h => c2 (congrArg nI (show (wn_bit X q + cr) % 2 = 0 by omega))
        have hlow := wn_I_low hX.1 hI hne
        have hI2 := wn_I_dig hX.1 (by omega) hI hne
        have hvl := wn_v_lt X w q cr (by omega) hcr hne
        have hp6 := wn_pw h6
        have hp5 : 2 ^ (w - 1) ≤ 64 := wn_pw (w := w - 1) (by omega)
        refine lv_iload_n hx hb dX1_find_56 rfl (lv_at hl 2 rfl) ?_
        refine wn_top (y := nI (cr + X / 2 ^ q % 2 ^ 0)) (wn_v_0 X q cr) ?_
        refine lv_istore (lv' := [(5, .int (nI (cr + X / 2 ^ q % 2 ^ 0))), (4, .int (nI (wn_bit X q + cr))), (0, .ref h0), (2, .int (nI cr)), (3, .int (nI q))]) hx hb dX1_find_57 hl (by decide) rfl (fun ls hl => ?_)
        refine lv_iconst (v := nI 0) hx hb dX1_find_59 (by decide) ?_
        refine lv_istore (lv' := [(6, .int (nI 0)), (5, .int (nI (cr + X / 2 ^ q % 2 ^ 0))), (4, .int (nI (wn_bit X q + cr))), (0, .ref h0), (2, .int (nI cr)), (3, .int (nI q))]) hx hb dX1_find_60 hl (by decide) rfl (fun ls hl => ?_)
        refine wn_win hx hb hml hown hts hA hR1 hR2 hRc hRs hX h3 h6 hlow hK (fun H locs ls hP hD hS hl => ?_) w 0 H locs ls (Nat.zero_add w) hP hD hS (lv_sub hl [3, 4, 5, 1, 0] rfl)
        refine lv_iload hx hb dX1_find_93 (lv_at hl 3 rfl) ?_
        refine lv_iconst (v := nI 1) hx hb dX1_find_95 (by decide) ?_
        refine lv_aload_n hx hb dX1_find_96 rfl (lv_at hl 0 rfl) ?_
        refine va_get (D := (dC, dI)) (ci := 1) (v := .int (nI w)) (C := RX1) (T := TX1) (N := 3) hx hb hts in_X1 hown hK hP 0 rfl rfl 2 (by decide) (hts _ q59) (fun _ h9 => h9) rfl dX1_find_97 ?_
        refine lv_iconst (v := nI 1) hx hb dX1_find_100 (by decide) ?_
        refine lv_isub hx hb dX1_find_101 ?_
        refine wn_top (y := nI (w - 1)) (pk_sub (by omega)) ?_
        refine lv_ishl hx hb dX1_find_102 ?_
        refine wn_top (y := nI (2 ^ (w - 1))) (wn_p1 (by omega)) ?_
        refine lv_icmp_lt (tgt := 110) hx hb dX1_find_103 (by decide) (fun c3 => ?_) (fun c3 => ?_)
        · have h4 : wn_v X w q cr < 2 ^ (w - 1) := (nI_ltI (by omega) (by omega)).mp c3
          refine lv_iconst (v := nI 0) hx hb dX1_find_110 (by decide) ?_
          refine lv_istore (lv' := [(6, .int (nI 0)), (0, .ref h0), (2, .int (nI cr)), (3, .int (nI q)), (5, .int (nI (wn_v X w q cr)))]) hx hb dX1_find_111 hl (by decide) rfl (fun ls hl => ?_)
          refine lv_aload_n hx hb dX1_find_113 rfl (lv_at hl 1 rfl) ?_
          refine va_get (D := (dC, dI)) (ci := 1) (v := .ref g0) (C := RX1) (T := TX1) (N := 3) hx hb hts in_X1 hown hK hP 0 rfl rfl 1 (by decide) (hts _ q58) (fun _ h9 => h9) rfl dX1_find_114 ?_
          refine lv_iload_n hx hb dX1_find_117 rfl (lv_at hl 3 rfl) ?_
          refine lv_iload hx hb dX1_find_118 (lv_at hl 0 rfl) ?_
          refine lv_if_eq (tgt := 135) hx hb dX1_find_120 (by decide) (fun _ => ?_) (fun c4 => absurd (by decide) c4)
          refine lv_iload hx hb dX1_find_135 (lv_at hl 4 rfl) ?_
          refine wn_top (y := wn_d w (wn_v X w q cr)) (wn_d_lo h4) ?_
          refine wn_iast (k := q) (x := (wn_d w (wn_v X w q cr))) hx hb hK hP hD hS 2 1 rfl rfl (h1) (by decide) dX1_find_137 (fun H locs hP hD hS => ?_)
          have hP : va_P (dC, dI) vwCl [(h0, .inr (1, [.ref n0, .ref g0, .int (nI w)])), (n0, .inl (cI, 8, .inl a)), (g0, .inl (cB, 253, .inl (upd d q (wn_d w (wn_v X w q cr)))))] H := hP
          have hD : va_D A [(h0, .inr (1, [.ref n0, .ref g0, .int (nI w)])), (n0, .inl (cI, 8, .inl a)), (g0, .inl (cB, 253, .inl (upd d q (wn_d w (wn_v X w q cr)))))] := hD
          refine lv_iload hx hb dX1_find_138 (lv_at hl 0 rfl) ?_
          refine lv_if_eq (tgt := 147) hx hb dX1_find_140 (by decide) (fun _ => ?_) (fun c4 => absurd (by decide) c4)
          refine lv_iconst (v := nI 0) hx hb dX1_find_147 (by decide) ?_
          refine wn_top (y := nI (wn_c w (wn_v X w q cr))) (wn_c_lo h4) ?_
          refine lv_istore_n (lv' := [(2, .int (nI (wn_c w (wn_v X w q cr)))), (6, .int (nI 0)), (0, .ref h0), (3, .int (nI q)), (5, .int (nI (wn_v X w q cr)))]) hx hb dX1_find_148 rfl hl (by decide) rfl (fun ls hl => ?_)
          refine lv_iload_n hx hb dX1_find_149 rfl (lv_at hl 3 rfl) ?_
          refine lv_aload_n hx hb dX1_find_150 rfl (lv_at hl 2 rfl) ?_
          refine va_get (D := (dC, dI)) (ci := 1) (v := .int (nI w)) (C := RX1) (T := TX1) (N := 3) hx hb hts in_X1 hown hK hP 0 rfl rfl 2 (by decide) (hts _ q59) (fun _ h9 => h9) rfl dX1_find_151 ?_
          refine lv_iadd hx hb dX1_find_154 ?_
          refine wn_top (y := nI (q + w)) (nI_add q w) ?_
          refine lv_istore_n (lv' := [(3, .int (nI (q + w))), (2, .int (nI (wn_c w (wn_v X w q cr)))), (6, .int (nI 0)), (0, .ref h0), (5, .int (nI (wn_v X w q cr)))]) hx hb dX1_find_155 rfl hl (by decide) rfl (fun ls hl => ?_)
          refine lv_goto (tgt := 22) hx hb dX1_find_156 (by decide) ?_
          exact ih (q + w) _ _ H locs ls (by omega) (by omega) hI2 hP hD hS (lv_sub hl [3, 1, 0] rfl)
        · have h4 : 2 ^ (w - 1) ≤ wn_v X w q cr := Nat.le_of_not_lt (fun z => c3 (nI_lt z (by omega)))
          refine lv_iconst (v := nI 1) hx hb dX1_find_106 (by decide) ?_
          refine lv_goto (tgt := 111) hx hb dX1_find_107 (by decide) ?_
          refine lv_istore (lv' := [(6, .int (nI 1)), (0, .ref h0), (2, .int (nI cr)), (3, .int (nI q)), (5, .int (nI (wn_v X w q cr)))]) hx hb dX1_find_111 hl (by decide) rfl (fun ls hl => ?_)
          refine lv_aload_n hx hb dX1_find_113 rfl (lv_at hl 1 rfl) ?_
          refine va_get (D := (dC, dI)) (ci := 1) (v := .ref g0) (C := RX1) (T := TX1) (N := 3) hx hb hts in_X1 hown hK hP 0 rfl rfl 1 (by decide) (hts _ q58) (fun _ h9 => h9) rfl dX1_find_114 ?_
          refine lv_iload_n hx hb dX1_find_117 rfl (lv_at hl 3 rfl) ?_
          refine lv_iload hx hb dX1_find_118 (lv_at hl 0 rfl) ?_
          refine lv_if_eq (tgt := 135) hx hb dX1_find_120 (by decide) (fun c4 => absurd c4 (by decide)) (fun _ => ?_)
          refine lv_iload hx hb dX1_find_123 (lv_at hl 4 rfl) ?_
          refine lv_iconst (v := nI 1) hx hb dX1_find_125 (by decide) ?_
          refine lv_aload_n hx hb dX1_find_126 rfl (lv_at hl 1 rfl) ?_
          refine va_get (D := (dC, dI)) (ci := 1) (v := .int (nI w)) (C := RX1) (T := TX1) (N := 3) hx hb hts in_X1 hown hK hP 0 rfl rfl 2 (by decide) (hts _ q59) (fun _ h9 => h9) rfl dX1_find_127 ?_
          refine lv_ishl hx hb dX1_find_130 ?_
          refine wn_top (y := nI (2 ^ w)) (wn_p1 (by omega)) ?_
          refine lv_isub hx hb dX1_find_131 ?_
          refine wn_top (y := wn_d w (wn_v X w q cr)) (wn_d_hi h4) ?_
          refine lv_goto (tgt := 137) hx hb dX1_find_132 (by decide) ?_
          refine wn_iast (k := q) (x := (wn_d w (wn_v X w q cr))) hx hb hK hP hD hS 2 1 rfl rfl (h1) (by decide) dX1_find_137 (fun H locs hP hD hS => ?_)
          have hP : va_P (dC, dI) vwCl [(h0, .inr (1, [.ref n0, .ref g0, .int (nI w)])), (n0, .inl (cI, 8, .inl a)), (g0, .inl (cB, 253, .inl (upd d q (wn_d w (wn_v X w q cr)))))] H := hP
          have hD : va_D A [(h0, .inr (1, [.ref n0, .ref g0, .int (nI w)])), (n0, .inl (cI, 8, .inl a)), (g0, .inl (cB, 253, .inl (upd d q (wn_d w (wn_v X w q cr)))))] := hD
          refine lv_iload hx hb dX1_find_138 (lv_at hl 0 rfl) ?_
          refine lv_if_eq (tgt := 147) hx hb dX1_find_140 (by decide) (fun c4 => absurd c4 (by decide)) (fun _ => ?_)
          refine lv_iconst (v := nI 1) hx hb dX1_find_143 (by decide) ?_
          refine wn_top (y := nI (wn_c w (wn_v X w q cr))) (wn_c_hi h4) ?_
          refine lv_goto (tgt := 148) hx hb dX1_find_144 (by decide) ?_
          refine lv_istore_n (lv' := [(2, .int (nI (wn_c w (wn_v X w q cr)))), (6, .int (nI 1)), (0, .ref h0), (3, .int (nI q)), (5, .int (nI (wn_v X w q cr)))]) hx hb dX1_find_148 rfl hl (by decide) rfl (fun ls hl => ?_)
          refine lv_iload_n hx hb dX1_find_149 rfl (lv_at hl 3 rfl) ?_
          refine lv_aload_n hx hb dX1_find_150 rfl (lv_at hl 2 rfl) ?_
          refine va_get (D := (dC, dI)) (ci := 1) (v := .int (nI w)) (C := RX1) (T := TX1) (N := 3) hx hb hts in_X1 hown hK hP 0 rfl rfl 2 (by decide) (hts _ q59) (fun _ h9 => h9) rfl dX1_find_151 ?_
          refine lv_iadd hx hb dX1_find_154 ?_
          refine wn_top (y := nI (q + w)) (nI_add q w) ?_
          refine lv_istore_n (lv' := [(3, .int (nI (q + w))), (2, .int (nI (wn_c w (wn_v X w q cr)))), (6, .int (nI 1)), (0, .ref h0), (5, .int (nI (wn_v X w q cr)))]) hx hb dX1_find_155 rfl hl (by decide) rfl (fun ls hl => ?_)
          refine lv_goto (tgt := 22) hx hb dX1_find_156 (by decide) ?_
          exact ih (q + w) _ _ H locs ls (by omega) (by omega) hI2 hP hD hS (lv_sub hl [3, 1, 0] rfl)
      · have heq : wn_bit X q = cr := by
          have h2 := (nI_eq (show (wn_bit X q + cr) % 2 < 2 ^ 31 by omega) (show 0 < 2 ^ 31 by decide)).mp c2
          omega
        refine lv_iload hx hb dX1_find_45 (lv_at hl 0 rfl) ?_
        refine lv_iconst (v := nI 2) hx hb dX1_find_47 (by decide) ?_
        refine lv_idiv hx hb dX1_find_48 (by decide) ?_
        refine wn_top (y := nI cr) ((pk_div (by omega) (by decide) (by decide)).trans (congrArg nI (show (wn_bit X q + cr) / 2 = cr by omega))) ?_
        refine lv_istore_n (lv' := [(2, .int (nI cr)), (4, .int (nI (wn_bit X q + cr))), (0, .ref h0), (3, .int (nI q))]) hx hb dX1_find_49 rfl hl (by decide) rfl (fun ls hl => ?_)
        refine lv_iinc (v := nI (q + 1)) (lv' := [(3, .int (nI (q + 1))), (2, .int (nI cr)), (4, .int (nI (wn_bit X q + cr))), (0, .ref h0)]) hx hb dX1_find_50 hl (k := 3) rfl (wn_inc q) (by decide) rfl (fun ls hl => ?_)
        refine lv_goto (tgt := 22) hx hb dX1_find_53 (by decide) ?_
        exact ih (q + 1) cr d H locs ls (by omega) (by omega) (wn_I_skip hX.1 hI heq) hP hD hS (lv_sub hl [3, 1, 0] rfl)
set_option maxHeartbeats 4000000 in
set_option maxRecDepth 100000 in
/-- find(w): the width and the digits of the number X of the words; one array is made -/
theorem metX1_find (l : Launch) (dC : Nat → ClassId) (dI : Nat → Nat → Nat) (h0 n0 g0 : Nat) (cI cB : ClassId) (sz : Nat) (a d : Nat → Int32) (x : Int32) (y0 : Int32) (X : Nat) (hX : wn_X a X) : Met l yX1_find (ws_ yX1_find cX1_find 7 none) ({ frames := 1, cells := 1, slots := 253, locals := 21 }) (va_Pc [.ref h0, .int y0] (fun U => U.heap.size = sz ∧ va_P (dC, dI) vwCl [(h0, .inr (1, [.ref n0, .ref g0, .int x])), (n0, .inl (cI, 8, .inl a)), (g0, .inl (cB, 253, .inl d))] U.heap ∧ va_K (dC, dI) vwCl [(cI, .int), (cB, .int)] U ∧ va_D (fun _ => True) [(h0, .inr (1, [.ref n0, .ref g0, .int x])), (n0, .inl (cI, 8, .inl a)), (g0, .inl (cB, 253, .inl d))])) (va_Qv (fun _ : Unit => True) (fun _ t => ∃ (g1 : Nat) (cN : ClassId), wn_B1 dC dI (va_A [(h0, .inr (1, [.ref n0, .ref g0, .int x])), (n0, .inl (cI, 8, .inl a)), (g0, .inl (cB, 253, .inl d))] sz) h0 n0 g1 cI cN a (wn_run X (wn_wd y0) 253 0 0 (fun _ => 0)) (nI (wn_wd y0)) t) (va_A [(h0, .inr (1, [.ref n0, .ref g0, .int x])), (n0, .inl (cI, 8, .inl a)), (g0, .inl (cB, 253, .inl d))] sz)) 1 253 (va_A [(h0, .inr (1, [.ref n0, .ref g0, .int x])), (n0, .inl (cI, 8, .inl a)), (g0, .inl (cB, 253, .inl d))] sz) := by
  refine Met.ofW (cc := cX1_find) (maxL := 7) (ret := none) (by decide) rfl ?_
  intro p e s m args below meth c s₁ B hml hv
  obtain ⟨rfl, hsz, hP, hK, hD0⟩ := hv
  have hx := B.exec
  have hb := B.bytes
  have hr := B.returns
  have hts := atoms_spec (ws := (ws_ yX1_find cX1_find 7 none)) B.pre
  have hts : ∀ w ∈ lw_all, w.before _ s = true := fun w h => hts w (List.mem_cons_of_mem _ h)
  have hown : s.vm.findClass RX1 = some m.cls := findClass_of_methodNamed B.named
  have hlocks := B.notSynchronized
  subst hsz
  have hD := hD0.self (sz := s.heap.size)
  generalize hAe : va_A [(h0, .inr (1, [.ref n0, .ref g0, .int x])), (n0, .inl (cI, 8, .inl a)), (g0, .inl (cB, 253, .inl d))] s.heap.size = A at hD ⊢
  have hA : ∀ q : Nat, s.heap.size ≤ q → A q := fun q h => by rw [← hAe]; exact Or.inr h
  have hS : va_S A s.heap s.heap [] := va_S.rf
  have hP : va_P (dC, dI) vwCl [(h0, .inr (1, [.ref n0, .ref g0, .int x])), (n0, .inl (cI, 8, .inl a)), (g0, .inl (cB, 253, .inl d))] s.heap := hP
  have hl := lv_entry ([.ref h0, .int y0]) (n := 7) (Nat.le_of_ble_eq_true rfl)
  rw [lg_entry_eq]
  generalize (lg_sl ([.ref h0, .int y0]) ++ List.replicate (7 - (lg_sl ([.ref h0, .int y0])).length) Slot.unset).toArray = ls at hl ⊢
  have hl : lv_has ls 7 [(0, .ref h0), (1, .int y0)] := hl
  have hh := wn_wd_in y0
  refine lv_aload_n hx hb dX1_find_0 rfl (lv_at hl 0 rfl) ?_
  refine lv_iconst (v := nI 3) hx hb dX1_find_1 (by decide) ?_
  refine lv_iload_n hx hb dX1_find_2 rfl (lv_at hl 1 rfl) ?_
  refine lv_iconst (v := nI 3) hx hb dX1_find_3 (by decide) ?_
  refine lv_iand hx hb dX1_find_4 ?_
  refine lv_iadd hx hb dX1_find_5 ?_
  refine wn_top (y := nI (wn_wd y0)) (wn_wd_eq y0) ?_
  refine va_put (D := (dC, dI)) (ci := 1) (v := .int (nI (wn_wd y0))) (ty := .int) (C := RX1) (T := TX1) (N := 3) hx hb hts in_X1 tyX1 tyX1_ok nmX1 hown hK hP hD hS 0 rfl rfl 2 (by decide) (hts _ q59) (fun _ h9 => h9) rfl (by decide +kernel) rfl rfl (Nat.le_of_ble_eq_true rfl) dX1_find_6 (fun H locs hP hD hS => ?_)
  have hP : va_P (dC, dI) vwCl [(h0, .inr (1, [.ref n0, .ref g0, .int (nI (wn_wd y0))])), (n0, .inl (cI, 8, .inl a)), (g0, .inl (cB, 253, .inl d))] H := hP
  have hD : va_D A [(h0, .inr (1, [.ref n0, .ref g0, .int (nI (wn_wd y0))])), (n0, .inl (cI, 8, .inl a)), (g0, .inl (cB, 253, .inl d))] := hD
  refine lv_aload_n hx hb dX1_find_9 rfl (lv_at hl 0 rfl) ?_
  refine lv_sipush (v := nI 253) hx hb dX1_find_10 (by decide) ?_
  refine va_newa (D := (dC, dI)) (atype := .int) (N' := 253) (a0 := (253, .inl (fun _ => 0))) hx hb (hts _ q24) rfl hK hP hD hS hA (fun _ => rfl) (by decide) (by decide) (Nat.le_of_ble_eq_true rfl) (Nat.le_of_ble_eq_true rfl) (Nat.le_of_ble_eq_true rfl) dX1_find_13 (fun g1 cN H hK hP hD hS => ?_)
  have hP : va_P (dC, dI) vwCl [(h0, .inr (1, [.ref n0, .ref g0, .int (nI (wn_wd y0))])), (n0, .inl (cI, 8, .inl a)), (g0, .inl (cB, 253, .inl d)), (g1, .inl (cN, 253, .inl (fun _ => 0)))] H := hP
  have hD : va_D A [(h0, .inr (1, [.ref n0, .ref g0, .int (nI (wn_wd y0))])), (n0, .inl (cI, 8, .inl a)), (g0, .inl (cB, 253, .inl d)), (g1, .inl (cN, 253, .inl (fun _ => 0)))] := hD
  have hK : va_K (dC, dI) vwCl [(cI, .int), (cB, .int), (cN, .int)] s := hK
  refine W.widen (k := 1) (n := 253) (Nat.le_of_ble_eq_true rfl) (Nat.le_of_ble_eq_true rfl) ?_
  refine va_put (D := (dC, dI)) (ci := 1) (v := .ref g1) (ty := .array .int) (C := RX1) (T := TX1) (N := 3) hx hb hts in_X1 tyX1 tyX1_ok nmX1 hown hK hP hD hS 0 rfl rfl 1 (by decide) (hts _ q58) (fun _ h9 => h9) rfl (by decide +kernel) rfl rfl (Nat.le_of_ble_eq_true rfl) dX1_find_15 (fun H locs hP hD hS => ?_)
  have hP : va_P (dC, dI) vwCl [(h0, .inr (1, [.ref n0, .ref g1, .int (nI (wn_wd y0))])), (n0, .inl (cI, 8, .inl a)), (g0, .inl (cB, 253, .inl d)), (g1, .inl (cN, 253, .inl (fun _ => 0)))] H := hP
  have hD : va_D A [(h0, .inr (1, [.ref n0, .ref g1, .int (nI (wn_wd y0))])), (n0, .inl (cI, 8, .inl a)), (g0, .inl (cB, 253, .inl d)), (g1, .inl (cN, 253, .inl (fun _ => 0)))] := hD
  refine lv_iconst (v := nI 0) hx hb dX1_find_18 (by decide) ?_
  refine lv_istore_n (lv' := [(2, .int (nI 0)), (0, .ref h0), (1, .int y0)]) hx hb dX1_find_19 rfl hl (by decide) rfl (fun ls hl => ?_)
  refine lv_iconst (v := nI 0) hx hb dX1_find_20 (by decide) ?_
  refine lv_istore_n (lv' := [(3, .int (nI 0)), (2, .int (nI 0)), (0, .ref h0), (1, .int y0)]) hx hb dX1_find_21 rfl hl (by decide) rfl (fun ls hl => ?_)
  have hP := hP.sub (ws' := [(h0, .inr (1, [.ref n0, .ref g1, .int (nI (wn_wd y0))])), (n0, .inl (cI, 8, .inl a)), (g1, .inl (cN, 253, .inl (fun _ => 0)))]) [0, 1, 3] rfl
  have hD := hD.sub (ws' := [(h0, .inr (1, [.ref n0, .ref g1, .int (nI (wn_wd y0))])), (n0, .inl (cI, 8, .inl a)), (g1, .inl (cN, 253, .inl (fun _ => 0)))]) [0, 1, 3] (by decide) rfl
  have hK := hK.sub (tys' := [(cI, .int), (cN, .int)]) [0, 2] rfl
  refine wn_find hx hb hml hown hts hA (Nat.le_of_ble_eq_true rfl) (Nat.le_of_ble_eq_true rfl) (Nat.le_of_ble_eq_true rfl) (Nat.le_of_ble_eq_true rfl) hX hh.1 hh.2 hK (fun H locs ls hP hD hS => ?_) 301 0 0 (fun _ => 0) H locs ls (by decide) (by decide) (wn_I_0 X (wn_wd y0) (fun _ => 0)) hP hD hS (lv_sub hl [2, 1, 0] rfl)
  exact W.vret hx hb hr (fun t ht hW => ⟨⟨(), rfl, trivial, g1, cN, by rw [ht]; exact hP, va_K.moved hW.alike hK, hD⟩, hS.F ht⟩) hS.2.2 dX1_find_159
end
section
/-! THE CLAIM OUT OF ONE WALK OF THE LAW'S BODY. Your part is whole_start (and what it stands on); all else here is the same for every law, but numbers. -/
def R_law : String := "WnafDeskLaw"
def lw_P (b : Addr) (xs : List Int32) (args : Array Value) (s : State) : Prop := args = #[.ref b] ∧ s.IntsAt b xs ∧ xs.length ≤ 144 ∧ (Jvm.Cond.and given_1 narrow_1).before args s = true
def lw_Q (_ : Array Value) (s : State) (o : Outcome) (t : State) : Prop := o = .returned (some (.int 1)) ∧ Framed s o t [] 1200000 5502250
def lw_Z (below : List Frame) (a : Array Value) (s : State) : State → Prop := fun t => ∃ o, t.status = .running ∧ Ended t below o ∧ lw_Q a s o t
/-- the law's own end, with 1 on the stack, nothing written that was there before, its room as the claim has it -/
theorem lw_ret {p : Program} {l : Launch} {e : Env} {s : State} {m : MethodId} {below : List Frame} {meth : Method} {c : Code} {b : Nat} (hx : p.tables.exec = Jvm.exec) (hb : c.code = code) (hr : meth.sig.returnType = ret) (hlocks : meth.locks = false) {pc : Nat} {H : Heap} {ls : Array Slot} (hdg : decode code pc = .ok (.ireturn, 1)) : W p l e room_1 s m #[Value.ref b] below meth c H [] 1200000 5502250 (lw_Z below #[Value.ref b] s) (F0 m pc ls [.int 1]) := by
  intro T hT X
  obtain ⟨fs, hret, hrun, hended, hW, hframe⟩ := X.leave (v := some (.int 1)) (hlocks := hlocks) (fun h => by rw [hr] at h; cases h)
  have hmeth' : T.vm.method? m = some meth := X.method'
  refine ⟨T.setFrames fs, ?_, .returned (some (.int 1)), hrun, hended, rfl, ⟨_, rfl⟩, hW, hframe⟩
  jvm_step X.here [X.here.top, hx, hb, hdg, hmeth', hr, ret, narrow_b1]
  (try refine ⟨rfl, ?_⟩); (try refine ⟨rfl, ?_⟩)
  first | (intro acts; rw [hret _ acts rfl rfl rfl]) | rw [hret _ _ rfl rfl rfl]
  exact Steps.refl _
/-- what holds at the law's entry: the machine, the code, the tables' words (any of lw_tbl by 'hts w (by decide +kernel)'), the script of L ints xs at the cell b, what the Statement gives of the start (any of its parts by flat_of_before) -/
def lw_At (p : Program) (s : State) (m : MethodId) (meth : Method) (c : Code) (b L : Nat) (xs : Nat → Int32) : Prop :=
  p.tables.exec = Jvm.exec ∧ c.code = code ∧ meth.sig.returnType = ret ∧ c.maxLocals = 4 ∧ s.vm.findClass R_law = some m.cls ∧ (∀ w ∈ lw_tbl, w.before #[Value.ref b] s = true) ∧ va_X b L xs s s.heap ∧ b < s.heap.size ∧ meth.locks = false ∧ (Jvm.Cond.and given_1 narrow_1).before #[Value.ref b] s = true
/-! THE LAW: both objects hold the same words, digits and width at the head of each call -/
set_option maxHeartbeats 4000000 in
set_option maxRecDepth 100000 in
/-- the law's loop at its head: i ints read -/
theorem wn_law {p : Program} {l : Launch} {e : Env} {s : State} {m : MethodId} {below : List Frame} {meth : Method} {c : Code} {dC : Nat → ClassId} {dI : Nat → Nat → Nat} {b L : Nat} {xs : Nat → Int32} (hL : L ≤ 144) (C0 : lw_At p s m meth c b L xs) :
    ∀ (n i : Nat), i ≤ L → L + 1 ≤ i + n → ∀ (a d : Nat → Int32) (x : Int32) (q0 n0 g0 q1 n1 g1 : Nat) (cI cB cJ cN : ClassId) (H : Heap) (locs : List Loc) (ls : Array Slot) (cells slots : Nat), cells ≤ 6 + i → slots ≤ 600 + 100 * i → wn_ok a → va_K (dC, dI) vwCl [(cI, .int), (cB, .byte), (cJ, .int), (cN, .int)] s → va_P (dC, dI) vwCl [(q0, .inr (0, [.ref n0, .ref g0, .int x])), (n0, .inl (cI, 8, .inl a)), (g0, .inl (cB, 253, .inl d)), (q1, .inr (1, [.ref n1, .ref g1, .int x])), (n1, .inl (cJ, 8, .inl a)), (g1, .inl (cN, 253, .inl d))] H → va_D (fun q : Nat => s.heap.size ≤ q) [(q0, .inr (0, [.ref n0, .ref g0, .int x])), (n0, .inl (cI, 8, .inl a)), (g0, .inl (cB, 253, .inl d)), (q1, .inr (1, [.ref n1, .ref g1, .int x])), (n1, .inl (cJ, 8, .inl a)), (g1, .inl (cN, 253, .inl d))] → va_S (fun q : Nat => s.heap.size ≤ q) s.heap H locs → lv_has ls 4 [(0, .ref b), (1, .ref q0), (2, .ref q1), (3, .int (nI i))] → W p l e room_1 s m #[Value.ref b] below meth c H locs cells slots (lw_Z below #[Value.ref b] s) (F0 m 18 ls []) := by
  obtain ⟨hx, hb, hr, hml, hown, hts0, hX, hbl, hlocks, hgv⟩ := C0
  have hts : ∀ w ∈ lw_all, w.before #[Value.ref b] s = true := fun w h => hts0 w (lw_all_tbl h)
  have hA : ∀ q : Nat, s.heap.size ≤ q → (fun q : Nat => s.heap.size ≤ q) q := fun _ h => h
  have hbA : ¬ (fun q : Nat => s.heap.size ≤ q) b := Nat.not_le.mpr hbl
  have hL2 : L < 2 ^ 31 := by omega
  intro n
  induction n with
  | zero =>
    intro i h1 h2
    exact absurd h2 (by omega)
  | succ n ih =>
    intro i hi hin a d x q0 n0 g0 q1 n1 g1 cI cB cJ cN H locs ls cells slots hc1 hs1 hok hK hP hD hS hl
    refine lv_iload_n hx hb dL_law_18 rfl (lv_at hl 3 rfl) ?_
    refine lv_aload_n hx hb dL_law_19 rfl (lv_at hl 0 rfl) ?_
    refine va_slen hx hb hX hbl hbA hS dL_law_20 ?_
    refine lv_bipush (v := nI 6) hx hb dL_law_21 (by decide) ?_
    refine lv_isub hx hb dL_law_23 ?_
    refine lv_icmp_gt (tgt := 223) hx hb dL_law_24 (by decide) (fun c1 => ?_) (fun c1 => ?_)
    · refine lv_iconst (v := nI 1) hx hb dL_law_223 (by decide) ?_
      refine va_forget (fun q hq => hS.2.2 q hq) ?_
      refine W.widen (k := 1200000) (n := 5502250) (by omega) (by omega) ?_
      exact lw_ret hx hb hr hlocks dL_law_224
    · have h6 : i + 6 ≤ L := wn_go hL hi c1
      have tl : ∀ (a d : Nat → Int32) (x : Int32) (q0 n0 g0 q1 n1 g1 : Nat) (cI cB cJ cN : ClassId) (H : Heap) (locs : List Loc) (ls : Array Slot) (cells slots : Nat), cells ≤ 12 + i → slots ≤ 1200 + 100 * i → wn_ok a → va_K (dC, dI) vwCl [(cI, .int), (cB, .byte), (cJ, .int), (cN, .int)] s → va_P (dC, dI) vwCl [(q0, .inr (0, [.ref n0, .ref g0, .int x])), (n0, .inl (cI, 8, .inl a)), (g0, .inl (cB, 253, .inl d)), (q1, .inr (1, [.ref n1, .ref g1, .int x])), (n1, .inl (cJ, 8, .inl a)), (g1, .inl (cN, 253, .inl d))] H → va_D (fun q : Nat => s.heap.size ≤ q) [(q0, .inr (0, [.ref n0, .ref g0, .int x])), (n0, .inl (cI, 8, .inl a)), (g0, .inl (cB, 253, .inl d)), (q1, .inr (1, [.ref n1, .ref g1, .int x])), (n1, .inl (cJ, 8, .inl a)), (g1, .inl (cN, 253, .inl d))] → va_S (fun q : Nat => s.heap.size ≤ q) s.heap H locs → lv_has ls 4 [(0, .ref b), (1, .ref q0), (2, .ref q1), (3, .int (nI i))] → W p l e room_1 s m #[Value.ref b] below meth c H locs cells slots (lw_Z below #[Value.ref b] s) (F0 m 217 ls []) := by
        intro a d x q0 n0 g0 q1 n1 g1 cI cB cJ cN H locs ls cells slots hc1 hs1 hok hK hP hD hS hl
        refine lv_iinc (v := nI (i + 6)) (lv' := [(3, .int (nI (i + 6))), (0, .ref b), (1, .ref q0), (2, .ref q1)]) hx hb dL_law_217 hl (k := 3) rfl (wn_inc6 i) (by decide) rfl (fun ls hl => ?_)
        refine lv_goto (tgt := 18) hx hb dL_law_220 (by decide) ?_
        exact ih (i + 6) h6 (by omega) a d x q0 n0 g0 q1 n1 g1 cI cB cJ cN H locs ls cells slots (by omega) (by omega) hok hK hP hD hS (lv_sub hl [1, 2, 3, 0] rfl)
      refine lv_aload_n hx hb dL_law_27 rfl (lv_at hl 0 rfl) ?_
      refine lv_iload_n hx hb dL_law_28 rfl (lv_at hl 3 rfl) ?_
      refine wn_sld (k := i) hx hb hX hbl hbA hS (by omega) hL2 dL_law_29 ?_
      refine lv_bipush (v := nI 7) hx hb dL_law_30 (by decide) ?_
      refine lv_iand hx hb dL_law_32 ?_
      refine wn_top (y := nI (wn_pl (xs i))) (wn_pl_eq (xs i)) ?_
      have hk8 := wn_pl_lt (xs i)
      generalize wn_pl (xs i) = kd at hk8 ⊢
      rcases (show kd = 0 ∨ kd = 1 ∨ kd = 2 ∨ kd = 3 ∨ kd = 4 ∨ kd = 5 ∨ kd = 6 ∨ kd = 7 by omega) with rfl | rfl | rfl | rfl | rfl | rfl | rfl | rfl
      · refine lv_tableIn (off := 35) (tgt := 68) hx hb dL_law_33 (by decide) (by decide) (by decide) (by decide) ?_
        refine lv_aload_n hx hb dL_law_68 rfl (lv_at hl 1 rfl) ?_
        refine lv_aload_n hx hb dL_law_69 rfl (lv_at hl 0 rfl) ?_
        refine lv_iload_n hx hb dL_law_70 rfl (lv_at hl 3 rfl) ?_
        refine lv_iconst (v := nI 1) hx hb dL_law_71 (by decide) ?_
        refine lv_iadd hx hb dL_law_72 ?_
        refine wn_top (y := nI (i + 1)) (nI_add i 1) ?_
        refine wn_sld (k := i + 1) hx hb hX hbl hbA hS (by omega) hL2 dL_law_73 ?_
        refine lv_aload_n hx hb dL_law_74 rfl (lv_at hl 0 rfl) ?_
        refine lv_iload_n hx hb dL_law_75 rfl (lv_at hl 3 rfl) ?_
        refine lv_iconst (v := nI 2) hx hb dL_law_76 (by decide) ?_
        refine lv_iadd hx hb dL_law_77 ?_
        refine wn_top (y := nI (i + 2)) (nI_add i 2) ?_
        refine wn_sld (k := i + 2) hx hb hX hbl hbA hS (by omega) hL2 dL_law_78 ?_
        refine lv_aload_n hx hb dL_law_79 rfl (lv_at hl 0 rfl) ?_
        refine lv_iload_n hx hb dL_law_80 rfl (lv_at hl 3 rfl) ?_
        refine lv_iconst (v := nI 3) hx hb dL_law_81 (by decide) ?_
        refine lv_iadd hx hb dL_law_82 ?_
        refine wn_top (y := nI (i + 3)) (nI_add i 3) ?_
        refine wn_sld (k := i + 3) hx hb hX hbl hbA hS (by omega) hL2 dL_law_83 ?_
        refine lv_aload_n hx hb dL_law_84 rfl (lv_at hl 0 rfl) ?_
        refine lv_iload_n hx hb dL_law_85 rfl (lv_at hl 3 rfl) ?_
        refine lv_iconst (v := nI 4) hx hb dL_law_86 (by decide) ?_
        refine lv_iadd hx hb dL_law_87 ?_
        refine wn_top (y := nI (i + 4)) (nI_add i 4) ?_
        refine wn_sld (k := i + 4) hx hb hX hbl hbA hS (by omega) hL2 dL_law_88 ?_
        refine lv_aload_n hx hb dL_law_89 rfl (lv_at hl 0 rfl) ?_
        refine lv_iload_n hx hb dL_law_90 rfl (lv_at hl 3 rfl) ?_
        refine lv_iconst (v := nI 5) hx hb dL_law_91 (by decide) ?_
        refine lv_iadd hx hb dL_law_92 ?_
        refine wn_top (y := nI (i + 5)) (nI_add i 5) ?_
        refine wn_sld (k := i + 5) hx hb hX hbl hbA hS (by omega) hL2 dL_law_93 ?_
        have hPc := hP.sub (ws' := [(q0, .inr (0, [.ref n0, .ref g0, .int x])), (n0, .inl (cI, 8, .inl a)), (g0, .inl (cB, 253, .inl d))]) [0, 1, 2] rfl
        have hDc := hD.sub (ws' := [(q0, .inr (0, [.ref n0, .ref g0, .int x])), (n0, .inl (cI, 8, .inl a)), (g0, .inl (cB, 253, .inl d))]) [0, 1, 2] (by decide) rfl
        have hKc := hK.sub (tys' := [(cI, .int), (cB, .byte)]) [0, 1] rfl
        have hFc := va_free (wc := [(q0, .inr (0, [.ref n0, .ref g0, .int x])), (n0, .inl (cI, 8, .inl a)), (g0, .inl (cB, 253, .inl d))]) hD hS hA [0, 1, 2] rfl
        refine va_callv (va_runV (As := [.int (xs (i + 1)), .int (xs (i + 2)), .int (xs (i + 3)), .int (xs (i + 4)), .int (xs (i + 5))]) (rest := []) ⟨hx, hb, hml, hown, hts⟩ (metX0_lay l dC dI q0 n0 g0 cI cB H.size a d x (xs (i + 1)) (xs (i + 2)) (xs (i + 3)) (xs (i + 4)) (xs (i + 5))) (cwV 5 hts (lw_V q26 q27 q28 q3 q29) rfl rfl rfl (by decide +kernel) ⟨Nat.le_of_ble_eq_true rfl, Nat.le_of_ble_eq_true rfl⟩) ⟨fun a U g mk q => by obtain ⟨q0, q1, qP, qK, qD⟩ := q; exact ⟨q0, q1, qP, va_K.moved (u := U) (U := U.calling g mk a) (Vm.Alike.refl U.vm) qK, qD⟩, va_recv hKc hPc (ci := 0) (q0 := 0) rfl rfl, fun U hU hW => ⟨rfl, by rw [hU], by rw [hU]; exact hPc, va_K.moved hW.alike hKc, hDc.weaken (fun _ _ _ _ => trivial)⟩⟩ rfl rfl hl.1 rfl (lv_room (Nat.le_of_ble_eq_true rfl)) dL_law_94 ⟨by show cells + 0 ≤ 1200000; omega, by show slots + 0 ≤ 5502250; omega⟩) hS (fun q _ h => hFc q h) hFc (fun u t H1 locs ht hvm hw hB hz1 hk1 hS => ?_)
        obtain ⟨hP1, hK1, hD1⟩ := hB
        rw [ht] at hP1
        have hK1 := va_K.moved hvm.symm hK1
        obtain ⟨hP, hD⟩ := va_join (wr := [(q1, .inr (1, [.ref n1, .ref g1, .int x])), (n1, .inl (cJ, 8, .inl a)), (g1, .inl (cN, 253, .inl d))]) (w1 := [(q0, .inr (0, [.ref n0, .ref g0, .int x])), (n0, .inl (cI, 8, .inl (wn_lay a (wn_hf (xs (i + 1))) (xs (i + 2)) (xs (i + 3)) (xs (i + 4)) (xs (i + 5))))), (g0, .inl (cB, 253, .inl d))]) hP hD [0, 1, 2] [3, 4, 5] rfl rfl (by decide) (by decide) hk1 hFc hP1 hD1
        have hK := (hK.sub (tys' := [(cJ, .int), (cN, .int)]) [2, 3] rfl).app hK1
        generalize H1 = H at hP hS ⊢
        have hP : va_P (dC, dI) vwCl [(q1, .inr (1, [.ref n1, .ref g1, .int x])), (n1, .inl (cJ, 8, .inl a)), (g1, .inl (cN, 253, .inl d)), (q0, .inr (0, [.ref n0, .ref g0, .int x])), (n0, .inl (cI, 8, .inl (wn_lay a (wn_hf (xs (i + 1))) (xs (i + 2)) (xs (i + 3)) (xs (i + 4)) (xs (i + 5))))), (g0, .inl (cB, 253, .inl d))] H := hP
        have hD : va_D (fun q : Nat => s.heap.size ≤ q) [(q1, .inr (1, [.ref n1, .ref g1, .int x])), (n1, .inl (cJ, 8, .inl a)), (g1, .inl (cN, 253, .inl d)), (q0, .inr (0, [.ref n0, .ref g0, .int x])), (n0, .inl (cI, 8, .inl (wn_lay a (wn_hf (xs (i + 1))) (xs (i + 2)) (xs (i + 3)) (xs (i + 4)) (xs (i + 5))))), (g0, .inl (cB, 253, .inl d))] := hD
        have hK : va_K (dC, dI) vwCl [(cJ, .int), (cN, .int), (cI, .int), (cB, .byte)] s := hK
        refine lv_aload_n hx hb dL_law_97 rfl (lv_at hl 2 rfl) ?_
        refine lv_aload_n hx hb dL_law_98 rfl (lv_at hl 0 rfl) ?_
        refine lv_iload_n hx hb dL_law_99 rfl (lv_at hl 3 rfl) ?_
        refine lv_iconst (v := nI 1) hx hb dL_law_100 (by decide) ?_
        refine lv_iadd hx hb dL_law_101 ?_
        refine wn_top (y := nI (i + 1)) (nI_add i 1) ?_
        refine wn_sld (k := i + 1) hx hb hX hbl hbA hS (by omega) hL2 dL_law_102 ?_
        refine lv_aload_n hx hb dL_law_103 rfl (lv_at hl 0 rfl) ?_
        refine lv_iload_n hx hb dL_law_104 rfl (lv_at hl 3 rfl) ?_
        refine lv_iconst (v := nI 2) hx hb dL_law_105 (by decide) ?_
        refine lv_iadd hx hb dL_law_106 ?_
        refine wn_top (y := nI (i + 2)) (nI_add i 2) ?_
        refine wn_sld (k := i + 2) hx hb hX hbl hbA hS (by omega) hL2 dL_law_107 ?_
        refine lv_aload_n hx hb dL_law_108 rfl (lv_at hl 0 rfl) ?_
        refine lv_iload_n hx hb dL_law_109 rfl (lv_at hl 3 rfl) ?_
        refine lv_iconst (v := nI 3) hx hb dL_law_110 (by decide) ?_
        refine lv_iadd hx hb dL_law_111 ?_
        refine wn_top (y := nI (i + 3)) (nI_add i 3) ?_
        refine wn_sld (k := i + 3) hx hb hX hbl hbA hS (by omega) hL2 dL_law_112 ?_
        refine lv_aload_n hx hb dL_law_113 rfl (lv_at hl 0 rfl) ?_
        refine lv_iload_n hx hb dL_law_114 rfl (lv_at hl 3 rfl) ?_
        refine lv_iconst (v := nI 4) hx hb dL_law_115 (by decide) ?_
        refine lv_iadd hx hb dL_law_116 ?_
        refine wn_top (y := nI (i + 4)) (nI_add i 4) ?_
        refine wn_sld (k := i + 4) hx hb hX hbl hbA hS (by omega) hL2 dL_law_117 ?_
        refine lv_aload_n hx hb dL_law_118 rfl (lv_at hl 0 rfl) ?_
        refine lv_iload_n hx hb dL_law_119 rfl (lv_at hl 3 rfl) ?_
        refine lv_iconst (v := nI 5) hx hb dL_law_120 (by decide) ?_
        refine lv_iadd hx hb dL_law_121 ?_
        refine wn_top (y := nI (i + 5)) (nI_add i 5) ?_
        refine wn_sld (k := i + 5) hx hb hX hbl hbA hS (by omega) hL2 dL_law_122 ?_
        have hPc := hP.sub (ws' := [(q1, .inr (1, [.ref n1, .ref g1, .int x])), (n1, .inl (cJ, 8, .inl a)), (g1, .inl (cN, 253, .inl d))]) [0, 1, 2] rfl
        have hDc := hD.sub (ws' := [(q1, .inr (1, [.ref n1, .ref g1, .int x])), (n1, .inl (cJ, 8, .inl a)), (g1, .inl (cN, 253, .inl d))]) [0, 1, 2] (by decide) rfl
        have hKc := hK.sub (tys' := [(cJ, .int), (cN, .int)]) [0, 1] rfl
        have hFc := va_free (wc := [(q1, .inr (1, [.ref n1, .ref g1, .int x])), (n1, .inl (cJ, 8, .inl a)), (g1, .inl (cN, 253, .inl d))]) hD hS hA [0, 1, 2] rfl
        refine va_callv (va_runV (As := [.int (xs (i + 1)), .int (xs (i + 2)), .int (xs (i + 3)), .int (xs (i + 4)), .int (xs (i + 5))]) (rest := []) ⟨hx, hb, hml, hown, hts⟩ (metX1_lay l dC dI q1 n1 g1 cJ cN H.size a d x (xs (i + 1)) (xs (i + 2)) (xs (i + 3)) (xs (i + 4)) (xs (i + 5))) (cwV 5 hts (lw_V q67 q68 q69 q4 q70) rfl rfl rfl (by decide +kernel) ⟨Nat.le_of_ble_eq_true rfl, Nat.le_of_ble_eq_true rfl⟩) ⟨fun a U g mk q => by obtain ⟨q0, q1, qP, qK, qD⟩ := q; exact ⟨q0, q1, qP, va_K.moved (u := U) (U := U.calling g mk a) (Vm.Alike.refl U.vm) qK, qD⟩, va_recv hKc hPc (ci := 1) (q0 := 0) rfl rfl, fun U hU hW => ⟨rfl, by rw [hU], by rw [hU]; exact hPc, va_K.moved hW.alike hKc, hDc.weaken (fun _ _ _ _ => trivial)⟩⟩ rfl rfl hl.1 rfl (lv_room (Nat.le_of_ble_eq_true rfl)) dL_law_123 ⟨by show cells + 0 + 0 ≤ 1200000; omega, by show slots + 0 + 0 ≤ 5502250; omega⟩) hS (fun q _ h => hFc q h) hFc (fun u t H1 locs ht hvm hw hB hz1 hk1 hS => ?_)
        obtain ⟨hP1, hK1, hD1⟩ := hB
        rw [ht] at hP1
        have hK1 := va_K.moved hvm.symm hK1
        obtain ⟨hP, hD⟩ := va_join (wr := [(q0, .inr (0, [.ref n0, .ref g0, .int x])), (n0, .inl (cI, 8, .inl (wn_lay a (wn_hf (xs (i + 1))) (xs (i + 2)) (xs (i + 3)) (xs (i + 4)) (xs (i + 5))))), (g0, .inl (cB, 253, .inl d))]) (w1 := [(q1, .inr (1, [.ref n1, .ref g1, .int x])), (n1, .inl (cJ, 8, .inl (wn_lay a (wn_hf (xs (i + 1))) (xs (i + 2)) (xs (i + 3)) (xs (i + 4)) (xs (i + 5))))), (g1, .inl (cN, 253, .inl d))]) hP hD [0, 1, 2] [3, 4, 5] rfl rfl (by decide) (by decide) hk1 hFc hP1 hD1
        have hK := (hK.sub (tys' := [(cI, .int), (cB, .byte)]) [2, 3] rfl).app hK1
        generalize H1 = H at hP hS ⊢
        have hP : va_P (dC, dI) vwCl [(q0, .inr (0, [.ref n0, .ref g0, .int x])), (n0, .inl (cI, 8, .inl (wn_lay a (wn_hf (xs (i + 1))) (xs (i + 2)) (xs (i + 3)) (xs (i + 4)) (xs (i + 5))))), (g0, .inl (cB, 253, .inl d)), (q1, .inr (1, [.ref n1, .ref g1, .int x])), (n1, .inl (cJ, 8, .inl (wn_lay a (wn_hf (xs (i + 1))) (xs (i + 2)) (xs (i + 3)) (xs (i + 4)) (xs (i + 5))))), (g1, .inl (cN, 253, .inl d))] H := hP
        have hD : va_D (fun q : Nat => s.heap.size ≤ q) [(q0, .inr (0, [.ref n0, .ref g0, .int x])), (n0, .inl (cI, 8, .inl (wn_lay a (wn_hf (xs (i + 1))) (xs (i + 2)) (xs (i + 3)) (xs (i + 4)) (xs (i + 5))))), (g0, .inl (cB, 253, .inl d)), (q1, .inr (1, [.ref n1, .ref g1, .int x])), (n1, .inl (cJ, 8, .inl (wn_lay a (wn_hf (xs (i + 1))) (xs (i + 2)) (xs (i + 3)) (xs (i + 4)) (xs (i + 5))))), (g1, .inl (cN, 253, .inl d))] := hD
        have hK : va_K (dC, dI) vwCl [(cI, .int), (cB, .byte), (cJ, .int), (cN, .int)] s := hK
        refine lv_goto (tgt := 217) hx hb dL_law_126 (by decide) ?_
        have hP9 := hP.sub (ws' := [(q0, .inr (0, [.ref n0, .ref g0, .int x])), (n0, .inl (cI, 8, .inl (wn_lay a (wn_hf (xs (i + 1))) (xs (i + 2)) (xs (i + 3)) (xs (i + 4)) (xs (i + 5))))), (g0, .inl (cB, 253, .inl d)), (q1, .inr (1, [.ref n1, .ref g1, .int x])), (n1, .inl (cJ, 8, .inl (wn_lay a (wn_hf (xs (i + 1))) (xs (i + 2)) (xs (i + 3)) (xs (i + 4)) (xs (i + 5))))), (g1, .inl (cN, 253, .inl d))]) [0, 1, 2, 3, 4, 5] rfl
        have hD9 := hD.sub (ws' := [(q0, .inr (0, [.ref n0, .ref g0, .int x])), (n0, .inl (cI, 8, .inl (wn_lay a (wn_hf (xs (i + 1))) (xs (i + 2)) (xs (i + 3)) (xs (i + 4)) (xs (i + 5))))), (g0, .inl (cB, 253, .inl d)), (q1, .inr (1, [.ref n1, .ref g1, .int x])), (n1, .inl (cJ, 8, .inl (wn_lay a (wn_hf (xs (i + 1))) (xs (i + 2)) (xs (i + 3)) (xs (i + 4)) (xs (i + 5))))), (g1, .inl (cN, 253, .inl d))]) [0, 1, 2, 3, 4, 5] (by decide) rfl
        have hK9 := hK.sub (tys' := [(cI, .int), (cB, .byte), (cJ, .int), (cN, .int)]) [0, 1, 2, 3] rfl
        exact tl (wn_lay a (wn_hf (xs (i + 1))) (xs (i + 2)) (xs (i + 3)) (xs (i + 4)) (xs (i + 5))) d x q0 n0 g0 q1 n1 g1 cI cB cJ cN H locs ls _ _ (by omega) (by omega) (wn_ok_lay hok _ _ _ _ _) hK9 hP9 hD9 hS (lv_sub hl [0, 1, 2, 3] rfl)
      · refine lv_tableIn (off := 96) (tgt := 129) hx hb dL_law_33 (by decide) (by decide) (by decide) (by decide) ?_
        refine lv_aload_n hx hb dL_law_129 rfl (lv_at hl 1 rfl) ?_
        refine lv_aload_n hx hb dL_law_130 rfl (lv_at hl 0 rfl) ?_
        refine lv_iload_n hx hb dL_law_131 rfl (lv_at hl 3 rfl) ?_
        refine lv_iconst (v := nI 1) hx hb dL_law_132 (by decide) ?_
        refine lv_iadd hx hb dL_law_133 ?_
        refine wn_top (y := nI (i + 1)) (nI_add i 1) ?_
        refine wn_sld (k := i + 1) hx hb hX hbl hbA hS (by omega) hL2 dL_law_134 ?_
        refine lv_aload_n hx hb dL_law_135 rfl (lv_at hl 0 rfl) ?_
        refine lv_iload_n hx hb dL_law_136 rfl (lv_at hl 3 rfl) ?_
        refine lv_iconst (v := nI 2) hx hb dL_law_137 (by decide) ?_
        refine lv_iadd hx hb dL_law_138 ?_
        refine wn_top (y := nI (i + 2)) (nI_add i 2) ?_
        refine wn_sld (k := i + 2) hx hb hX hbl hbA hS (by omega) hL2 dL_law_139 ?_
        have hPc := hP.sub (ws' := [(q0, .inr (0, [.ref n0, .ref g0, .int x])), (n0, .inl (cI, 8, .inl a)), (g0, .inl (cB, 253, .inl d))]) [0, 1, 2] rfl
        have hDc := hD.sub (ws' := [(q0, .inr (0, [.ref n0, .ref g0, .int x])), (n0, .inl (cI, 8, .inl a)), (g0, .inl (cB, 253, .inl d))]) [0, 1, 2] (by decide) rfl
        have hKc := hK.sub (tys' := [(cI, .int), (cB, .byte)]) [0, 1] rfl
        have hFc := va_free (wc := [(q0, .inr (0, [.ref n0, .ref g0, .int x])), (n0, .inl (cI, 8, .inl a)), (g0, .inl (cB, 253, .inl d))]) hD hS hA [0, 1, 2] rfl
        refine va_callv (va_runV (As := [.int (xs (i + 1)), .int (xs (i + 2))]) (rest := []) ⟨hx, hb, hml, hown, hts⟩ (metX0_few l dC dI q0 n0 g0 cI cB H.size a d x (xs (i + 1)) (xs (i + 2))) (cwV 2 hts (lw_V q31 q32 q33 q3 q34) rfl rfl rfl (by decide +kernel) ⟨Nat.le_of_ble_eq_true rfl, Nat.le_of_ble_eq_true rfl⟩) ⟨fun a U g mk q => by obtain ⟨q0, q1, qP, qK, qD⟩ := q; exact ⟨q0, q1, qP, va_K.moved (u := U) (U := U.calling g mk a) (Vm.Alike.refl U.vm) qK, qD⟩, va_recv hKc hPc (ci := 0) (q0 := 0) rfl rfl, fun U hU hW => ⟨rfl, by rw [hU], by rw [hU]; exact hPc, va_K.moved hW.alike hKc, hDc.weaken (fun _ _ _ _ => trivial)⟩⟩ rfl rfl hl.1 rfl (lv_room (Nat.le_of_ble_eq_true rfl)) dL_law_140 ⟨by show cells + 0 ≤ 1200000; omega, by show slots + 0 ≤ 5502250; omega⟩) hS (fun q _ h => hFc q h) hFc (fun u t H1 locs ht hvm hw hB hz1 hk1 hS => ?_)
        obtain ⟨hP1, hK1, hD1⟩ := hB
        rw [ht] at hP1
        have hK1 := va_K.moved hvm.symm hK1
        obtain ⟨hP, hD⟩ := va_join (wr := [(q1, .inr (1, [.ref n1, .ref g1, .int x])), (n1, .inl (cJ, 8, .inl a)), (g1, .inl (cN, 253, .inl d))]) (w1 := [(q0, .inr (0, [.ref n0, .ref g0, .int x])), (n0, .inl (cI, 8, .inl (wn_put a (wn_pl (xs (i + 1))) (xs (i + 2))))), (g0, .inl (cB, 253, .inl d))]) hP hD [0, 1, 2] [3, 4, 5] rfl rfl (by decide) (by decide) hk1 hFc hP1 hD1
        have hK := (hK.sub (tys' := [(cJ, .int), (cN, .int)]) [2, 3] rfl).app hK1
        generalize H1 = H at hP hS ⊢
        have hP : va_P (dC, dI) vwCl [(q1, .inr (1, [.ref n1, .ref g1, .int x])), (n1, .inl (cJ, 8, .inl a)), (g1, .inl (cN, 253, .inl d)), (q0, .inr (0, [.ref n0, .ref g0, .int x])), (n0, .inl (cI, 8, .inl (wn_put a (wn_pl (xs (i + 1))) (xs (i + 2))))), (g0, .inl (cB, 253, .inl d))] H := hP
        have hD : va_D (fun q : Nat => s.heap.size ≤ q) [(q1, .inr (1, [.ref n1, .ref g1, .int x])), (n1, .inl (cJ, 8, .inl a)), (g1, .inl (cN, 253, .inl d)), (q0, .inr (0, [.ref n0, .ref g0, .int x])), (n0, .inl (cI, 8, .inl (wn_put a (wn_pl (xs (i + 1))) (xs (i + 2))))), (g0, .inl (cB, 253, .inl d))] := hD
        have hK : va_K (dC, dI) vwCl [(cJ, .int), (cN, .int), (cI, .int), (cB, .byte)] s := hK
        refine lv_aload_n hx hb dL_law_143 rfl (lv_at hl 2 rfl) ?_
        refine lv_aload_n hx hb dL_law_144 rfl (lv_at hl 0 rfl) ?_
        refine lv_iload_n hx hb dL_law_145 rfl (lv_at hl 3 rfl) ?_
        refine lv_iconst (v := nI 1) hx hb dL_law_146 (by decide) ?_
        refine lv_iadd hx hb dL_law_147 ?_
        refine wn_top (y := nI (i + 1)) (nI_add i 1) ?_
        refine wn_sld (k := i + 1) hx hb hX hbl hbA hS (by omega) hL2 dL_law_148 ?_
        refine lv_aload_n hx hb dL_law_149 rfl (lv_at hl 0 rfl) ?_
        refine lv_iload_n hx hb dL_law_150 rfl (lv_at hl 3 rfl) ?_
        refine lv_iconst (v := nI 2) hx hb dL_law_151 (by decide) ?_
        refine lv_iadd hx hb dL_law_152 ?_
        refine wn_top (y := nI (i + 2)) (nI_add i 2) ?_
        refine wn_sld (k := i + 2) hx hb hX hbl hbA hS (by omega) hL2 dL_law_153 ?_
        have hPc := hP.sub (ws' := [(q1, .inr (1, [.ref n1, .ref g1, .int x])), (n1, .inl (cJ, 8, .inl a)), (g1, .inl (cN, 253, .inl d))]) [0, 1, 2] rfl
        have hDc := hD.sub (ws' := [(q1, .inr (1, [.ref n1, .ref g1, .int x])), (n1, .inl (cJ, 8, .inl a)), (g1, .inl (cN, 253, .inl d))]) [0, 1, 2] (by decide) rfl
        have hKc := hK.sub (tys' := [(cJ, .int), (cN, .int)]) [0, 1] rfl
        have hFc := va_free (wc := [(q1, .inr (1, [.ref n1, .ref g1, .int x])), (n1, .inl (cJ, 8, .inl a)), (g1, .inl (cN, 253, .inl d))]) hD hS hA [0, 1, 2] rfl
        refine va_callv (va_runV (As := [.int (xs (i + 1)), .int (xs (i + 2))]) (rest := []) ⟨hx, hb, hml, hown, hts⟩ (metX1_few l dC dI q1 n1 g1 cJ cN H.size a d x (xs (i + 1)) (xs (i + 2))) (cwV 2 hts (lw_V q76 q77 q78 q4 q79) rfl rfl rfl (by decide +kernel) ⟨Nat.le_of_ble_eq_true rfl, Nat.le_of_ble_eq_true rfl⟩) ⟨fun a U g mk q => by obtain ⟨q0, q1, qP, qK, qD⟩ := q; exact ⟨q0, q1, qP, va_K.moved (u := U) (U := U.calling g mk a) (Vm.Alike.refl U.vm) qK, qD⟩, va_recv hKc hPc (ci := 1) (q0 := 0) rfl rfl, fun U hU hW => ⟨rfl, by rw [hU], by rw [hU]; exact hPc, va_K.moved hW.alike hKc, hDc.weaken (fun _ _ _ _ => trivial)⟩⟩ rfl rfl hl.1 rfl (lv_room (Nat.le_of_ble_eq_true rfl)) dL_law_154 ⟨by show cells + 0 + 0 ≤ 1200000; omega, by show slots + 0 + 0 ≤ 5502250; omega⟩) hS (fun q _ h => hFc q h) hFc (fun u t H1 locs ht hvm hw hB hz1 hk1 hS => ?_)
        obtain ⟨hP1, hK1, hD1⟩ := hB
        rw [ht] at hP1
        have hK1 := va_K.moved hvm.symm hK1
        obtain ⟨hP, hD⟩ := va_join (wr := [(q0, .inr (0, [.ref n0, .ref g0, .int x])), (n0, .inl (cI, 8, .inl (wn_put a (wn_pl (xs (i + 1))) (xs (i + 2))))), (g0, .inl (cB, 253, .inl d))]) (w1 := [(q1, .inr (1, [.ref n1, .ref g1, .int x])), (n1, .inl (cJ, 8, .inl (wn_put a (wn_pl (xs (i + 1))) (xs (i + 2))))), (g1, .inl (cN, 253, .inl d))]) hP hD [0, 1, 2] [3, 4, 5] rfl rfl (by decide) (by decide) hk1 hFc hP1 hD1
        have hK := (hK.sub (tys' := [(cI, .int), (cB, .byte)]) [2, 3] rfl).app hK1
        generalize H1 = H at hP hS ⊢
        have hP : va_P (dC, dI) vwCl [(q0, .inr (0, [.ref n0, .ref g0, .int x])), (n0, .inl (cI, 8, .inl (wn_put a (wn_pl (xs (i + 1))) (xs (i + 2))))), (g0, .inl (cB, 253, .inl d)), (q1, .inr (1, [.ref n1, .ref g1, .int x])), (n1, .inl (cJ, 8, .inl (wn_put a (wn_pl (xs (i + 1))) (xs (i + 2))))), (g1, .inl (cN, 253, .inl d))] H := hP
        have hD : va_D (fun q : Nat => s.heap.size ≤ q) [(q0, .inr (0, [.ref n0, .ref g0, .int x])), (n0, .inl (cI, 8, .inl (wn_put a (wn_pl (xs (i + 1))) (xs (i + 2))))), (g0, .inl (cB, 253, .inl d)), (q1, .inr (1, [.ref n1, .ref g1, .int x])), (n1, .inl (cJ, 8, .inl (wn_put a (wn_pl (xs (i + 1))) (xs (i + 2))))), (g1, .inl (cN, 253, .inl d))] := hD
        have hK : va_K (dC, dI) vwCl [(cI, .int), (cB, .byte), (cJ, .int), (cN, .int)] s := hK
        refine lv_goto (tgt := 217) hx hb dL_law_157 (by decide) ?_
        have hP9 := hP.sub (ws' := [(q0, .inr (0, [.ref n0, .ref g0, .int x])), (n0, .inl (cI, 8, .inl (wn_put a (wn_pl (xs (i + 1))) (xs (i + 2))))), (g0, .inl (cB, 253, .inl d)), (q1, .inr (1, [.ref n1, .ref g1, .int x])), (n1, .inl (cJ, 8, .inl (wn_put a (wn_pl (xs (i + 1))) (xs (i + 2))))), (g1, .inl (cN, 253, .inl d))]) [0, 1, 2, 3, 4, 5] rfl
        have hD9 := hD.sub (ws' := [(q0, .inr (0, [.ref n0, .ref g0, .int x])), (n0, .inl (cI, 8, .inl (wn_put a (wn_pl (xs (i + 1))) (xs (i + 2))))), (g0, .inl (cB, 253, .inl d)), (q1, .inr (1, [.ref n1, .ref g1, .int x])), (n1, .inl (cJ, 8, .inl (wn_put a (wn_pl (xs (i + 1))) (xs (i + 2))))), (g1, .inl (cN, 253, .inl d))]) [0, 1, 2, 3, 4, 5] (by decide) rfl
        have hK9 := hK.sub (tys' := [(cI, .int), (cB, .byte), (cJ, .int), (cN, .int)]) [0, 1, 2, 3] rfl
        exact tl (wn_put a (wn_pl (xs (i + 1))) (xs (i + 2))) d x q0 n0 g0 q1 n1 g1 cI cB cJ cN H locs ls _ _ (by omega) (by omega) (wn_ok_put hok _ _) hK9 hP9 hD9 hS (lv_sub hl [0, 1, 2, 3] rfl)
      · refine lv_tableIn (off := 127) (tgt := 160) hx hb dL_law_33 (by decide) (by decide) (by decide) (by decide) ?_
        obtain ⟨X, hXX⟩ := wn_X_of hok
        refine lv_aload_n hx hb dL_law_160 rfl (lv_at hl 1 rfl) ?_
        refine lv_aload_n hx hb dL_law_161 rfl (lv_at hl 0 rfl) ?_
        refine lv_iload_n hx hb dL_law_162 rfl (lv_at hl 3 rfl) ?_
        refine lv_iconst (v := nI 1) hx hb dL_law_163 (by decide) ?_
        refine lv_iadd hx hb dL_law_164 ?_
        refine wn_top (y := nI (i + 1)) (nI_add i 1) ?_
        refine wn_sld (k := i + 1) hx hb hX hbl hbA hS (by omega) hL2 dL_law_165 ?_
        have hPc := hP.sub (ws' := [(q0, .inr (0, [.ref n0, .ref g0, .int x])), (n0, .inl (cI, 8, .inl a)), (g0, .inl (cB, 253, .inl d))]) [0, 1, 2] rfl
        have hDc := hD.sub (ws' := [(q0, .inr (0, [.ref n0, .ref g0, .int x])), (n0, .inl (cI, 8, .inl a)), (g0, .inl (cB, 253, .inl d))]) [0, 1, 2] (by decide) rfl
        have hKc := hK.sub (tys' := [(cI, .int), (cB, .byte)]) [0, 1] rfl
        have hFc := va_free (wc := [(q0, .inr (0, [.ref n0, .ref g0, .int x])), (n0, .inl (cI, 8, .inl a)), (g0, .inl (cB, 253, .inl d))]) hD hS hA [0, 1, 2] rfl
        refine va_callv (va_runV (As := [.int (xs (i + 1))]) (rest := []) ⟨hx, hb, hml, hown, hts⟩ (metX0_find l dC dI q0 n0 g0 cI cB H.size a d x (xs (i + 1)) X hXX) (cwV 1 hts (lw_V q35 q36 q37 q3 q38) rfl rfl rfl (by decide +kernel) ⟨Nat.le_of_ble_eq_true rfl, Nat.le_of_ble_eq_true rfl⟩) ⟨fun a U g mk q => by obtain ⟨q0, q1, qP, qK, qD⟩ := q; exact ⟨q0, q1, qP, va_K.moved (u := U) (U := U.calling g mk a) (Vm.Alike.refl U.vm) qK, qD⟩, va_recv hKc hPc (ci := 0) (q0 := 0) rfl rfl, fun U hU hW => ⟨rfl, by rw [hU], by rw [hU]; exact hPc, va_K.moved hW.alike hKc, hDc.weaken (fun _ _ _ _ => trivial)⟩⟩ rfl rfl hl.1 rfl (lv_room (Nat.le_of_ble_eq_true rfl)) dL_law_166 ⟨by show cells + 2 ≤ 1200000; omega, by show slots + 269 ≤ 5502250; omega⟩) hS (fun q _ h => hFc q h) hFc (fun u t H1 locs ht hvm hw hB hz1 hk1 hS => ?_)
        obtain ⟨g2, cP, hP1, hK1, hD1⟩ := hB
        rw [ht] at hP1
        have hK1 := va_K.moved hvm.symm hK1
        obtain ⟨hP, hD⟩ := va_join (wr := [(q1, .inr (1, [.ref n1, .ref g1, .int x])), (n1, .inl (cJ, 8, .inl a)), (g1, .inl (cN, 253, .inl d))]) (w1 := [(q0, .inr (0, [.ref n0, .ref g2, .int (nI (wn_wd (xs (i + 1))))])), (n0, .inl (cI, 8, .inl a)), (g2, .inl (cP, 253, .inl (wn_run X (wn_wd (xs (i + 1))) 253 0 0 (fun _ => 0))))]) hP hD [0, 1, 2] [3, 4, 5] rfl rfl (by decide) (by decide) hk1 hFc hP1 hD1
        have hK := (hK.sub (tys' := [(cJ, .int), (cN, .int)]) [2, 3] rfl).app hK1
        generalize H1 = H at hP hS ⊢
        have hP : va_P (dC, dI) vwCl [(q1, .inr (1, [.ref n1, .ref g1, .int x])), (n1, .inl (cJ, 8, .inl a)), (g1, .inl (cN, 253, .inl d)), (q0, .inr (0, [.ref n0, .ref g2, .int (nI (wn_wd (xs (i + 1))))])), (n0, .inl (cI, 8, .inl a)), (g2, .inl (cP, 253, .inl (wn_run X (wn_wd (xs (i + 1))) 253 0 0 (fun _ => 0))))] H := hP
        have hD : va_D (fun q : Nat => s.heap.size ≤ q) [(q1, .inr (1, [.ref n1, .ref g1, .int x])), (n1, .inl (cJ, 8, .inl a)), (g1, .inl (cN, 253, .inl d)), (q0, .inr (0, [.ref n0, .ref g2, .int (nI (wn_wd (xs (i + 1))))])), (n0, .inl (cI, 8, .inl a)), (g2, .inl (cP, 253, .inl (wn_run X (wn_wd (xs (i + 1))) 253 0 0 (fun _ => 0))))] := hD
        have hK : va_K (dC, dI) vwCl [(cJ, .int), (cN, .int), (cI, .int), (cP, .byte)] s := hK
        refine lv_aload_n hx hb dL_law_169 rfl (lv_at hl 2 rfl) ?_
        refine lv_aload_n hx hb dL_law_170 rfl (lv_at hl 0 rfl) ?_
        refine lv_iload_n hx hb dL_law_171 rfl (lv_at hl 3 rfl) ?_
        refine lv_iconst (v := nI 1) hx hb dL_law_172 (by decide) ?_
        refine lv_iadd hx hb dL_law_173 ?_
        refine wn_top (y := nI (i + 1)) (nI_add i 1) ?_
        refine wn_sld (k := i + 1) hx hb hX hbl hbA hS (by omega) hL2 dL_law_174 ?_
        have hPc := hP.sub (ws' := [(q1, .inr (1, [.ref n1, .ref g1, .int x])), (n1, .inl (cJ, 8, .inl a)), (g1, .inl (cN, 253, .inl d))]) [0, 1, 2] rfl
        have hDc := hD.sub (ws' := [(q1, .inr (1, [.ref n1, .ref g1, .int x])), (n1, .inl (cJ, 8, .inl a)), (g1, .inl (cN, 253, .inl d))]) [0, 1, 2] (by decide) rfl
        have hKc := hK.sub (tys' := [(cJ, .int), (cN, .int)]) [0, 1] rfl
        have hFc := va_free (wc := [(q1, .inr (1, [.ref n1, .ref g1, .int x])), (n1, .inl (cJ, 8, .inl a)), (g1, .inl (cN, 253, .inl d))]) hD hS hA [0, 1, 2] rfl
        refine va_callv (va_runV (As := [.int (xs (i + 1))]) (rest := []) ⟨hx, hb, hml, hown, hts⟩ (metX1_find l dC dI q1 n1 g1 cJ cN H.size a d x (xs (i + 1)) X hXX) (cwV 1 hts (lw_V q80 q81 q82 q4 q83) rfl rfl rfl (by decide +kernel) ⟨Nat.le_of_ble_eq_true rfl, Nat.le_of_ble_eq_true rfl⟩) ⟨fun a U g mk q => by obtain ⟨q0, q1, qP, qK, qD⟩ := q; exact ⟨q0, q1, qP, va_K.moved (u := U) (U := U.calling g mk a) (Vm.Alike.refl U.vm) qK, qD⟩, va_recv hKc hPc (ci := 1) (q0 := 0) rfl rfl, fun U hU hW => ⟨rfl, by rw [hU], by rw [hU]; exact hPc, va_K.moved hW.alike hKc, hDc.weaken (fun _ _ _ _ => trivial)⟩⟩ rfl rfl hl.1 rfl (lv_room (Nat.le_of_ble_eq_true rfl)) dL_law_175 ⟨by show cells + 2 + 1 ≤ 1200000; omega, by show slots + 269 + 253 ≤ 5502250; omega⟩) hS (fun q _ h => hFc q h) hFc (fun u t H1 locs ht hvm hw hB hz1 hk1 hS => ?_)
        obtain ⟨g3, cQ, hP1, hK1, hD1⟩ := hB
        rw [ht] at hP1
        have hK1 := va_K.moved hvm.symm hK1
        obtain ⟨hP, hD⟩ := va_join (wr := [(q0, .inr (0, [.ref n0, .ref g2, .int (nI (wn_wd (xs (i + 1))))])), (n0, .inl (cI, 8, .inl a)), (g2, .inl (cP, 253, .inl (wn_run X (wn_wd (xs (i + 1))) 253 0 0 (fun _ => 0))))]) (w1 := [(q1, .inr (1, [.ref n1, .ref g3, .int (nI (wn_wd (xs (i + 1))))])), (n1, .inl (cJ, 8, .inl a)), (g3, .inl (cQ, 253, .inl (wn_run X (wn_wd (xs (i + 1))) 253 0 0 (fun _ => 0))))]) hP hD [0, 1, 2] [3, 4, 5] rfl rfl (by decide) (by decide) hk1 hFc hP1 hD1
        have hK := (hK.sub (tys' := [(cI, .int), (cP, .byte)]) [2, 3] rfl).app hK1
        generalize H1 = H at hP hS ⊢
        have hP : va_P (dC, dI) vwCl [(q0, .inr (0, [.ref n0, .ref g2, .int (nI (wn_wd (xs (i + 1))))])), (n0, .inl (cI, 8, .inl a)), (g2, .inl (cP, 253, .inl (wn_run X (wn_wd (xs (i + 1))) 253 0 0 (fun _ => 0)))), (q1, .inr (1, [.ref n1, .ref g3, .int (nI (wn_wd (xs (i + 1))))])), (n1, .inl (cJ, 8, .inl a)), (g3, .inl (cQ, 253, .inl (wn_run X (wn_wd (xs (i + 1))) 253 0 0 (fun _ => 0))))] H := hP
        have hD : va_D (fun q : Nat => s.heap.size ≤ q) [(q0, .inr (0, [.ref n0, .ref g2, .int (nI (wn_wd (xs (i + 1))))])), (n0, .inl (cI, 8, .inl a)), (g2, .inl (cP, 253, .inl (wn_run X (wn_wd (xs (i + 1))) 253 0 0 (fun _ => 0)))), (q1, .inr (1, [.ref n1, .ref g3, .int (nI (wn_wd (xs (i + 1))))])), (n1, .inl (cJ, 8, .inl a)), (g3, .inl (cQ, 253, .inl (wn_run X (wn_wd (xs (i + 1))) 253 0 0 (fun _ => 0))))] := hD
        have hK : va_K (dC, dI) vwCl [(cI, .int), (cP, .byte), (cJ, .int), (cQ, .int)] s := hK
        refine lv_goto (tgt := 217) hx hb dL_law_178 (by decide) ?_
        have hP9 := hP.sub (ws' := [(q0, .inr (0, [.ref n0, .ref g2, .int (nI (wn_wd (xs (i + 1))))])), (n0, .inl (cI, 8, .inl a)), (g2, .inl (cP, 253, .inl (wn_run X (wn_wd (xs (i + 1))) 253 0 0 (fun _ => 0)))), (q1, .inr (1, [.ref n1, .ref g3, .int (nI (wn_wd (xs (i + 1))))])), (n1, .inl (cJ, 8, .inl a)), (g3, .inl (cQ, 253, .inl (wn_run X (wn_wd (xs (i + 1))) 253 0 0 (fun _ => 0))))]) [0, 1, 2, 3, 4, 5] rfl
        have hD9 := hD.sub (ws' := [(q0, .inr (0, [.ref n0, .ref g2, .int (nI (wn_wd (xs (i + 1))))])), (n0, .inl (cI, 8, .inl a)), (g2, .inl (cP, 253, .inl (wn_run X (wn_wd (xs (i + 1))) 253 0 0 (fun _ => 0)))), (q1, .inr (1, [.ref n1, .ref g3, .int (nI (wn_wd (xs (i + 1))))])), (n1, .inl (cJ, 8, .inl a)), (g3, .inl (cQ, 253, .inl (wn_run X (wn_wd (xs (i + 1))) 253 0 0 (fun _ => 0))))]) [0, 1, 2, 3, 4, 5] (by decide) rfl
        have hK9 := hK.sub (tys' := [(cI, .int), (cP, .byte), (cJ, .int), (cQ, .int)]) [0, 1, 2, 3] rfl
        exact tl a (wn_run X (wn_wd (xs (i + 1))) 253 0 0 (fun _ => 0)) (nI (wn_wd (xs (i + 1)))) q0 n0 g2 q1 n1 g3 cI cP cJ cQ H locs ls _ _ (by omega) (by omega) hok hK9 hP9 hD9 hS (lv_sub hl [0, 1, 2, 3] rfl)
      · refine lv_tableIn (off := 148) (tgt := 181) hx hb dL_law_33 (by decide) (by decide) (by decide) (by decide) ?_
        refine lv_aload_n hx hb dL_law_181 rfl (lv_at hl 1 rfl) ?_
        refine lv_aload_n hx hb dL_law_182 rfl (lv_at hl 0 rfl) ?_
        refine lv_iload_n hx hb dL_law_183 rfl (lv_at hl 3 rfl) ?_
        refine lv_iconst (v := nI 1) hx hb dL_law_184 (by decide) ?_
        refine lv_iadd hx hb dL_law_185 ?_
        refine wn_top (y := nI (i + 1)) (nI_add i 1) ?_
        refine wn_sld (k := i + 1) hx hb hX hbl hbA hS (by omega) hL2 dL_law_186 ?_
        have hPc := hP.sub (ws' := [(q0, .inr (0, [.ref n0, .ref g0, .int x])), (n0, .inl (cI, 8, .inl a)), (g0, .inl (cB, 253, .inl d))]) [0, 1, 2] rfl
        have hDc := hD.sub (ws' := [(q0, .inr (0, [.ref n0, .ref g0, .int x])), (n0, .inl (cI, 8, .inl a)), (g0, .inl (cB, 253, .inl d))]) [0, 1, 2] (by decide) rfl
        have hKc := hK.sub (tys' := [(cI, .int), (cB, .byte)]) [0, 1] rfl
        have hFc := va_free (wc := [(q0, .inr (0, [.ref n0, .ref g0, .int x])), (n0, .inl (cI, 8, .inl a)), (g0, .inl (cB, 253, .inl d))]) hD hS hA [0, 1, 2] rfl
        refine va_calli (va_runV (As := [.int (xs (i + 1))]) (rest := []) ⟨hx, hb, hml, hown, hts⟩ (metX0_digit l dC dI q0 n0 g0 cI cB H.size a d x (xs (i + 1))) (cwV 1 hts (lw_V q42 q43 q44 q3 q45) rfl rfl rfl (by decide +kernel) ⟨Nat.le_of_ble_eq_true rfl, Nat.le_of_ble_eq_true rfl⟩) ⟨fun a U g mk q => by obtain ⟨q0, q1, qP, qK, qD⟩ := q; exact ⟨q0, q1, qP, va_K.moved (u := U) (U := U.calling g mk a) (Vm.Alike.refl U.vm) qK, qD⟩, va_recv hKc hPc (ci := 0) (q0 := 0) rfl rfl, fun U hU hW => ⟨rfl, by rw [hU], by rw [hU]; exact hPc, va_K.moved hW.alike hKc, hDc.weaken (fun _ _ _ _ => trivial)⟩⟩ rfl rfl hl.1 rfl (lv_room (Nat.le_of_ble_eq_true rfl)) dL_law_187 ⟨by show cells + 0 ≤ 1200000; omega, by show slots + 0 ≤ 5502250; omega⟩) hS (fun q _ h => hFc q h) hFc (fun r1 u t H1 locs ht hvm hw hB hz1 hk1 hS => ?_)
        obtain ⟨hP1, hK1, hD1⟩ := hB
        rw [ht] at hP1
        have hK1 := va_K.moved hvm.symm hK1
        obtain ⟨hP, hD⟩ := va_join (wr := [(q1, .inr (1, [.ref n1, .ref g1, .int x])), (n1, .inl (cJ, 8, .inl a)), (g1, .inl (cN, 253, .inl d))]) (w1 := [(q0, .inr (0, [.ref n0, .ref g0, .int x])), (n0, .inl (cI, 8, .inl a)), (g0, .inl (cB, 253, .inl d))]) hP hD [0, 1, 2] [3, 4, 5] rfl rfl (by decide) (by decide) hk1 hFc hP1 hD1
        have hK := (hK.sub (tys' := [(cJ, .int), (cN, .int)]) [2, 3] rfl).app hK1
        generalize H1 = H at hP hS ⊢
        have hP : va_P (dC, dI) vwCl [(q1, .inr (1, [.ref n1, .ref g1, .int x])), (n1, .inl (cJ, 8, .inl a)), (g1, .inl (cN, 253, .inl d)), (q0, .inr (0, [.ref n0, .ref g0, .int x])), (n0, .inl (cI, 8, .inl a)), (g0, .inl (cB, 253, .inl d))] H := hP
        have hD : va_D (fun q : Nat => s.heap.size ≤ q) [(q1, .inr (1, [.ref n1, .ref g1, .int x])), (n1, .inl (cJ, 8, .inl a)), (g1, .inl (cN, 253, .inl d)), (q0, .inr (0, [.ref n0, .ref g0, .int x])), (n0, .inl (cI, 8, .inl a)), (g0, .inl (cB, 253, .inl d))] := hD
        have hK : va_K (dC, dI) vwCl [(cJ, .int), (cN, .int), (cI, .int), (cB, .byte)] s := hK
        have hw : r1 = d (wn_dp (xs (i + 1))) := hw
        subst hw
        refine lv_aload_n hx hb dL_law_190 rfl (lv_at hl 2 rfl) ?_
        refine lv_aload_n hx hb dL_law_191 rfl (lv_at hl 0 rfl) ?_
        refine lv_iload_n hx hb dL_law_192 rfl (lv_at hl 3 rfl) ?_
        refine lv_iconst (v := nI 1) hx hb dL_law_193 (by decide) ?_
        refine lv_iadd hx hb dL_law_194 ?_
        refine wn_top (y := nI (i + 1)) (nI_add i 1) ?_
        refine wn_sld (k := i + 1) hx hb hX hbl hbA hS (by omega) hL2 dL_law_195 ?_
        have hPc := hP.sub (ws' := [(q1, .inr (1, [.ref n1, .ref g1, .int x])), (n1, .inl (cJ, 8, .inl a)), (g1, .inl (cN, 253, .inl d))]) [0, 1, 2] rfl
        have hDc := hD.sub (ws' := [(q1, .inr (1, [.ref n1, .ref g1, .int x])), (n1, .inl (cJ, 8, .inl a)), (g1, .inl (cN, 253, .inl d))]) [0, 1, 2] (by decide) rfl
        have hKc := hK.sub (tys' := [(cJ, .int), (cN, .int)]) [0, 1] rfl
        have hFc := va_free (wc := [(q1, .inr (1, [.ref n1, .ref g1, .int x])), (n1, .inl (cJ, 8, .inl a)), (g1, .inl (cN, 253, .inl d))]) hD hS hA [0, 1, 2] rfl
        refine va_calli (va_runV (As := [.int (xs (i + 1))]) (rest := [.int (d (wn_dp (xs (i + 1))))]) ⟨hx, hb, hml, hown, hts⟩ (metX1_digit l dC dI q1 n1 g1 cJ cN H.size a d x (xs (i + 1))) (cwV 1 hts (lw_V q88 q89 q90 q4 q91) rfl rfl rfl (by decide +kernel) ⟨Nat.le_of_ble_eq_true rfl, Nat.le_of_ble_eq_true rfl⟩) ⟨fun a U g mk q => by obtain ⟨q0, q1, qP, qK, qD⟩ := q; exact ⟨q0, q1, qP, va_K.moved (u := U) (U := U.calling g mk a) (Vm.Alike.refl U.vm) qK, qD⟩, va_recv hKc hPc (ci := 1) (q0 := 0) rfl rfl, fun U hU hW => ⟨rfl, by rw [hU], by rw [hU]; exact hPc, va_K.moved hW.alike hKc, hDc.weaken (fun _ _ _ _ => trivial)⟩⟩ rfl rfl hl.1 rfl (lv_room (Nat.le_of_ble_eq_true rfl)) dL_law_196 ⟨by show cells + 0 + 0 ≤ 1200000; omega, by show slots + 0 + 0 ≤ 5502250; omega⟩) hS (fun q _ h => hFc q h) hFc (fun r2 u t H1 locs ht hvm hw hB hz1 hk1 hS => ?_)
        obtain ⟨hP1, hK1, hD1⟩ := hB
        rw [ht] at hP1
        have hK1 := va_K.moved hvm.symm hK1
        obtain ⟨hP, hD⟩ := va_join (wr := [(q0, .inr (0, [.ref n0, .ref g0, .int x])), (n0, .inl (cI, 8, .inl a)), (g0, .inl (cB, 253, .inl d))]) (w1 := [(q1, .inr (1, [.ref n1, .ref g1, .int x])), (n1, .inl (cJ, 8, .inl a)), (g1, .inl (cN, 253, .inl d))]) hP hD [0, 1, 2] [3, 4, 5] rfl rfl (by decide) (by decide) hk1 hFc hP1 hD1
        have hK := (hK.sub (tys' := [(cI, .int), (cB, .byte)]) [2, 3] rfl).app hK1
        generalize H1 = H at hP hS ⊢
        have hP : va_P (dC, dI) vwCl [(q0, .inr (0, [.ref n0, .ref g0, .int x])), (n0, .inl (cI, 8, .inl a)), (g0, .inl (cB, 253, .inl d)), (q1, .inr (1, [.ref n1, .ref g1, .int x])), (n1, .inl (cJ, 8, .inl a)), (g1, .inl (cN, 253, .inl d))] H := hP
        have hD : va_D (fun q : Nat => s.heap.size ≤ q) [(q0, .inr (0, [.ref n0, .ref g0, .int x])), (n0, .inl (cI, 8, .inl a)), (g0, .inl (cB, 253, .inl d)), (q1, .inr (1, [.ref n1, .ref g1, .int x])), (n1, .inl (cJ, 8, .inl a)), (g1, .inl (cN, 253, .inl d))] := hD
        have hK : va_K (dC, dI) vwCl [(cI, .int), (cB, .byte), (cJ, .int), (cN, .int)] s := hK
        have hw : r2 = d (wn_dp (xs (i + 1))) := hw
        subst hw
        refine lv_icmp_eq (tgt := 217) hx hb dL_law_199 (by decide) (fun _ => ?_) (fun c2 => absurd rfl c2)
        have hP9 := hP.sub (ws' := [(q0, .inr (0, [.ref n0, .ref g0, .int x])), (n0, .inl (cI, 8, .inl a)), (g0, .inl (cB, 253, .inl d)), (q1, .inr (1, [.ref n1, .ref g1, .int x])), (n1, .inl (cJ, 8, .inl a)), (g1, .inl (cN, 253, .inl d))]) [0, 1, 2, 3, 4, 5] rfl
        have hD9 := hD.sub (ws' := [(q0, .inr (0, [.ref n0, .ref g0, .int x])), (n0, .inl (cI, 8, .inl a)), (g0, .inl (cB, 253, .inl d)), (q1, .inr (1, [.ref n1, .ref g1, .int x])), (n1, .inl (cJ, 8, .inl a)), (g1, .inl (cN, 253, .inl d))]) [0, 1, 2, 3, 4, 5] (by decide) rfl
        have hK9 := hK.sub (tys' := [(cI, .int), (cB, .byte), (cJ, .int), (cN, .int)]) [0, 1, 2, 3] rfl
        exact tl a d x q0 n0 g0 q1 n1 g1 cI cB cJ cN H locs ls _ _ (by omega) (by omega) hok hK9 hP9 hD9 hS (lv_sub hl [0, 1, 2, 3] rfl)
      · refine lv_tableIn (off := 171) (tgt := 204) hx hb dL_law_33 (by decide) (by decide) (by decide) (by decide) ?_
        refine lv_aload_n hx hb dL_law_204 rfl (lv_at hl 1 rfl) ?_
        have hPc := hP.sub (ws' := [(q0, .inr (0, [.ref n0, .ref g0, .int x])), (n0, .inl (cI, 8, .inl a)), (g0, .inl (cB, 253, .inl d))]) [0, 1, 2] rfl
        have hDc := hD.sub (ws' := [(q0, .inr (0, [.ref n0, .ref g0, .int x])), (n0, .inl (cI, 8, .inl a)), (g0, .inl (cB, 253, .inl d))]) [0, 1, 2] (by decide) rfl
        have hKc := hK.sub (tys' := [(cI, .int), (cB, .byte)]) [0, 1] rfl
        have hFc := va_free (wc := [(q0, .inr (0, [.ref n0, .ref g0, .int x])), (n0, .inl (cI, 8, .inl a)), (g0, .inl (cB, 253, .inl d))]) hD hS hA [0, 1, 2] rfl
        refine va_calli (va_runV (As := []) (rest := []) ⟨hx, hb, hml, hown, hts⟩ (metX0_width l dC dI q0 n0 g0 cI cB H.size a d x) (cwV 0 hts (lw_V q47 q48 q49 q3 q50) rfl rfl rfl (by decide +kernel) ⟨Nat.le_of_ble_eq_true rfl, Nat.le_of_ble_eq_true rfl⟩) ⟨fun a U g mk q => by obtain ⟨q0, q1, qP, qK, qD⟩ := q; exact ⟨q0, q1, qP, va_K.moved (u := U) (U := U.calling g mk a) (Vm.Alike.refl U.vm) qK, qD⟩, va_recv hKc hPc (ci := 0) (q0 := 0) rfl rfl, fun U hU hW => ⟨rfl, by rw [hU], by rw [hU]; exact hPc, va_K.moved hW.alike hKc, hDc.weaken (fun _ _ _ _ => trivial)⟩⟩ rfl rfl hl.1 rfl (lv_room (Nat.le_of_ble_eq_true rfl)) dL_law_205 ⟨by show cells + 0 ≤ 1200000; omega, by show slots + 0 ≤ 5502250; omega⟩) hS (fun q _ h => hFc q h) hFc (fun r1 u t H1 locs ht hvm hw hB hz1 hk1 hS => ?_)
        obtain ⟨hP1, hK1, hD1⟩ := hB
        rw [ht] at hP1
        have hK1 := va_K.moved hvm.symm hK1
        obtain ⟨hP, hD⟩ := va_join (wr := [(q1, .inr (1, [.ref n1, .ref g1, .int x])), (n1, .inl (cJ, 8, .inl a)), (g1, .inl (cN, 253, .inl d))]) (w1 := [(q0, .inr (0, [.ref n0, .ref g0, .int x])), (n0, .inl (cI, 8, .inl a)), (g0, .inl (cB, 253, .inl d))]) hP hD [0, 1, 2] [3, 4, 5] rfl rfl (by decide) (by decide) hk1 hFc hP1 hD1
        have hK := (hK.sub (tys' := [(cJ, .int), (cN, .int)]) [2, 3] rfl).app hK1
        generalize H1 = H at hP hS ⊢
        have hP : va_P (dC, dI) vwCl [(q1, .inr (1, [.ref n1, .ref g1, .int x])), (n1, .inl (cJ, 8, .inl a)), (g1, .inl (cN, 253, .inl d)), (q0, .inr (0, [.ref n0, .ref g0, .int x])), (n0, .inl (cI, 8, .inl a)), (g0, .inl (cB, 253, .inl d))] H := hP
        have hD : va_D (fun q : Nat => s.heap.size ≤ q) [(q1, .inr (1, [.ref n1, .ref g1, .int x])), (n1, .inl (cJ, 8, .inl a)), (g1, .inl (cN, 253, .inl d)), (q0, .inr (0, [.ref n0, .ref g0, .int x])), (n0, .inl (cI, 8, .inl a)), (g0, .inl (cB, 253, .inl d))] := hD
        have hK : va_K (dC, dI) vwCl [(cJ, .int), (cN, .int), (cI, .int), (cB, .byte)] s := hK
        have hw : r1 = x := hw
        subst hw
        refine lv_aload_n hx hb dL_law_208 rfl (lv_at hl 2 rfl) ?_
        have hPc := hP.sub (ws' := [(q1, .inr (1, [.ref n1, .ref g1, .int r1])), (n1, .inl (cJ, 8, .inl a)), (g1, .inl (cN, 253, .inl d))]) [0, 1, 2] rfl
        have hDc := hD.sub (ws' := [(q1, .inr (1, [.ref n1, .ref g1, .int r1])), (n1, .inl (cJ, 8, .inl a)), (g1, .inl (cN, 253, .inl d))]) [0, 1, 2] (by decide) rfl
        have hKc := hK.sub (tys' := [(cJ, .int), (cN, .int)]) [0, 1] rfl
        have hFc := va_free (wc := [(q1, .inr (1, [.ref n1, .ref g1, .int r1])), (n1, .inl (cJ, 8, .inl a)), (g1, .inl (cN, 253, .inl d))]) hD hS hA [0, 1, 2] rfl
        refine va_calli (va_runV (As := []) (rest := [.int r1]) ⟨hx, hb, hml, hown, hts⟩ (metX1_width l dC dI q1 n1 g1 cJ cN H.size a d r1) (cwV 0 hts (lw_V q93 q94 q95 q4 q96) rfl rfl rfl (by decide +kernel) ⟨Nat.le_of_ble_eq_true rfl, Nat.le_of_ble_eq_true rfl⟩) ⟨fun a U g mk q => by obtain ⟨q0, q1, qP, qK, qD⟩ := q; exact ⟨q0, q1, qP, va_K.moved (u := U) (U := U.calling g mk a) (Vm.Alike.refl U.vm) qK, qD⟩, va_recv hKc hPc (ci := 1) (q0 := 0) rfl rfl, fun U hU hW => ⟨rfl, by rw [hU], by rw [hU]; exact hPc, va_K.moved hW.alike hKc, hDc.weaken (fun _ _ _ _ => trivial)⟩⟩ rfl rfl hl.1 rfl (lv_room (Nat.le_of_ble_eq_true rfl)) dL_law_209 ⟨by show cells + 0 + 0 ≤ 1200000; omega, by show slots + 0 + 0 ≤ 5502250; omega⟩) hS (fun q _ h => hFc q h) hFc (fun r2 u t H1 locs ht hvm hw hB hz1 hk1 hS => ?_)
        obtain ⟨hP1, hK1, hD1⟩ := hB
        rw [ht] at hP1
        have hK1 := va_K.moved hvm.symm hK1
        obtain ⟨hP, hD⟩ := va_join (wr := [(q0, .inr (0, [.ref n0, .ref g0, .int r1])), (n0, .inl (cI, 8, .inl a)), (g0, .inl (cB, 253, .inl d))]) (w1 := [(q1, .inr (1, [.ref n1, .ref g1, .int r1])), (n1, .inl (cJ, 8, .inl a)), (g1, .inl (cN, 253, .inl d))]) hP hD [0, 1, 2] [3, 4, 5] rfl rfl (by decide) (by decide) hk1 hFc hP1 hD1
        have hK := (hK.sub (tys' := [(cI, .int), (cB, .byte)]) [2, 3] rfl).app hK1
        generalize H1 = H at hP hS ⊢
        have hP : va_P (dC, dI) vwCl [(q0, .inr (0, [.ref n0, .ref g0, .int r1])), (n0, .inl (cI, 8, .inl a)), (g0, .inl (cB, 253, .inl d)), (q1, .inr (1, [.ref n1, .ref g1, .int r1])), (n1, .inl (cJ, 8, .inl a)), (g1, .inl (cN, 253, .inl d))] H := hP
        have hD : va_D (fun q : Nat => s.heap.size ≤ q) [(q0, .inr (0, [.ref n0, .ref g0, .int r1])), (n0, .inl (cI, 8, .inl a)), (g0, .inl (cB, 253, .inl d)), (q1, .inr (1, [.ref n1, .ref g1, .int r1])), (n1, .inl (cJ, 8, .inl a)), (g1, .inl (cN, 253, .inl d))] := hD
        have hK : va_K (dC, dI) vwCl [(cI, .int), (cB, .byte), (cJ, .int), (cN, .int)] s := hK
        have hw : r2 = r1 := hw
        refine lv_icmp_eq (tgt := 217) hx hb dL_law_212 (by decide) (fun _ => ?_) (fun c2 => absurd hw.symm c2)
        have hP9 := hP.sub (ws' := [(q0, .inr (0, [.ref n0, .ref g0, .int r1])), (n0, .inl (cI, 8, .inl a)), (g0, .inl (cB, 253, .inl d)), (q1, .inr (1, [.ref n1, .ref g1, .int r1])), (n1, .inl (cJ, 8, .inl a)), (g1, .inl (cN, 253, .inl d))]) [0, 1, 2, 3, 4, 5] rfl
        have hD9 := hD.sub (ws' := [(q0, .inr (0, [.ref n0, .ref g0, .int r1])), (n0, .inl (cI, 8, .inl a)), (g0, .inl (cB, 253, .inl d)), (q1, .inr (1, [.ref n1, .ref g1, .int r1])), (n1, .inl (cJ, 8, .inl a)), (g1, .inl (cN, 253, .inl d))]) [0, 1, 2, 3, 4, 5] (by decide) rfl
        have hK9 := hK.sub (tys' := [(cI, .int), (cB, .byte), (cJ, .int), (cN, .int)]) [0, 1, 2, 3] rfl
        exact tl a d r1 q0 n0 g0 q1 n1 g1 cI cB cJ cN H locs ls _ _ (by omega) (by omega) hok hK9 hP9 hD9 hS (lv_sub hl [0, 1, 2, 3] rfl)
      · refine lv_tableOut (tgt := 217) hx hb dL_law_33 (Or.inr (by decide)) (by decide) ?_
        exact tl a d x q0 n0 g0 q1 n1 g1 cI cB cJ cN H locs ls cells slots (by omega) (by omega) hok hK hP hD hS hl
      · refine lv_tableOut (tgt := 217) hx hb dL_law_33 (Or.inr (by decide)) (by decide) ?_
        exact tl a d x q0 n0 g0 q1 n1 g1 cI cB cJ cN H locs ls cells slots (by omega) (by omega) hok hK hP hD hS hl
      · refine lv_tableOut (tgt := 217) hx hb dL_law_33 (Or.inr (by decide)) (by decide) ?_
        exact tl a d x q0 n0 g0 q1 n1 g1 cI cB cJ cN H locs ls cells slots (by omega) (by omega) hok hK hP hD hS hl
set_option maxHeartbeats 4000000 in
set_option maxRecDepth 100000 in
/-- THE LAW, from its entry -/
theorem whole_start {p : Program} {e : Env} {s : State} {m : MethodId} {below : List Frame} {meth : Method} {c : Code} (l : Launch) (hflags : l.flags = flags0) {b L : Nat} {xs : Nat → Int32} (hL : L ≤ 144) (C0 : lw_At p s m meth c b L xs) : W p l e room_1 s m #[Value.ref b] below meth c s.heap [] 0 0 (lw_Z below #[Value.ref b] s) (entryFrame m ([Value.ref b] : List Value).toArray 4) := by
  obtain ⟨hx, hb, hr, hml, hown, hts0, hX, hbl, hlocks, hgv⟩ := id C0
  have hts : ∀ w ∈ lw_all, w.before #[Value.ref b] s = true := fun w h => hts0 w (lw_all_tbl h)
  have hA : ∀ q : Nat, s.heap.size ≤ q → (fun q : Nat => s.heap.size ≤ q) q := fun _ h => h
  obtain ⟨c0_, iS0, hKn0⟩ := u_known (C := RX0) (T := TX0) (N := 3) (n := 3) hts in_X0 (hts _ q7)
  obtain ⟨c1_, iS1, hKn1⟩ := u_known (C := RX1) (T := TX1) (N := 3) (n := 3) hts in_X1 (hts _ q52)
  obtain ⟨dC, dI, hKc⟩ : ∃ (dC : Nat → ClassId) (dI : Nat → Nat → Nat), ∀ (k : Nat) (q : vw_C), vwCl[k]? = some q → u_Kn s q.1 q.2.1 q.2.2 (dC k) (dI k) := by
    refine ⟨fun k => if k = 0 then c0_ else c1_, fun k => if k = 0 then iS0 else iS1, ?_⟩
    intro k q hq
    match k, hq with
    | 0, hq => cases hq; exact hKn0
    | 1, hq => cases hq; exact hKn1
    | k + 2, hq => simp [vwCl] at hq
  have hS : va_S (fun q : Nat => s.heap.size ≤ q) s.heap s.heap [] := va_S.rf
  have hK : va_K (dC, dI) vwCl [] s := ⟨hKc, fun k q h => by simp at h⟩
  have hP : va_P (dC, dI) vwCl [] s.heap := fun k q h => by simp at h
  have hD : va_D (fun q : Nat => s.heap.size ≤ q) [] := ⟨fun i j p q h => by simp at h, fun k q h => by simp at h⟩
  have hl := lv_entry ([.ref b]) (n := 4) (Nat.le_of_ble_eq_true rfl)
  rw [lg_entry_eq]
  generalize (lg_sl ([.ref b]) ++ List.replicate (4 - (lg_sl ([.ref b])).length) Slot.unset).toArray = ls at hl ⊢
  have hl : lv_has ls 4 [(0, .ref b)] := hl
  refine va_new (ci := 0) (fs := [.null, .null, .int 0]) (C := RX0) (T := TX0) (N := 3) hx hb hts in_X0 tyX0 tyX0_ok hown (hts _ q6) (hts _ q7) (hts _ q3) hK hP hD hS hA rfl (fun j hj => by rcases (show j = 0 ∨ j = 1 ∨ j = 2 by omega) with rfl | rfl | rfl <;> rfl) (Nat.le_of_ble_eq_true rfl) (Nat.le_of_ble_eq_true rfl) dL_law_0 (fun q0 H hP hD hS => ?_)
  have hP : va_P (dC, dI) vwCl [(q0, .inr (0, [.null, .null, .int 0]))] H := hP
  have hD : va_D (fun q : Nat => s.heap.size ≤ q) [(q0, .inr (0, [.null, .null, .int 0]))] := hD
  refine W.widen (k := 1) (n := 3) (Nat.le_of_ble_eq_true rfl) (Nat.le_of_ble_eq_true rfl) ?_
  refine lv_dup hx hb dL_law_3 rfl ?_
  have hPc := hP.sub (ws' := [(q0, .inr (0, [.null, .null, .int 0]))]) [0] rfl
  have hDc := hD.sub (ws' := [(q0, .inr (0, [.null, .null, .int 0]))]) [0] (by decide) rfl
  have hKc := hK.sub (tys' := []) [] rfl
  have hFc := va_free (wc := [(q0, .inr (0, [.null, .null, .int 0]))]) hD hS hA [0] rfl
  refine va_callv (va_runI (As := []) (rest := [.ref q0]) ⟨hx, hb, hml, hown, hts⟩ (metX0_init l dC dI q0 H.size) (cwI 0 hts (lw_meth q10) rfl rfl rfl (hts _ q3) (hts _ q8) (hts _ q9) rfl (by decide +kernel) ⟨Nat.le_of_ble_eq_true rfl, Nat.le_of_ble_eq_true rfl⟩) ⟨fun a U g mk q => by obtain ⟨q0, q1, qP, qK, qD⟩ := q; exact ⟨q0, q1, qP, va_K.moved (u := U) (U := U.calling g mk a) (Vm.Alike.refl U.vm) qK, qD⟩, fun U hU hW => ⟨rfl, by rw [hU], by rw [hU]; exact hPc, va_K.moved hW.alike hKc, hDc.weaken (fun _ _ _ _ => trivial)⟩⟩ rfl rfl hl.1 rfl (lv_room (Nat.le_of_ble_eq_true rfl)) dL_law_4 ⟨Nat.le_of_ble_eq_true rfl, Nat.le_of_ble_eq_true rfl⟩) hS (fun q _ h => hFc q h) hFc (fun u t H1 locs ht hvm hw hB hz1 hk1 hS => ?_)
  obtain ⟨n0, g0, cI, cB, hP1, hK1, hD1⟩ := hB
  rw [ht] at hP1
  have hK1 := va_K.moved hvm.symm hK1
  obtain ⟨hP, hD⟩ := va_join (wr := []) (w1 := [(q0, .inr (0, [.ref n0, .ref g0, .int (nI 4)])), (n0, .inl (cI, 8, .inl (fun _ => 0))), (g0, .inl (cB, 253, .inl (fun _ => 0)))]) hP hD [0] [] rfl rfl (by decide) (by decide) hk1 hFc hP1 hD1
  have hK := (hK.sub (tys' := []) [] rfl).app hK1
  generalize H1 = H at hP hS ⊢
  have hP : va_P (dC, dI) vwCl [(q0, .inr (0, [.ref n0, .ref g0, .int (nI 4)])), (n0, .inl (cI, 8, .inl (fun _ => 0))), (g0, .inl (cB, 253, .inl (fun _ => 0)))] H := hP
  have hD : va_D (fun q : Nat => s.heap.size ≤ q) [(q0, .inr (0, [.ref n0, .ref g0, .int (nI 4)])), (n0, .inl (cI, 8, .inl (fun _ => 0))), (g0, .inl (cB, 253, .inl (fun _ => 0)))] := hD
  have hK : va_K (dC, dI) vwCl [(cI, .int), (cB, .byte)] s := hK
  refine W.widen (k := 3) (n := 264) (Nat.le_of_ble_eq_true rfl) (Nat.le_of_ble_eq_true rfl) ?_
  refine lv_astore_n (lv' := [(1, .ref q0), (0, .ref b)]) hx hb dL_law_7 rfl hl (by decide) rfl (fun ls hl => ?_)
  refine va_new (ci := 1) (fs := [.null, .null, .int 0]) (C := RX1) (T := TX1) (N := 3) hx hb hts in_X1 tyX1 tyX1_ok hown (hts _ q51) (hts _ q52) (hts _ q4) hK hP hD hS hA rfl (fun j hj => by rcases (show j = 0 ∨ j = 1 ∨ j = 2 by omega) with rfl | rfl | rfl <;> rfl) (Nat.le_of_ble_eq_true rfl) (Nat.le_of_ble_eq_true rfl) dL_law_8 (fun q1 H hP hD hS => ?_)
  have hP : va_P (dC, dI) vwCl [(q0, .inr (0, [.ref n0, .ref g0, .int (nI 4)])), (n0, .inl (cI, 8, .inl (fun _ => 0))), (g0, .inl (cB, 253, .inl (fun _ => 0))), (q1, .inr (1, [.null, .null, .int 0]))] H := hP
  have hD : va_D (fun q : Nat => s.heap.size ≤ q) [(q0, .inr (0, [.ref n0, .ref g0, .int (nI 4)])), (n0, .inl (cI, 8, .inl (fun _ => 0))), (g0, .inl (cB, 253, .inl (fun _ => 0))), (q1, .inr (1, [.null, .null, .int 0]))] := hD
  refine W.widen (k := 4) (n := 267) (Nat.le_of_ble_eq_true rfl) (Nat.le_of_ble_eq_true rfl) ?_
  refine lv_dup hx hb dL_law_11 rfl ?_
  have hPc := hP.sub (ws' := [(q1, .inr (1, [.null, .null, .int 0]))]) [3] rfl
  have hDc := hD.sub (ws' := [(q1, .inr (1, [.null, .null, .int 0]))]) [3] (by decide) rfl
  have hKc := hK.sub (tys' := []) [] rfl
  have hFc := va_free (wc := [(q1, .inr (1, [.null, .null, .int 0]))]) hD hS hA [3] rfl
  refine va_callv (va_runI (As := []) (rest := [.ref q1]) ⟨hx, hb, hml, hown, hts⟩ (metX1_init l dC dI q1 H.size) (cwI 0 hts (lw_meth q55) rfl rfl rfl (hts _ q4) (hts _ q53) (hts _ q54) rfl (by decide +kernel) ⟨Nat.le_of_ble_eq_true rfl, Nat.le_of_ble_eq_true rfl⟩) ⟨fun a U g mk q => by obtain ⟨q0, q1, qP, qK, qD⟩ := q; exact ⟨q0, q1, qP, va_K.moved (u := U) (U := U.calling g mk a) (Vm.Alike.refl U.vm) qK, qD⟩, fun U hU hW => ⟨rfl, by rw [hU], by rw [hU]; exact hPc, va_K.moved hW.alike hKc, hDc.weaken (fun _ _ _ _ => trivial)⟩⟩ rfl rfl hl.1 rfl (lv_room (Nat.le_of_ble_eq_true rfl)) dL_law_12 ⟨Nat.le_of_ble_eq_true rfl, Nat.le_of_ble_eq_true rfl⟩) hS (fun q _ h => hFc q h) hFc (fun u t H1 locs ht hvm hw hB hz1 hk1 hS => ?_)
  obtain ⟨n1, g1, cJ, cN, hP1, hK1, hD1⟩ := hB
  rw [ht] at hP1
  have hK1 := va_K.moved hvm.symm hK1
  obtain ⟨hP, hD⟩ := va_join (wr := [(q0, .inr (0, [.ref n0, .ref g0, .int (nI 4)])), (n0, .inl (cI, 8, .inl (fun _ => 0))), (g0, .inl (cB, 253, .inl (fun _ => 0)))]) (w1 := [(q1, .inr (1, [.ref n1, .ref g1, .int (nI 4)])), (n1, .inl (cJ, 8, .inl (fun _ => 0))), (g1, .inl (cN, 253, .inl (fun _ => 0)))]) hP hD [3] [0, 1, 2] rfl rfl (by decide) (by decide) hk1 hFc hP1 hD1
  have hK := (hK.sub (tys' := [(cI, .int), (cB, .byte)]) [0, 1] rfl).app hK1
  generalize H1 = H at hP hS ⊢
  have hP : va_P (dC, dI) vwCl [(q0, .inr (0, [.ref n0, .ref g0, .int (nI 4)])), (n0, .inl (cI, 8, .inl (fun _ => 0))), (g0, .inl (cB, 253, .inl (fun _ => 0))), (q1, .inr (1, [.ref n1, .ref g1, .int (nI 4)])), (n1, .inl (cJ, 8, .inl (fun _ => 0))), (g1, .inl (cN, 253, .inl (fun _ => 0)))] H := hP
  have hD : va_D (fun q : Nat => s.heap.size ≤ q) [(q0, .inr (0, [.ref n0, .ref g0, .int (nI 4)])), (n0, .inl (cI, 8, .inl (fun _ => 0))), (g0, .inl (cB, 253, .inl (fun _ => 0))), (q1, .inr (1, [.ref n1, .ref g1, .int (nI 4)])), (n1, .inl (cJ, 8, .inl (fun _ => 0))), (g1, .inl (cN, 253, .inl (fun _ => 0)))] := hD
  have hK : va_K (dC, dI) vwCl [(cI, .int), (cB, .byte), (cJ, .int), (cN, .int)] s := hK
  refine W.widen (k := 6) (n := 528) (Nat.le_of_ble_eq_true rfl) (Nat.le_of_ble_eq_true rfl) ?_
  refine lv_astore_n (lv' := [(2, .ref q1), (1, .ref q0), (0, .ref b)]) hx hb dL_law_15 rfl hl (by decide) rfl (fun ls hl => ?_)
  refine lv_iconst (v := nI 0) hx hb dL_law_16 (by decide) ?_
  refine lv_istore_n (lv' := [(3, .int (nI 0)), (2, .ref q1), (1, .ref q0), (0, .ref b)]) hx hb dL_law_17 rfl hl (by decide) rfl (fun ls hl => ?_)
  exact wn_law hL C0 (L + 1) 0 (Nat.zero_le L) (by omega) (fun _ => 0) (fun _ => 0) (nI 4) q0 n0 g0 q1 n1 g1 cI cB cJ cN H locs ls 6 528 (Nat.le_of_ble_eq_true rfl) (Nat.le_of_ble_eq_true rfl) wn_ok_0 hK hP hD hS (lv_sub hl [3, 2, 1, 0] rfl)
end
section
set_option maxHeartbeats 4000000 in
theorem lw_walk (l : Launch) (hflags : l.flags = flags0) (b : Addr) (xs : List Int32) : MetFree l x (headSpec (Jvm.Cond.code x code maxLocals ret :: tables_1) room_1) (lw_P b xs) (fun _ _ _ _ _ => True) lw_Q := by
  refine MetFree.of_bodyS (code := code) (maxLocals := maxLocals) (ret := ret) (by decide) ?_ ?_
  · intro args s m h hn
    obtain ⟨meth, c, h1, h2, h3, h4, h5, h6, -, -⟩ := Cond.code_spec hn (atoms_spec (ws := Jvm.Cond.code x code maxLocals ret :: tables_1) h _ List.mem_cons_self)
    exact ⟨meth, c, h1, h2, h3, h4, h5, h6⟩
  · intro p e s m args below meth c s₁ B hml0 hP _
    obtain ⟨rfl, hx, hbd, hgv⟩ := hP
    obtain ⟨scr, harrAt, hlist, hof, hsmall⟩ := hx
    obtain ⟨hcb, hkn, -, -⟩ := State.arrayAt?_spec harrAt
    have hown : s.vm.findClass R_law = some m.cls := findClass_of_methodNamed B.named
    have hts0 : ∀ c ∈ (Jvm.Cond.code x code maxLocals ret :: tables_1), c.before #[Value.ref b] s = true := atoms_spec (ws := Jvm.Cond.code x code maxLocals ret :: tables_1) B.pre
    have hts : ∀ w ∈ lw_tbl, w.before #[Value.ref b] s = true := k2_hts_sels lw_privs (fun w hw => hts0 w (List.mem_cons_of_mem _ hw)) lw_privs_ok
    have hml : c.maxLocals = 4 := B.maxLocals_eq (hts0 _ List.mem_cons_self)
    have X₀ : Stand p l e room_1 s m #[Value.ref b] below meth c s₁ [] 0 0 := Stand.of_body B
    have hh0 : s₁.heap = s.heap := by rw [B.state]; rfl
    have hsz : scr.slots.size = xs.length := by rw [← Array.length_toList, hlist, List.length_map]
    have hval : ∀ j : Nat, j < xs.length → scr.slots[j]? = some (.int (xs.getD j 0)) := fun j hj => by
      rw [← Array.getElem?_toList, hlist]
      simp [hj]
    have hbl : b < s.heap.size := (Array.getElem?_eq_some_iff.mp hcb).1
    have hX : va_X b xs.length (fun j => xs.getD j 0) s s.heap := ⟨scr, hcb, hof, hkn, hsz, hval⟩
    have K : W p l e room_1 s m #[Value.ref b] below meth c s₁.heap [] 0 0 (lw_Z below #[Value.ref b] s) (entryFrame m ([Value.ref b] : List Value).toArray 4) := by
      rw [hh0]
      exact whole_start l hflags hbd ⟨B.exec, B.bytes, B.returns, hml, hown, hts, hX, hbl, B.notSynchronized, hgv⟩
    obtain ⟨t, a1, o, b1, b2, b3⟩ := K s₁ rfl X₀
    exact ⟨t, o, a1, b1, b2, b3⟩
theorem lw_pre_spec {args : Array Value} {s : State} (h : (Jvm.Cond.and given_1 narrow_1).before args s = true) (hr : rest_1_c.before args s = true) : ∃ (b : Addr) (xs : List Int32), lw_P b xs args s := by
  have hs := flat_of_before _ h
  have hq := flat_of_before _ hr
  have hc : (Cond.count 1).before args s = true := hs _ (by decide +kernel)
  have harr : (Cond.arrayOf (.arg 0) .int).before args s = true := hs _ (by decide +kernel)
  have hle : (Cond.le (.length (.arg 0)) (.int 144)).before args s = true := hs _ (by decide +kernel)
  have hlen : (Cond.isInt (.length (.arg 0))).before args s = true := hq _ (by decide +kernel)
  have hall : (Cond.all (.arg 0) (.isInt (.elem (.arg 0) (.index 0)))).before args s = true := hq _ (by decide +kernel)
  obtain ⟨b, xs, hb, hx⟩ := State.ints_of_pre rfl harr hlen hall
  have hsm : xs.length < 2 ^ 31 := hx.choose_spec.2.2.2
  have hev : (Term.length (.arg 0)).eval args s none [] s = some (.int xs.length.toInt32) := hx.length_eval hb
  have hv := Cond.le_ints hev (show (Term.int 144).eval args s none [] s = some (.int 144) from rfl)
  have hd : xs.length.toInt32 ≤ 144 := by
    simpa [Cond.before, Cond.holds, hv] using hle
  have hN : xs.length ≤ 144 := (Int32.ofNat_le_ofNat hsm (by decide)).mp (show Int32.ofNat xs.length ≤ Int32.ofNat 144 from hd)
  exact ⟨b, xs, Cond.one_arg hc (show args[0]? = some (.ref b) from hb), hx, hN, h⟩
theorem lw_comes (l : Launch) (hflags : l.flags = flags0) : Comes l x (Jvm.Cond.code x code maxLocals ret :: tables_1) room_1 (fun tb e args s => Calls_1 tb e args s ∧ rest_1 tb e args s ∧ Pre_1 tb e args s)
    (fun _ _ args s o t => lw_Q args s o t) := by
  intro p e ha hc hk s m args below hf hfit hheap happ hpre
  obtain ⟨b, xs, hP⟩ := lw_pre_spec hpre.2.2 hpre.2.1
  obtain ⟨k, o, h1, h2, h3, hQ⟩ := lw_walk l hflags b xs p e ha hc hk s m args below hf ((Spec.applies_iff_loose hf).mp happ).1 hP trivial
  exact ⟨k, o, h1, h2, h3, hQ⟩
theorem lw_frame {s t : State} {o : Outcome} {args : Array Value} (h : Framed s o t [] 1200000 5502250) :
    Framed s o t (fieldLocs frame_1_writes args s ++ arrayLocs frame_1_arrays args s ++ staticLocs frame_1_statics s) 1200000 5502250 := h
theorem lw_limb (L : Cond) (hL : ∀ (args : Array Value) (s t : State), L.after args s (.returned (some (.int 1))) t = true) :
    ArmFor flags0 classFile x code maxLocals ret World_1 tables_1 room_1 Calls_1 rest_1 Pre_1
      (fun tb e a s o t => postC L tb e a s o t ∧ Framed s o t (fieldLocs frame_1_writes a s ++ arrayLocs frame_1_arrays a s ++ staticLocs frame_1_statics s) 1200000 5502250) := by
  intro l hflags _ _ p e ha hc hk s m args below hf hfit hheap happ hpre
  obtain ⟨k, o, h1, h2, h3, rfl, hF⟩ := lw_comes l hflags p e ha hc hk s m args below hf hfit hheap happ hpre
  exact ⟨k, _, h1, h2, h3, hL args s _, lw_frame hF⟩
theorem i_vc : Claimed_1_1 ∧ Claimed_1_2 := ⟨lw_limb limb_1_1 (fun args s t => by simp [limb_1_1, Cond.after, Cond.holds, Cond.value]), lw_limb limb_1_2 (fun args s t => Cond.after_iff.mpr (by
  first | (rw [show limb_1_2 = Cond.eq .result (.int 1) from rfl, Cond.eq_ints (x := 1) (y := 1) rfl rfl]; simp; done) | (simp [limb_1_2, Cond.value, Term.eval]; done)))⟩
end
