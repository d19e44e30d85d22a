section
-- ===== PART A: goes FIRST, ahead of the names: the tables' words, and 'selects' of the private methods out of them =====
/-- a private method of a class that the tables say can be made, by its rows of tables_1 -/
def lw_okq (q : MethodName × Nat) : Prop := (q.1.cls ≠ "java/lang/invoke/MethodHandle" ∧ q.1.cls ≠ "java/lang/invoke/VarHandle") ∧ Cond.instantiable q.1.cls q.2 ∈ tables_1 ∧ Cond.privateMethod q.1 ∈ tables_1 ∧ Cond.instanceMethod q.1 ∈ tables_1
set_option maxRecDepth 100000
theorem lw_p0 : lw_okq (⟨"HopeMendDeskModel", "told", "(II)I"⟩, 3) := ⟨⟨by decide +kernel, by decide +kernel⟩, List.mem_of_getElem? (i := 79) rfl, List.mem_of_getElem? (i := 116) rfl, List.mem_of_getElem? (i := 117) rfl⟩
def lw_privs_1 : List (MethodName × Nat) := [(⟨"HopeMendDeskModel", "told", "(II)I"⟩, 3)]
theorem lw_r1 : ∀ q ∈ lw_privs_1, lw_okq q := List.forall_mem_cons.mpr ⟨lw_p0, fun _ h => absurd h List.not_mem_nil⟩
def lw_privs : List (MethodName × Nat) := lw_privs_1
def lw_tbl : List Cond := k2_sels lw_privs ++ tables_1
theorem lw_privs_ok : ∀ q ∈ lw_privs, lw_okq q := lw_r1
-- ===== ONE list of words for every method: the tables' words that hold all through a run =====
def lw_all : List Cond := lw_tbl.filter goodWord
/-- a word of the tables by its place: claim/WORDS.tsv -/
theorem lw_w {w : Cond} (i : Nat) (h : lw_tbl[i]? = some w) (g : goodWord w = true) : w ∈ lw_all := List.mem_filter.mpr ⟨List.mem_of_getElem? h, g⟩
theorem lw_all_tbl {w : Cond} (h : w ∈ lw_all) : w ∈ lw_tbl := (List.mem_filter.mp h).1
theorem lw_self : GoodIn lw_all lw_all := fun w h => ⟨h, good_of_word (List.mem_filter.mp h).2⟩
/-- a class's field words, by their places -/
theorem lw_in (ws : List Cond) (ps : List Nat) (hp : ws = ps.filterMap (fun i => lw_tbl[i]?)) (hg : ws.all goodWord = true) : ∀ w ∈ ws, w ∈ lw_all := by
  intro w h
  have h1 := List.all_eq_true.mp hg w h
  rw [hp] at h
  obtain ⟨i, -, hi⟩ := List.mem_filterMap.mp h
  exact lw_w i hi h1
/-- the words of a contract for the method y with code b, L locals, answer r -/
abbrev ws_ (y : MethodName) (b : ByteArray) (L : Nat) (r : Option FieldType) : List Cond := Cond.code y b L r :: lw_all
theorem lw_meth {y : MethodName} {b : ByteArray} {L : Nat} {r : Option FieldType} (h : Cond.code y b L r ∈ lw_all) : GoodIn lw_all (ws_ y b L r) := by
  intro w hw
  rcases List.mem_cons.mp hw with e | e
  · rw [e]
    exact lw_self _ h
  · exact lw_self _ e
theorem lw_app {a c : List Cond} (ha : ∀ w ∈ a, w ∈ lw_all) (hc : GoodIn lw_all c) : GoodIn lw_all (a ++ c) := by
  intro w hw
  rcases List.mem_append.mp hw with e | e
  · exact lw_self w (ha w e)
  · exact hc w e
/-- what a call through an object asks: cwV n hts (lw_V ..) -/
theorem lw_V {own : String} {idx : Nat} {C : String} {y : MethodName} {b : ByteArray} {L : Nat} {r : Option FieldType} (h1 : Cond.methodLink own idx y ∈ lw_all) (h2 : Cond.instanceMethod y ∈ lw_all) (h3 : Cond.selects C y y ∈ lw_all) (h4 : Cond.initialized C ∈ lw_all) (h5 : Cond.code y b L r ∈ lw_all) : GoodIn lw_all (wsV own idx C y (ws_ y b L r)) := by
  refine lw_app ?_ (lw_meth h5)
  intro w hw
  simp only [List.mem_cons, List.not_mem_nil, or_false] at hw
  rcases hw with e | e | e | e
  · rw [e]; exact h1
  · rw [e]; exact h2
  · rw [e]; exact h3
  · rw [e]; exact h4
/-- what a static call asks: va_cwS n hts (lw_S ..) -/
theorem lw_S {own : String} {idx : Nat} {y : MethodName} {b : ByteArray} {L : Nat} {r : Option FieldType} (h1 : Cond.methodLink own idx y ∈ lw_all) (h2 : Cond.static y ∈ lw_all) (h3 : Cond.initialized y.cls ∈ lw_all) (h4 : Cond.code y b L r ∈ lw_all) : GoodIn lw_all (va_wsS own idx y (ws_ y b L r)) := by
  refine lw_app ?_ (lw_meth h4)
  intro w hw
  simp only [List.mem_cons, List.not_mem_nil, or_false] at hw
  rcases hw with e | e | e
  · rw [e]; exact h1
  · rw [e]; exact h2
  · rw [e]; exact h3
/-- the words of a contract for a method WITH HANDLERS (hh: its table) -/
abbrev wsW_ (y : MethodName) (b : ByteArray) (L : Nat) (r : Option FieldType) (hh : List (Nat × Nat × Nat × Nat)) : List Cond := Cond.codeWith y b L r hh :: lw_all
theorem lw_methW {y : MethodName} {b : ByteArray} {L : Nat} {r : Option FieldType} {hh : List (Nat × Nat × Nat × Nat)} (h : Cond.codeWith y b L r hh ∈ lw_all) : GoodIn lw_all (wsW_ y b L r hh) := by
  intro w hw
  rcases List.mem_cons.mp hw with e | e
  · rw [e]
    exact lw_self _ h
  · exact lw_self _ e
/-- any list of words by their places (lw_in), good -/
theorem lw_good {ws : List Cond} (h : ∀ w ∈ ws, w ∈ lw_all) : GoodIn lw_all ws := fun w hw => lw_self w (h w hw)
/-- what a call of a method with handlers asks: vx_cwVW n hts (lw_VW ..), vx_cwSW n hts (lw_SW ..) -/
theorem lw_VW {own : String} {idx : Nat} {C : String} {y : MethodName} {b : ByteArray} {L : Nat} {r : Option FieldType} {hh : List (Nat × Nat × Nat × Nat)} (h1 : Cond.methodLink own idx y ∈ lw_all) (h2 : Cond.instanceMethod y ∈ lw_all) (h3 : Cond.selects C y y ∈ lw_all) (h4 : Cond.initialized C ∈ lw_all) (h5 : Cond.codeWith y b L r hh ∈ lw_all) : GoodIn lw_all (wsV own idx C y (wsW_ y b L r hh)) := by
  refine lw_app ?_ (lw_methW h5)
  intro w hw
  simp only [List.mem_cons, List.not_mem_nil, or_false] at hw
  rcases hw with e | e | e | e
  · rw [e]; exact h1
  · rw [e]; exact h2
  · rw [e]; exact h3
  · rw [e]; exact h4
theorem lw_SW {own : String} {idx : Nat} {y : MethodName} {b : ByteArray} {L : Nat} {r : Option FieldType} {hh : List (Nat × Nat × Nat × Nat)} (h1 : Cond.methodLink own idx y ∈ lw_all) (h2 : Cond.static y ∈ lw_all) (h3 : Cond.initialized y.cls ∈ lw_all) (h4 : Cond.codeWith y b L r hh ∈ lw_all) : GoodIn lw_all (va_wsS own idx y (wsW_ y b L r hh)) := by
  refine lw_app ?_ (lw_methW h4)
  intro w hw
  simp only [List.mem_cons, List.not_mem_nil, or_false] at hw
  rcases hw with e | e | e
  · rw [e]; exact h1
  · rw [e]; exact h2
  · rw [e]; exact h3
/-- a word by its place in its run of the tables -/
theorem lw_at {r : List Cond} (hr : ∀ w ∈ r, w ∈ lw_tbl) {w : Cond} (i : Nat) (h : r[i]? = some w) : w ∈ lw_tbl := hr w (List.mem_of_getElem? h)
theorem lw_g {w : Cond} (h : w ∈ lw_tbl) (g : goodWord w = true) : w ∈ lw_all := List.mem_filter.mpr ⟨h, g⟩
theorem lw_ms : ∀ w ∈ k2_sels lw_privs, w ∈ lw_tbl := fun w h => show w ∈ k2_sels lw_privs ++ tables_1 from List.mem_append_left _ h
theorem lw_m0 : ∀ w ∈ tables_1, w ∈ lw_tbl := fun w h => show w ∈ k2_sels lw_privs ++ tables_1 from List.mem_append_right (k2_sels lw_privs) h
theorem qs0 : (Cond.selects "HopeMendDeskModel" ⟨"HopeMendDeskModel", "told", "(II)I"⟩ ⟨"HopeMendDeskModel", "told", "(II)I"⟩) ∈ lw_all := lw_g (lw_at lw_ms 0 rfl) rfl
end
section
/-! DECODE ROWS BY BYTES: one lemma an opcode; a method's code is cut into short pieces once, and a row reads its own piece alone. -/
set_option maxRecDepth 100000
/-- the code has just these bytes from pc on -/
def DkAt (code : ByteArray) (pc : Nat) (bs : List UInt8) : Prop := ∀ (j : Nat) (b : UInt8), bs[j]? = some b → code.data.toList[pc + j]? = some b
/-- the piece W has the bytes bs from its place j on -/
def dkIn (W : List UInt8) (j : Nat) (bs : List UInt8) : Bool := decide ((W.drop j).take bs.length = bs)
theorem dk_seg {l W T : List UInt8} {o o2 : Nat} (h : l.drop o = W ++ T) (n : Nat) (hn : W.length = n) (ho : o + n = o2) : l.drop o2 = T := by
  subst ho
  rw [← List.drop_drop, h, List.drop_left' hn]
theorem dk_at {code : ByteArray} {W T bs : List UInt8} {o pc : Nat} (h : code.data.toList.drop o = W ++ T) (j : Nat) (hp : o + j = pc) (hw : dkIn W j bs = true) : DkAt code pc bs := by
  subst hp
  intro i b e
  have h1 := of_decide_eq_true hw
  have h2 : i < bs.length := (List.getElem?_eq_some_iff.mp e).1
  have h3 : W[j + i]? = some b := by
    rw [← h1, List.getElem?_take, if_pos h2, List.getElem?_drop] at e
    exact e
  have h4 : j + i < W.length := (List.getElem?_eq_some_iff.mp h3).1
  have h5 : (code.data.toList.drop o)[j + i]? = some b := by
    rw [h, List.getElem?_append_left h4]
    exact h3
  rw [List.getElem?_drop, ← Nat.add_assoc] at h5
  exact h5
theorem dk_u1 {A : ByteArray} {p : Nat} {b : UInt8} (h : A.data.toList[p]? = some b) : (Reader.u1 : Reader DecodeError Nat) A p = .ok (b.toNat, p + 1) := by
  obtain ⟨h1, h2⟩ := List.getElem?_eq_some_iff.mp h
  have h3 : p < A.size := by simpa using h1
  have h4 : A[p]'h3 = b := h2
  have e : (Reader.u1 : Reader DecodeError Nat) A p = (if h : p < A.size then .ok (A[p].toNat, p + 1) else .error (HasTruncated.truncated p)) := by
    show (do if h : p < A.size then do set (p + 1); Pure.pure A[p].toNat else MonadExcept.throw (HasTruncated.truncated p) : Reader DecodeError Nat) A p = _
    by_cases hi : p < A.size
    · rw [dif_pos hi, dif_pos hi]; rfl
    · rw [dif_neg hi, dif_neg hi]; rfl
  rw [e, dif_pos h3, h4]
theorem dk_bind {α β : Type} {r : Reader DecodeError α} {f : α → Reader DecodeError β} {A : ByteArray} {p s : Nat} {a : α} (h : r A p = .ok (a, s)) : (r >>= f) A p = f a A s := by
  show (do let (a, s) ← r A p; f a A s : Except DecodeError (β × Nat)) = _
  rw [h]
  rfl
theorem dk_map {α β : Type} {r : Reader DecodeError α} {g : α → β} {A : ByteArray} {p s : Nat} {a : α} (h : r A p = .ok (a, s)) : (g <$> r) A p = .ok (g a, s) := by
  show (do let (a, s) ← r A p; .ok (g a, s) : Except DecodeError (β × Nat)) = _
  rw [h]
  rfl
theorem dk_u2 {A : ByteArray} {p : Nat} {a b : UInt8} (h : A.data.toList[p]? = some a) (h2 : A.data.toList[p + 1]? = some b) : (Reader.u2 : Reader DecodeError Nat) A p = .ok (a.toNat * 256 + b.toNat, p + 2) := by
  show (Reader.u1 >>= fun hi => Reader.u1 >>= fun lo => Pure.pure (hi * 256 + lo) : Reader DecodeError Nat) A p = _
  rw [dk_bind (dk_u1 h), dk_bind (dk_u1 h2)]
  rfl
theorem dk_of {code : ByteArray} {pc n : Nat} {i : Instr} (h : Decoder.instr pc code pc = .ok (i, pc + n)) : decode code pc = .ok (i, n) := by
  have e : decode code pc = (match Decoder.instr pc code pc with | .error x => .error x | .ok (j, s) => .ok (j, s - pc)) := by
    show (do let (j, s) ← Decoder.instr pc code pc; Pure.pure (j, s - pc) : Except DecodeError (Instr × Nat)) = _
    cases Decoder.instr pc code pc <;> rfl
  rw [e, h]
  show Except.ok (i, pc + n - pc) = _
  rw [Nat.add_sub_cancel_left]
theorem dk_3 {code : ByteArray} {pc : Nat} (h : DkAt code pc [3]) : decode code pc = .ok (.iconst 0, 1) := dk_of ((dk_bind (dk_u1 (h 0 _ rfl))).trans rfl)
theorem dk_4 {code : ByteArray} {pc : Nat} (h : DkAt code pc [4]) : decode code pc = .ok (.iconst 1, 1) := dk_of ((dk_bind (dk_u1 (h 0 _ rfl))).trans rfl)
theorem dk_5 {code : ByteArray} {pc : Nat} (h : DkAt code pc [5]) : decode code pc = .ok (.iconst 2, 1) := dk_of ((dk_bind (dk_u1 (h 0 _ rfl))).trans rfl)
theorem dk_6 {code : ByteArray} {pc : Nat} (h : DkAt code pc [6]) : decode code pc = .ok (.iconst 3, 1) := dk_of ((dk_bind (dk_u1 (h 0 _ rfl))).trans rfl)
theorem dk_7 {code : ByteArray} {pc : Nat} (h : DkAt code pc [7]) : decode code pc = .ok (.iconst 4, 1) := dk_of ((dk_bind (dk_u1 (h 0 _ rfl))).trans rfl)
theorem dk_16 {code : ByteArray} {pc : Nat} (a : UInt8) (h : DkAt code pc [16, a]) : decode code pc = .ok (.bipush (Reader.signed 8 a.toNat), 2) := dk_of ((dk_bind (dk_u1 (h 0 _ rfl))).trans ((dk_bind (dk_map (dk_u1 (h 1 _ rfl)))).trans rfl))
theorem dk_17 {code : ByteArray} {pc : Nat} (a b : UInt8) (h : DkAt code pc [17, a, b]) : decode code pc = .ok (.sipush (Reader.signed 16 (a.toNat * 256 + b.toNat)), 3) := dk_of ((dk_bind (dk_u1 (h 0 _ rfl))).trans ((dk_bind (dk_map (dk_u2 (h 1 _ rfl) (h 2 _ rfl)))).trans rfl))
theorem dk_18 {code : ByteArray} {pc : Nat} (a : UInt8) (h : DkAt code pc [18, a]) : decode code pc = .ok (.ldc a.toNat, 2) := dk_of ((dk_bind (dk_u1 (h 0 _ rfl))).trans ((dk_bind (dk_u1 (h 1 _ rfl))).trans rfl))
theorem dk_21 {code : ByteArray} {pc : Nat} (a : UInt8) (h : DkAt code pc [21, a]) : decode code pc = .ok (.iload a.toNat, 2) := dk_of ((dk_bind (dk_u1 (h 0 _ rfl))).trans ((dk_bind (dk_u1 (h 1 _ rfl))).trans rfl))
theorem dk_26 {code : ByteArray} {pc : Nat} (h : DkAt code pc [26]) : decode code pc = .ok (.iload_n 0, 1) := dk_of ((dk_bind (dk_u1 (h 0 _ rfl))).trans rfl)
theorem dk_27 {code : ByteArray} {pc : Nat} (h : DkAt code pc [27]) : decode code pc = .ok (.iload_n 1, 1) := dk_of ((dk_bind (dk_u1 (h 0 _ rfl))).trans rfl)
theorem dk_28 {code : ByteArray} {pc : Nat} (h : DkAt code pc [28]) : decode code pc = .ok (.iload_n 2, 1) := dk_of ((dk_bind (dk_u1 (h 0 _ rfl))).trans rfl)
theorem dk_29 {code : ByteArray} {pc : Nat} (h : DkAt code pc [29]) : decode code pc = .ok (.iload_n 3, 1) := dk_of ((dk_bind (dk_u1 (h 0 _ rfl))).trans rfl)
theorem dk_42 {code : ByteArray} {pc : Nat} (h : DkAt code pc [42]) : decode code pc = .ok (.aload_n 0, 1) := dk_of ((dk_bind (dk_u1 (h 0 _ rfl))).trans rfl)
theorem dk_43 {code : ByteArray} {pc : Nat} (h : DkAt code pc [43]) : decode code pc = .ok (.aload_n 1, 1) := dk_of ((dk_bind (dk_u1 (h 0 _ rfl))).trans rfl)
theorem dk_44 {code : ByteArray} {pc : Nat} (h : DkAt code pc [44]) : decode code pc = .ok (.aload_n 2, 1) := dk_of ((dk_bind (dk_u1 (h 0 _ rfl))).trans rfl)
theorem dk_45 {code : ByteArray} {pc : Nat} (h : DkAt code pc [45]) : decode code pc = .ok (.aload_n 3, 1) := dk_of ((dk_bind (dk_u1 (h 0 _ rfl))).trans rfl)
theorem dk_46 {code : ByteArray} {pc : Nat} (h : DkAt code pc [46]) : decode code pc = .ok (.iaload, 1) := dk_of ((dk_bind (dk_u1 (h 0 _ rfl))).trans rfl)
theorem dk_51 {code : ByteArray} {pc : Nat} (h : DkAt code pc [51]) : decode code pc = .ok (.baload, 1) := dk_of ((dk_bind (dk_u1 (h 0 _ rfl))).trans rfl)
theorem dk_53 {code : ByteArray} {pc : Nat} (h : DkAt code pc [53]) : decode code pc = .ok (.saload, 1) := dk_of ((dk_bind (dk_u1 (h 0 _ rfl))).trans rfl)
theorem dk_54 {code : ByteArray} {pc : Nat} (a : UInt8) (h : DkAt code pc [54, a]) : decode code pc = .ok (.istore a.toNat, 2) := dk_of ((dk_bind (dk_u1 (h 0 _ rfl))).trans ((dk_bind (dk_u1 (h 1 _ rfl))).trans rfl))
theorem dk_60 {code : ByteArray} {pc : Nat} (h : DkAt code pc [60]) : decode code pc = .ok (.istore_n 1, 1) := dk_of ((dk_bind (dk_u1 (h 0 _ rfl))).trans rfl)
theorem dk_61 {code : ByteArray} {pc : Nat} (h : DkAt code pc [61]) : decode code pc = .ok (.istore_n 2, 1) := dk_of ((dk_bind (dk_u1 (h 0 _ rfl))).trans rfl)
theorem dk_62 {code : ByteArray} {pc : Nat} (h : DkAt code pc [62]) : decode code pc = .ok (.istore_n 3, 1) := dk_of ((dk_bind (dk_u1 (h 0 _ rfl))).trans rfl)
theorem dk_76 {code : ByteArray} {pc : Nat} (h : DkAt code pc [76]) : decode code pc = .ok (.astore_n 1, 1) := dk_of ((dk_bind (dk_u1 (h 0 _ rfl))).trans rfl)
theorem dk_77 {code : ByteArray} {pc : Nat} (h : DkAt code pc [77]) : decode code pc = .ok (.astore_n 2, 1) := dk_of ((dk_bind (dk_u1 (h 0 _ rfl))).trans rfl)
theorem dk_78 {code : ByteArray} {pc : Nat} (h : DkAt code pc [78]) : decode code pc = .ok (.astore_n 3, 1) := dk_of ((dk_bind (dk_u1 (h 0 _ rfl))).trans rfl)
theorem dk_79 {code : ByteArray} {pc : Nat} (h : DkAt code pc [79]) : decode code pc = .ok (.iastore, 1) := dk_of ((dk_bind (dk_u1 (h 0 _ rfl))).trans rfl)
theorem dk_84 {code : ByteArray} {pc : Nat} (h : DkAt code pc [84]) : decode code pc = .ok (.bastore, 1) := dk_of ((dk_bind (dk_u1 (h 0 _ rfl))).trans rfl)
theorem dk_86 {code : ByteArray} {pc : Nat} (h : DkAt code pc [86]) : decode code pc = .ok (.sastore, 1) := dk_of ((dk_bind (dk_u1 (h 0 _ rfl))).trans rfl)
theorem dk_89 {code : ByteArray} {pc : Nat} (h : DkAt code pc [89]) : decode code pc = .ok (.dup, 1) := dk_of ((dk_bind (dk_u1 (h 0 _ rfl))).trans rfl)
theorem dk_92 {code : ByteArray} {pc : Nat} (h : DkAt code pc [92]) : decode code pc = .ok (.dup2, 1) := dk_of ((dk_bind (dk_u1 (h 0 _ rfl))).trans rfl)
theorem dk_96 {code : ByteArray} {pc : Nat} (h : DkAt code pc [96]) : decode code pc = .ok (.iadd, 1) := dk_of ((dk_bind (dk_u1 (h 0 _ rfl))).trans rfl)
theorem dk_100 {code : ByteArray} {pc : Nat} (h : DkAt code pc [100]) : decode code pc = .ok (.isub, 1) := dk_of ((dk_bind (dk_u1 (h 0 _ rfl))).trans rfl)
theorem dk_104 {code : ByteArray} {pc : Nat} (h : DkAt code pc [104]) : decode code pc = .ok (.imul, 1) := dk_of ((dk_bind (dk_u1 (h 0 _ rfl))).trans rfl)
theorem dk_112 {code : ByteArray} {pc : Nat} (h : DkAt code pc [112]) : decode code pc = .ok (.irem, 1) := dk_of ((dk_bind (dk_u1 (h 0 _ rfl))).trans rfl)
theorem dk_120 {code : ByteArray} {pc : Nat} (h : DkAt code pc [120]) : decode code pc = .ok (.ishl, 1) := dk_of ((dk_bind (dk_u1 (h 0 _ rfl))).trans rfl)
theorem dk_122 {code : ByteArray} {pc : Nat} (h : DkAt code pc [122]) : decode code pc = .ok (.ishr, 1) := dk_of ((dk_bind (dk_u1 (h 0 _ rfl))).trans rfl)
theorem dk_124 {code : ByteArray} {pc : Nat} (h : DkAt code pc [124]) : decode code pc = .ok (.iushr, 1) := dk_of ((dk_bind (dk_u1 (h 0 _ rfl))).trans rfl)
theorem dk_126 {code : ByteArray} {pc : Nat} (h : DkAt code pc [126]) : decode code pc = .ok (.iand, 1) := dk_of ((dk_bind (dk_u1 (h 0 _ rfl))).trans rfl)
theorem dk_128 {code : ByteArray} {pc : Nat} (h : DkAt code pc [128]) : decode code pc = .ok (.ior, 1) := dk_of ((dk_bind (dk_u1 (h 0 _ rfl))).trans rfl)
theorem dk_130 {code : ByteArray} {pc : Nat} (h : DkAt code pc [130]) : decode code pc = .ok (.ixor, 1) := dk_of ((dk_bind (dk_u1 (h 0 _ rfl))).trans rfl)
theorem dk_132 {code : ByteArray} {pc : Nat} (a b : UInt8) (h : DkAt code pc [132, a, b]) : decode code pc = .ok (.iinc a.toNat (Reader.signed 8 b.toNat), 3) := dk_of ((dk_bind (dk_u1 (h 0 _ rfl))).trans ((dk_bind (dk_u1 (h 1 _ rfl))).trans ((dk_bind (dk_map (dk_u1 (h 2 _ rfl)))).trans rfl)))
theorem dk_145 {code : ByteArray} {pc : Nat} (h : DkAt code pc [145]) : decode code pc = .ok (.i2b, 1) := dk_of ((dk_bind (dk_u1 (h 0 _ rfl))).trans rfl)
theorem dk_147 {code : ByteArray} {pc : Nat} (h : DkAt code pc [147]) : decode code pc = .ok (.i2s, 1) := dk_of ((dk_bind (dk_u1 (h 0 _ rfl))).trans rfl)
theorem dk_155 {code : ByteArray} {pc : Nat} (a b : UInt8) (h : DkAt code pc [155, a, b]) : decode code pc = .ok (.ifCond .lt (Reader.signed 16 (a.toNat * 256 + b.toNat)), 3) := dk_of ((dk_bind (dk_u1 (h 0 _ rfl))).trans ((dk_bind (dk_map (dk_u2 (h 1 _ rfl) (h 2 _ rfl)))).trans rfl))
theorem dk_159 {code : ByteArray} {pc : Nat} (a b : UInt8) (h : DkAt code pc [159, a, b]) : decode code pc = .ok (.if_icmp .eq (Reader.signed 16 (a.toNat * 256 + b.toNat)), 3) := dk_of ((dk_bind (dk_u1 (h 0 _ rfl))).trans ((dk_bind (dk_map (dk_u2 (h 1 _ rfl) (h 2 _ rfl)))).trans rfl))
theorem dk_160 {code : ByteArray} {pc : Nat} (a b : UInt8) (h : DkAt code pc [160, a, b]) : decode code pc = .ok (.if_icmp .ne (Reader.signed 16 (a.toNat * 256 + b.toNat)), 3) := dk_of ((dk_bind (dk_u1 (h 0 _ rfl))).trans ((dk_bind (dk_map (dk_u2 (h 1 _ rfl) (h 2 _ rfl)))).trans rfl))
theorem dk_162 {code : ByteArray} {pc : Nat} (a b : UInt8) (h : DkAt code pc [162, a, b]) : decode code pc = .ok (.if_icmp .ge (Reader.signed 16 (a.toNat * 256 + b.toNat)), 3) := dk_of ((dk_bind (dk_u1 (h 0 _ rfl))).trans ((dk_bind (dk_map (dk_u2 (h 1 _ rfl) (h 2 _ rfl)))).trans rfl))
theorem dk_163 {code : ByteArray} {pc : Nat} (a b : UInt8) (h : DkAt code pc [163, a, b]) : decode code pc = .ok (.if_icmp .gt (Reader.signed 16 (a.toNat * 256 + b.toNat)), 3) := dk_of ((dk_bind (dk_u1 (h 0 _ rfl))).trans ((dk_bind (dk_map (dk_u2 (h 1 _ rfl) (h 2 _ rfl)))).trans rfl))
theorem dk_167 {code : ByteArray} {pc : Nat} (a b : UInt8) (h : DkAt code pc [167, a, b]) : decode code pc = .ok (.goto (Reader.signed 16 (a.toNat * 256 + b.toNat)), 3) := dk_of ((dk_bind (dk_u1 (h 0 _ rfl))).trans ((dk_bind (dk_map (dk_u2 (h 1 _ rfl) (h 2 _ rfl)))).trans rfl))
theorem dk_172 {code : ByteArray} {pc : Nat} (h : DkAt code pc [172]) : decode code pc = .ok (.ireturn, 1) := dk_of ((dk_bind (dk_u1 (h 0 _ rfl))).trans rfl)
theorem dk_177 {code : ByteArray} {pc : Nat} (h : DkAt code pc [177]) : decode code pc = .ok (.return_, 1) := dk_of ((dk_bind (dk_u1 (h 0 _ rfl))).trans rfl)
theorem dk_180 {code : ByteArray} {pc : Nat} (a b : UInt8) (h : DkAt code pc [180, a, b]) : decode code pc = .ok (.getfield (a.toNat * 256 + b.toNat), 3) := dk_of ((dk_bind (dk_u1 (h 0 _ rfl))).trans ((dk_bind (dk_u2 (h 1 _ rfl) (h 2 _ rfl))).trans rfl))
theorem dk_181 {code : ByteArray} {pc : Nat} (a b : UInt8) (h : DkAt code pc [181, a, b]) : decode code pc = .ok (.putfield (a.toNat * 256 + b.toNat), 3) := dk_of ((dk_bind (dk_u1 (h 0 _ rfl))).trans ((dk_bind (dk_u2 (h 1 _ rfl) (h 2 _ rfl))).trans rfl))
theorem dk_182 {code : ByteArray} {pc : Nat} (a b : UInt8) (h : DkAt code pc [182, a, b]) : decode code pc = .ok (.invokevirtual (a.toNat * 256 + b.toNat), 3) := dk_of ((dk_bind (dk_u1 (h 0 _ rfl))).trans ((dk_bind (dk_u2 (h 1 _ rfl) (h 2 _ rfl))).trans rfl))
theorem dk_183 {code : ByteArray} {pc : Nat} (a b : UInt8) (h : DkAt code pc [183, a, b]) : decode code pc = .ok (.invokespecial (a.toNat * 256 + b.toNat), 3) := dk_of ((dk_bind (dk_u1 (h 0 _ rfl))).trans ((dk_bind (dk_u2 (h 1 _ rfl) (h 2 _ rfl))).trans rfl))
theorem dk_184 {code : ByteArray} {pc : Nat} (a b : UInt8) (h : DkAt code pc [184, a, b]) : decode code pc = .ok (.invokestatic (a.toNat * 256 + b.toNat), 3) := dk_of ((dk_bind (dk_u1 (h 0 _ rfl))).trans ((dk_bind (dk_u2 (h 1 _ rfl) (h 2 _ rfl))).trans rfl))
theorem dk_187 {code : ByteArray} {pc : Nat} (a b : UInt8) (h : DkAt code pc [187, a, b]) : decode code pc = .ok (.new (a.toNat * 256 + b.toNat), 3) := dk_of ((dk_bind (dk_u1 (h 0 _ rfl))).trans ((dk_bind (dk_u2 (h 1 _ rfl) (h 2 _ rfl))).trans rfl))
theorem dk_188_8 {code : ByteArray} {pc : Nat} (h : DkAt code pc [188, 8]) : decode code pc = .ok (.newarray .byte, 2) := dk_of ((dk_bind (dk_u1 (h 0 _ rfl))).trans ((dk_bind (dk_u1 (h 1 _ rfl))).trans rfl))
theorem dk_188_9 {code : ByteArray} {pc : Nat} (h : DkAt code pc [188, 9]) : decode code pc = .ok (.newarray .short, 2) := dk_of ((dk_bind (dk_u1 (h 0 _ rfl))).trans ((dk_bind (dk_u1 (h 1 _ rfl))).trans rfl))
theorem dk_188_10 {code : ByteArray} {pc : Nat} (h : DkAt code pc [188, 10]) : decode code pc = .ok (.newarray .int, 2) := dk_of ((dk_bind (dk_u1 (h 0 _ rfl))).trans ((dk_bind (dk_u1 (h 1 _ rfl))).trans rfl))
theorem dk_190 {code : ByteArray} {pc : Nat} (h : DkAt code pc [190]) : decode code pc = .ok (.arraylength, 1) := dk_of ((dk_bind (dk_u1 (h 0 _ rfl))).trans rfl)
/-! java/util/Arrays -/
set_option maxRecDepth 100000
def RJ0 : String := "java/util/Arrays"
abbrev cJ0_fill : ByteArray := prog_7_method_109_code
def yJ0_fill : MethodName := ⟨RJ0, "fill", "([BB)V"⟩
def dkwJ0_fill_0 : List UInt8 := [3, 61, 42, 190, 62, 28, 29, 162, 0, 13, 42, 28, 27, 84, 132, 2, 1, 167, 255, 244, 177]
abbrev dktJ0_fill_0 : List UInt8 := dkwJ0_fill_0 ++ []
theorem dksJ0_fill_0 : cJ0_fill.data.toList.drop 0 = dktJ0_fill_0 := by decide +kernel
theorem dJ0_fill_0 : decode cJ0_fill 0 = .ok (.iconst 0, 1) := dk_3 (dk_at dksJ0_fill_0 0 rfl rfl)
theorem dJ0_fill_1 : decode cJ0_fill 1 = .ok (.istore_n 2, 1) := dk_61 (dk_at dksJ0_fill_0 1 rfl rfl)
theorem dJ0_fill_2 : decode cJ0_fill 2 = .ok (.aload_n 0, 1) := dk_42 (dk_at dksJ0_fill_0 2 rfl rfl)
theorem dJ0_fill_3 : decode cJ0_fill 3 = .ok (.arraylength, 1) := dk_190 (dk_at dksJ0_fill_0 3 rfl rfl)
theorem dJ0_fill_4 : decode cJ0_fill 4 = .ok (.istore_n 3, 1) := dk_62 (dk_at dksJ0_fill_0 4 rfl rfl)
theorem dJ0_fill_5 : decode cJ0_fill 5 = .ok (.iload_n 2, 1) := dk_28 (dk_at dksJ0_fill_0 5 rfl rfl)
theorem dJ0_fill_6 : decode cJ0_fill 6 = .ok (.iload_n 3, 1) := dk_29 (dk_at dksJ0_fill_0 6 rfl rfl)
theorem dJ0_fill_7 : decode cJ0_fill 7 = .ok (.if_icmp .ge 13, 3) := dk_162 0 13 (dk_at dksJ0_fill_0 7 rfl rfl)
theorem dJ0_fill_10 : decode cJ0_fill 10 = .ok (.aload_n 0, 1) := dk_42 (dk_at dksJ0_fill_0 10 rfl rfl)
theorem dJ0_fill_11 : decode cJ0_fill 11 = .ok (.iload_n 2, 1) := dk_28 (dk_at dksJ0_fill_0 11 rfl rfl)
theorem dJ0_fill_12 : decode cJ0_fill 12 = .ok (.iload_n 1, 1) := dk_27 (dk_at dksJ0_fill_0 12 rfl rfl)
theorem dJ0_fill_13 : decode cJ0_fill 13 = .ok (.bastore, 1) := dk_84 (dk_at dksJ0_fill_0 13 rfl rfl)
theorem dJ0_fill_14 : decode cJ0_fill 14 = .ok (.iinc 2 1, 3) := dk_132 2 1 (dk_at dksJ0_fill_0 14 rfl rfl)
theorem dJ0_fill_17 : decode cJ0_fill 17 = .ok (.goto (-12), 3) := dk_167 255 244 (dk_at dksJ0_fill_0 17 rfl rfl)
theorem dJ0_fill_20 : decode cJ0_fill 20 = .ok (.return_, 1) := dk_177 (dk_at dksJ0_fill_0 20 rfl rfl)
theorem q6 : (Jvm.Cond.initialized "java/util/Arrays") ∈ lw_all := lw_g (lw_at lw_m0 5 rfl) rfl
theorem q55 : (Jvm.Cond.static ({ cls := "java/util/Arrays", name := "fill", desc := "([BB)V" } : Jvm.MethodName)) ∈ lw_all := lw_g (lw_at lw_m0 54 rfl) rfl
theorem q56 : (Jvm.Cond.code ({ cls := "java/util/Arrays", name := "fill", desc := "([BB)V" } : Jvm.MethodName) prog_7_method_109_code (4 : Nat) (Option.none : Option Jvm.ClassFile.FieldType)) ∈ lw_all := lw_g (lw_at lw_m0 55 rfl) rfl
/-! java/lang/Object -/
set_option maxRecDepth 100000
def RJ1 : String := "java/lang/Object"
abbrev cJ1_init : ByteArray := object_method_1_code
def yJ1_init : MethodName := ⟨RJ1, "<init>", "()V"⟩
theorem dJ1_init_0 : decode cJ1_init 0 = .ok (.return_, 1) := by decide +kernel
theorem q13 : (Jvm.Cond.instanceMethod ({ cls := "java/lang/Object", name := "<init>", desc := "()V" } : Jvm.MethodName)) ∈ lw_all := lw_g (lw_at lw_m0 12 rfl) rfl
theorem q14 : (Jvm.Cond.code ({ cls := "java/lang/Object", name := "<init>", desc := "()V" } : Jvm.MethodName) object_method_1_code (1 : Nat) (Option.none : Option Jvm.ClassFile.FieldType)) ∈ lw_all := lw_g (lw_at lw_m0 13 rfl) rfl
/-! HopeMendDesk -/
set_option maxRecDepth 100000
def RX0 : String := "HopeMendDesk"
def TX0 : u_T := fun k => match k with
  | 0 => ("HopeMendDesk", "row", "[S", true)
  | 1 => ("HopeMendDesk", "help", "[S", true)
  | _ => ("HopeMendDesk", "key", "[B", false)
def tyX0 : Nat → FieldType := fun k => match k with
  | 0 => .array .short
  | 1 => .array .short
  | _ => .array .byte
abbrev wsX00 : List Cond := u_ws RX0 TX0 3
theorem nmX0 : ∀ a, a < 3 → ∀ b, b < 3 → a ≠ b → (TX0 a).2.1 ≠ (TX0 b).2.1 := by decide +kernel
theorem tyX0_ok : ∀ k, k < 3 → parseFieldDescriptor (TX0 k).2.2.1 = some (tyX0 k) := by decide +kernel
abbrev cX0_init : ByteArray := prog_2_method_1_code
def yX0_init : MethodName := ⟨RX0, "<init>", "()V"⟩
def dkwX0_init_1 : List UInt8 := [16, 32, 188, 8, 181, 0, 16, 177]
abbrev dktX0_init_1 : List UInt8 := dkwX0_init_1 ++ []
def dkwX0_init_0 : List UInt8 := [42, 183, 0, 1, 42, 17, 4, 0, 188, 9, 181, 0, 7, 42, 17, 4, 0, 188, 9, 181, 0, 13, 42]
abbrev dktX0_init_0 : List UInt8 := dkwX0_init_0 ++ dktX0_init_1
theorem dksX0_init_0 : cX0_init.data.toList.drop 0 = dktX0_init_0 := by decide +kernel
theorem dksX0_init_1 : cX0_init.data.toList.drop 23 = dktX0_init_1 := dk_seg dksX0_init_0 23 rfl rfl
theorem dX0_init_0 : decode cX0_init 0 = .ok (.aload_n 0, 1) := dk_42 (dk_at dksX0_init_0 0 rfl rfl)
theorem dX0_init_1 : decode cX0_init 1 = .ok (.invokespecial 1, 3) := dk_183 0 1 (dk_at dksX0_init_0 1 rfl rfl)
theorem dX0_init_4 : decode cX0_init 4 = .ok (.aload_n 0, 1) := dk_42 (dk_at dksX0_init_0 4 rfl rfl)
theorem dX0_init_5 : decode cX0_init 5 = .ok (.sipush 1024, 3) := dk_17 4 0 (dk_at dksX0_init_0 5 rfl rfl)
theorem dX0_init_8 : decode cX0_init 8 = .ok (.newarray .short, 2) := dk_188_9 (dk_at dksX0_init_0 8 rfl rfl)
theorem dX0_init_10 : decode cX0_init 10 = .ok (.putfield 7, 3) := dk_181 0 7 (dk_at dksX0_init_0 10 rfl rfl)
theorem dX0_init_13 : decode cX0_init 13 = .ok (.aload_n 0, 1) := dk_42 (dk_at dksX0_init_0 13 rfl rfl)
theorem dX0_init_14 : decode cX0_init 14 = .ok (.sipush 1024, 3) := dk_17 4 0 (dk_at dksX0_init_0 14 rfl rfl)
theorem dX0_init_17 : decode cX0_init 17 = .ok (.newarray .short, 2) := dk_188_9 (dk_at dksX0_init_0 17 rfl rfl)
theorem dX0_init_19 : decode cX0_init 19 = .ok (.putfield 13, 3) := dk_181 0 13 (dk_at dksX0_init_0 19 rfl rfl)
theorem dX0_init_22 : decode cX0_init 22 = .ok (.aload_n 0, 1) := dk_42 (dk_at dksX0_init_0 22 rfl rfl)
theorem dX0_init_23 : decode cX0_init 23 = .ok (.bipush 32, 2) := dk_16 32 (dk_at dksX0_init_1 0 rfl rfl)
theorem dX0_init_25 : decode cX0_init 25 = .ok (.newarray .byte, 2) := dk_188_8 (dk_at dksX0_init_1 2 rfl rfl)
theorem dX0_init_27 : decode cX0_init 27 = .ok (.putfield 16, 3) := dk_181 0 16 (dk_at dksX0_init_1 4 rfl rfl)
theorem dX0_init_30 : decode cX0_init 30 = .ok (.return_, 1) := dk_177 (dk_at dksX0_init_1 7 rfl rfl)
abbrev cX0_lay : ByteArray := prog_2_method_2_code
def yX0_lay : MethodName := ⟨RX0, "lay", "(III)V"⟩
def dkwX0_lay_3 : List UInt8 := [167, 255, 217, 177]
abbrev dktX0_lay_3 : List UInt8 := dkwX0_lay_3 ++ []
def dkwX0_lay_2 : List UInt8 := [17, 3, 255, 126, 21, 4, 147, 86, 21, 4, 21, 5, 96, 17, 48, 1, 112, 54, 4, 132, 7, 1]
abbrev dktX0_lay_2 : List UInt8 := dkwX0_lay_2 ++ dktX0_lay_3
def dkwX0_lay_1 : List UInt8 := [126, 54, 6, 3, 54, 7, 21, 7, 17, 0, 128, 162, 0, 37, 42, 180, 0, 7, 21, 6, 21, 7, 96]
abbrev dktX0_lay_1 : List UInt8 := dkwX0_lay_1 ++ dktX0_lay_2
def dkwX0_lay_0 : List UInt8 := [27, 18, 20, 126, 17, 48, 1, 112, 54, 4, 28, 18, 20, 126, 17, 48, 1, 112, 54, 5, 29, 17, 3, 255]
abbrev dktX0_lay_0 : List UInt8 := dkwX0_lay_0 ++ dktX0_lay_1
theorem dksX0_lay_0 : cX0_lay.data.toList.drop 0 = dktX0_lay_0 := by decide +kernel
theorem dksX0_lay_1 : cX0_lay.data.toList.drop 24 = dktX0_lay_1 := dk_seg dksX0_lay_0 24 rfl rfl
theorem dksX0_lay_2 : cX0_lay.data.toList.drop 47 = dktX0_lay_2 := dk_seg dksX0_lay_1 23 rfl rfl
theorem dksX0_lay_3 : cX0_lay.data.toList.drop 69 = dktX0_lay_3 := dk_seg dksX0_lay_2 22 rfl rfl
theorem dX0_lay_0 : decode cX0_lay 0 = .ok (.iload_n 1, 1) := dk_27 (dk_at dksX0_lay_0 0 rfl rfl)
theorem dX0_lay_1 : decode cX0_lay 1 = .ok (.ldc 20, 2) := dk_18 20 (dk_at dksX0_lay_0 1 rfl rfl)
theorem dX0_lay_3 : decode cX0_lay 3 = .ok (.iand, 1) := dk_126 (dk_at dksX0_lay_0 3 rfl rfl)
theorem dX0_lay_4 : decode cX0_lay 4 = .ok (.sipush 12289, 3) := dk_17 48 1 (dk_at dksX0_lay_0 4 rfl rfl)
theorem dX0_lay_7 : decode cX0_lay 7 = .ok (.irem, 1) := dk_112 (dk_at dksX0_lay_0 7 rfl rfl)
theorem dX0_lay_8 : decode cX0_lay 8 = .ok (.istore 4, 2) := dk_54 4 (dk_at dksX0_lay_0 8 rfl rfl)
theorem dX0_lay_10 : decode cX0_lay 10 = .ok (.iload_n 2, 1) := dk_28 (dk_at dksX0_lay_0 10 rfl rfl)
theorem dX0_lay_11 : decode cX0_lay 11 = .ok (.ldc 20, 2) := dk_18 20 (dk_at dksX0_lay_0 11 rfl rfl)
theorem dX0_lay_13 : decode cX0_lay 13 = .ok (.iand, 1) := dk_126 (dk_at dksX0_lay_0 13 rfl rfl)
theorem dX0_lay_14 : decode cX0_lay 14 = .ok (.sipush 12289, 3) := dk_17 48 1 (dk_at dksX0_lay_0 14 rfl rfl)
theorem dX0_lay_17 : decode cX0_lay 17 = .ok (.irem, 1) := dk_112 (dk_at dksX0_lay_0 17 rfl rfl)
theorem dX0_lay_18 : decode cX0_lay 18 = .ok (.istore 5, 2) := dk_54 5 (dk_at dksX0_lay_0 18 rfl rfl)
theorem dX0_lay_20 : decode cX0_lay 20 = .ok (.iload_n 3, 1) := dk_29 (dk_at dksX0_lay_0 20 rfl rfl)
theorem dX0_lay_21 : decode cX0_lay 21 = .ok (.sipush 1023, 3) := dk_17 3 255 (dk_at dksX0_lay_0 21 rfl rfl)
theorem dX0_lay_24 : decode cX0_lay 24 = .ok (.iand, 1) := dk_126 (dk_at dksX0_lay_1 0 rfl rfl)
theorem dX0_lay_25 : decode cX0_lay 25 = .ok (.istore 6, 2) := dk_54 6 (dk_at dksX0_lay_1 1 rfl rfl)
theorem dX0_lay_27 : decode cX0_lay 27 = .ok (.iconst 0, 1) := dk_3 (dk_at dksX0_lay_1 3 rfl rfl)
theorem dX0_lay_28 : decode cX0_lay 28 = .ok (.istore 7, 2) := dk_54 7 (dk_at dksX0_lay_1 4 rfl rfl)
theorem dX0_lay_30 : decode cX0_lay 30 = .ok (.iload 7, 2) := dk_21 7 (dk_at dksX0_lay_1 6 rfl rfl)
theorem dX0_lay_32 : decode cX0_lay 32 = .ok (.sipush 128, 3) := dk_17 0 128 (dk_at dksX0_lay_1 8 rfl rfl)
theorem dX0_lay_35 : decode cX0_lay 35 = .ok (.if_icmp .ge 37, 3) := dk_162 0 37 (dk_at dksX0_lay_1 11 rfl rfl)
theorem dX0_lay_38 : decode cX0_lay 38 = .ok (.aload_n 0, 1) := dk_42 (dk_at dksX0_lay_1 14 rfl rfl)
theorem dX0_lay_39 : decode cX0_lay 39 = .ok (.getfield 7, 3) := dk_180 0 7 (dk_at dksX0_lay_1 15 rfl rfl)
theorem dX0_lay_42 : decode cX0_lay 42 = .ok (.iload 6, 2) := dk_21 6 (dk_at dksX0_lay_1 18 rfl rfl)
theorem dX0_lay_44 : decode cX0_lay 44 = .ok (.iload 7, 2) := dk_21 7 (dk_at dksX0_lay_1 20 rfl rfl)
theorem dX0_lay_46 : decode cX0_lay 46 = .ok (.iadd, 1) := dk_96 (dk_at dksX0_lay_1 22 rfl rfl)
theorem dX0_lay_47 : decode cX0_lay 47 = .ok (.sipush 1023, 3) := dk_17 3 255 (dk_at dksX0_lay_2 0 rfl rfl)
theorem dX0_lay_50 : decode cX0_lay 50 = .ok (.iand, 1) := dk_126 (dk_at dksX0_lay_2 3 rfl rfl)
theorem dX0_lay_51 : decode cX0_lay 51 = .ok (.iload 4, 2) := dk_21 4 (dk_at dksX0_lay_2 4 rfl rfl)
theorem dX0_lay_53 : decode cX0_lay 53 = .ok (.i2s, 1) := dk_147 (dk_at dksX0_lay_2 6 rfl rfl)
theorem dX0_lay_54 : decode cX0_lay 54 = .ok (.sastore, 1) := dk_86 (dk_at dksX0_lay_2 7 rfl rfl)
theorem dX0_lay_55 : decode cX0_lay 55 = .ok (.iload 4, 2) := dk_21 4 (dk_at dksX0_lay_2 8 rfl rfl)
theorem dX0_lay_57 : decode cX0_lay 57 = .ok (.iload 5, 2) := dk_21 5 (dk_at dksX0_lay_2 10 rfl rfl)
theorem dX0_lay_59 : decode cX0_lay 59 = .ok (.iadd, 1) := dk_96 (dk_at dksX0_lay_2 12 rfl rfl)
theorem dX0_lay_60 : decode cX0_lay 60 = .ok (.sipush 12289, 3) := dk_17 48 1 (dk_at dksX0_lay_2 13 rfl rfl)
theorem dX0_lay_63 : decode cX0_lay 63 = .ok (.irem, 1) := dk_112 (dk_at dksX0_lay_2 16 rfl rfl)
theorem dX0_lay_64 : decode cX0_lay 64 = .ok (.istore 4, 2) := dk_54 4 (dk_at dksX0_lay_2 17 rfl rfl)
theorem dX0_lay_66 : decode cX0_lay 66 = .ok (.iinc 7 1, 3) := dk_132 7 1 (dk_at dksX0_lay_2 19 rfl rfl)
theorem dX0_lay_69 : decode cX0_lay 69 = .ok (.goto (-39), 3) := dk_167 255 217 (dk_at dksX0_lay_3 0 rfl rfl)
theorem dX0_lay_72 : decode cX0_lay 72 = .ok (.return_, 1) := dk_177 (dk_at dksX0_lay_3 3 rfl rfl)
abbrev cX0_set : ByteArray := prog_2_method_3_code
def yX0_set : MethodName := ⟨RX0, "set", "(II)V"⟩
def dkwX0_set_0 : List UInt8 := [42, 180, 0, 7, 27, 17, 3, 255, 126, 28, 18, 20, 126, 17, 48, 1, 112, 147, 86, 177]
abbrev dktX0_set_0 : List UInt8 := dkwX0_set_0 ++ []
theorem dksX0_set_0 : cX0_set.data.toList.drop 0 = dktX0_set_0 := by decide +kernel
theorem dX0_set_0 : decode cX0_set 0 = .ok (.aload_n 0, 1) := dk_42 (dk_at dksX0_set_0 0 rfl rfl)
theorem dX0_set_1 : decode cX0_set 1 = .ok (.getfield 7, 3) := dk_180 0 7 (dk_at dksX0_set_0 1 rfl rfl)
theorem dX0_set_4 : decode cX0_set 4 = .ok (.iload_n 1, 1) := dk_27 (dk_at dksX0_set_0 4 rfl rfl)
theorem dX0_set_5 : decode cX0_set 5 = .ok (.sipush 1023, 3) := dk_17 3 255 (dk_at dksX0_set_0 5 rfl rfl)
theorem dX0_set_8 : decode cX0_set 8 = .ok (.iand, 1) := dk_126 (dk_at dksX0_set_0 8 rfl rfl)
theorem dX0_set_9 : decode cX0_set 9 = .ok (.iload_n 2, 1) := dk_28 (dk_at dksX0_set_0 9 rfl rfl)
theorem dX0_set_10 : decode cX0_set 10 = .ok (.ldc 20, 2) := dk_18 20 (dk_at dksX0_set_0 10 rfl rfl)
theorem dX0_set_12 : decode cX0_set 12 = .ok (.iand, 1) := dk_126 (dk_at dksX0_set_0 12 rfl rfl)
theorem dX0_set_13 : decode cX0_set 13 = .ok (.sipush 12289, 3) := dk_17 48 1 (dk_at dksX0_set_0 13 rfl rfl)
theorem dX0_set_16 : decode cX0_set 16 = .ok (.irem, 1) := dk_112 (dk_at dksX0_set_0 16 rfl rfl)
theorem dX0_set_17 : decode cX0_set 17 = .ok (.i2s, 1) := dk_147 (dk_at dksX0_set_0 17 rfl rfl)
theorem dX0_set_18 : decode cX0_set 18 = .ok (.sastore, 1) := dk_86 (dk_at dksX0_set_0 18 rfl rfl)
theorem dX0_set_19 : decode cX0_set 19 = .ok (.return_, 1) := dk_177 (dk_at dksX0_set_0 19 rfl rfl)
abbrev cX0_help : ByteArray := prog_2_method_4_code
def yX0_help : MethodName := ⟨RX0, "help", "(II)V"⟩
def dkwX0_help_1 : List UInt8 := [17, 3, 255, 126, 28, 5, 29, 104, 124, 6, 126, 147, 86, 132, 3, 1, 167, 255, 220, 177]
abbrev dktX0_help_1 : List UInt8 := dkwX0_help_1 ++ []
def dkwX0_help_0 : List UInt8 := [3, 62, 29, 16, 16, 162, 0, 36, 42, 180, 0, 13, 27, 17, 3, 255, 126, 16, 64, 29, 104, 96]
abbrev dktX0_help_0 : List UInt8 := dkwX0_help_0 ++ dktX0_help_1
theorem dksX0_help_0 : cX0_help.data.toList.drop 0 = dktX0_help_0 := by decide +kernel
theorem dksX0_help_1 : cX0_help.data.toList.drop 22 = dktX0_help_1 := dk_seg dksX0_help_0 22 rfl rfl
theorem dX0_help_0 : decode cX0_help 0 = .ok (.iconst 0, 1) := dk_3 (dk_at dksX0_help_0 0 rfl rfl)
theorem dX0_help_1 : decode cX0_help 1 = .ok (.istore_n 3, 1) := dk_62 (dk_at dksX0_help_0 1 rfl rfl)
theorem dX0_help_2 : decode cX0_help 2 = .ok (.iload_n 3, 1) := dk_29 (dk_at dksX0_help_0 2 rfl rfl)
theorem dX0_help_3 : decode cX0_help 3 = .ok (.bipush 16, 2) := dk_16 16 (dk_at dksX0_help_0 3 rfl rfl)
theorem dX0_help_5 : decode cX0_help 5 = .ok (.if_icmp .ge 36, 3) := dk_162 0 36 (dk_at dksX0_help_0 5 rfl rfl)
theorem dX0_help_8 : decode cX0_help 8 = .ok (.aload_n 0, 1) := dk_42 (dk_at dksX0_help_0 8 rfl rfl)
theorem dX0_help_9 : decode cX0_help 9 = .ok (.getfield 13, 3) := dk_180 0 13 (dk_at dksX0_help_0 9 rfl rfl)
theorem dX0_help_12 : decode cX0_help 12 = .ok (.iload_n 1, 1) := dk_27 (dk_at dksX0_help_0 12 rfl rfl)
theorem dX0_help_13 : decode cX0_help 13 = .ok (.sipush 1023, 3) := dk_17 3 255 (dk_at dksX0_help_0 13 rfl rfl)
theorem dX0_help_16 : decode cX0_help 16 = .ok (.iand, 1) := dk_126 (dk_at dksX0_help_0 16 rfl rfl)
theorem dX0_help_17 : decode cX0_help 17 = .ok (.bipush 64, 2) := dk_16 64 (dk_at dksX0_help_0 17 rfl rfl)
theorem dX0_help_19 : decode cX0_help 19 = .ok (.iload_n 3, 1) := dk_29 (dk_at dksX0_help_0 19 rfl rfl)
theorem dX0_help_20 : decode cX0_help 20 = .ok (.imul, 1) := dk_104 (dk_at dksX0_help_0 20 rfl rfl)
theorem dX0_help_21 : decode cX0_help 21 = .ok (.iadd, 1) := dk_96 (dk_at dksX0_help_0 21 rfl rfl)
theorem dX0_help_22 : decode cX0_help 22 = .ok (.sipush 1023, 3) := dk_17 3 255 (dk_at dksX0_help_1 0 rfl rfl)
theorem dX0_help_25 : decode cX0_help 25 = .ok (.iand, 1) := dk_126 (dk_at dksX0_help_1 3 rfl rfl)
theorem dX0_help_26 : decode cX0_help 26 = .ok (.iload_n 2, 1) := dk_28 (dk_at dksX0_help_1 4 rfl rfl)
theorem dX0_help_27 : decode cX0_help 27 = .ok (.iconst 2, 1) := dk_5 (dk_at dksX0_help_1 5 rfl rfl)
theorem dX0_help_28 : decode cX0_help 28 = .ok (.iload_n 3, 1) := dk_29 (dk_at dksX0_help_1 6 rfl rfl)
theorem dX0_help_29 : decode cX0_help 29 = .ok (.imul, 1) := dk_104 (dk_at dksX0_help_1 7 rfl rfl)
theorem dX0_help_30 : decode cX0_help 30 = .ok (.iushr, 1) := dk_124 (dk_at dksX0_help_1 8 rfl rfl)
theorem dX0_help_31 : decode cX0_help 31 = .ok (.iconst 3, 1) := dk_6 (dk_at dksX0_help_1 9 rfl rfl)
theorem dX0_help_32 : decode cX0_help 32 = .ok (.iand, 1) := dk_126 (dk_at dksX0_help_1 10 rfl rfl)
theorem dX0_help_33 : decode cX0_help 33 = .ok (.i2s, 1) := dk_147 (dk_at dksX0_help_1 11 rfl rfl)
theorem dX0_help_34 : decode cX0_help 34 = .ok (.sastore, 1) := dk_86 (dk_at dksX0_help_1 12 rfl rfl)
theorem dX0_help_35 : decode cX0_help 35 = .ok (.iinc 3 1, 3) := dk_132 3 1 (dk_at dksX0_help_1 13 rfl rfl)
theorem dX0_help_38 : decode cX0_help 38 = .ok (.goto (-36), 3) := dk_167 255 220 (dk_at dksX0_help_1 16 rfl rfl)
theorem dX0_help_41 : decode cX0_help 41 = .ok (.return_, 1) := dk_177 (dk_at dksX0_help_1 19 rfl rfl)
abbrev cX0_helps : ByteArray := prog_2_method_5_code
def yX0_helps : MethodName := ⟨RX0, "helps", "(II)V"⟩
def dkwX0_helps_1 : List UInt8 := [147, 86, 132, 3, 1, 167, 255, 229, 177]
abbrev dktX0_helps_1 : List UInt8 := dkwX0_helps_1 ++ []
def dkwX0_helps_0 : List UInt8 := [3, 62, 29, 17, 4, 0, 162, 0, 26, 42, 180, 0, 13, 29, 27, 28, 29, 104, 96, 16, 7, 124, 6, 126]
abbrev dktX0_helps_0 : List UInt8 := dkwX0_helps_0 ++ dktX0_helps_1
theorem dksX0_helps_0 : cX0_helps.data.toList.drop 0 = dktX0_helps_0 := by decide +kernel
theorem dksX0_helps_1 : cX0_helps.data.toList.drop 24 = dktX0_helps_1 := dk_seg dksX0_helps_0 24 rfl rfl
theorem dX0_helps_0 : decode cX0_helps 0 = .ok (.iconst 0, 1) := dk_3 (dk_at dksX0_helps_0 0 rfl rfl)
theorem dX0_helps_1 : decode cX0_helps 1 = .ok (.istore_n 3, 1) := dk_62 (dk_at dksX0_helps_0 1 rfl rfl)
theorem dX0_helps_2 : decode cX0_helps 2 = .ok (.iload_n 3, 1) := dk_29 (dk_at dksX0_helps_0 2 rfl rfl)
theorem dX0_helps_3 : decode cX0_helps 3 = .ok (.sipush 1024, 3) := dk_17 4 0 (dk_at dksX0_helps_0 3 rfl rfl)
theorem dX0_helps_6 : decode cX0_helps 6 = .ok (.if_icmp .ge 26, 3) := dk_162 0 26 (dk_at dksX0_helps_0 6 rfl rfl)
theorem dX0_helps_9 : decode cX0_helps 9 = .ok (.aload_n 0, 1) := dk_42 (dk_at dksX0_helps_0 9 rfl rfl)
theorem dX0_helps_10 : decode cX0_helps 10 = .ok (.getfield 13, 3) := dk_180 0 13 (dk_at dksX0_helps_0 10 rfl rfl)
theorem dX0_helps_13 : decode cX0_helps 13 = .ok (.iload_n 3, 1) := dk_29 (dk_at dksX0_helps_0 13 rfl rfl)
theorem dX0_helps_14 : decode cX0_helps 14 = .ok (.iload_n 1, 1) := dk_27 (dk_at dksX0_helps_0 14 rfl rfl)
theorem dX0_helps_15 : decode cX0_helps 15 = .ok (.iload_n 2, 1) := dk_28 (dk_at dksX0_helps_0 15 rfl rfl)
theorem dX0_helps_16 : decode cX0_helps 16 = .ok (.iload_n 3, 1) := dk_29 (dk_at dksX0_helps_0 16 rfl rfl)
theorem dX0_helps_17 : decode cX0_helps 17 = .ok (.imul, 1) := dk_104 (dk_at dksX0_helps_0 17 rfl rfl)
theorem dX0_helps_18 : decode cX0_helps 18 = .ok (.iadd, 1) := dk_96 (dk_at dksX0_helps_0 18 rfl rfl)
theorem dX0_helps_19 : decode cX0_helps 19 = .ok (.bipush 7, 2) := dk_16 7 (dk_at dksX0_helps_0 19 rfl rfl)
theorem dX0_helps_21 : decode cX0_helps 21 = .ok (.iushr, 1) := dk_124 (dk_at dksX0_helps_0 21 rfl rfl)
theorem dX0_helps_22 : decode cX0_helps 22 = .ok (.iconst 3, 1) := dk_6 (dk_at dksX0_helps_0 22 rfl rfl)
theorem dX0_helps_23 : decode cX0_helps 23 = .ok (.iand, 1) := dk_126 (dk_at dksX0_helps_0 23 rfl rfl)
theorem dX0_helps_24 : decode cX0_helps 24 = .ok (.i2s, 1) := dk_147 (dk_at dksX0_helps_1 0 rfl rfl)
theorem dX0_helps_25 : decode cX0_helps 25 = .ok (.sastore, 1) := dk_86 (dk_at dksX0_helps_1 1 rfl rfl)
theorem dX0_helps_26 : decode cX0_helps 26 = .ok (.iinc 3 1, 3) := dk_132 3 1 (dk_at dksX0_helps_1 2 rfl rfl)
theorem dX0_helps_29 : decode cX0_helps 29 = .ok (.goto (-27), 3) := dk_167 255 229 (dk_at dksX0_helps_1 5 rfl rfl)
theorem dX0_helps_32 : decode cX0_helps 32 = .ok (.return_, 1) := dk_177 (dk_at dksX0_helps_1 8 rfl rfl)
abbrev cX0_mend : ByteArray := prog_2_method_6_code
def yX0_mend : MethodName := ⟨RX0, "mend", "()V"⟩
def dkwX0_mend_0 : List UInt8 := [16, 32, 188, 8, 76, 43, 42, 180, 0, 7, 42, 180, 0, 13, 184, 0, 21, 42, 43, 181, 0, 16, 177]
abbrev dktX0_mend_0 : List UInt8 := dkwX0_mend_0 ++ []
theorem dksX0_mend_0 : cX0_mend.data.toList.drop 0 = dktX0_mend_0 := by decide +kernel
theorem dX0_mend_0 : decode cX0_mend 0 = .ok (.bipush 32, 2) := dk_16 32 (dk_at dksX0_mend_0 0 rfl rfl)
theorem dX0_mend_2 : decode cX0_mend 2 = .ok (.newarray .byte, 2) := dk_188_8 (dk_at dksX0_mend_0 2 rfl rfl)
theorem dX0_mend_4 : decode cX0_mend 4 = .ok (.astore_n 1, 1) := dk_76 (dk_at dksX0_mend_0 4 rfl rfl)
theorem dX0_mend_5 : decode cX0_mend 5 = .ok (.aload_n 1, 1) := dk_43 (dk_at dksX0_mend_0 5 rfl rfl)
theorem dX0_mend_6 : decode cX0_mend 6 = .ok (.aload_n 0, 1) := dk_42 (dk_at dksX0_mend_0 6 rfl rfl)
theorem dX0_mend_7 : decode cX0_mend 7 = .ok (.getfield 7, 3) := dk_180 0 7 (dk_at dksX0_mend_0 7 rfl rfl)
theorem dX0_mend_10 : decode cX0_mend 10 = .ok (.aload_n 0, 1) := dk_42 (dk_at dksX0_mend_0 10 rfl rfl)
theorem dX0_mend_11 : decode cX0_mend 11 = .ok (.getfield 13, 3) := dk_180 0 13 (dk_at dksX0_mend_0 11 rfl rfl)
theorem dX0_mend_14 : decode cX0_mend 14 = .ok (.invokestatic 21, 3) := dk_184 0 21 (dk_at dksX0_mend_0 14 rfl rfl)
theorem dX0_mend_17 : decode cX0_mend 17 = .ok (.aload_n 0, 1) := dk_42 (dk_at dksX0_mend_0 17 rfl rfl)
theorem dX0_mend_18 : decode cX0_mend 18 = .ok (.aload_n 1, 1) := dk_43 (dk_at dksX0_mend_0 18 rfl rfl)
theorem dX0_mend_19 : decode cX0_mend 19 = .ok (.putfield 16, 3) := dk_181 0 16 (dk_at dksX0_mend_0 19 rfl rfl)
theorem dX0_mend_22 : decode cX0_mend 22 = .ok (.return_, 1) := dk_177 (dk_at dksX0_mend_0 22 rfl rfl)
abbrev cX0_key : ByteArray := prog_2_method_7_code
def yX0_key : MethodName := ⟨RX0, "key", "(I)I"⟩
def dkwX0_key_0 : List UInt8 := [42, 180, 0, 16, 27, 16, 31, 126, 51, 17, 0, 255, 126, 172]
abbrev dktX0_key_0 : List UInt8 := dkwX0_key_0 ++ []
theorem dksX0_key_0 : cX0_key.data.toList.drop 0 = dktX0_key_0 := by decide +kernel
theorem dX0_key_0 : decode cX0_key 0 = .ok (.aload_n 0, 1) := dk_42 (dk_at dksX0_key_0 0 rfl rfl)
theorem dX0_key_1 : decode cX0_key 1 = .ok (.getfield 16, 3) := dk_180 0 16 (dk_at dksX0_key_0 1 rfl rfl)
theorem dX0_key_4 : decode cX0_key 4 = .ok (.iload_n 1, 1) := dk_27 (dk_at dksX0_key_0 4 rfl rfl)
theorem dX0_key_5 : decode cX0_key 5 = .ok (.bipush 31, 2) := dk_16 31 (dk_at dksX0_key_0 5 rfl rfl)
theorem dX0_key_7 : decode cX0_key 7 = .ok (.iand, 1) := dk_126 (dk_at dksX0_key_0 7 rfl rfl)
theorem dX0_key_8 : decode cX0_key 8 = .ok (.baload, 1) := dk_51 (dk_at dksX0_key_0 8 rfl rfl)
theorem dX0_key_9 : decode cX0_key 9 = .ok (.sipush 255, 3) := dk_17 0 255 (dk_at dksX0_key_0 9 rfl rfl)
theorem dX0_key_12 : decode cX0_key 12 = .ok (.iand, 1) := dk_126 (dk_at dksX0_key_0 12 rfl rfl)
theorem dX0_key_13 : decode cX0_key 13 = .ok (.ireturn, 1) := dk_172 (dk_at dksX0_key_0 13 rfl rfl)
abbrev cX0_get : ByteArray := prog_2_method_8_code
def yX0_get : MethodName := ⟨RX0, "get", "(I)I"⟩
def dkwX0_get_0 : List UInt8 := [42, 180, 0, 7, 27, 17, 3, 255, 126, 53, 172]
abbrev dktX0_get_0 : List UInt8 := dkwX0_get_0 ++ []
theorem dksX0_get_0 : cX0_get.data.toList.drop 0 = dktX0_get_0 := by decide +kernel
theorem dX0_get_0 : decode cX0_get 0 = .ok (.aload_n 0, 1) := dk_42 (dk_at dksX0_get_0 0 rfl rfl)
theorem dX0_get_1 : decode cX0_get 1 = .ok (.getfield 7, 3) := dk_180 0 7 (dk_at dksX0_get_0 1 rfl rfl)
theorem dX0_get_4 : decode cX0_get 4 = .ok (.iload_n 1, 1) := dk_27 (dk_at dksX0_get_0 4 rfl rfl)
theorem dX0_get_5 : decode cX0_get 5 = .ok (.sipush 1023, 3) := dk_17 3 255 (dk_at dksX0_get_0 5 rfl rfl)
theorem dX0_get_8 : decode cX0_get 8 = .ok (.iand, 1) := dk_126 (dk_at dksX0_get_0 8 rfl rfl)
theorem dX0_get_9 : decode cX0_get 9 = .ok (.saload, 1) := dk_53 (dk_at dksX0_get_0 9 rfl rfl)
theorem dX0_get_10 : decode cX0_get 10 = .ok (.ireturn, 1) := dk_172 (dk_at dksX0_get_0 10 rfl rfl)
theorem q2 : (Jvm.Cond.initialized "HopeMendDesk") ∈ lw_all := lw_g (lw_at lw_m0 1 rfl) rfl
theorem q8 : (Jvm.Cond.instantiable "HopeMendDesk" (3 : Nat)) ∈ lw_all := lw_g (lw_at lw_m0 7 rfl) rfl
theorem q10 : (Jvm.Cond.instanceMethod ({ cls := "HopeMendDesk", name := "<init>", desc := "()V" } : Jvm.MethodName)) ∈ lw_all := lw_g (lw_at lw_m0 9 rfl) rfl
theorem q11 : (Jvm.Cond.code ({ cls := "HopeMendDesk", name := "<init>", desc := "()V" } : Jvm.MethodName) prog_2_method_1_code (1 : Nat) (Option.none : Option Jvm.ClassFile.FieldType)) ∈ lw_all := lw_g (lw_at lw_m0 10 rfl) rfl
theorem q12 : (Jvm.Cond.methodLink "HopeMendDesk" (1 : Nat) ({ cls := "java/lang/Object", name := "<init>", desc := "()V" } : Jvm.MethodName)) ∈ lw_all := lw_g (lw_at lw_m0 11 rfl) rfl
theorem q15 : (Jvm.Cond.fieldLink "HopeMendDesk" (7 : Nat) "HopeMendDesk" "row" "[S") ∈ lw_all := lw_g (lw_at lw_m0 14 rfl) rfl
theorem q16 : (Jvm.Cond.fieldLink "HopeMendDesk" (13 : Nat) "HopeMendDesk" "help" "[S") ∈ lw_all := lw_g (lw_at lw_m0 15 rfl) rfl
theorem q17 : (Jvm.Cond.fieldLink "HopeMendDesk" (16 : Nat) "HopeMendDesk" "key" "[B") ∈ lw_all := lw_g (lw_at lw_m0 16 rfl) rfl
theorem q18 : (Jvm.Cond.laysFinal "HopeMendDesk" "HopeMendDesk" "row" "[S") ∈ lw_all := lw_g (lw_at lw_m0 17 rfl) rfl
theorem q19 : (Jvm.Cond.soleField "HopeMendDesk" "row") ∈ lw_all := lw_g (lw_at lw_m0 18 rfl) rfl
theorem q20 : (Jvm.Cond.laysFinal "HopeMendDesk" "HopeMendDesk" "help" "[S") ∈ lw_all := lw_g (lw_at lw_m0 19 rfl) rfl
theorem q21 : (Jvm.Cond.soleField "HopeMendDesk" "help") ∈ lw_all := lw_g (lw_at lw_m0 20 rfl) rfl
theorem q22 : (Jvm.Cond.lays "HopeMendDesk" "HopeMendDesk" "key" "[B") ∈ lw_all := lw_g (lw_at lw_m0 21 rfl) rfl
theorem q23 : (Jvm.Cond.soleField "HopeMendDesk" "key") ∈ lw_all := lw_g (lw_at lw_m0 22 rfl) rfl
theorem q24 : (Jvm.Cond.superclass "HopeMendDesk" "java/lang/Object") ∈ lw_all := lw_g (lw_at lw_m0 23 rfl) rfl
theorem q28 : (Jvm.Cond.instanceMethod ({ cls := "HopeMendDesk", name := "lay", desc := "(III)V" } : Jvm.MethodName)) ∈ lw_all := lw_g (lw_at lw_m0 27 rfl) rfl
theorem q29 : (Jvm.Cond.selects "HopeMendDesk" ({ cls := "HopeMendDesk", name := "lay", desc := "(III)V" } : Jvm.MethodName) ({ cls := "HopeMendDesk", name := "lay", desc := "(III)V" } : Jvm.MethodName)) ∈ lw_all := lw_g (lw_at lw_m0 28 rfl) rfl
theorem q30 : (Jvm.Cond.code ({ cls := "HopeMendDesk", name := "lay", desc := "(III)V" } : Jvm.MethodName) prog_2_method_2_code (8 : Nat) (Option.none : Option Jvm.ClassFile.FieldType)) ∈ lw_all := lw_g (lw_at lw_m0 29 rfl) rfl
theorem q31 : (Jvm.Cond.constant "HopeMendDesk" (20 : Nat) (2147483647 : Int32)) ∈ lw_all := lw_g (lw_at lw_m0 30 rfl) rfl
theorem q33 : (Jvm.Cond.instanceMethod ({ cls := "HopeMendDesk", name := "set", desc := "(II)V" } : Jvm.MethodName)) ∈ lw_all := lw_g (lw_at lw_m0 32 rfl) rfl
theorem q34 : (Jvm.Cond.selects "HopeMendDesk" ({ cls := "HopeMendDesk", name := "set", desc := "(II)V" } : Jvm.MethodName) ({ cls := "HopeMendDesk", name := "set", desc := "(II)V" } : Jvm.MethodName)) ∈ lw_all := lw_g (lw_at lw_m0 33 rfl) rfl
theorem q35 : (Jvm.Cond.code ({ cls := "HopeMendDesk", name := "set", desc := "(II)V" } : Jvm.MethodName) prog_2_method_3_code (3 : Nat) (Option.none : Option Jvm.ClassFile.FieldType)) ∈ lw_all := lw_g (lw_at lw_m0 34 rfl) rfl
theorem q37 : (Jvm.Cond.instanceMethod ({ cls := "HopeMendDesk", name := "help", desc := "(II)V" } : Jvm.MethodName)) ∈ lw_all := lw_g (lw_at lw_m0 36 rfl) rfl
theorem q38 : (Jvm.Cond.selects "HopeMendDesk" ({ cls := "HopeMendDesk", name := "help", desc := "(II)V" } : Jvm.MethodName) ({ cls := "HopeMendDesk", name := "help", desc := "(II)V" } : Jvm.MethodName)) ∈ lw_all := lw_g (lw_at lw_m0 37 rfl) rfl
theorem q39 : (Jvm.Cond.code ({ cls := "HopeMendDesk", name := "help", desc := "(II)V" } : Jvm.MethodName) prog_2_method_4_code (4 : Nat) (Option.none : Option Jvm.ClassFile.FieldType)) ∈ lw_all := lw_g (lw_at lw_m0 38 rfl) rfl
theorem q41 : (Jvm.Cond.instanceMethod ({ cls := "HopeMendDesk", name := "helps", desc := "(II)V" } : Jvm.MethodName)) ∈ lw_all := lw_g (lw_at lw_m0 40 rfl) rfl
theorem q42 : (Jvm.Cond.selects "HopeMendDesk" ({ cls := "HopeMendDesk", name := "helps", desc := "(II)V" } : Jvm.MethodName) ({ cls := "HopeMendDesk", name := "helps", desc := "(II)V" } : Jvm.MethodName)) ∈ lw_all := lw_g (lw_at lw_m0 41 rfl) rfl
theorem q43 : (Jvm.Cond.code ({ cls := "HopeMendDesk", name := "helps", desc := "(II)V" } : Jvm.MethodName) prog_2_method_5_code (4 : Nat) (Option.none : Option Jvm.ClassFile.FieldType)) ∈ lw_all := lw_g (lw_at lw_m0 42 rfl) rfl
theorem q45 : (Jvm.Cond.instanceMethod ({ cls := "HopeMendDesk", name := "mend", desc := "()V" } : Jvm.MethodName)) ∈ lw_all := lw_g (lw_at lw_m0 44 rfl) rfl
theorem q46 : (Jvm.Cond.selects "HopeMendDesk" ({ cls := "HopeMendDesk", name := "mend", desc := "()V" } : Jvm.MethodName) ({ cls := "HopeMendDesk", name := "mend", desc := "()V" } : Jvm.MethodName)) ∈ lw_all := lw_g (lw_at lw_m0 45 rfl) rfl
theorem q47 : (Jvm.Cond.code ({ cls := "HopeMendDesk", name := "mend", desc := "()V" } : Jvm.MethodName) prog_2_method_6_code (2 : Nat) (Option.none : Option Jvm.ClassFile.FieldType)) ∈ lw_all := lw_g (lw_at lw_m0 46 rfl) rfl
theorem q48 : (Jvm.Cond.methodLink "HopeMendDesk" (21 : Nat) ({ cls := "ErrorCorrection", name := "rec", desc := "([B[S[S)V" } : Jvm.MethodName)) ∈ lw_all := lw_g (lw_at lw_m0 47 rfl) rfl
theorem q72 : (Jvm.Cond.instanceMethod ({ cls := "HopeMendDesk", name := "key", desc := "(I)I" } : Jvm.MethodName)) ∈ lw_all := lw_g (lw_at lw_m0 71 rfl) rfl
theorem q73 : (Jvm.Cond.selects "HopeMendDesk" ({ cls := "HopeMendDesk", name := "key", desc := "(I)I" } : Jvm.MethodName) ({ cls := "HopeMendDesk", name := "key", desc := "(I)I" } : Jvm.MethodName)) ∈ lw_all := lw_g (lw_at lw_m0 72 rfl) rfl
theorem q74 : (Jvm.Cond.code ({ cls := "HopeMendDesk", name := "key", desc := "(I)I" } : Jvm.MethodName) prog_2_method_7_code (2 : Nat) (Option.some Jvm.ClassFile.FieldType.int)) ∈ lw_all := lw_g (lw_at lw_m0 73 rfl) rfl
theorem q76 : (Jvm.Cond.instanceMethod ({ cls := "HopeMendDesk", name := "get", desc := "(I)I" } : Jvm.MethodName)) ∈ lw_all := lw_g (lw_at lw_m0 75 rfl) rfl
theorem q77 : (Jvm.Cond.selects "HopeMendDesk" ({ cls := "HopeMendDesk", name := "get", desc := "(I)I" } : Jvm.MethodName) ({ cls := "HopeMendDesk", name := "get", desc := "(I)I" } : Jvm.MethodName)) ∈ lw_all := lw_g (lw_at lw_m0 76 rfl) rfl
theorem q78 : (Jvm.Cond.code ({ cls := "HopeMendDesk", name := "get", desc := "(I)I" } : Jvm.MethodName) prog_2_method_8_code (2 : Nat) (Option.some Jvm.ClassFile.FieldType.int)) ∈ lw_all := lw_g (lw_at lw_m0 77 rfl) rfl
theorem in_X0 : ∀ w ∈ wsX00, w ∈ lw_all := lw_in wsX00 [18, 20, 22] (by decide +kernel) (by decide +kernel)
/-! HopeMendDeskModel -/
set_option maxRecDepth 100000
def RX1 : String := "HopeMendDeskModel"
def TX1 : u_T := fun k => match k with
  | 0 => ("HopeMendDeskModel", "row", "[I", true)
  | 1 => ("HopeMendDeskModel", "help", "[I", true)
  | _ => ("HopeMendDeskModel", "key", "[I", true)
def tyX1 : Nat → FieldType := fun k => match k with
  | 0 => .array .int
  | 1 => .array .int
  | _ => .array .int
abbrev wsX10 : List Cond := u_ws RX1 TX1 3
theorem nmX1 : ∀ a, a < 3 → ∀ b, b < 3 → a ≠ b → (TX1 a).2.1 ≠ (TX1 b).2.1 := by decide +kernel
theorem tyX1_ok : ∀ k, k < 3 → parseFieldDescriptor (TX1 k).2.2.1 = some (tyX1 k) := by decide +kernel
abbrev cX1_init : ByteArray := prog_4_method_1_code
def yX1_init : MethodName := ⟨RX1, "<init>", "()V"⟩
def dkwX1_init_1 : List UInt8 := [16, 32, 188, 10, 181, 0, 16, 177]
abbrev dktX1_init_1 : List UInt8 := dkwX1_init_1 ++ []
def dkwX1_init_0 : List UInt8 := [42, 183, 0, 1, 42, 17, 4, 0, 188, 10, 181, 0, 7, 42, 17, 4, 0, 188, 10, 181, 0, 13, 42]
abbrev dktX1_init_0 : List UInt8 := dkwX1_init_0 ++ dktX1_init_1
theorem dksX1_init_0 : cX1_init.data.toList.drop 0 = dktX1_init_0 := by decide +kernel
theorem dksX1_init_1 : cX1_init.data.toList.drop 23 = dktX1_init_1 := dk_seg dksX1_init_0 23 rfl rfl
theorem dX1_init_0 : decode cX1_init 0 = .ok (.aload_n 0, 1) := dk_42 (dk_at dksX1_init_0 0 rfl rfl)
theorem dX1_init_1 : decode cX1_init 1 = .ok (.invokespecial 1, 3) := dk_183 0 1 (dk_at dksX1_init_0 1 rfl rfl)
theorem dX1_init_4 : decode cX1_init 4 = .ok (.aload_n 0, 1) := dk_42 (dk_at dksX1_init_0 4 rfl rfl)
theorem dX1_init_5 : decode cX1_init 5 = .ok (.sipush 1024, 3) := dk_17 4 0 (dk_at dksX1_init_0 5 rfl rfl)
theorem dX1_init_8 : decode cX1_init 8 = .ok (.newarray .int, 2) := dk_188_10 (dk_at dksX1_init_0 8 rfl rfl)
theorem dX1_init_10 : decode cX1_init 10 = .ok (.putfield 7, 3) := dk_181 0 7 (dk_at dksX1_init_0 10 rfl rfl)
theorem dX1_init_13 : decode cX1_init 13 = .ok (.aload_n 0, 1) := dk_42 (dk_at dksX1_init_0 13 rfl rfl)
theorem dX1_init_14 : decode cX1_init 14 = .ok (.sipush 1024, 3) := dk_17 4 0 (dk_at dksX1_init_0 14 rfl rfl)
theorem dX1_init_17 : decode cX1_init 17 = .ok (.newarray .int, 2) := dk_188_10 (dk_at dksX1_init_0 17 rfl rfl)
theorem dX1_init_19 : decode cX1_init 19 = .ok (.putfield 13, 3) := dk_181 0 13 (dk_at dksX1_init_0 19 rfl rfl)
theorem dX1_init_22 : decode cX1_init 22 = .ok (.aload_n 0, 1) := dk_42 (dk_at dksX1_init_0 22 rfl rfl)
theorem dX1_init_23 : decode cX1_init 23 = .ok (.bipush 32, 2) := dk_16 32 (dk_at dksX1_init_1 0 rfl rfl)
theorem dX1_init_25 : decode cX1_init 25 = .ok (.newarray .int, 2) := dk_188_10 (dk_at dksX1_init_1 2 rfl rfl)
theorem dX1_init_27 : decode cX1_init 27 = .ok (.putfield 16, 3) := dk_181 0 16 (dk_at dksX1_init_1 4 rfl rfl)
theorem dX1_init_30 : decode cX1_init 30 = .ok (.return_, 1) := dk_177 (dk_at dksX1_init_1 7 rfl rfl)
abbrev cX1_lay : ByteArray := prog_4_method_2_code
def yX1_lay : MethodName := ⟨RX1, "lay", "(III)V"⟩
def dkwX1_lay_2 : List UInt8 := [21, 4, 21, 5, 21, 6, 104, 96, 17, 48, 1, 112, 79, 132, 6, 1, 167, 255, 216, 177]
abbrev dktX1_lay_2 : List UInt8 := dkwX1_lay_2 ++ []
def dkwX1_lay_1 : List UInt8 := [21, 6, 17, 0, 128, 162, 0, 38, 42, 180, 0, 7, 29, 17, 3, 255, 126, 21, 6, 96, 17, 4, 0, 112]
abbrev dktX1_lay_1 : List UInt8 := dkwX1_lay_1 ++ dktX1_lay_2
def dkwX1_lay_0 : List UInt8 := [27, 18, 19, 126, 17, 48, 1, 112, 54, 4, 28, 18, 19, 126, 17, 48, 1, 112, 54, 5, 3, 54, 6]
abbrev dktX1_lay_0 : List UInt8 := dkwX1_lay_0 ++ dktX1_lay_1
theorem dksX1_lay_0 : cX1_lay.data.toList.drop 0 = dktX1_lay_0 := by decide +kernel
theorem dksX1_lay_1 : cX1_lay.data.toList.drop 23 = dktX1_lay_1 := dk_seg dksX1_lay_0 23 rfl rfl
theorem dksX1_lay_2 : cX1_lay.data.toList.drop 47 = dktX1_lay_2 := dk_seg dksX1_lay_1 24 rfl rfl
theorem dX1_lay_0 : decode cX1_lay 0 = .ok (.iload_n 1, 1) := dk_27 (dk_at dksX1_lay_0 0 rfl rfl)
theorem dX1_lay_1 : decode cX1_lay 1 = .ok (.ldc 19, 2) := dk_18 19 (dk_at dksX1_lay_0 1 rfl rfl)
theorem dX1_lay_3 : decode cX1_lay 3 = .ok (.iand, 1) := dk_126 (dk_at dksX1_lay_0 3 rfl rfl)
theorem dX1_lay_4 : decode cX1_lay 4 = .ok (.sipush 12289, 3) := dk_17 48 1 (dk_at dksX1_lay_0 4 rfl rfl)
theorem dX1_lay_7 : decode cX1_lay 7 = .ok (.irem, 1) := dk_112 (dk_at dksX1_lay_0 7 rfl rfl)
theorem dX1_lay_8 : decode cX1_lay 8 = .ok (.istore 4, 2) := dk_54 4 (dk_at dksX1_lay_0 8 rfl rfl)
theorem dX1_lay_10 : decode cX1_lay 10 = .ok (.iload_n 2, 1) := dk_28 (dk_at dksX1_lay_0 10 rfl rfl)
theorem dX1_lay_11 : decode cX1_lay 11 = .ok (.ldc 19, 2) := dk_18 19 (dk_at dksX1_lay_0 11 rfl rfl)
theorem dX1_lay_13 : decode cX1_lay 13 = .ok (.iand, 1) := dk_126 (dk_at dksX1_lay_0 13 rfl rfl)
theorem dX1_lay_14 : decode cX1_lay 14 = .ok (.sipush 12289, 3) := dk_17 48 1 (dk_at dksX1_lay_0 14 rfl rfl)
theorem dX1_lay_17 : decode cX1_lay 17 = .ok (.irem, 1) := dk_112 (dk_at dksX1_lay_0 17 rfl rfl)
theorem dX1_lay_18 : decode cX1_lay 18 = .ok (.istore 5, 2) := dk_54 5 (dk_at dksX1_lay_0 18 rfl rfl)
theorem dX1_lay_20 : decode cX1_lay 20 = .ok (.iconst 0, 1) := dk_3 (dk_at dksX1_lay_0 20 rfl rfl)
theorem dX1_lay_21 : decode cX1_lay 21 = .ok (.istore 6, 2) := dk_54 6 (dk_at dksX1_lay_0 21 rfl rfl)
theorem dX1_lay_23 : decode cX1_lay 23 = .ok (.iload 6, 2) := dk_21 6 (dk_at dksX1_lay_1 0 rfl rfl)
theorem dX1_lay_25 : decode cX1_lay 25 = .ok (.sipush 128, 3) := dk_17 0 128 (dk_at dksX1_lay_1 2 rfl rfl)
theorem dX1_lay_28 : decode cX1_lay 28 = .ok (.if_icmp .ge 38, 3) := dk_162 0 38 (dk_at dksX1_lay_1 5 rfl rfl)
theorem dX1_lay_31 : decode cX1_lay 31 = .ok (.aload_n 0, 1) := dk_42 (dk_at dksX1_lay_1 8 rfl rfl)
theorem dX1_lay_32 : decode cX1_lay 32 = .ok (.getfield 7, 3) := dk_180 0 7 (dk_at dksX1_lay_1 9 rfl rfl)
theorem dX1_lay_35 : decode cX1_lay 35 = .ok (.iload_n 3, 1) := dk_29 (dk_at dksX1_lay_1 12 rfl rfl)
theorem dX1_lay_36 : decode cX1_lay 36 = .ok (.sipush 1023, 3) := dk_17 3 255 (dk_at dksX1_lay_1 13 rfl rfl)
theorem dX1_lay_39 : decode cX1_lay 39 = .ok (.iand, 1) := dk_126 (dk_at dksX1_lay_1 16 rfl rfl)
theorem dX1_lay_40 : decode cX1_lay 40 = .ok (.iload 6, 2) := dk_21 6 (dk_at dksX1_lay_1 17 rfl rfl)
theorem dX1_lay_42 : decode cX1_lay 42 = .ok (.iadd, 1) := dk_96 (dk_at dksX1_lay_1 19 rfl rfl)
theorem dX1_lay_43 : decode cX1_lay 43 = .ok (.sipush 1024, 3) := dk_17 4 0 (dk_at dksX1_lay_1 20 rfl rfl)
theorem dX1_lay_46 : decode cX1_lay 46 = .ok (.irem, 1) := dk_112 (dk_at dksX1_lay_1 23 rfl rfl)
theorem dX1_lay_47 : decode cX1_lay 47 = .ok (.iload 4, 2) := dk_21 4 (dk_at dksX1_lay_2 0 rfl rfl)
theorem dX1_lay_49 : decode cX1_lay 49 = .ok (.iload 5, 2) := dk_21 5 (dk_at dksX1_lay_2 2 rfl rfl)
theorem dX1_lay_51 : decode cX1_lay 51 = .ok (.iload 6, 2) := dk_21 6 (dk_at dksX1_lay_2 4 rfl rfl)
theorem dX1_lay_53 : decode cX1_lay 53 = .ok (.imul, 1) := dk_104 (dk_at dksX1_lay_2 6 rfl rfl)
theorem dX1_lay_54 : decode cX1_lay 54 = .ok (.iadd, 1) := dk_96 (dk_at dksX1_lay_2 7 rfl rfl)
theorem dX1_lay_55 : decode cX1_lay 55 = .ok (.sipush 12289, 3) := dk_17 48 1 (dk_at dksX1_lay_2 8 rfl rfl)
theorem dX1_lay_58 : decode cX1_lay 58 = .ok (.irem, 1) := dk_112 (dk_at dksX1_lay_2 11 rfl rfl)
theorem dX1_lay_59 : decode cX1_lay 59 = .ok (.iastore, 1) := dk_79 (dk_at dksX1_lay_2 12 rfl rfl)
theorem dX1_lay_60 : decode cX1_lay 60 = .ok (.iinc 6 1, 3) := dk_132 6 1 (dk_at dksX1_lay_2 13 rfl rfl)
theorem dX1_lay_63 : decode cX1_lay 63 = .ok (.goto (-40), 3) := dk_167 255 216 (dk_at dksX1_lay_2 16 rfl rfl)
theorem dX1_lay_66 : decode cX1_lay 66 = .ok (.return_, 1) := dk_177 (dk_at dksX1_lay_2 19 rfl rfl)
abbrev cX1_set : ByteArray := prog_4_method_3_code
def yX1_set : MethodName := ⟨RX1, "set", "(II)V"⟩
def dkwX1_set_0 : List UInt8 := [42, 180, 0, 7, 27, 17, 3, 255, 126, 28, 18, 19, 126, 17, 48, 1, 112, 79, 177]
abbrev dktX1_set_0 : List UInt8 := dkwX1_set_0 ++ []
theorem dksX1_set_0 : cX1_set.data.toList.drop 0 = dktX1_set_0 := by decide +kernel
theorem dX1_set_0 : decode cX1_set 0 = .ok (.aload_n 0, 1) := dk_42 (dk_at dksX1_set_0 0 rfl rfl)
theorem dX1_set_1 : decode cX1_set 1 = .ok (.getfield 7, 3) := dk_180 0 7 (dk_at dksX1_set_0 1 rfl rfl)
theorem dX1_set_4 : decode cX1_set 4 = .ok (.iload_n 1, 1) := dk_27 (dk_at dksX1_set_0 4 rfl rfl)
theorem dX1_set_5 : decode cX1_set 5 = .ok (.sipush 1023, 3) := dk_17 3 255 (dk_at dksX1_set_0 5 rfl rfl)
theorem dX1_set_8 : decode cX1_set 8 = .ok (.iand, 1) := dk_126 (dk_at dksX1_set_0 8 rfl rfl)
theorem dX1_set_9 : decode cX1_set 9 = .ok (.iload_n 2, 1) := dk_28 (dk_at dksX1_set_0 9 rfl rfl)
theorem dX1_set_10 : decode cX1_set 10 = .ok (.ldc 19, 2) := dk_18 19 (dk_at dksX1_set_0 10 rfl rfl)
theorem dX1_set_12 : decode cX1_set 12 = .ok (.iand, 1) := dk_126 (dk_at dksX1_set_0 12 rfl rfl)
theorem dX1_set_13 : decode cX1_set 13 = .ok (.sipush 12289, 3) := dk_17 48 1 (dk_at dksX1_set_0 13 rfl rfl)
theorem dX1_set_16 : decode cX1_set 16 = .ok (.irem, 1) := dk_112 (dk_at dksX1_set_0 16 rfl rfl)
theorem dX1_set_17 : decode cX1_set 17 = .ok (.iastore, 1) := dk_79 (dk_at dksX1_set_0 17 rfl rfl)
theorem dX1_set_18 : decode cX1_set 18 = .ok (.return_, 1) := dk_177 (dk_at dksX1_set_0 18 rfl rfl)
abbrev cX1_help : ByteArray := prog_4_method_4_code
def yX1_help : MethodName := ⟨RX1, "help", "(II)V"⟩
def dkwX1_help_1 : List UInt8 := [21, 4, 104, 96, 17, 4, 0, 112, 29, 6, 126, 79, 29, 5, 124, 62, 132, 4, 1, 167, 255, 219, 177]
abbrev dktX1_help_1 : List UInt8 := dkwX1_help_1 ++ []
def dkwX1_help_0 : List UInt8 := [28, 62, 3, 54, 4, 21, 4, 16, 16, 162, 0, 36, 42, 180, 0, 13, 27, 17, 3, 255, 126, 16, 64]
abbrev dktX1_help_0 : List UInt8 := dkwX1_help_0 ++ dktX1_help_1
theorem dksX1_help_0 : cX1_help.data.toList.drop 0 = dktX1_help_0 := by decide +kernel
theorem dksX1_help_1 : cX1_help.data.toList.drop 23 = dktX1_help_1 := dk_seg dksX1_help_0 23 rfl rfl
theorem dX1_help_0 : decode cX1_help 0 = .ok (.iload_n 2, 1) := dk_28 (dk_at dksX1_help_0 0 rfl rfl)
theorem dX1_help_1 : decode cX1_help 1 = .ok (.istore_n 3, 1) := dk_62 (dk_at dksX1_help_0 1 rfl rfl)
theorem dX1_help_2 : decode cX1_help 2 = .ok (.iconst 0, 1) := dk_3 (dk_at dksX1_help_0 2 rfl rfl)
theorem dX1_help_3 : decode cX1_help 3 = .ok (.istore 4, 2) := dk_54 4 (dk_at dksX1_help_0 3 rfl rfl)
theorem dX1_help_5 : decode cX1_help 5 = .ok (.iload 4, 2) := dk_21 4 (dk_at dksX1_help_0 5 rfl rfl)
theorem dX1_help_7 : decode cX1_help 7 = .ok (.bipush 16, 2) := dk_16 16 (dk_at dksX1_help_0 7 rfl rfl)
theorem dX1_help_9 : decode cX1_help 9 = .ok (.if_icmp .ge 36, 3) := dk_162 0 36 (dk_at dksX1_help_0 9 rfl rfl)
theorem dX1_help_12 : decode cX1_help 12 = .ok (.aload_n 0, 1) := dk_42 (dk_at dksX1_help_0 12 rfl rfl)
theorem dX1_help_13 : decode cX1_help 13 = .ok (.getfield 13, 3) := dk_180 0 13 (dk_at dksX1_help_0 13 rfl rfl)
theorem dX1_help_16 : decode cX1_help 16 = .ok (.iload_n 1, 1) := dk_27 (dk_at dksX1_help_0 16 rfl rfl)
theorem dX1_help_17 : decode cX1_help 17 = .ok (.sipush 1023, 3) := dk_17 3 255 (dk_at dksX1_help_0 17 rfl rfl)
theorem dX1_help_20 : decode cX1_help 20 = .ok (.iand, 1) := dk_126 (dk_at dksX1_help_0 20 rfl rfl)
theorem dX1_help_21 : decode cX1_help 21 = .ok (.bipush 64, 2) := dk_16 64 (dk_at dksX1_help_0 21 rfl rfl)
theorem dX1_help_23 : decode cX1_help 23 = .ok (.iload 4, 2) := dk_21 4 (dk_at dksX1_help_1 0 rfl rfl)
theorem dX1_help_25 : decode cX1_help 25 = .ok (.imul, 1) := dk_104 (dk_at dksX1_help_1 2 rfl rfl)
theorem dX1_help_26 : decode cX1_help 26 = .ok (.iadd, 1) := dk_96 (dk_at dksX1_help_1 3 rfl rfl)
theorem dX1_help_27 : decode cX1_help 27 = .ok (.sipush 1024, 3) := dk_17 4 0 (dk_at dksX1_help_1 4 rfl rfl)
theorem dX1_help_30 : decode cX1_help 30 = .ok (.irem, 1) := dk_112 (dk_at dksX1_help_1 7 rfl rfl)
theorem dX1_help_31 : decode cX1_help 31 = .ok (.iload_n 3, 1) := dk_29 (dk_at dksX1_help_1 8 rfl rfl)
theorem dX1_help_32 : decode cX1_help 32 = .ok (.iconst 3, 1) := dk_6 (dk_at dksX1_help_1 9 rfl rfl)
theorem dX1_help_33 : decode cX1_help 33 = .ok (.iand, 1) := dk_126 (dk_at dksX1_help_1 10 rfl rfl)
theorem dX1_help_34 : decode cX1_help 34 = .ok (.iastore, 1) := dk_79 (dk_at dksX1_help_1 11 rfl rfl)
theorem dX1_help_35 : decode cX1_help 35 = .ok (.iload_n 3, 1) := dk_29 (dk_at dksX1_help_1 12 rfl rfl)
theorem dX1_help_36 : decode cX1_help 36 = .ok (.iconst 2, 1) := dk_5 (dk_at dksX1_help_1 13 rfl rfl)
theorem dX1_help_37 : decode cX1_help 37 = .ok (.iushr, 1) := dk_124 (dk_at dksX1_help_1 14 rfl rfl)
theorem dX1_help_38 : decode cX1_help 38 = .ok (.istore_n 3, 1) := dk_62 (dk_at dksX1_help_1 15 rfl rfl)
theorem dX1_help_39 : decode cX1_help 39 = .ok (.iinc 4 1, 3) := dk_132 4 1 (dk_at dksX1_help_1 16 rfl rfl)
theorem dX1_help_42 : decode cX1_help 42 = .ok (.goto (-37), 3) := dk_167 255 219 (dk_at dksX1_help_1 19 rfl rfl)
theorem dX1_help_45 : decode cX1_help 45 = .ok (.return_, 1) := dk_177 (dk_at dksX1_help_1 22 rfl rfl)
abbrev cX1_helps : ByteArray := prog_4_method_5_code
def yX1_helps : MethodName := ⟨RX1, "helps", "(II)V"⟩
def dkwX1_helps_1 : List UInt8 := [126, 79, 29, 28, 96, 62, 132, 4, 1, 167, 255, 228, 177]
abbrev dktX1_helps_1 : List UInt8 := dkwX1_helps_1 ++ []
def dkwX1_helps_0 : List UInt8 := [27, 62, 3, 54, 4, 21, 4, 17, 4, 0, 162, 0, 26, 42, 180, 0, 13, 21, 4, 29, 16, 7, 124, 6]
abbrev dktX1_helps_0 : List UInt8 := dkwX1_helps_0 ++ dktX1_helps_1
theorem dksX1_helps_0 : cX1_helps.data.toList.drop 0 = dktX1_helps_0 := by decide +kernel
theorem dksX1_helps_1 : cX1_helps.data.toList.drop 24 = dktX1_helps_1 := dk_seg dksX1_helps_0 24 rfl rfl
theorem dX1_helps_0 : decode cX1_helps 0 = .ok (.iload_n 1, 1) := dk_27 (dk_at dksX1_helps_0 0 rfl rfl)
theorem dX1_helps_1 : decode cX1_helps 1 = .ok (.istore_n 3, 1) := dk_62 (dk_at dksX1_helps_0 1 rfl rfl)
theorem dX1_helps_2 : decode cX1_helps 2 = .ok (.iconst 0, 1) := dk_3 (dk_at dksX1_helps_0 2 rfl rfl)
theorem dX1_helps_3 : decode cX1_helps 3 = .ok (.istore 4, 2) := dk_54 4 (dk_at dksX1_helps_0 3 rfl rfl)
theorem dX1_helps_5 : decode cX1_helps 5 = .ok (.iload 4, 2) := dk_21 4 (dk_at dksX1_helps_0 5 rfl rfl)
theorem dX1_helps_7 : decode cX1_helps 7 = .ok (.sipush 1024, 3) := dk_17 4 0 (dk_at dksX1_helps_0 7 rfl rfl)
theorem dX1_helps_10 : decode cX1_helps 10 = .ok (.if_icmp .ge 26, 3) := dk_162 0 26 (dk_at dksX1_helps_0 10 rfl rfl)
theorem dX1_helps_13 : decode cX1_helps 13 = .ok (.aload_n 0, 1) := dk_42 (dk_at dksX1_helps_0 13 rfl rfl)
theorem dX1_helps_14 : decode cX1_helps 14 = .ok (.getfield 13, 3) := dk_180 0 13 (dk_at dksX1_helps_0 14 rfl rfl)
theorem dX1_helps_17 : decode cX1_helps 17 = .ok (.iload 4, 2) := dk_21 4 (dk_at dksX1_helps_0 17 rfl rfl)
theorem dX1_helps_19 : decode cX1_helps 19 = .ok (.iload_n 3, 1) := dk_29 (dk_at dksX1_helps_0 19 rfl rfl)
theorem dX1_helps_20 : decode cX1_helps 20 = .ok (.bipush 7, 2) := dk_16 7 (dk_at dksX1_helps_0 20 rfl rfl)
theorem dX1_helps_22 : decode cX1_helps 22 = .ok (.iushr, 1) := dk_124 (dk_at dksX1_helps_0 22 rfl rfl)
theorem dX1_helps_23 : decode cX1_helps 23 = .ok (.iconst 3, 1) := dk_6 (dk_at dksX1_helps_0 23 rfl rfl)
theorem dX1_helps_24 : decode cX1_helps 24 = .ok (.iand, 1) := dk_126 (dk_at dksX1_helps_1 0 rfl rfl)
theorem dX1_helps_25 : decode cX1_helps 25 = .ok (.iastore, 1) := dk_79 (dk_at dksX1_helps_1 1 rfl rfl)
theorem dX1_helps_26 : decode cX1_helps 26 = .ok (.iload_n 3, 1) := dk_29 (dk_at dksX1_helps_1 2 rfl rfl)
theorem dX1_helps_27 : decode cX1_helps 27 = .ok (.iload_n 2, 1) := dk_28 (dk_at dksX1_helps_1 3 rfl rfl)
theorem dX1_helps_28 : decode cX1_helps 28 = .ok (.iadd, 1) := dk_96 (dk_at dksX1_helps_1 4 rfl rfl)
theorem dX1_helps_29 : decode cX1_helps 29 = .ok (.istore_n 3, 1) := dk_62 (dk_at dksX1_helps_1 5 rfl rfl)
theorem dX1_helps_30 : decode cX1_helps 30 = .ok (.iinc 4 1, 3) := dk_132 4 1 (dk_at dksX1_helps_1 6 rfl rfl)
theorem dX1_helps_33 : decode cX1_helps 33 = .ok (.goto (-28), 3) := dk_167 255 228 (dk_at dksX1_helps_1 9 rfl rfl)
theorem dX1_helps_36 : decode cX1_helps 36 = .ok (.return_, 1) := dk_177 (dk_at dksX1_helps_1 12 rfl rfl)
abbrev cX1_mend : ByteArray := prog_4_method_8_code
def yX1_mend : MethodName := ⟨RX1, "mend", "()V"⟩
def dkwX1_mend_4 : List UInt8 := [61, 132, 3, 255, 167, 255, 171, 42, 180, 0, 16, 27, 28, 79, 132, 1, 1, 167, 255, 147, 177]
abbrev dktX1_mend_4 : List UInt8 := dkwX1_mend_4 ++ []
def dkwX1_mend_3 : List UInt8 := [21, 5, 182, 0, 26, 96, 54, 6, 5, 28, 104, 21, 6, 18, 20, 162, 0, 7, 4, 167, 0, 4, 3, 96]
abbrev dktX1_mend_3 : List UInt8 := dkwX1_mend_3 ++ dktX1_mend_4
def dkwX1_mend_2 : List UInt8 := [96, 21, 5, 182, 0, 26, 96, 42, 17, 2, 0, 21, 4, 96, 21, 5, 182, 0, 26, 96, 42, 21, 5]
abbrev dktX1_mend_2 : List UInt8 := dkwX1_mend_2 ++ dktX1_mend_3
def dkwX1_mend_1 : List UInt8 := [54, 4, 17, 3, 0, 21, 4, 96, 54, 5, 42, 21, 4, 21, 5, 182, 0, 26, 42, 17, 1, 0, 21, 4]
abbrev dktX1_mend_1 : List UInt8 := dkwX1_mend_1 ++ dktX1_mend_2
def dkwX1_mend_0 : List UInt8 := [3, 60, 27, 16, 32, 162, 0, 109, 3, 61, 16, 7, 62, 29, 155, 0, 87, 16, 8, 27, 104, 29, 96]
abbrev dktX1_mend_0 : List UInt8 := dkwX1_mend_0 ++ dktX1_mend_1
theorem dksX1_mend_0 : cX1_mend.data.toList.drop 0 = dktX1_mend_0 := by decide +kernel
theorem dksX1_mend_1 : cX1_mend.data.toList.drop 23 = dktX1_mend_1 := dk_seg dksX1_mend_0 23 rfl rfl
theorem dksX1_mend_2 : cX1_mend.data.toList.drop 47 = dktX1_mend_2 := dk_seg dksX1_mend_1 24 rfl rfl
theorem dksX1_mend_3 : cX1_mend.data.toList.drop 70 = dktX1_mend_3 := dk_seg dksX1_mend_2 23 rfl rfl
theorem dksX1_mend_4 : cX1_mend.data.toList.drop 94 = dktX1_mend_4 := dk_seg dksX1_mend_3 24 rfl rfl
theorem dX1_mend_0 : decode cX1_mend 0 = .ok (.iconst 0, 1) := dk_3 (dk_at dksX1_mend_0 0 rfl rfl)
theorem dX1_mend_1 : decode cX1_mend 1 = .ok (.istore_n 1, 1) := dk_60 (dk_at dksX1_mend_0 1 rfl rfl)
theorem dX1_mend_2 : decode cX1_mend 2 = .ok (.iload_n 1, 1) := dk_27 (dk_at dksX1_mend_0 2 rfl rfl)
theorem dX1_mend_3 : decode cX1_mend 3 = .ok (.bipush 32, 2) := dk_16 32 (dk_at dksX1_mend_0 3 rfl rfl)
theorem dX1_mend_5 : decode cX1_mend 5 = .ok (.if_icmp .ge 109, 3) := dk_162 0 109 (dk_at dksX1_mend_0 5 rfl rfl)
theorem dX1_mend_8 : decode cX1_mend 8 = .ok (.iconst 0, 1) := dk_3 (dk_at dksX1_mend_0 8 rfl rfl)
theorem dX1_mend_9 : decode cX1_mend 9 = .ok (.istore_n 2, 1) := dk_61 (dk_at dksX1_mend_0 9 rfl rfl)
theorem dX1_mend_10 : decode cX1_mend 10 = .ok (.bipush 7, 2) := dk_16 7 (dk_at dksX1_mend_0 10 rfl rfl)
theorem dX1_mend_12 : decode cX1_mend 12 = .ok (.istore_n 3, 1) := dk_62 (dk_at dksX1_mend_0 12 rfl rfl)
theorem dX1_mend_13 : decode cX1_mend 13 = .ok (.iload_n 3, 1) := dk_29 (dk_at dksX1_mend_0 13 rfl rfl)
theorem dX1_mend_14 : decode cX1_mend 14 = .ok (.ifCond .lt 87, 3) := dk_155 0 87 (dk_at dksX1_mend_0 14 rfl rfl)
theorem dX1_mend_17 : decode cX1_mend 17 = .ok (.bipush 8, 2) := dk_16 8 (dk_at dksX1_mend_0 17 rfl rfl)
theorem dX1_mend_19 : decode cX1_mend 19 = .ok (.iload_n 1, 1) := dk_27 (dk_at dksX1_mend_0 19 rfl rfl)
theorem dX1_mend_20 : decode cX1_mend 20 = .ok (.imul, 1) := dk_104 (dk_at dksX1_mend_0 20 rfl rfl)
theorem dX1_mend_21 : decode cX1_mend 21 = .ok (.iload_n 3, 1) := dk_29 (dk_at dksX1_mend_0 21 rfl rfl)
theorem dX1_mend_22 : decode cX1_mend 22 = .ok (.iadd, 1) := dk_96 (dk_at dksX1_mend_0 22 rfl rfl)
theorem dX1_mend_23 : decode cX1_mend 23 = .ok (.istore 4, 2) := dk_54 4 (dk_at dksX1_mend_1 0 rfl rfl)
theorem dX1_mend_25 : decode cX1_mend 25 = .ok (.sipush 768, 3) := dk_17 3 0 (dk_at dksX1_mend_1 2 rfl rfl)
theorem dX1_mend_28 : decode cX1_mend 28 = .ok (.iload 4, 2) := dk_21 4 (dk_at dksX1_mend_1 5 rfl rfl)
theorem dX1_mend_30 : decode cX1_mend 30 = .ok (.iadd, 1) := dk_96 (dk_at dksX1_mend_1 7 rfl rfl)
theorem dX1_mend_31 : decode cX1_mend 31 = .ok (.istore 5, 2) := dk_54 5 (dk_at dksX1_mend_1 8 rfl rfl)
theorem dX1_mend_33 : decode cX1_mend 33 = .ok (.aload_n 0, 1) := dk_42 (dk_at dksX1_mend_1 10 rfl rfl)
theorem dX1_mend_34 : decode cX1_mend 34 = .ok (.iload 4, 2) := dk_21 4 (dk_at dksX1_mend_1 11 rfl rfl)
theorem dX1_mend_36 : decode cX1_mend 36 = .ok (.iload 5, 2) := dk_21 5 (dk_at dksX1_mend_1 13 rfl rfl)
theorem dX1_mend_38 : decode cX1_mend 38 = .ok (.invokevirtual 26, 3) := dk_182 0 26 (dk_at dksX1_mend_1 15 rfl rfl)
theorem dX1_mend_41 : decode cX1_mend 41 = .ok (.aload_n 0, 1) := dk_42 (dk_at dksX1_mend_1 18 rfl rfl)
theorem dX1_mend_42 : decode cX1_mend 42 = .ok (.sipush 256, 3) := dk_17 1 0 (dk_at dksX1_mend_1 19 rfl rfl)
theorem dX1_mend_45 : decode cX1_mend 45 = .ok (.iload 4, 2) := dk_21 4 (dk_at dksX1_mend_1 22 rfl rfl)
theorem dX1_mend_47 : decode cX1_mend 47 = .ok (.iadd, 1) := dk_96 (dk_at dksX1_mend_2 0 rfl rfl)
theorem dX1_mend_48 : decode cX1_mend 48 = .ok (.iload 5, 2) := dk_21 5 (dk_at dksX1_mend_2 1 rfl rfl)
theorem dX1_mend_50 : decode cX1_mend 50 = .ok (.invokevirtual 26, 3) := dk_182 0 26 (dk_at dksX1_mend_2 3 rfl rfl)
theorem dX1_mend_53 : decode cX1_mend 53 = .ok (.iadd, 1) := dk_96 (dk_at dksX1_mend_2 6 rfl rfl)
theorem dX1_mend_54 : decode cX1_mend 54 = .ok (.aload_n 0, 1) := dk_42 (dk_at dksX1_mend_2 7 rfl rfl)
theorem dX1_mend_55 : decode cX1_mend 55 = .ok (.sipush 512, 3) := dk_17 2 0 (dk_at dksX1_mend_2 8 rfl rfl)
theorem dX1_mend_58 : decode cX1_mend 58 = .ok (.iload 4, 2) := dk_21 4 (dk_at dksX1_mend_2 11 rfl rfl)
theorem dX1_mend_60 : decode cX1_mend 60 = .ok (.iadd, 1) := dk_96 (dk_at dksX1_mend_2 13 rfl rfl)
theorem dX1_mend_61 : decode cX1_mend 61 = .ok (.iload 5, 2) := dk_21 5 (dk_at dksX1_mend_2 14 rfl rfl)
theorem dX1_mend_63 : decode cX1_mend 63 = .ok (.invokevirtual 26, 3) := dk_182 0 26 (dk_at dksX1_mend_2 16 rfl rfl)
theorem dX1_mend_66 : decode cX1_mend 66 = .ok (.iadd, 1) := dk_96 (dk_at dksX1_mend_2 19 rfl rfl)
theorem dX1_mend_67 : decode cX1_mend 67 = .ok (.aload_n 0, 1) := dk_42 (dk_at dksX1_mend_2 20 rfl rfl)
theorem dX1_mend_68 : decode cX1_mend 68 = .ok (.iload 5, 2) := dk_21 5 (dk_at dksX1_mend_2 21 rfl rfl)
theorem dX1_mend_70 : decode cX1_mend 70 = .ok (.iload 5, 2) := dk_21 5 (dk_at dksX1_mend_3 0 rfl rfl)
theorem dX1_mend_72 : decode cX1_mend 72 = .ok (.invokevirtual 26, 3) := dk_182 0 26 (dk_at dksX1_mend_3 2 rfl rfl)
theorem dX1_mend_75 : decode cX1_mend 75 = .ok (.iadd, 1) := dk_96 (dk_at dksX1_mend_3 5 rfl rfl)
theorem dX1_mend_76 : decode cX1_mend 76 = .ok (.istore 6, 2) := dk_54 6 (dk_at dksX1_mend_3 6 rfl rfl)
theorem dX1_mend_78 : decode cX1_mend 78 = .ok (.iconst 2, 1) := dk_5 (dk_at dksX1_mend_3 8 rfl rfl)
theorem dX1_mend_79 : decode cX1_mend 79 = .ok (.iload_n 2, 1) := dk_28 (dk_at dksX1_mend_3 9 rfl rfl)
theorem dX1_mend_80 : decode cX1_mend 80 = .ok (.imul, 1) := dk_104 (dk_at dksX1_mend_3 10 rfl rfl)
theorem dX1_mend_81 : decode cX1_mend 81 = .ok (.iload 6, 2) := dk_21 6 (dk_at dksX1_mend_3 11 rfl rfl)
theorem dX1_mend_83 : decode cX1_mend 83 = .ok (.ldc 20, 2) := dk_18 20 (dk_at dksX1_mend_3 13 rfl rfl)
theorem dX1_mend_85 : decode cX1_mend 85 = .ok (.if_icmp .ge 7, 3) := dk_162 0 7 (dk_at dksX1_mend_3 15 rfl rfl)
theorem dX1_mend_88 : decode cX1_mend 88 = .ok (.iconst 1, 1) := dk_4 (dk_at dksX1_mend_3 18 rfl rfl)
theorem dX1_mend_89 : decode cX1_mend 89 = .ok (.goto 4, 3) := dk_167 0 4 (dk_at dksX1_mend_3 19 rfl rfl)
theorem dX1_mend_92 : decode cX1_mend 92 = .ok (.iconst 0, 1) := dk_3 (dk_at dksX1_mend_3 22 rfl rfl)
theorem dX1_mend_93 : decode cX1_mend 93 = .ok (.iadd, 1) := dk_96 (dk_at dksX1_mend_3 23 rfl rfl)
theorem dX1_mend_94 : decode cX1_mend 94 = .ok (.istore_n 2, 1) := dk_61 (dk_at dksX1_mend_4 0 rfl rfl)
theorem dX1_mend_95 : decode cX1_mend 95 = .ok (.iinc 3 (-1), 3) := dk_132 3 255 (dk_at dksX1_mend_4 1 rfl rfl)
theorem dX1_mend_98 : decode cX1_mend 98 = .ok (.goto (-85), 3) := dk_167 255 171 (dk_at dksX1_mend_4 4 rfl rfl)
theorem dX1_mend_101 : decode cX1_mend 101 = .ok (.aload_n 0, 1) := dk_42 (dk_at dksX1_mend_4 7 rfl rfl)
theorem dX1_mend_102 : decode cX1_mend 102 = .ok (.getfield 16, 3) := dk_180 0 16 (dk_at dksX1_mend_4 8 rfl rfl)
theorem dX1_mend_105 : decode cX1_mend 105 = .ok (.iload_n 1, 1) := dk_27 (dk_at dksX1_mend_4 11 rfl rfl)
theorem dX1_mend_106 : decode cX1_mend 106 = .ok (.iload_n 2, 1) := dk_28 (dk_at dksX1_mend_4 12 rfl rfl)
theorem dX1_mend_107 : decode cX1_mend 107 = .ok (.iastore, 1) := dk_79 (dk_at dksX1_mend_4 13 rfl rfl)
theorem dX1_mend_108 : decode cX1_mend 108 = .ok (.iinc 1 1, 3) := dk_132 1 1 (dk_at dksX1_mend_4 14 rfl rfl)
theorem dX1_mend_111 : decode cX1_mend 111 = .ok (.goto (-109), 3) := dk_167 255 147 (dk_at dksX1_mend_4 17 rfl rfl)
theorem dX1_mend_114 : decode cX1_mend 114 = .ok (.return_, 1) := dk_177 (dk_at dksX1_mend_4 20 rfl rfl)
abbrev cX1_told : ByteArray := prog_4_method_7_code
def yX1_told : MethodName := ⟨RX1, "told", "(II)I"⟩
def dkwX1_told_2 : List UInt8 := [100, 184, 0, 22, 172]
abbrev dktX1_told_2 : List UInt8 := dkwX1_told_2 ++ []
def dkwX1_told_1 : List UInt8 := [180, 0, 13, 28, 46, 96, 62, 18, 21, 16, 8, 42, 180, 0, 7, 27, 46, 104, 96, 17, 48, 1, 29, 104]
abbrev dktX1_told_1 : List UInt8 := dkwX1_told_1 ++ dktX1_told_2
def dkwX1_told_0 : List UInt8 := [27, 28, 160, 0, 12, 42, 180, 0, 13, 28, 46, 167, 0, 18, 5, 42, 180, 0, 13, 27, 46, 104, 42]
abbrev dktX1_told_0 : List UInt8 := dkwX1_told_0 ++ dktX1_told_1
theorem dksX1_told_0 : cX1_told.data.toList.drop 0 = dktX1_told_0 := by decide +kernel
theorem dksX1_told_1 : cX1_told.data.toList.drop 23 = dktX1_told_1 := dk_seg dksX1_told_0 23 rfl rfl
theorem dksX1_told_2 : cX1_told.data.toList.drop 47 = dktX1_told_2 := dk_seg dksX1_told_1 24 rfl rfl
theorem dX1_told_0 : decode cX1_told 0 = .ok (.iload_n 1, 1) := dk_27 (dk_at dksX1_told_0 0 rfl rfl)
theorem dX1_told_1 : decode cX1_told 1 = .ok (.iload_n 2, 1) := dk_28 (dk_at dksX1_told_0 1 rfl rfl)
theorem dX1_told_2 : decode cX1_told 2 = .ok (.if_icmp .ne 12, 3) := dk_160 0 12 (dk_at dksX1_told_0 2 rfl rfl)
theorem dX1_told_5 : decode cX1_told 5 = .ok (.aload_n 0, 1) := dk_42 (dk_at dksX1_told_0 5 rfl rfl)
theorem dX1_told_6 : decode cX1_told 6 = .ok (.getfield 13, 3) := dk_180 0 13 (dk_at dksX1_told_0 6 rfl rfl)
theorem dX1_told_9 : decode cX1_told 9 = .ok (.iload_n 2, 1) := dk_28 (dk_at dksX1_told_0 9 rfl rfl)
theorem dX1_told_10 : decode cX1_told 10 = .ok (.iaload, 1) := dk_46 (dk_at dksX1_told_0 10 rfl rfl)
theorem dX1_told_11 : decode cX1_told 11 = .ok (.goto 18, 3) := dk_167 0 18 (dk_at dksX1_told_0 11 rfl rfl)
theorem dX1_told_14 : decode cX1_told 14 = .ok (.iconst 2, 1) := dk_5 (dk_at dksX1_told_0 14 rfl rfl)
theorem dX1_told_15 : decode cX1_told 15 = .ok (.aload_n 0, 1) := dk_42 (dk_at dksX1_told_0 15 rfl rfl)
theorem dX1_told_16 : decode cX1_told 16 = .ok (.getfield 13, 3) := dk_180 0 13 (dk_at dksX1_told_0 16 rfl rfl)
theorem dX1_told_19 : decode cX1_told 19 = .ok (.iload_n 1, 1) := dk_27 (dk_at dksX1_told_0 19 rfl rfl)
theorem dX1_told_20 : decode cX1_told 20 = .ok (.iaload, 1) := dk_46 (dk_at dksX1_told_0 20 rfl rfl)
theorem dX1_told_21 : decode cX1_told 21 = .ok (.imul, 1) := dk_104 (dk_at dksX1_told_0 21 rfl rfl)
theorem dX1_told_22 : decode cX1_told 22 = .ok (.aload_n 0, 1) := dk_42 (dk_at dksX1_told_0 22 rfl rfl)
theorem dX1_told_23 : decode cX1_told 23 = .ok (.getfield 13, 3) := dk_180 0 13 (dk_at dksX1_told_1 0 rfl rfl)
theorem dX1_told_26 : decode cX1_told 26 = .ok (.iload_n 2, 1) := dk_28 (dk_at dksX1_told_1 3 rfl rfl)
theorem dX1_told_27 : decode cX1_told 27 = .ok (.iaload, 1) := dk_46 (dk_at dksX1_told_1 4 rfl rfl)
theorem dX1_told_28 : decode cX1_told 28 = .ok (.iadd, 1) := dk_96 (dk_at dksX1_told_1 5 rfl rfl)
theorem dX1_told_29 : decode cX1_told 29 = .ok (.istore_n 3, 1) := dk_62 (dk_at dksX1_told_1 6 rfl rfl)
theorem dX1_told_30 : decode cX1_told 30 = .ok (.ldc 21, 2) := dk_18 21 (dk_at dksX1_told_1 7 rfl rfl)
theorem dX1_told_32 : decode cX1_told 32 = .ok (.bipush 8, 2) := dk_16 8 (dk_at dksX1_told_1 9 rfl rfl)
theorem dX1_told_34 : decode cX1_told 34 = .ok (.aload_n 0, 1) := dk_42 (dk_at dksX1_told_1 11 rfl rfl)
theorem dX1_told_35 : decode cX1_told 35 = .ok (.getfield 7, 3) := dk_180 0 7 (dk_at dksX1_told_1 12 rfl rfl)
theorem dX1_told_38 : decode cX1_told 38 = .ok (.iload_n 1, 1) := dk_27 (dk_at dksX1_told_1 15 rfl rfl)
theorem dX1_told_39 : decode cX1_told 39 = .ok (.iaload, 1) := dk_46 (dk_at dksX1_told_1 16 rfl rfl)
theorem dX1_told_40 : decode cX1_told 40 = .ok (.imul, 1) := dk_104 (dk_at dksX1_told_1 17 rfl rfl)
theorem dX1_told_41 : decode cX1_told 41 = .ok (.iadd, 1) := dk_96 (dk_at dksX1_told_1 18 rfl rfl)
theorem dX1_told_42 : decode cX1_told 42 = .ok (.sipush 12289, 3) := dk_17 48 1 (dk_at dksX1_told_1 19 rfl rfl)
theorem dX1_told_45 : decode cX1_told 45 = .ok (.iload_n 3, 1) := dk_29 (dk_at dksX1_told_1 22 rfl rfl)
theorem dX1_told_46 : decode cX1_told 46 = .ok (.imul, 1) := dk_104 (dk_at dksX1_told_1 23 rfl rfl)
theorem dX1_told_47 : decode cX1_told 47 = .ok (.isub, 1) := dk_100 (dk_at dksX1_told_2 0 rfl rfl)
theorem dX1_told_48 : decode cX1_told 48 = .ok (.invokestatic 22, 3) := dk_184 0 22 (dk_at dksX1_told_2 1 rfl rfl)
theorem dX1_told_51 : decode cX1_told 51 = .ok (.ireturn, 1) := dk_172 (dk_at dksX1_told_2 4 rfl rfl)
abbrev cX1_distance : ByteArray := prog_4_method_6_code
def yX1_distance : MethodName := ⟨RX1, "distance", "(I)I"⟩
def dkwX1_distance_1 : List UInt8 := [18, 20, 96, 26, 100, 62, 28, 29, 162, 0, 7, 28, 167, 0, 4, 29, 172]
abbrev dktX1_distance_1 : List UInt8 := dkwX1_distance_1 ++ []
def dkwX1_distance_0 : List UInt8 := [3, 60, 27, 18, 20, 96, 26, 163, 0, 11, 27, 18, 20, 96, 60, 167, 255, 243, 26, 27, 100, 61, 27]
abbrev dktX1_distance_0 : List UInt8 := dkwX1_distance_0 ++ dktX1_distance_1
theorem dksX1_distance_0 : cX1_distance.data.toList.drop 0 = dktX1_distance_0 := by decide +kernel
theorem dksX1_distance_1 : cX1_distance.data.toList.drop 23 = dktX1_distance_1 := dk_seg dksX1_distance_0 23 rfl rfl
theorem dX1_distance_0 : decode cX1_distance 0 = .ok (.iconst 0, 1) := dk_3 (dk_at dksX1_distance_0 0 rfl rfl)
theorem dX1_distance_1 : decode cX1_distance 1 = .ok (.istore_n 1, 1) := dk_60 (dk_at dksX1_distance_0 1 rfl rfl)
theorem dX1_distance_2 : decode cX1_distance 2 = .ok (.iload_n 1, 1) := dk_27 (dk_at dksX1_distance_0 2 rfl rfl)
theorem dX1_distance_3 : decode cX1_distance 3 = .ok (.ldc 20, 2) := dk_18 20 (dk_at dksX1_distance_0 3 rfl rfl)
theorem dX1_distance_5 : decode cX1_distance 5 = .ok (.iadd, 1) := dk_96 (dk_at dksX1_distance_0 5 rfl rfl)
theorem dX1_distance_6 : decode cX1_distance 6 = .ok (.iload_n 0, 1) := dk_26 (dk_at dksX1_distance_0 6 rfl rfl)
theorem dX1_distance_7 : decode cX1_distance 7 = .ok (.if_icmp .gt 11, 3) := dk_163 0 11 (dk_at dksX1_distance_0 7 rfl rfl)
theorem dX1_distance_10 : decode cX1_distance 10 = .ok (.iload_n 1, 1) := dk_27 (dk_at dksX1_distance_0 10 rfl rfl)
theorem dX1_distance_11 : decode cX1_distance 11 = .ok (.ldc 20, 2) := dk_18 20 (dk_at dksX1_distance_0 11 rfl rfl)
theorem dX1_distance_13 : decode cX1_distance 13 = .ok (.iadd, 1) := dk_96 (dk_at dksX1_distance_0 13 rfl rfl)
theorem dX1_distance_14 : decode cX1_distance 14 = .ok (.istore_n 1, 1) := dk_60 (dk_at dksX1_distance_0 14 rfl rfl)
theorem dX1_distance_15 : decode cX1_distance 15 = .ok (.goto (-13), 3) := dk_167 255 243 (dk_at dksX1_distance_0 15 rfl rfl)
theorem dX1_distance_18 : decode cX1_distance 18 = .ok (.iload_n 0, 1) := dk_26 (dk_at dksX1_distance_0 18 rfl rfl)
theorem dX1_distance_19 : decode cX1_distance 19 = .ok (.iload_n 1, 1) := dk_27 (dk_at dksX1_distance_0 19 rfl rfl)
theorem dX1_distance_20 : decode cX1_distance 20 = .ok (.isub, 1) := dk_100 (dk_at dksX1_distance_0 20 rfl rfl)
theorem dX1_distance_21 : decode cX1_distance 21 = .ok (.istore_n 2, 1) := dk_61 (dk_at dksX1_distance_0 21 rfl rfl)
theorem dX1_distance_22 : decode cX1_distance 22 = .ok (.iload_n 1, 1) := dk_27 (dk_at dksX1_distance_0 22 rfl rfl)
theorem dX1_distance_23 : decode cX1_distance 23 = .ok (.ldc 20, 2) := dk_18 20 (dk_at dksX1_distance_1 0 rfl rfl)
theorem dX1_distance_25 : decode cX1_distance 25 = .ok (.iadd, 1) := dk_96 (dk_at dksX1_distance_1 2 rfl rfl)
theorem dX1_distance_26 : decode cX1_distance 26 = .ok (.iload_n 0, 1) := dk_26 (dk_at dksX1_distance_1 3 rfl rfl)
theorem dX1_distance_27 : decode cX1_distance 27 = .ok (.isub, 1) := dk_100 (dk_at dksX1_distance_1 4 rfl rfl)
theorem dX1_distance_28 : decode cX1_distance 28 = .ok (.istore_n 3, 1) := dk_62 (dk_at dksX1_distance_1 5 rfl rfl)
theorem dX1_distance_29 : decode cX1_distance 29 = .ok (.iload_n 2, 1) := dk_28 (dk_at dksX1_distance_1 6 rfl rfl)
theorem dX1_distance_30 : decode cX1_distance 30 = .ok (.iload_n 3, 1) := dk_29 (dk_at dksX1_distance_1 7 rfl rfl)
theorem dX1_distance_31 : decode cX1_distance 31 = .ok (.if_icmp .ge 7, 3) := dk_162 0 7 (dk_at dksX1_distance_1 8 rfl rfl)
theorem dX1_distance_34 : decode cX1_distance 34 = .ok (.iload_n 2, 1) := dk_28 (dk_at dksX1_distance_1 11 rfl rfl)
theorem dX1_distance_35 : decode cX1_distance 35 = .ok (.goto 4, 3) := dk_167 0 4 (dk_at dksX1_distance_1 12 rfl rfl)
theorem dX1_distance_38 : decode cX1_distance 38 = .ok (.iload_n 3, 1) := dk_29 (dk_at dksX1_distance_1 15 rfl rfl)
theorem dX1_distance_39 : decode cX1_distance 39 = .ok (.ireturn, 1) := dk_172 (dk_at dksX1_distance_1 16 rfl rfl)
abbrev cX1_key : ByteArray := prog_4_method_9_code
def yX1_key : MethodName := ⟨RX1, "key", "(I)I"⟩
def dkwX1_key_0 : List UInt8 := [42, 180, 0, 16, 27, 16, 31, 126, 46, 172]
abbrev dktX1_key_0 : List UInt8 := dkwX1_key_0 ++ []
theorem dksX1_key_0 : cX1_key.data.toList.drop 0 = dktX1_key_0 := by decide +kernel
theorem dX1_key_0 : decode cX1_key 0 = .ok (.aload_n 0, 1) := dk_42 (dk_at dksX1_key_0 0 rfl rfl)
theorem dX1_key_1 : decode cX1_key 1 = .ok (.getfield 16, 3) := dk_180 0 16 (dk_at dksX1_key_0 1 rfl rfl)
theorem dX1_key_4 : decode cX1_key 4 = .ok (.iload_n 1, 1) := dk_27 (dk_at dksX1_key_0 4 rfl rfl)
theorem dX1_key_5 : decode cX1_key 5 = .ok (.bipush 31, 2) := dk_16 31 (dk_at dksX1_key_0 5 rfl rfl)
theorem dX1_key_7 : decode cX1_key 7 = .ok (.iand, 1) := dk_126 (dk_at dksX1_key_0 7 rfl rfl)
theorem dX1_key_8 : decode cX1_key 8 = .ok (.iaload, 1) := dk_46 (dk_at dksX1_key_0 8 rfl rfl)
theorem dX1_key_9 : decode cX1_key 9 = .ok (.ireturn, 1) := dk_172 (dk_at dksX1_key_0 9 rfl rfl)
abbrev cX1_get : ByteArray := prog_4_method_10_code
def yX1_get : MethodName := ⟨RX1, "get", "(I)I"⟩
def dkwX1_get_0 : List UInt8 := [42, 180, 0, 7, 27, 17, 3, 255, 126, 46, 172]
abbrev dktX1_get_0 : List UInt8 := dkwX1_get_0 ++ []
theorem dksX1_get_0 : cX1_get.data.toList.drop 0 = dktX1_get_0 := by decide +kernel
theorem dX1_get_0 : decode cX1_get 0 = .ok (.aload_n 0, 1) := dk_42 (dk_at dksX1_get_0 0 rfl rfl)
theorem dX1_get_1 : decode cX1_get 1 = .ok (.getfield 7, 3) := dk_180 0 7 (dk_at dksX1_get_0 1 rfl rfl)
theorem dX1_get_4 : decode cX1_get 4 = .ok (.iload_n 1, 1) := dk_27 (dk_at dksX1_get_0 4 rfl rfl)
theorem dX1_get_5 : decode cX1_get 5 = .ok (.sipush 1023, 3) := dk_17 3 255 (dk_at dksX1_get_0 5 rfl rfl)
theorem dX1_get_8 : decode cX1_get 8 = .ok (.iand, 1) := dk_126 (dk_at dksX1_get_0 8 rfl rfl)
theorem dX1_get_9 : decode cX1_get 9 = .ok (.iaload, 1) := dk_46 (dk_at dksX1_get_0 9 rfl rfl)
theorem dX1_get_10 : decode cX1_get 10 = .ok (.ireturn, 1) := dk_172 (dk_at dksX1_get_0 10 rfl rfl)
theorem q3 : (Jvm.Cond.initialized "HopeMendDeskModel") ∈ lw_all := lw_g (lw_at lw_m0 2 rfl) rfl
theorem q80 : (Jvm.Cond.instantiable "HopeMendDeskModel" (3 : Nat)) ∈ lw_all := lw_g (lw_at lw_m0 79 rfl) rfl
theorem q82 : (Jvm.Cond.instanceMethod ({ cls := "HopeMendDeskModel", name := "<init>", desc := "()V" } : Jvm.MethodName)) ∈ lw_all := lw_g (lw_at lw_m0 81 rfl) rfl
theorem q83 : (Jvm.Cond.code ({ cls := "HopeMendDeskModel", name := "<init>", desc := "()V" } : Jvm.MethodName) prog_4_method_1_code (1 : Nat) (Option.none : Option Jvm.ClassFile.FieldType)) ∈ lw_all := lw_g (lw_at lw_m0 82 rfl) rfl
theorem q84 : (Jvm.Cond.methodLink "HopeMendDeskModel" (1 : Nat) ({ cls := "java/lang/Object", name := "<init>", desc := "()V" } : Jvm.MethodName)) ∈ lw_all := lw_g (lw_at lw_m0 83 rfl) rfl
theorem q85 : (Jvm.Cond.fieldLink "HopeMendDeskModel" (7 : Nat) "HopeMendDeskModel" "row" "[I") ∈ lw_all := lw_g (lw_at lw_m0 84 rfl) rfl
theorem q86 : (Jvm.Cond.fieldLink "HopeMendDeskModel" (13 : Nat) "HopeMendDeskModel" "help" "[I") ∈ lw_all := lw_g (lw_at lw_m0 85 rfl) rfl
theorem q87 : (Jvm.Cond.fieldLink "HopeMendDeskModel" (16 : Nat) "HopeMendDeskModel" "key" "[I") ∈ lw_all := lw_g (lw_at lw_m0 86 rfl) rfl
theorem q88 : (Jvm.Cond.laysFinal "HopeMendDeskModel" "HopeMendDeskModel" "row" "[I") ∈ lw_all := lw_g (lw_at lw_m0 87 rfl) rfl
theorem q89 : (Jvm.Cond.soleField "HopeMendDeskModel" "row") ∈ lw_all := lw_g (lw_at lw_m0 88 rfl) rfl
theorem q90 : (Jvm.Cond.laysFinal "HopeMendDeskModel" "HopeMendDeskModel" "help" "[I") ∈ lw_all := lw_g (lw_at lw_m0 89 rfl) rfl
theorem q91 : (Jvm.Cond.soleField "HopeMendDeskModel" "help") ∈ lw_all := lw_g (lw_at lw_m0 90 rfl) rfl
theorem q92 : (Jvm.Cond.laysFinal "HopeMendDeskModel" "HopeMendDeskModel" "key" "[I") ∈ lw_all := lw_g (lw_at lw_m0 91 rfl) rfl
theorem q93 : (Jvm.Cond.soleField "HopeMendDeskModel" "key") ∈ lw_all := lw_g (lw_at lw_m0 92 rfl) rfl
theorem q94 : (Jvm.Cond.superclass "HopeMendDeskModel" "java/lang/Object") ∈ lw_all := lw_g (lw_at lw_m0 93 rfl) rfl
theorem q96 : (Jvm.Cond.instanceMethod ({ cls := "HopeMendDeskModel", name := "lay", desc := "(III)V" } : Jvm.MethodName)) ∈ lw_all := lw_g (lw_at lw_m0 95 rfl) rfl
theorem q97 : (Jvm.Cond.selects "HopeMendDeskModel" ({ cls := "HopeMendDeskModel", name := "lay", desc := "(III)V" } : Jvm.MethodName) ({ cls := "HopeMendDeskModel", name := "lay", desc := "(III)V" } : Jvm.MethodName)) ∈ lw_all := lw_g (lw_at lw_m0 96 rfl) rfl
theorem q98 : (Jvm.Cond.code ({ cls := "HopeMendDeskModel", name := "lay", desc := "(III)V" } : Jvm.MethodName) prog_4_method_2_code (7 : Nat) (Option.none : Option Jvm.ClassFile.FieldType)) ∈ lw_all := lw_g (lw_at lw_m0 97 rfl) rfl
theorem q99 : (Jvm.Cond.constant "HopeMendDeskModel" (19 : Nat) (2147483647 : Int32)) ∈ lw_all := lw_g (lw_at lw_m0 98 rfl) rfl
theorem q101 : (Jvm.Cond.instanceMethod ({ cls := "HopeMendDeskModel", name := "set", desc := "(II)V" } : Jvm.MethodName)) ∈ lw_all := lw_g (lw_at lw_m0 100 rfl) rfl
theorem q102 : (Jvm.Cond.selects "HopeMendDeskModel" ({ cls := "HopeMendDeskModel", name := "set", desc := "(II)V" } : Jvm.MethodName) ({ cls := "HopeMendDeskModel", name := "set", desc := "(II)V" } : Jvm.MethodName)) ∈ lw_all := lw_g (lw_at lw_m0 101 rfl) rfl
theorem q103 : (Jvm.Cond.code ({ cls := "HopeMendDeskModel", name := "set", desc := "(II)V" } : Jvm.MethodName) prog_4_method_3_code (3 : Nat) (Option.none : Option Jvm.ClassFile.FieldType)) ∈ lw_all := lw_g (lw_at lw_m0 102 rfl) rfl
theorem q105 : (Jvm.Cond.instanceMethod ({ cls := "HopeMendDeskModel", name := "help", desc := "(II)V" } : Jvm.MethodName)) ∈ lw_all := lw_g (lw_at lw_m0 104 rfl) rfl
theorem q106 : (Jvm.Cond.selects "HopeMendDeskModel" ({ cls := "HopeMendDeskModel", name := "help", desc := "(II)V" } : Jvm.MethodName) ({ cls := "HopeMendDeskModel", name := "help", desc := "(II)V" } : Jvm.MethodName)) ∈ lw_all := lw_g (lw_at lw_m0 105 rfl) rfl
theorem q107 : (Jvm.Cond.code ({ cls := "HopeMendDeskModel", name := "help", desc := "(II)V" } : Jvm.MethodName) prog_4_method_4_code (5 : Nat) (Option.none : Option Jvm.ClassFile.FieldType)) ∈ lw_all := lw_g (lw_at lw_m0 106 rfl) rfl
theorem q109 : (Jvm.Cond.instanceMethod ({ cls := "HopeMendDeskModel", name := "helps", desc := "(II)V" } : Jvm.MethodName)) ∈ lw_all := lw_g (lw_at lw_m0 108 rfl) rfl
theorem q110 : (Jvm.Cond.selects "HopeMendDeskModel" ({ cls := "HopeMendDeskModel", name := "helps", desc := "(II)V" } : Jvm.MethodName) ({ cls := "HopeMendDeskModel", name := "helps", desc := "(II)V" } : Jvm.MethodName)) ∈ lw_all := lw_g (lw_at lw_m0 109 rfl) rfl
theorem q111 : (Jvm.Cond.code ({ cls := "HopeMendDeskModel", name := "helps", desc := "(II)V" } : Jvm.MethodName) prog_4_method_5_code (5 : Nat) (Option.none : Option Jvm.ClassFile.FieldType)) ∈ lw_all := lw_g (lw_at lw_m0 110 rfl) rfl
theorem q113 : (Jvm.Cond.instanceMethod ({ cls := "HopeMendDeskModel", name := "mend", desc := "()V" } : Jvm.MethodName)) ∈ lw_all := lw_g (lw_at lw_m0 112 rfl) rfl
theorem q114 : (Jvm.Cond.selects "HopeMendDeskModel" ({ cls := "HopeMendDeskModel", name := "mend", desc := "()V" } : Jvm.MethodName) ({ cls := "HopeMendDeskModel", name := "mend", desc := "()V" } : Jvm.MethodName)) ∈ lw_all := lw_g (lw_at lw_m0 113 rfl) rfl
theorem q115 : (Jvm.Cond.code ({ cls := "HopeMendDeskModel", name := "mend", desc := "()V" } : Jvm.MethodName) prog_4_method_8_code (7 : Nat) (Option.none : Option Jvm.ClassFile.FieldType)) ∈ lw_all := lw_g (lw_at lw_m0 114 rfl) rfl
theorem q116 : (Jvm.Cond.methodLink "HopeMendDeskModel" (26 : Nat) ({ cls := "HopeMendDeskModel", name := "told", desc := "(II)I" } : Jvm.MethodName)) ∈ lw_all := lw_g (lw_at lw_m0 115 rfl) rfl
theorem q117 : (Jvm.Cond.privateMethod ({ cls := "HopeMendDeskModel", name := "told", desc := "(II)I" } : Jvm.MethodName)) ∈ lw_tbl := lw_at lw_m0 116 rfl
theorem q118 : (Jvm.Cond.instanceMethod ({ cls := "HopeMendDeskModel", name := "told", desc := "(II)I" } : Jvm.MethodName)) ∈ lw_all := lw_g (lw_at lw_m0 117 rfl) rfl
theorem q119 : (Jvm.Cond.code ({ cls := "HopeMendDeskModel", name := "told", desc := "(II)I" } : Jvm.MethodName) prog_4_method_7_code (4 : Nat) (Option.some Jvm.ClassFile.FieldType.int)) ∈ lw_all := lw_g (lw_at lw_m0 118 rfl) rfl
theorem q120 : (Jvm.Cond.constant "HopeMendDeskModel" (21 : Nat) (196624 : Int32)) ∈ lw_all := lw_g (lw_at lw_m0 119 rfl) rfl
theorem q121 : (Jvm.Cond.methodLink "HopeMendDeskModel" (22 : Nat) ({ cls := "HopeMendDeskModel", name := "distance", desc := "(I)I" } : Jvm.MethodName)) ∈ lw_all := lw_g (lw_at lw_m0 120 rfl) rfl
theorem q122 : (Jvm.Cond.static ({ cls := "HopeMendDeskModel", name := "distance", desc := "(I)I" } : Jvm.MethodName)) ∈ lw_all := lw_g (lw_at lw_m0 121 rfl) rfl
theorem q123 : (Jvm.Cond.code ({ cls := "HopeMendDeskModel", name := "distance", desc := "(I)I" } : Jvm.MethodName) prog_4_method_6_code (4 : Nat) (Option.some Jvm.ClassFile.FieldType.int)) ∈ lw_all := lw_g (lw_at lw_m0 122 rfl) rfl
theorem q124 : (Jvm.Cond.constant "HopeMendDeskModel" (20 : Nat) (98312 : Int32)) ∈ lw_all := lw_g (lw_at lw_m0 123 rfl) rfl
theorem q126 : (Jvm.Cond.instanceMethod ({ cls := "HopeMendDeskModel", name := "key", desc := "(I)I" } : Jvm.MethodName)) ∈ lw_all := lw_g (lw_at lw_m0 125 rfl) rfl
theorem q127 : (Jvm.Cond.selects "HopeMendDeskModel" ({ cls := "HopeMendDeskModel", name := "key", desc := "(I)I" } : Jvm.MethodName) ({ cls := "HopeMendDeskModel", name := "key", desc := "(I)I" } : Jvm.MethodName)) ∈ lw_all := lw_g (lw_at lw_m0 126 rfl) rfl
theorem q128 : (Jvm.Cond.code ({ cls := "HopeMendDeskModel", name := "key", desc := "(I)I" } : Jvm.MethodName) prog_4_method_9_code (2 : Nat) (Option.some Jvm.ClassFile.FieldType.int)) ∈ lw_all := lw_g (lw_at lw_m0 127 rfl) rfl
theorem q130 : (Jvm.Cond.instanceMethod ({ cls := "HopeMendDeskModel", name := "get", desc := "(I)I" } : Jvm.MethodName)) ∈ lw_all := lw_g (lw_at lw_m0 129 rfl) rfl
theorem q131 : (Jvm.Cond.selects "HopeMendDeskModel" ({ cls := "HopeMendDeskModel", name := "get", desc := "(I)I" } : Jvm.MethodName) ({ cls := "HopeMendDeskModel", name := "get", desc := "(I)I" } : Jvm.MethodName)) ∈ lw_all := lw_g (lw_at lw_m0 130 rfl) rfl
theorem q132 : (Jvm.Cond.code ({ cls := "HopeMendDeskModel", name := "get", desc := "(I)I" } : Jvm.MethodName) prog_4_method_10_code (2 : Nat) (Option.some Jvm.ClassFile.FieldType.int)) ∈ lw_all := lw_g (lw_at lw_m0 131 rfl) rfl
theorem in_X1 : ∀ w ∈ wsX10, w ∈ lw_all := lw_in wsX10 [88, 90, 92] (by decide +kernel) (by decide +kernel)
/-! ErrorCorrection -/
set_option maxRecDepth 100000
def RX2 : String := "ErrorCorrection"
abbrev cX2_rec : ByteArray := prog_1_method_5_code
def yX2_rec : MethodName := ⟨RX2, "rec", "([B[S[S)V"⟩
def dkwX2_rec_8 : List UInt8 := [184, 0, 28, 21, 4, 16, 7, 126, 120, 128, 145, 84, 132, 4, 1, 167, 255, 65, 177]
abbrev dktX2_rec_8 : List UInt8 := dkwX2_rec_8 ++ []
def dkwX2_rec_7 : List UInt8 := [53, 104, 100, 79, 42, 21, 4, 6, 124, 92, 51, 45, 3, 46, 45, 4, 46, 45, 5, 46, 45, 6, 46]
abbrev dktX2_rec_7 : List UInt8 := dkwX2_rec_7 ++ dktX2_rec_8
def dkwX2_rec_6 : List UInt8 := [18, 27, 16, 8, 43, 17, 3, 0, 21, 4, 96, 53, 104, 96, 17, 48, 1, 44, 17, 3, 0, 21, 4, 96]
abbrev dktX2_rec_6 : List UInt8 := dkwX2_rec_6 ++ dktX2_rec_7
def dkwX2_rec_5 : List UInt8 := [44, 17, 2, 0, 21, 4, 96, 53, 104, 44, 17, 3, 0, 21, 4, 96, 53, 96, 104, 100, 79, 45, 6]
abbrev dktX2_rec_5 : List UInt8 := dkwX2_rec_5 ++ dktX2_rec_6
def dkwX2_rec_4 : List UInt8 := [96, 104, 100, 79, 45, 5, 18, 27, 16, 8, 43, 17, 2, 0, 21, 4, 96, 53, 104, 96, 17, 48, 1, 5]
abbrev dktX2_rec_4 : List UInt8 := dkwX2_rec_4 ++ dktX2_rec_5
def dkwX2_rec_3 : List UInt8 := [53, 104, 96, 17, 48, 1, 5, 44, 17, 1, 0, 21, 4, 96, 53, 104, 44, 17, 3, 0, 21, 4, 96, 53]
abbrev dktX2_rec_3 : List UInt8 := dkwX2_rec_3 ++ dktX2_rec_4
def dkwX2_rec_2 : List UInt8 := [17, 3, 0, 21, 4, 96, 53, 96, 104, 100, 79, 45, 4, 18, 27, 16, 8, 43, 17, 1, 0, 21, 4, 96]
abbrev dktX2_rec_2 : List UInt8 := dkwX2_rec_2 ++ dktX2_rec_3
def dkwX2_rec_1 : List UInt8 := [16, 8, 43, 3, 21, 4, 96, 53, 104, 96, 17, 48, 1, 5, 44, 3, 21, 4, 96, 53, 104, 44]
abbrev dktX2_rec_1 : List UInt8 := dkwX2_rec_1 ++ dktX2_rec_2
def dkwX2_rec_0 : List UInt8 := [42, 3, 184, 0, 21, 7, 188, 10, 78, 3, 54, 4, 21, 4, 17, 1, 0, 162, 0, 189, 45, 3, 18, 27]
abbrev dktX2_rec_0 : List UInt8 := dkwX2_rec_0 ++ dktX2_rec_1
theorem dksX2_rec_0 : cX2_rec.data.toList.drop 0 = dktX2_rec_0 := by decide +kernel
theorem dksX2_rec_1 : cX2_rec.data.toList.drop 24 = dktX2_rec_1 := dk_seg dksX2_rec_0 24 rfl rfl
theorem dksX2_rec_2 : cX2_rec.data.toList.drop 46 = dktX2_rec_2 := dk_seg dksX2_rec_1 22 rfl rfl
theorem dksX2_rec_3 : cX2_rec.data.toList.drop 70 = dktX2_rec_3 := dk_seg dksX2_rec_2 24 rfl rfl
theorem dksX2_rec_4 : cX2_rec.data.toList.drop 94 = dktX2_rec_4 := dk_seg dksX2_rec_3 24 rfl rfl
theorem dksX2_rec_5 : cX2_rec.data.toList.drop 118 = dktX2_rec_5 := dk_seg dksX2_rec_4 24 rfl rfl
theorem dksX2_rec_6 : cX2_rec.data.toList.drop 141 = dktX2_rec_6 := dk_seg dksX2_rec_5 23 rfl rfl
theorem dksX2_rec_7 : cX2_rec.data.toList.drop 165 = dktX2_rec_7 := dk_seg dksX2_rec_6 24 rfl rfl
theorem dksX2_rec_8 : cX2_rec.data.toList.drop 188 = dktX2_rec_8 := dk_seg dksX2_rec_7 23 rfl rfl
theorem dX2_rec_0 : decode cX2_rec 0 = .ok (.aload_n 0, 1) := dk_42 (dk_at dksX2_rec_0 0 rfl rfl)
theorem dX2_rec_1 : decode cX2_rec 1 = .ok (.iconst 0, 1) := dk_3 (dk_at dksX2_rec_0 1 rfl rfl)
theorem dX2_rec_2 : decode cX2_rec 2 = .ok (.invokestatic 21, 3) := dk_184 0 21 (dk_at dksX2_rec_0 2 rfl rfl)
theorem dX2_rec_5 : decode cX2_rec 5 = .ok (.iconst 4, 1) := dk_7 (dk_at dksX2_rec_0 5 rfl rfl)
theorem dX2_rec_6 : decode cX2_rec 6 = .ok (.newarray .int, 2) := dk_188_10 (dk_at dksX2_rec_0 6 rfl rfl)
theorem dX2_rec_8 : decode cX2_rec 8 = .ok (.astore_n 3, 1) := dk_78 (dk_at dksX2_rec_0 8 rfl rfl)
theorem dX2_rec_9 : decode cX2_rec 9 = .ok (.iconst 0, 1) := dk_3 (dk_at dksX2_rec_0 9 rfl rfl)
theorem dX2_rec_10 : decode cX2_rec 10 = .ok (.istore 4, 2) := dk_54 4 (dk_at dksX2_rec_0 10 rfl rfl)
theorem dX2_rec_12 : decode cX2_rec 12 = .ok (.iload 4, 2) := dk_21 4 (dk_at dksX2_rec_0 12 rfl rfl)
theorem dX2_rec_14 : decode cX2_rec 14 = .ok (.sipush 256, 3) := dk_17 1 0 (dk_at dksX2_rec_0 14 rfl rfl)
theorem dX2_rec_17 : decode cX2_rec 17 = .ok (.if_icmp .ge 189, 3) := dk_162 0 189 (dk_at dksX2_rec_0 17 rfl rfl)
theorem dX2_rec_20 : decode cX2_rec 20 = .ok (.aload_n 3, 1) := dk_45 (dk_at dksX2_rec_0 20 rfl rfl)
theorem dX2_rec_21 : decode cX2_rec 21 = .ok (.iconst 0, 1) := dk_3 (dk_at dksX2_rec_0 21 rfl rfl)
theorem dX2_rec_22 : decode cX2_rec 22 = .ok (.ldc 27, 2) := dk_18 27 (dk_at dksX2_rec_0 22 rfl rfl)
theorem dX2_rec_24 : decode cX2_rec 24 = .ok (.bipush 8, 2) := dk_16 8 (dk_at dksX2_rec_1 0 rfl rfl)
theorem dX2_rec_26 : decode cX2_rec 26 = .ok (.aload_n 1, 1) := dk_43 (dk_at dksX2_rec_1 2 rfl rfl)
theorem dX2_rec_27 : decode cX2_rec 27 = .ok (.iconst 0, 1) := dk_3 (dk_at dksX2_rec_1 3 rfl rfl)
theorem dX2_rec_28 : decode cX2_rec 28 = .ok (.iload 4, 2) := dk_21 4 (dk_at dksX2_rec_1 4 rfl rfl)
theorem dX2_rec_30 : decode cX2_rec 30 = .ok (.iadd, 1) := dk_96 (dk_at dksX2_rec_1 6 rfl rfl)
theorem dX2_rec_31 : decode cX2_rec 31 = .ok (.saload, 1) := dk_53 (dk_at dksX2_rec_1 7 rfl rfl)
theorem dX2_rec_32 : decode cX2_rec 32 = .ok (.imul, 1) := dk_104 (dk_at dksX2_rec_1 8 rfl rfl)
theorem dX2_rec_33 : decode cX2_rec 33 = .ok (.iadd, 1) := dk_96 (dk_at dksX2_rec_1 9 rfl rfl)
theorem dX2_rec_34 : decode cX2_rec 34 = .ok (.sipush 12289, 3) := dk_17 48 1 (dk_at dksX2_rec_1 10 rfl rfl)
theorem dX2_rec_37 : decode cX2_rec 37 = .ok (.iconst 2, 1) := dk_5 (dk_at dksX2_rec_1 13 rfl rfl)
theorem dX2_rec_38 : decode cX2_rec 38 = .ok (.aload_n 2, 1) := dk_44 (dk_at dksX2_rec_1 14 rfl rfl)
theorem dX2_rec_39 : decode cX2_rec 39 = .ok (.iconst 0, 1) := dk_3 (dk_at dksX2_rec_1 15 rfl rfl)
theorem dX2_rec_40 : decode cX2_rec 40 = .ok (.iload 4, 2) := dk_21 4 (dk_at dksX2_rec_1 16 rfl rfl)
theorem dX2_rec_42 : decode cX2_rec 42 = .ok (.iadd, 1) := dk_96 (dk_at dksX2_rec_1 18 rfl rfl)
theorem dX2_rec_43 : decode cX2_rec 43 = .ok (.saload, 1) := dk_53 (dk_at dksX2_rec_1 19 rfl rfl)
theorem dX2_rec_44 : decode cX2_rec 44 = .ok (.imul, 1) := dk_104 (dk_at dksX2_rec_1 20 rfl rfl)
theorem dX2_rec_45 : decode cX2_rec 45 = .ok (.aload_n 2, 1) := dk_44 (dk_at dksX2_rec_1 21 rfl rfl)
theorem dX2_rec_46 : decode cX2_rec 46 = .ok (.sipush 768, 3) := dk_17 3 0 (dk_at dksX2_rec_2 0 rfl rfl)
theorem dX2_rec_49 : decode cX2_rec 49 = .ok (.iload 4, 2) := dk_21 4 (dk_at dksX2_rec_2 3 rfl rfl)
theorem dX2_rec_51 : decode cX2_rec 51 = .ok (.iadd, 1) := dk_96 (dk_at dksX2_rec_2 5 rfl rfl)
theorem dX2_rec_52 : decode cX2_rec 52 = .ok (.saload, 1) := dk_53 (dk_at dksX2_rec_2 6 rfl rfl)
theorem dX2_rec_53 : decode cX2_rec 53 = .ok (.iadd, 1) := dk_96 (dk_at dksX2_rec_2 7 rfl rfl)
theorem dX2_rec_54 : decode cX2_rec 54 = .ok (.imul, 1) := dk_104 (dk_at dksX2_rec_2 8 rfl rfl)
theorem dX2_rec_55 : decode cX2_rec 55 = .ok (.isub, 1) := dk_100 (dk_at dksX2_rec_2 9 rfl rfl)
theorem dX2_rec_56 : decode cX2_rec 56 = .ok (.iastore, 1) := dk_79 (dk_at dksX2_rec_2 10 rfl rfl)
theorem dX2_rec_57 : decode cX2_rec 57 = .ok (.aload_n 3, 1) := dk_45 (dk_at dksX2_rec_2 11 rfl rfl)
theorem dX2_rec_58 : decode cX2_rec 58 = .ok (.iconst 1, 1) := dk_4 (dk_at dksX2_rec_2 12 rfl rfl)
theorem dX2_rec_59 : decode cX2_rec 59 = .ok (.ldc 27, 2) := dk_18 27 (dk_at dksX2_rec_2 13 rfl rfl)
theorem dX2_rec_61 : decode cX2_rec 61 = .ok (.bipush 8, 2) := dk_16 8 (dk_at dksX2_rec_2 15 rfl rfl)
theorem dX2_rec_63 : decode cX2_rec 63 = .ok (.aload_n 1, 1) := dk_43 (dk_at dksX2_rec_2 17 rfl rfl)
theorem dX2_rec_64 : decode cX2_rec 64 = .ok (.sipush 256, 3) := dk_17 1 0 (dk_at dksX2_rec_2 18 rfl rfl)
theorem dX2_rec_67 : decode cX2_rec 67 = .ok (.iload 4, 2) := dk_21 4 (dk_at dksX2_rec_2 21 rfl rfl)
theorem dX2_rec_69 : decode cX2_rec 69 = .ok (.iadd, 1) := dk_96 (dk_at dksX2_rec_2 23 rfl rfl)
theorem dX2_rec_70 : decode cX2_rec 70 = .ok (.saload, 1) := dk_53 (dk_at dksX2_rec_3 0 rfl rfl)
theorem dX2_rec_71 : decode cX2_rec 71 = .ok (.imul, 1) := dk_104 (dk_at dksX2_rec_3 1 rfl rfl)
theorem dX2_rec_72 : decode cX2_rec 72 = .ok (.iadd, 1) := dk_96 (dk_at dksX2_rec_3 2 rfl rfl)
theorem dX2_rec_73 : decode cX2_rec 73 = .ok (.sipush 12289, 3) := dk_17 48 1 (dk_at dksX2_rec_3 3 rfl rfl)
theorem dX2_rec_76 : decode cX2_rec 76 = .ok (.iconst 2, 1) := dk_5 (dk_at dksX2_rec_3 6 rfl rfl)
theorem dX2_rec_77 : decode cX2_rec 77 = .ok (.aload_n 2, 1) := dk_44 (dk_at dksX2_rec_3 7 rfl rfl)
theorem dX2_rec_78 : decode cX2_rec 78 = .ok (.sipush 256, 3) := dk_17 1 0 (dk_at dksX2_rec_3 8 rfl rfl)
theorem dX2_rec_81 : decode cX2_rec 81 = .ok (.iload 4, 2) := dk_21 4 (dk_at dksX2_rec_3 11 rfl rfl)
theorem dX2_rec_83 : decode cX2_rec 83 = .ok (.iadd, 1) := dk_96 (dk_at dksX2_rec_3 13 rfl rfl)
theorem dX2_rec_84 : decode cX2_rec 84 = .ok (.saload, 1) := dk_53 (dk_at dksX2_rec_3 14 rfl rfl)
theorem dX2_rec_85 : decode cX2_rec 85 = .ok (.imul, 1) := dk_104 (dk_at dksX2_rec_3 15 rfl rfl)
theorem dX2_rec_86 : decode cX2_rec 86 = .ok (.aload_n 2, 1) := dk_44 (dk_at dksX2_rec_3 16 rfl rfl)
theorem dX2_rec_87 : decode cX2_rec 87 = .ok (.sipush 768, 3) := dk_17 3 0 (dk_at dksX2_rec_3 17 rfl rfl)
theorem dX2_rec_90 : decode cX2_rec 90 = .ok (.iload 4, 2) := dk_21 4 (dk_at dksX2_rec_3 20 rfl rfl)
theorem dX2_rec_92 : decode cX2_rec 92 = .ok (.iadd, 1) := dk_96 (dk_at dksX2_rec_3 22 rfl rfl)
theorem dX2_rec_93 : decode cX2_rec 93 = .ok (.saload, 1) := dk_53 (dk_at dksX2_rec_3 23 rfl rfl)
theorem dX2_rec_94 : decode cX2_rec 94 = .ok (.iadd, 1) := dk_96 (dk_at dksX2_rec_4 0 rfl rfl)
theorem dX2_rec_95 : decode cX2_rec 95 = .ok (.imul, 1) := dk_104 (dk_at dksX2_rec_4 1 rfl rfl)
theorem dX2_rec_96 : decode cX2_rec 96 = .ok (.isub, 1) := dk_100 (dk_at dksX2_rec_4 2 rfl rfl)
theorem dX2_rec_97 : decode cX2_rec 97 = .ok (.iastore, 1) := dk_79 (dk_at dksX2_rec_4 3 rfl rfl)
theorem dX2_rec_98 : decode cX2_rec 98 = .ok (.aload_n 3, 1) := dk_45 (dk_at dksX2_rec_4 4 rfl rfl)
theorem dX2_rec_99 : decode cX2_rec 99 = .ok (.iconst 2, 1) := dk_5 (dk_at dksX2_rec_4 5 rfl rfl)
theorem dX2_rec_100 : decode cX2_rec 100 = .ok (.ldc 27, 2) := dk_18 27 (dk_at dksX2_rec_4 6 rfl rfl)
theorem dX2_rec_102 : decode cX2_rec 102 = .ok (.bipush 8, 2) := dk_16 8 (dk_at dksX2_rec_4 8 rfl rfl)
theorem dX2_rec_104 : decode cX2_rec 104 = .ok (.aload_n 1, 1) := dk_43 (dk_at dksX2_rec_4 10 rfl rfl)
theorem dX2_rec_105 : decode cX2_rec 105 = .ok (.sipush 512, 3) := dk_17 2 0 (dk_at dksX2_rec_4 11 rfl rfl)
theorem dX2_rec_108 : decode cX2_rec 108 = .ok (.iload 4, 2) := dk_21 4 (dk_at dksX2_rec_4 14 rfl rfl)
theorem dX2_rec_110 : decode cX2_rec 110 = .ok (.iadd, 1) := dk_96 (dk_at dksX2_rec_4 16 rfl rfl)
theorem dX2_rec_111 : decode cX2_rec 111 = .ok (.saload, 1) := dk_53 (dk_at dksX2_rec_4 17 rfl rfl)
theorem dX2_rec_112 : decode cX2_rec 112 = .ok (.imul, 1) := dk_104 (dk_at dksX2_rec_4 18 rfl rfl)
theorem dX2_rec_113 : decode cX2_rec 113 = .ok (.iadd, 1) := dk_96 (dk_at dksX2_rec_4 19 rfl rfl)
theorem dX2_rec_114 : decode cX2_rec 114 = .ok (.sipush 12289, 3) := dk_17 48 1 (dk_at dksX2_rec_4 20 rfl rfl)
theorem dX2_rec_117 : decode cX2_rec 117 = .ok (.iconst 2, 1) := dk_5 (dk_at dksX2_rec_4 23 rfl rfl)
theorem dX2_rec_118 : decode cX2_rec 118 = .ok (.aload_n 2, 1) := dk_44 (dk_at dksX2_rec_5 0 rfl rfl)
theorem dX2_rec_119 : decode cX2_rec 119 = .ok (.sipush 512, 3) := dk_17 2 0 (dk_at dksX2_rec_5 1 rfl rfl)
theorem dX2_rec_122 : decode cX2_rec 122 = .ok (.iload 4, 2) := dk_21 4 (dk_at dksX2_rec_5 4 rfl rfl)
theorem dX2_rec_124 : decode cX2_rec 124 = .ok (.iadd, 1) := dk_96 (dk_at dksX2_rec_5 6 rfl rfl)
theorem dX2_rec_125 : decode cX2_rec 125 = .ok (.saload, 1) := dk_53 (dk_at dksX2_rec_5 7 rfl rfl)
theorem dX2_rec_126 : decode cX2_rec 126 = .ok (.imul, 1) := dk_104 (dk_at dksX2_rec_5 8 rfl rfl)
theorem dX2_rec_127 : decode cX2_rec 127 = .ok (.aload_n 2, 1) := dk_44 (dk_at dksX2_rec_5 9 rfl rfl)
theorem dX2_rec_128 : decode cX2_rec 128 = .ok (.sipush 768, 3) := dk_17 3 0 (dk_at dksX2_rec_5 10 rfl rfl)
theorem dX2_rec_131 : decode cX2_rec 131 = .ok (.iload 4, 2) := dk_21 4 (dk_at dksX2_rec_5 13 rfl rfl)
theorem dX2_rec_133 : decode cX2_rec 133 = .ok (.iadd, 1) := dk_96 (dk_at dksX2_rec_5 15 rfl rfl)
theorem dX2_rec_134 : decode cX2_rec 134 = .ok (.saload, 1) := dk_53 (dk_at dksX2_rec_5 16 rfl rfl)
theorem dX2_rec_135 : decode cX2_rec 135 = .ok (.iadd, 1) := dk_96 (dk_at dksX2_rec_5 17 rfl rfl)
theorem dX2_rec_136 : decode cX2_rec 136 = .ok (.imul, 1) := dk_104 (dk_at dksX2_rec_5 18 rfl rfl)
theorem dX2_rec_137 : decode cX2_rec 137 = .ok (.isub, 1) := dk_100 (dk_at dksX2_rec_5 19 rfl rfl)
theorem dX2_rec_138 : decode cX2_rec 138 = .ok (.iastore, 1) := dk_79 (dk_at dksX2_rec_5 20 rfl rfl)
theorem dX2_rec_139 : decode cX2_rec 139 = .ok (.aload_n 3, 1) := dk_45 (dk_at dksX2_rec_5 21 rfl rfl)
theorem dX2_rec_140 : decode cX2_rec 140 = .ok (.iconst 3, 1) := dk_6 (dk_at dksX2_rec_5 22 rfl rfl)
theorem dX2_rec_141 : decode cX2_rec 141 = .ok (.ldc 27, 2) := dk_18 27 (dk_at dksX2_rec_6 0 rfl rfl)
theorem dX2_rec_143 : decode cX2_rec 143 = .ok (.bipush 8, 2) := dk_16 8 (dk_at dksX2_rec_6 2 rfl rfl)
theorem dX2_rec_145 : decode cX2_rec 145 = .ok (.aload_n 1, 1) := dk_43 (dk_at dksX2_rec_6 4 rfl rfl)
theorem dX2_rec_146 : decode cX2_rec 146 = .ok (.sipush 768, 3) := dk_17 3 0 (dk_at dksX2_rec_6 5 rfl rfl)
theorem dX2_rec_149 : decode cX2_rec 149 = .ok (.iload 4, 2) := dk_21 4 (dk_at dksX2_rec_6 8 rfl rfl)
theorem dX2_rec_151 : decode cX2_rec 151 = .ok (.iadd, 1) := dk_96 (dk_at dksX2_rec_6 10 rfl rfl)
theorem dX2_rec_152 : decode cX2_rec 152 = .ok (.saload, 1) := dk_53 (dk_at dksX2_rec_6 11 rfl rfl)
theorem dX2_rec_153 : decode cX2_rec 153 = .ok (.imul, 1) := dk_104 (dk_at dksX2_rec_6 12 rfl rfl)
theorem dX2_rec_154 : decode cX2_rec 154 = .ok (.iadd, 1) := dk_96 (dk_at dksX2_rec_6 13 rfl rfl)
theorem dX2_rec_155 : decode cX2_rec 155 = .ok (.sipush 12289, 3) := dk_17 48 1 (dk_at dksX2_rec_6 14 rfl rfl)
theorem dX2_rec_158 : decode cX2_rec 158 = .ok (.aload_n 2, 1) := dk_44 (dk_at dksX2_rec_6 17 rfl rfl)
theorem dX2_rec_159 : decode cX2_rec 159 = .ok (.sipush 768, 3) := dk_17 3 0 (dk_at dksX2_rec_6 18 rfl rfl)
theorem dX2_rec_162 : decode cX2_rec 162 = .ok (.iload 4, 2) := dk_21 4 (dk_at dksX2_rec_6 21 rfl rfl)
theorem dX2_rec_164 : decode cX2_rec 164 = .ok (.iadd, 1) := dk_96 (dk_at dksX2_rec_6 23 rfl rfl)
theorem dX2_rec_165 : decode cX2_rec 165 = .ok (.saload, 1) := dk_53 (dk_at dksX2_rec_7 0 rfl rfl)
theorem dX2_rec_166 : decode cX2_rec 166 = .ok (.imul, 1) := dk_104 (dk_at dksX2_rec_7 1 rfl rfl)
theorem dX2_rec_167 : decode cX2_rec 167 = .ok (.isub, 1) := dk_100 (dk_at dksX2_rec_7 2 rfl rfl)
theorem dX2_rec_168 : decode cX2_rec 168 = .ok (.iastore, 1) := dk_79 (dk_at dksX2_rec_7 3 rfl rfl)
theorem dX2_rec_169 : decode cX2_rec 169 = .ok (.aload_n 0, 1) := dk_42 (dk_at dksX2_rec_7 4 rfl rfl)
theorem dX2_rec_170 : decode cX2_rec 170 = .ok (.iload 4, 2) := dk_21 4 (dk_at dksX2_rec_7 5 rfl rfl)
theorem dX2_rec_172 : decode cX2_rec 172 = .ok (.iconst 3, 1) := dk_6 (dk_at dksX2_rec_7 7 rfl rfl)
theorem dX2_rec_173 : decode cX2_rec 173 = .ok (.iushr, 1) := dk_124 (dk_at dksX2_rec_7 8 rfl rfl)
theorem dX2_rec_174 : decode cX2_rec 174 = .ok (.dup2, 1) := dk_92 (dk_at dksX2_rec_7 9 rfl rfl)
theorem dX2_rec_175 : decode cX2_rec 175 = .ok (.baload, 1) := dk_51 (dk_at dksX2_rec_7 10 rfl rfl)
theorem dX2_rec_176 : decode cX2_rec 176 = .ok (.aload_n 3, 1) := dk_45 (dk_at dksX2_rec_7 11 rfl rfl)
theorem dX2_rec_177 : decode cX2_rec 177 = .ok (.iconst 0, 1) := dk_3 (dk_at dksX2_rec_7 12 rfl rfl)
theorem dX2_rec_178 : decode cX2_rec 178 = .ok (.iaload, 1) := dk_46 (dk_at dksX2_rec_7 13 rfl rfl)
theorem dX2_rec_179 : decode cX2_rec 179 = .ok (.aload_n 3, 1) := dk_45 (dk_at dksX2_rec_7 14 rfl rfl)
theorem dX2_rec_180 : decode cX2_rec 180 = .ok (.iconst 1, 1) := dk_4 (dk_at dksX2_rec_7 15 rfl rfl)
theorem dX2_rec_181 : decode cX2_rec 181 = .ok (.iaload, 1) := dk_46 (dk_at dksX2_rec_7 16 rfl rfl)
theorem dX2_rec_182 : decode cX2_rec 182 = .ok (.aload_n 3, 1) := dk_45 (dk_at dksX2_rec_7 17 rfl rfl)
theorem dX2_rec_183 : decode cX2_rec 183 = .ok (.iconst 2, 1) := dk_5 (dk_at dksX2_rec_7 18 rfl rfl)
theorem dX2_rec_184 : decode cX2_rec 184 = .ok (.iaload, 1) := dk_46 (dk_at dksX2_rec_7 19 rfl rfl)
theorem dX2_rec_185 : decode cX2_rec 185 = .ok (.aload_n 3, 1) := dk_45 (dk_at dksX2_rec_7 20 rfl rfl)
theorem dX2_rec_186 : decode cX2_rec 186 = .ok (.iconst 3, 1) := dk_6 (dk_at dksX2_rec_7 21 rfl rfl)
theorem dX2_rec_187 : decode cX2_rec 187 = .ok (.iaload, 1) := dk_46 (dk_at dksX2_rec_7 22 rfl rfl)
theorem dX2_rec_188 : decode cX2_rec 188 = .ok (.invokestatic 28, 3) := dk_184 0 28 (dk_at dksX2_rec_8 0 rfl rfl)
theorem dX2_rec_191 : decode cX2_rec 191 = .ok (.iload 4, 2) := dk_21 4 (dk_at dksX2_rec_8 3 rfl rfl)
theorem dX2_rec_193 : decode cX2_rec 193 = .ok (.bipush 7, 2) := dk_16 7 (dk_at dksX2_rec_8 5 rfl rfl)
theorem dX2_rec_195 : decode cX2_rec 195 = .ok (.iand, 1) := dk_126 (dk_at dksX2_rec_8 7 rfl rfl)
theorem dX2_rec_196 : decode cX2_rec 196 = .ok (.ishl, 1) := dk_120 (dk_at dksX2_rec_8 8 rfl rfl)
theorem dX2_rec_197 : decode cX2_rec 197 = .ok (.ior, 1) := dk_128 (dk_at dksX2_rec_8 9 rfl rfl)
theorem dX2_rec_198 : decode cX2_rec 198 = .ok (.i2b, 1) := dk_145 (dk_at dksX2_rec_8 10 rfl rfl)
theorem dX2_rec_199 : decode cX2_rec 199 = .ok (.bastore, 1) := dk_84 (dk_at dksX2_rec_8 11 rfl rfl)
theorem dX2_rec_200 : decode cX2_rec 200 = .ok (.iinc 4 1, 3) := dk_132 4 1 (dk_at dksX2_rec_8 12 rfl rfl)
theorem dX2_rec_203 : decode cX2_rec 203 = .ok (.goto (-191), 3) := dk_167 255 65 (dk_at dksX2_rec_8 15 rfl rfl)
theorem dX2_rec_206 : decode cX2_rec 206 = .ok (.return_, 1) := dk_177 (dk_at dksX2_rec_8 18 rfl rfl)
abbrev cX2_LDDecode : ByteArray := prog_1_method_4_code
def yX2_LDDecode : MethodName := ⟨RX2, "LDDecode", "(IIII)S"⟩
def dkwX2_LDDecode_1 : List UInt8 := [21, 4, 29, 184, 0, 18, 96, 54, 4, 21, 4, 18, 11, 100, 54, 4, 21, 4, 16, 31, 124, 147, 172]
abbrev dktX2_LDDecode_1 : List UInt8 := dkwX2_LDDecode_1 ++ []
def dkwX2_LDDecode_0 : List UInt8 := [26, 184, 0, 18, 54, 4, 21, 4, 27, 184, 0, 18, 96, 54, 4, 21, 4, 28, 184, 0, 18, 96, 54, 4]
abbrev dktX2_LDDecode_0 : List UInt8 := dkwX2_LDDecode_0 ++ dktX2_LDDecode_1
theorem dksX2_LDDecode_0 : cX2_LDDecode.data.toList.drop 0 = dktX2_LDDecode_0 := by decide +kernel
theorem dksX2_LDDecode_1 : cX2_LDDecode.data.toList.drop 24 = dktX2_LDDecode_1 := dk_seg dksX2_LDDecode_0 24 rfl rfl
theorem dX2_LDDecode_0 : decode cX2_LDDecode 0 = .ok (.iload_n 0, 1) := dk_26 (dk_at dksX2_LDDecode_0 0 rfl rfl)
theorem dX2_LDDecode_1 : decode cX2_LDDecode 1 = .ok (.invokestatic 18, 3) := dk_184 0 18 (dk_at dksX2_LDDecode_0 1 rfl rfl)
theorem dX2_LDDecode_4 : decode cX2_LDDecode 4 = .ok (.istore 4, 2) := dk_54 4 (dk_at dksX2_LDDecode_0 4 rfl rfl)
theorem dX2_LDDecode_6 : decode cX2_LDDecode 6 = .ok (.iload 4, 2) := dk_21 4 (dk_at dksX2_LDDecode_0 6 rfl rfl)
theorem dX2_LDDecode_8 : decode cX2_LDDecode 8 = .ok (.iload_n 1, 1) := dk_27 (dk_at dksX2_LDDecode_0 8 rfl rfl)
theorem dX2_LDDecode_9 : decode cX2_LDDecode 9 = .ok (.invokestatic 18, 3) := dk_184 0 18 (dk_at dksX2_LDDecode_0 9 rfl rfl)
theorem dX2_LDDecode_12 : decode cX2_LDDecode 12 = .ok (.iadd, 1) := dk_96 (dk_at dksX2_LDDecode_0 12 rfl rfl)
theorem dX2_LDDecode_13 : decode cX2_LDDecode 13 = .ok (.istore 4, 2) := dk_54 4 (dk_at dksX2_LDDecode_0 13 rfl rfl)
theorem dX2_LDDecode_15 : decode cX2_LDDecode 15 = .ok (.iload 4, 2) := dk_21 4 (dk_at dksX2_LDDecode_0 15 rfl rfl)
theorem dX2_LDDecode_17 : decode cX2_LDDecode 17 = .ok (.iload_n 2, 1) := dk_28 (dk_at dksX2_LDDecode_0 17 rfl rfl)
theorem dX2_LDDecode_18 : decode cX2_LDDecode 18 = .ok (.invokestatic 18, 3) := dk_184 0 18 (dk_at dksX2_LDDecode_0 18 rfl rfl)
theorem dX2_LDDecode_21 : decode cX2_LDDecode 21 = .ok (.iadd, 1) := dk_96 (dk_at dksX2_LDDecode_0 21 rfl rfl)
theorem dX2_LDDecode_22 : decode cX2_LDDecode 22 = .ok (.istore 4, 2) := dk_54 4 (dk_at dksX2_LDDecode_0 22 rfl rfl)
theorem dX2_LDDecode_24 : decode cX2_LDDecode 24 = .ok (.iload 4, 2) := dk_21 4 (dk_at dksX2_LDDecode_1 0 rfl rfl)
theorem dX2_LDDecode_26 : decode cX2_LDDecode 26 = .ok (.iload_n 3, 1) := dk_29 (dk_at dksX2_LDDecode_1 2 rfl rfl)
theorem dX2_LDDecode_27 : decode cX2_LDDecode 27 = .ok (.invokestatic 18, 3) := dk_184 0 18 (dk_at dksX2_LDDecode_1 3 rfl rfl)
theorem dX2_LDDecode_30 : decode cX2_LDDecode 30 = .ok (.iadd, 1) := dk_96 (dk_at dksX2_LDDecode_1 6 rfl rfl)
theorem dX2_LDDecode_31 : decode cX2_LDDecode 31 = .ok (.istore 4, 2) := dk_54 4 (dk_at dksX2_LDDecode_1 7 rfl rfl)
theorem dX2_LDDecode_33 : decode cX2_LDDecode 33 = .ok (.iload 4, 2) := dk_21 4 (dk_at dksX2_LDDecode_1 9 rfl rfl)
theorem dX2_LDDecode_35 : decode cX2_LDDecode 35 = .ok (.ldc 11, 2) := dk_18 11 (dk_at dksX2_LDDecode_1 11 rfl rfl)
theorem dX2_LDDecode_37 : decode cX2_LDDecode 37 = .ok (.isub, 1) := dk_100 (dk_at dksX2_LDDecode_1 13 rfl rfl)
theorem dX2_LDDecode_38 : decode cX2_LDDecode 38 = .ok (.istore 4, 2) := dk_54 4 (dk_at dksX2_LDDecode_1 14 rfl rfl)
theorem dX2_LDDecode_40 : decode cX2_LDDecode 40 = .ok (.iload 4, 2) := dk_21 4 (dk_at dksX2_LDDecode_1 16 rfl rfl)
theorem dX2_LDDecode_42 : decode cX2_LDDecode 42 = .ok (.bipush 31, 2) := dk_16 31 (dk_at dksX2_LDDecode_1 18 rfl rfl)
theorem dX2_LDDecode_44 : decode cX2_LDDecode 44 = .ok (.iushr, 1) := dk_124 (dk_at dksX2_LDDecode_1 20 rfl rfl)
theorem dX2_LDDecode_45 : decode cX2_LDDecode 45 = .ok (.i2s, 1) := dk_147 (dk_at dksX2_LDDecode_1 21 rfl rfl)
theorem dX2_LDDecode_46 : decode cX2_LDDecode 46 = .ok (.ireturn, 1) := dk_172 (dk_at dksX2_LDDecode_1 22 rfl rfl)
abbrev cX2_g : ByteArray := prog_1_method_3_code
def yX2_g : MethodName := ⟨RX2, "g", "(I)I"⟩
def dkwX2_g_2 : List UInt8 := [26, 100, 184, 0, 12, 172]
abbrev dktX2_g_2 : List UInt8 := dkwX2_g_2 ++ []
def dkwX2_g_1 : List UInt8 := [16, 31, 122, 62, 27, 29, 100, 60, 27, 4, 126, 61, 27, 4, 122, 28, 96, 60, 27, 18, 11, 104, 60, 27]
abbrev dktX2_g_1 : List UInt8 := dkwX2_g_1 ++ dktX2_g_2
def dkwX2_g_0 : List UInt8 := [26, 17, 10, 170, 104, 62, 29, 16, 27, 122, 60, 26, 27, 18, 7, 104, 100, 62, 18, 8, 29, 100, 62, 29]
abbrev dktX2_g_0 : List UInt8 := dkwX2_g_0 ++ dktX2_g_1
theorem dksX2_g_0 : cX2_g.data.toList.drop 0 = dktX2_g_0 := by decide +kernel
theorem dksX2_g_1 : cX2_g.data.toList.drop 24 = dktX2_g_1 := dk_seg dksX2_g_0 24 rfl rfl
theorem dksX2_g_2 : cX2_g.data.toList.drop 48 = dktX2_g_2 := dk_seg dksX2_g_1 24 rfl rfl
theorem dX2_g_0 : decode cX2_g 0 = .ok (.iload_n 0, 1) := dk_26 (dk_at dksX2_g_0 0 rfl rfl)
theorem dX2_g_1 : decode cX2_g 1 = .ok (.sipush 2730, 3) := dk_17 10 170 (dk_at dksX2_g_0 1 rfl rfl)
theorem dX2_g_4 : decode cX2_g 4 = .ok (.imul, 1) := dk_104 (dk_at dksX2_g_0 4 rfl rfl)
theorem dX2_g_5 : decode cX2_g 5 = .ok (.istore_n 3, 1) := dk_62 (dk_at dksX2_g_0 5 rfl rfl)
theorem dX2_g_6 : decode cX2_g 6 = .ok (.iload_n 3, 1) := dk_29 (dk_at dksX2_g_0 6 rfl rfl)
theorem dX2_g_7 : decode cX2_g 7 = .ok (.bipush 27, 2) := dk_16 27 (dk_at dksX2_g_0 7 rfl rfl)
theorem dX2_g_9 : decode cX2_g 9 = .ok (.ishr, 1) := dk_122 (dk_at dksX2_g_0 9 rfl rfl)
theorem dX2_g_10 : decode cX2_g 10 = .ok (.istore_n 1, 1) := dk_60 (dk_at dksX2_g_0 10 rfl rfl)
theorem dX2_g_11 : decode cX2_g 11 = .ok (.iload_n 0, 1) := dk_26 (dk_at dksX2_g_0 11 rfl rfl)
theorem dX2_g_12 : decode cX2_g 12 = .ok (.iload_n 1, 1) := dk_27 (dk_at dksX2_g_0 12 rfl rfl)
theorem dX2_g_13 : decode cX2_g 13 = .ok (.ldc 7, 2) := dk_18 7 (dk_at dksX2_g_0 13 rfl rfl)
theorem dX2_g_15 : decode cX2_g 15 = .ok (.imul, 1) := dk_104 (dk_at dksX2_g_0 15 rfl rfl)
theorem dX2_g_16 : decode cX2_g 16 = .ok (.isub, 1) := dk_100 (dk_at dksX2_g_0 16 rfl rfl)
theorem dX2_g_17 : decode cX2_g 17 = .ok (.istore_n 3, 1) := dk_62 (dk_at dksX2_g_0 17 rfl rfl)
theorem dX2_g_18 : decode cX2_g 18 = .ok (.ldc 8, 2) := dk_18 8 (dk_at dksX2_g_0 18 rfl rfl)
theorem dX2_g_20 : decode cX2_g 20 = .ok (.iload_n 3, 1) := dk_29 (dk_at dksX2_g_0 20 rfl rfl)
theorem dX2_g_21 : decode cX2_g 21 = .ok (.isub, 1) := dk_100 (dk_at dksX2_g_0 21 rfl rfl)
theorem dX2_g_22 : decode cX2_g 22 = .ok (.istore_n 3, 1) := dk_62 (dk_at dksX2_g_0 22 rfl rfl)
theorem dX2_g_23 : decode cX2_g 23 = .ok (.iload_n 3, 1) := dk_29 (dk_at dksX2_g_0 23 rfl rfl)
theorem dX2_g_24 : decode cX2_g 24 = .ok (.bipush 31, 2) := dk_16 31 (dk_at dksX2_g_1 0 rfl rfl)
theorem dX2_g_26 : decode cX2_g 26 = .ok (.ishr, 1) := dk_122 (dk_at dksX2_g_1 2 rfl rfl)
theorem dX2_g_27 : decode cX2_g 27 = .ok (.istore_n 3, 1) := dk_62 (dk_at dksX2_g_1 3 rfl rfl)
theorem dX2_g_28 : decode cX2_g 28 = .ok (.iload_n 1, 1) := dk_27 (dk_at dksX2_g_1 4 rfl rfl)
theorem dX2_g_29 : decode cX2_g 29 = .ok (.iload_n 3, 1) := dk_29 (dk_at dksX2_g_1 5 rfl rfl)
theorem dX2_g_30 : decode cX2_g 30 = .ok (.isub, 1) := dk_100 (dk_at dksX2_g_1 6 rfl rfl)
theorem dX2_g_31 : decode cX2_g 31 = .ok (.istore_n 1, 1) := dk_60 (dk_at dksX2_g_1 7 rfl rfl)
theorem dX2_g_32 : decode cX2_g 32 = .ok (.iload_n 1, 1) := dk_27 (dk_at dksX2_g_1 8 rfl rfl)
theorem dX2_g_33 : decode cX2_g 33 = .ok (.iconst 1, 1) := dk_4 (dk_at dksX2_g_1 9 rfl rfl)
theorem dX2_g_34 : decode cX2_g 34 = .ok (.iand, 1) := dk_126 (dk_at dksX2_g_1 10 rfl rfl)
theorem dX2_g_35 : decode cX2_g 35 = .ok (.istore_n 2, 1) := dk_61 (dk_at dksX2_g_1 11 rfl rfl)
theorem dX2_g_36 : decode cX2_g 36 = .ok (.iload_n 1, 1) := dk_27 (dk_at dksX2_g_1 12 rfl rfl)
theorem dX2_g_37 : decode cX2_g 37 = .ok (.iconst 1, 1) := dk_4 (dk_at dksX2_g_1 13 rfl rfl)
theorem dX2_g_38 : decode cX2_g 38 = .ok (.ishr, 1) := dk_122 (dk_at dksX2_g_1 14 rfl rfl)
theorem dX2_g_39 : decode cX2_g 39 = .ok (.iload_n 2, 1) := dk_28 (dk_at dksX2_g_1 15 rfl rfl)
theorem dX2_g_40 : decode cX2_g 40 = .ok (.iadd, 1) := dk_96 (dk_at dksX2_g_1 16 rfl rfl)
theorem dX2_g_41 : decode cX2_g 41 = .ok (.istore_n 1, 1) := dk_60 (dk_at dksX2_g_1 17 rfl rfl)
theorem dX2_g_42 : decode cX2_g 42 = .ok (.iload_n 1, 1) := dk_27 (dk_at dksX2_g_1 18 rfl rfl)
theorem dX2_g_43 : decode cX2_g 43 = .ok (.ldc 11, 2) := dk_18 11 (dk_at dksX2_g_1 19 rfl rfl)
theorem dX2_g_45 : decode cX2_g 45 = .ok (.imul, 1) := dk_104 (dk_at dksX2_g_1 21 rfl rfl)
theorem dX2_g_46 : decode cX2_g 46 = .ok (.istore_n 1, 1) := dk_60 (dk_at dksX2_g_1 22 rfl rfl)
theorem dX2_g_47 : decode cX2_g 47 = .ok (.iload_n 1, 1) := dk_27 (dk_at dksX2_g_1 23 rfl rfl)
theorem dX2_g_48 : decode cX2_g 48 = .ok (.iload_n 0, 1) := dk_26 (dk_at dksX2_g_2 0 rfl rfl)
theorem dX2_g_49 : decode cX2_g 49 = .ok (.isub, 1) := dk_100 (dk_at dksX2_g_2 1 rfl rfl)
theorem dX2_g_50 : decode cX2_g 50 = .ok (.invokestatic 12, 3) := dk_184 0 12 (dk_at dksX2_g_2 2 rfl rfl)
theorem dX2_g_53 : decode cX2_g 53 = .ok (.ireturn, 1) := dk_172 (dk_at dksX2_g_2 5 rfl rfl)
abbrev cX2_abs : ByteArray := prog_1_method_2_code
def yX2_abs : MethodName := ⟨RX2, "abs", "(I)I"⟩
def dkwX2_abs_0 : List UInt8 := [26, 16, 31, 122, 60, 26, 27, 130, 27, 100, 172]
abbrev dktX2_abs_0 : List UInt8 := dkwX2_abs_0 ++ []
theorem dksX2_abs_0 : cX2_abs.data.toList.drop 0 = dktX2_abs_0 := by decide +kernel
theorem dX2_abs_0 : decode cX2_abs 0 = .ok (.iload_n 0, 1) := dk_26 (dk_at dksX2_abs_0 0 rfl rfl)
theorem dX2_abs_1 : decode cX2_abs 1 = .ok (.bipush 31, 2) := dk_16 31 (dk_at dksX2_abs_0 1 rfl rfl)
theorem dX2_abs_3 : decode cX2_abs 3 = .ok (.ishr, 1) := dk_122 (dk_at dksX2_abs_0 3 rfl rfl)
theorem dX2_abs_4 : decode cX2_abs 4 = .ok (.istore_n 1, 1) := dk_60 (dk_at dksX2_abs_0 4 rfl rfl)
theorem dX2_abs_5 : decode cX2_abs 5 = .ok (.iload_n 0, 1) := dk_26 (dk_at dksX2_abs_0 5 rfl rfl)
theorem dX2_abs_6 : decode cX2_abs 6 = .ok (.iload_n 1, 1) := dk_27 (dk_at dksX2_abs_0 6 rfl rfl)
theorem dX2_abs_7 : decode cX2_abs 7 = .ok (.ixor, 1) := dk_130 (dk_at dksX2_abs_0 7 rfl rfl)
theorem dX2_abs_8 : decode cX2_abs 8 = .ok (.iload_n 1, 1) := dk_27 (dk_at dksX2_abs_0 8 rfl rfl)
theorem dX2_abs_9 : decode cX2_abs 9 = .ok (.isub, 1) := dk_100 (dk_at dksX2_abs_0 9 rfl rfl)
theorem dX2_abs_10 : decode cX2_abs 10 = .ok (.ireturn, 1) := dk_172 (dk_at dksX2_abs_0 10 rfl rfl)
theorem q4 : (Jvm.Cond.initialized "ErrorCorrection") ∈ lw_all := lw_g (lw_at lw_m0 3 rfl) rfl
theorem q49 : (Jvm.Cond.static ({ cls := "ErrorCorrection", name := "rec", desc := "([B[S[S)V" } : Jvm.MethodName)) ∈ lw_all := lw_g (lw_at lw_m0 48 rfl) rfl
theorem q50 : (Jvm.Cond.code ({ cls := "ErrorCorrection", name := "rec", desc := "([B[S[S)V" } : Jvm.MethodName) prog_1_method_5_code (5 : Nat) (Option.none : Option Jvm.ClassFile.FieldType)) ∈ lw_all := lw_g (lw_at lw_m0 49 rfl) rfl
theorem q51 : (Jvm.Cond.methodLink "ErrorCorrection" (21 : Nat) ({ cls := "OwnArrays", name := "fill", desc := "([BB)V" } : Jvm.MethodName)) ∈ lw_all := lw_g (lw_at lw_m0 50 rfl) rfl
theorem q57 : (Jvm.Cond.constant "ErrorCorrection" (27 : Nat) (196624 : Int32)) ∈ lw_all := lw_g (lw_at lw_m0 56 rfl) rfl
theorem q58 : (Jvm.Cond.methodLink "ErrorCorrection" (28 : Nat) ({ cls := "ErrorCorrection", name := "LDDecode", desc := "(IIII)S" } : Jvm.MethodName)) ∈ lw_all := lw_g (lw_at lw_m0 57 rfl) rfl
theorem q59 : (Jvm.Cond.static ({ cls := "ErrorCorrection", name := "LDDecode", desc := "(IIII)S" } : Jvm.MethodName)) ∈ lw_all := lw_g (lw_at lw_m0 58 rfl) rfl
theorem q60 : (Jvm.Cond.code ({ cls := "ErrorCorrection", name := "LDDecode", desc := "(IIII)S" } : Jvm.MethodName) prog_1_method_4_code (5 : Nat) (Option.some Jvm.ClassFile.FieldType.short)) ∈ lw_all := lw_g (lw_at lw_m0 59 rfl) rfl
theorem q61 : (Jvm.Cond.methodLink "ErrorCorrection" (18 : Nat) ({ cls := "ErrorCorrection", name := "g", desc := "(I)I" } : Jvm.MethodName)) ∈ lw_all := lw_g (lw_at lw_m0 60 rfl) rfl
theorem q62 : (Jvm.Cond.static ({ cls := "ErrorCorrection", name := "g", desc := "(I)I" } : Jvm.MethodName)) ∈ lw_all := lw_g (lw_at lw_m0 61 rfl) rfl
theorem q63 : (Jvm.Cond.code ({ cls := "ErrorCorrection", name := "g", desc := "(I)I" } : Jvm.MethodName) prog_1_method_3_code (4 : Nat) (Option.some Jvm.ClassFile.FieldType.int)) ∈ lw_all := lw_g (lw_at lw_m0 62 rfl) rfl
theorem q64 : (Jvm.Cond.constant "ErrorCorrection" (7 : Nat) (49156 : Int32)) ∈ lw_all := lw_g (lw_at lw_m0 63 rfl) rfl
theorem q65 : (Jvm.Cond.constant "ErrorCorrection" (8 : Nat) (49155 : Int32)) ∈ lw_all := lw_g (lw_at lw_m0 64 rfl) rfl
theorem q66 : (Jvm.Cond.constant "ErrorCorrection" (11 : Nat) (98312 : Int32)) ∈ lw_all := lw_g (lw_at lw_m0 65 rfl) rfl
theorem q67 : (Jvm.Cond.methodLink "ErrorCorrection" (12 : Nat) ({ cls := "ErrorCorrection", name := "abs", desc := "(I)I" } : Jvm.MethodName)) ∈ lw_all := lw_g (lw_at lw_m0 66 rfl) rfl
theorem q68 : (Jvm.Cond.static ({ cls := "ErrorCorrection", name := "abs", desc := "(I)I" } : Jvm.MethodName)) ∈ lw_all := lw_g (lw_at lw_m0 67 rfl) rfl
theorem q69 : (Jvm.Cond.code ({ cls := "ErrorCorrection", name := "abs", desc := "(I)I" } : Jvm.MethodName) prog_1_method_2_code (2 : Nat) (Option.some Jvm.ClassFile.FieldType.int)) ∈ lw_all := lw_g (lw_at lw_m0 68 rfl) rfl
/-! OwnArrays -/
set_option maxRecDepth 100000
def RX3 : String := "OwnArrays"
abbrev cX3_fill : ByteArray := prog_5_method_1_code
def yX3_fill : MethodName := ⟨RX3, "fill", "([BB)V"⟩
def dkwX3_fill_0 : List UInt8 := [42, 27, 184, 0, 1, 177]
abbrev dktX3_fill_0 : List UInt8 := dkwX3_fill_0 ++ []
theorem dksX3_fill_0 : cX3_fill.data.toList.drop 0 = dktX3_fill_0 := by decide +kernel
theorem dX3_fill_0 : decode cX3_fill 0 = .ok (.aload_n 0, 1) := dk_42 (dk_at dksX3_fill_0 0 rfl rfl)
theorem dX3_fill_1 : decode cX3_fill 1 = .ok (.iload_n 1, 1) := dk_27 (dk_at dksX3_fill_0 1 rfl rfl)
theorem dX3_fill_2 : decode cX3_fill 2 = .ok (.invokestatic 1, 3) := dk_184 0 1 (dk_at dksX3_fill_0 2 rfl rfl)
theorem dX3_fill_5 : decode cX3_fill 5 = .ok (.return_, 1) := dk_177 (dk_at dksX3_fill_0 5 rfl rfl)
theorem q5 : (Jvm.Cond.initialized "OwnArrays") ∈ lw_all := lw_g (lw_at lw_m0 4 rfl) rfl
theorem q52 : (Jvm.Cond.static ({ cls := "OwnArrays", name := "fill", desc := "([BB)V" } : Jvm.MethodName)) ∈ lw_all := lw_g (lw_at lw_m0 51 rfl) rfl
theorem q53 : (Jvm.Cond.code ({ cls := "OwnArrays", name := "fill", desc := "([BB)V" } : Jvm.MethodName) prog_5_method_1_code (2 : Nat) (Option.none : Option Jvm.ClassFile.FieldType)) ∈ lw_all := lw_g (lw_at lw_m0 52 rfl) rfl
theorem q54 : (Jvm.Cond.methodLink "OwnArrays" (1 : Nat) ({ cls := "java/util/Arrays", name := "fill", desc := "([BB)V" } : Jvm.MethodName)) ∈ lw_all := lw_g (lw_at lw_m0 53 rfl) rfl
theorem q1 : (Jvm.Cond.initialized "HopeMendDeskLaw") ∈ lw_all := lw_g (lw_at lw_m0 0 rfl) rfl
set_option maxRecDepth 100000
theorem q7 : (Jvm.Cond.classLink "HopeMendDeskLaw" (7 : Nat) "HopeMendDesk") ∈ lw_all := lw_g (lw_at lw_m0 6 rfl) rfl
theorem q9 : (Jvm.Cond.methodLink "HopeMendDeskLaw" (9 : Nat) ({ cls := "HopeMendDesk", name := "<init>", desc := "()V" } : Jvm.MethodName)) ∈ lw_all := lw_g (lw_at lw_m0 8 rfl) rfl
theorem q27 : (Jvm.Cond.methodLink "HopeMendDeskLaw" (13 : Nat) ({ cls := "HopeMendDesk", name := "lay", desc := "(III)V" } : Jvm.MethodName)) ∈ lw_all := lw_g (lw_at lw_m0 26 rfl) rfl
theorem q32 : (Jvm.Cond.methodLink "HopeMendDeskLaw" (18 : Nat) ({ cls := "HopeMendDesk", name := "set", desc := "(II)V" } : Jvm.MethodName)) ∈ lw_all := lw_g (lw_at lw_m0 31 rfl) rfl
theorem q36 : (Jvm.Cond.methodLink "HopeMendDeskLaw" (23 : Nat) ({ cls := "HopeMendDesk", name := "help", desc := "(II)V" } : Jvm.MethodName)) ∈ lw_all := lw_g (lw_at lw_m0 35 rfl) rfl
theorem q40 : (Jvm.Cond.methodLink "HopeMendDeskLaw" (27 : Nat) ({ cls := "HopeMendDesk", name := "helps", desc := "(II)V" } : Jvm.MethodName)) ∈ lw_all := lw_g (lw_at lw_m0 39 rfl) rfl
theorem q44 : (Jvm.Cond.methodLink "HopeMendDeskLaw" (31 : Nat) ({ cls := "HopeMendDesk", name := "mend", desc := "()V" } : Jvm.MethodName)) ∈ lw_all := lw_g (lw_at lw_m0 43 rfl) rfl
theorem q71 : (Jvm.Cond.methodLink "HopeMendDeskLaw" (35 : Nat) ({ cls := "HopeMendDesk", name := "key", desc := "(I)I" } : Jvm.MethodName)) ∈ lw_all := lw_g (lw_at lw_m0 70 rfl) rfl
theorem q75 : (Jvm.Cond.methodLink "HopeMendDeskLaw" (40 : Nat) ({ cls := "HopeMendDesk", name := "get", desc := "(I)I" } : Jvm.MethodName)) ∈ lw_all := lw_g (lw_at lw_m0 74 rfl) rfl
theorem q79 : (Jvm.Cond.classLink "HopeMendDeskLaw" (10 : Nat) "HopeMendDeskModel") ∈ lw_all := lw_g (lw_at lw_m0 78 rfl) rfl
theorem q81 : (Jvm.Cond.methodLink "HopeMendDeskLaw" (12 : Nat) ({ cls := "HopeMendDeskModel", name := "<init>", desc := "()V" } : Jvm.MethodName)) ∈ lw_all := lw_g (lw_at lw_m0 80 rfl) rfl
theorem q95 : (Jvm.Cond.methodLink "HopeMendDeskLaw" (17 : Nat) ({ cls := "HopeMendDeskModel", name := "lay", desc := "(III)V" } : Jvm.MethodName)) ∈ lw_all := lw_g (lw_at lw_m0 94 rfl) rfl
theorem q100 : (Jvm.Cond.methodLink "HopeMendDeskLaw" (22 : Nat) ({ cls := "HopeMendDeskModel", name := "set", desc := "(II)V" } : Jvm.MethodName)) ∈ lw_all := lw_g (lw_at lw_m0 99 rfl) rfl
theorem q104 : (Jvm.Cond.methodLink "HopeMendDeskLaw" (26 : Nat) ({ cls := "HopeMendDeskModel", name := "help", desc := "(II)V" } : Jvm.MethodName)) ∈ lw_all := lw_g (lw_at lw_m0 103 rfl) rfl
theorem q108 : (Jvm.Cond.methodLink "HopeMendDeskLaw" (30 : Nat) ({ cls := "HopeMendDeskModel", name := "helps", desc := "(II)V" } : Jvm.MethodName)) ∈ lw_all := lw_g (lw_at lw_m0 107 rfl) rfl
theorem q112 : (Jvm.Cond.methodLink "HopeMendDeskLaw" (34 : Nat) ({ cls := "HopeMendDeskModel", name := "mend", desc := "()V" } : Jvm.MethodName)) ∈ lw_all := lw_g (lw_at lw_m0 111 rfl) rfl
theorem q125 : (Jvm.Cond.methodLink "HopeMendDeskLaw" (39 : Nat) ({ cls := "HopeMendDeskModel", name := "key", desc := "(I)I" } : Jvm.MethodName)) ∈ lw_all := lw_g (lw_at lw_m0 124 rfl) rfl
theorem q129 : (Jvm.Cond.methodLink "HopeMendDeskLaw" (43 : Nat) ({ cls := "HopeMendDeskModel", name := "get", desc := "(I)I" } : Jvm.MethodName)) ∈ lw_all := lw_g (lw_at lw_m0 128 rfl) rfl
theorem q25 : (Jvm.Cond.arrayClass Jvm.ClassFile.FieldType.short) ∈ lw_all := lw_g (lw_at lw_m0 24 rfl) rfl
set_option maxRecDepth 100000
theorem q26 : (Jvm.Cond.arrayClass Jvm.ClassFile.FieldType.byte) ∈ lw_all := lw_g (lw_at lw_m0 25 rfl) rfl
theorem q70 : (Jvm.Cond.arrayClass Jvm.ClassFile.FieldType.int) ∈ lw_all := lw_g (lw_at lw_m0 69 rfl) rfl
/-! the law's own entry -/
set_option maxRecDepth 100000
abbrev cL_law : ByteArray := code
def dkwL_law_11 : List UInt8 := [172, 132, 3, 6, 167, 255, 4, 4, 172]
abbrev dktL_law_11 : List UInt8 := dkwL_law_11 ++ []
def dkwL_law_10 : List UInt8 := [3, 172, 43, 42, 29, 4, 96, 46, 182, 0, 40, 44, 42, 29, 4, 96, 46, 182, 0, 43, 159, 0, 5, 3]
abbrev dktL_law_10 : List UInt8 := dkwL_law_10 ++ dktL_law_11
def dkwL_law_9 : List UInt8 := [167, 0, 49, 43, 42, 29, 4, 96, 46, 182, 0, 35, 44, 42, 29, 4, 96, 46, 182, 0, 39, 159, 0, 28]
abbrev dktL_law_9 : List UInt8 := dkwL_law_9 ++ dktL_law_10
def dkwL_law_8 : List UInt8 := [4, 96, 46, 42, 29, 5, 96, 46, 182, 0, 30, 167, 0, 60, 43, 182, 0, 31, 44, 182, 0, 34]
abbrev dktL_law_8 : List UInt8 := dkwL_law_8 ++ dktL_law_9
def dkwL_law_7 : List UInt8 := [46, 182, 0, 26, 167, 0, 91, 43, 42, 29, 4, 96, 46, 42, 29, 5, 96, 46, 182, 0, 27, 44, 42, 29]
abbrev dktL_law_7 : List UInt8 := dkwL_law_7 ++ dktL_law_8
def dkwL_law_6 : List UInt8 := [43, 42, 29, 4, 96, 46, 42, 29, 5, 96, 46, 182, 0, 23, 44, 42, 29, 4, 96, 46, 42, 29, 5, 96]
abbrev dktL_law_6 : List UInt8 := dkwL_law_6 ++ dktL_law_7
def dkwL_law_5 : List UInt8 := [29, 5, 96, 46, 182, 0, 18, 44, 42, 29, 4, 96, 46, 42, 29, 5, 96, 46, 182, 0, 22, 167, 0, 122]
abbrev dktL_law_5 : List UInt8 := dkwL_law_5 ++ dktL_law_6
def dkwL_law_4 : List UInt8 := [46, 42, 29, 5, 96, 46, 42, 29, 6, 96, 46, 182, 0, 17, 167, 0, 153, 43, 42, 29, 4, 96, 46, 42]
abbrev dktL_law_4 : List UInt8 := dkwL_law_4 ++ dktL_law_5
def dkwL_law_3 : List UInt8 := [43, 42, 29, 4, 96, 46, 42, 29, 5, 96, 46, 42, 29, 6, 96, 46, 182, 0, 13, 44, 42, 29, 4, 96]
abbrev dktL_law_3 : List UInt8 := dkwL_law_3 ++ dktL_law_4
def dkwL_law_2 : List UInt8 := [170, 0, 0, 0, 0, 0, 234, 0, 0, 0, 0, 0, 0, 0, 6, 0, 0, 0, 43, 0, 0, 0, 84, 0, 0, 0, 115, 0, 0, 0, 146, 0, 0, 0, 177, 0, 0, 0, 188, 0, 0, 0, 211]
abbrev dktL_law_2 : List UInt8 := dkwL_law_2 ++ dktL_law_3
def dkwL_law_1 : List UInt8 := [163, 0, 249, 42, 29, 46, 16, 7, 126]
abbrev dktL_law_1 : List UInt8 := dkwL_law_1 ++ dktL_law_2
def dkwL_law_0 : List UInt8 := [187, 0, 7, 89, 183, 0, 9, 76, 187, 0, 10, 89, 183, 0, 12, 77, 3, 62, 29, 42, 190, 16, 6, 100]
abbrev dktL_law_0 : List UInt8 := dkwL_law_0 ++ dktL_law_1
theorem dksL_law_0 : cL_law.data.toList.drop 0 = dktL_law_0 := by decide +kernel
theorem dksL_law_1 : cL_law.data.toList.drop 24 = dktL_law_1 := dk_seg dksL_law_0 24 rfl rfl
theorem dksL_law_2 : cL_law.data.toList.drop 33 = dktL_law_2 := dk_seg dksL_law_1 9 rfl rfl
theorem dksL_law_3 : cL_law.data.toList.drop 76 = dktL_law_3 := dk_seg dksL_law_2 43 rfl rfl
theorem dksL_law_4 : cL_law.data.toList.drop 100 = dktL_law_4 := dk_seg dksL_law_3 24 rfl rfl
theorem dksL_law_5 : cL_law.data.toList.drop 124 = dktL_law_5 := dk_seg dksL_law_4 24 rfl rfl
theorem dksL_law_6 : cL_law.data.toList.drop 148 = dktL_law_6 := dk_seg dksL_law_5 24 rfl rfl
theorem dksL_law_7 : cL_law.data.toList.drop 172 = dktL_law_7 := dk_seg dksL_law_6 24 rfl rfl
theorem dksL_law_8 : cL_law.data.toList.drop 196 = dktL_law_8 := dk_seg dksL_law_7 24 rfl rfl
theorem dksL_law_9 : cL_law.data.toList.drop 218 = dktL_law_9 := dk_seg dksL_law_8 22 rfl rfl
theorem dksL_law_10 : cL_law.data.toList.drop 242 = dktL_law_10 := dk_seg dksL_law_9 24 rfl rfl
theorem dksL_law_11 : cL_law.data.toList.drop 266 = dktL_law_11 := dk_seg dksL_law_10 24 rfl rfl
theorem dL_law_0 : decode cL_law 0 = .ok (.new 7, 3) := dk_187 0 7 (dk_at dksL_law_0 0 rfl rfl)
theorem dL_law_3 : decode cL_law 3 = .ok (.dup, 1) := dk_89 (dk_at dksL_law_0 3 rfl rfl)
theorem dL_law_4 : decode cL_law 4 = .ok (.invokespecial 9, 3) := dk_183 0 9 (dk_at dksL_law_0 4 rfl rfl)
theorem dL_law_7 : decode cL_law 7 = .ok (.astore_n 1, 1) := dk_76 (dk_at dksL_law_0 7 rfl rfl)
theorem dL_law_8 : decode cL_law 8 = .ok (.new 10, 3) := dk_187 0 10 (dk_at dksL_law_0 8 rfl rfl)
theorem dL_law_11 : decode cL_law 11 = .ok (.dup, 1) := dk_89 (dk_at dksL_law_0 11 rfl rfl)
theorem dL_law_12 : decode cL_law 12 = .ok (.invokespecial 12, 3) := dk_183 0 12 (dk_at dksL_law_0 12 rfl rfl)
theorem dL_law_15 : decode cL_law 15 = .ok (.astore_n 2, 1) := dk_77 (dk_at dksL_law_0 15 rfl rfl)
theorem dL_law_16 : decode cL_law 16 = .ok (.iconst 0, 1) := dk_3 (dk_at dksL_law_0 16 rfl rfl)
theorem dL_law_17 : decode cL_law 17 = .ok (.istore_n 3, 1) := dk_62 (dk_at dksL_law_0 17 rfl rfl)
theorem dL_law_18 : decode cL_law 18 = .ok (.iload_n 3, 1) := dk_29 (dk_at dksL_law_0 18 rfl rfl)
theorem dL_law_19 : decode cL_law 19 = .ok (.aload_n 0, 1) := dk_42 (dk_at dksL_law_0 19 rfl rfl)
theorem dL_law_20 : decode cL_law 20 = .ok (.arraylength, 1) := dk_190 (dk_at dksL_law_0 20 rfl rfl)
theorem dL_law_21 : decode cL_law 21 = .ok (.bipush 6, 2) := dk_16 6 (dk_at dksL_law_0 21 rfl rfl)
theorem dL_law_23 : decode cL_law 23 = .ok (.isub, 1) := dk_100 (dk_at dksL_law_0 23 rfl rfl)
theorem dL_law_24 : decode cL_law 24 = .ok (.if_icmp .gt 249, 3) := dk_163 0 249 (dk_at dksL_law_1 0 rfl rfl)
theorem dL_law_27 : decode cL_law 27 = .ok (.aload_n 0, 1) := dk_42 (dk_at dksL_law_1 3 rfl rfl)
theorem dL_law_28 : decode cL_law 28 = .ok (.iload_n 3, 1) := dk_29 (dk_at dksL_law_1 4 rfl rfl)
theorem dL_law_29 : decode cL_law 29 = .ok (.iaload, 1) := dk_46 (dk_at dksL_law_1 5 rfl rfl)
theorem dL_law_30 : decode cL_law 30 = .ok (.bipush 7, 2) := dk_16 7 (dk_at dksL_law_1 6 rfl rfl)
theorem dL_law_32 : decode cL_law 32 = .ok (.iand, 1) := dk_126 (dk_at dksL_law_1 8 rfl rfl)
theorem dL_law_33 : decode cL_law 33 = .ok (.tableswitch 234 0 6 #[43, 84, 115, 146, 177, 188, 211], 43) := by decide +kernel
theorem dL_law_76 : decode cL_law 76 = .ok (.aload_n 1, 1) := dk_43 (dk_at dksL_law_3 0 rfl rfl)
theorem dL_law_77 : decode cL_law 77 = .ok (.aload_n 0, 1) := dk_42 (dk_at dksL_law_3 1 rfl rfl)
theorem dL_law_78 : decode cL_law 78 = .ok (.iload_n 3, 1) := dk_29 (dk_at dksL_law_3 2 rfl rfl)
theorem dL_law_79 : decode cL_law 79 = .ok (.iconst 1, 1) := dk_4 (dk_at dksL_law_3 3 rfl rfl)
theorem dL_law_80 : decode cL_law 80 = .ok (.iadd, 1) := dk_96 (dk_at dksL_law_3 4 rfl rfl)
theorem dL_law_81 : decode cL_law 81 = .ok (.iaload, 1) := dk_46 (dk_at dksL_law_3 5 rfl rfl)
theorem dL_law_82 : decode cL_law 82 = .ok (.aload_n 0, 1) := dk_42 (dk_at dksL_law_3 6 rfl rfl)
theorem dL_law_83 : decode cL_law 83 = .ok (.iload_n 3, 1) := dk_29 (dk_at dksL_law_3 7 rfl rfl)
theorem dL_law_84 : decode cL_law 84 = .ok (.iconst 2, 1) := dk_5 (dk_at dksL_law_3 8 rfl rfl)
theorem dL_law_85 : decode cL_law 85 = .ok (.iadd, 1) := dk_96 (dk_at dksL_law_3 9 rfl rfl)
theorem dL_law_86 : decode cL_law 86 = .ok (.iaload, 1) := dk_46 (dk_at dksL_law_3 10 rfl rfl)
theorem dL_law_87 : decode cL_law 87 = .ok (.aload_n 0, 1) := dk_42 (dk_at dksL_law_3 11 rfl rfl)
theorem dL_law_88 : decode cL_law 88 = .ok (.iload_n 3, 1) := dk_29 (dk_at dksL_law_3 12 rfl rfl)
theorem dL_law_89 : decode cL_law 89 = .ok (.iconst 3, 1) := dk_6 (dk_at dksL_law_3 13 rfl rfl)
theorem dL_law_90 : decode cL_law 90 = .ok (.iadd, 1) := dk_96 (dk_at dksL_law_3 14 rfl rfl)
theorem dL_law_91 : decode cL_law 91 = .ok (.iaload, 1) := dk_46 (dk_at dksL_law_3 15 rfl rfl)
theorem dL_law_92 : decode cL_law 92 = .ok (.invokevirtual 13, 3) := dk_182 0 13 (dk_at dksL_law_3 16 rfl rfl)
theorem dL_law_95 : decode cL_law 95 = .ok (.aload_n 2, 1) := dk_44 (dk_at dksL_law_3 19 rfl rfl)
theorem dL_law_96 : decode cL_law 96 = .ok (.aload_n 0, 1) := dk_42 (dk_at dksL_law_3 20 rfl rfl)
theorem dL_law_97 : decode cL_law 97 = .ok (.iload_n 3, 1) := dk_29 (dk_at dksL_law_3 21 rfl rfl)
theorem dL_law_98 : decode cL_law 98 = .ok (.iconst 1, 1) := dk_4 (dk_at dksL_law_3 22 rfl rfl)
theorem dL_law_99 : decode cL_law 99 = .ok (.iadd, 1) := dk_96 (dk_at dksL_law_3 23 rfl rfl)
theorem dL_law_100 : decode cL_law 100 = .ok (.iaload, 1) := dk_46 (dk_at dksL_law_4 0 rfl rfl)
theorem dL_law_101 : decode cL_law 101 = .ok (.aload_n 0, 1) := dk_42 (dk_at dksL_law_4 1 rfl rfl)
theorem dL_law_102 : decode cL_law 102 = .ok (.iload_n 3, 1) := dk_29 (dk_at dksL_law_4 2 rfl rfl)
theorem dL_law_103 : decode cL_law 103 = .ok (.iconst 2, 1) := dk_5 (dk_at dksL_law_4 3 rfl rfl)
theorem dL_law_104 : decode cL_law 104 = .ok (.iadd, 1) := dk_96 (dk_at dksL_law_4 4 rfl rfl)
theorem dL_law_105 : decode cL_law 105 = .ok (.iaload, 1) := dk_46 (dk_at dksL_law_4 5 rfl rfl)
theorem dL_law_106 : decode cL_law 106 = .ok (.aload_n 0, 1) := dk_42 (dk_at dksL_law_4 6 rfl rfl)
theorem dL_law_107 : decode cL_law 107 = .ok (.iload_n 3, 1) := dk_29 (dk_at dksL_law_4 7 rfl rfl)
theorem dL_law_108 : decode cL_law 108 = .ok (.iconst 3, 1) := dk_6 (dk_at dksL_law_4 8 rfl rfl)
theorem dL_law_109 : decode cL_law 109 = .ok (.iadd, 1) := dk_96 (dk_at dksL_law_4 9 rfl rfl)
theorem dL_law_110 : decode cL_law 110 = .ok (.iaload, 1) := dk_46 (dk_at dksL_law_4 10 rfl rfl)
theorem dL_law_111 : decode cL_law 111 = .ok (.invokevirtual 17, 3) := dk_182 0 17 (dk_at dksL_law_4 11 rfl rfl)
theorem dL_law_114 : decode cL_law 114 = .ok (.goto 153, 3) := dk_167 0 153 (dk_at dksL_law_4 14 rfl rfl)
theorem dL_law_117 : decode cL_law 117 = .ok (.aload_n 1, 1) := dk_43 (dk_at dksL_law_4 17 rfl rfl)
theorem dL_law_118 : decode cL_law 118 = .ok (.aload_n 0, 1) := dk_42 (dk_at dksL_law_4 18 rfl rfl)
theorem dL_law_119 : decode cL_law 119 = .ok (.iload_n 3, 1) := dk_29 (dk_at dksL_law_4 19 rfl rfl)
theorem dL_law_120 : decode cL_law 120 = .ok (.iconst 1, 1) := dk_4 (dk_at dksL_law_4 20 rfl rfl)
theorem dL_law_121 : decode cL_law 121 = .ok (.iadd, 1) := dk_96 (dk_at dksL_law_4 21 rfl rfl)
theorem dL_law_122 : decode cL_law 122 = .ok (.iaload, 1) := dk_46 (dk_at dksL_law_4 22 rfl rfl)
theorem dL_law_123 : decode cL_law 123 = .ok (.aload_n 0, 1) := dk_42 (dk_at dksL_law_4 23 rfl rfl)
theorem dL_law_124 : decode cL_law 124 = .ok (.iload_n 3, 1) := dk_29 (dk_at dksL_law_5 0 rfl rfl)
theorem dL_law_125 : decode cL_law 125 = .ok (.iconst 2, 1) := dk_5 (dk_at dksL_law_5 1 rfl rfl)
theorem dL_law_126 : decode cL_law 126 = .ok (.iadd, 1) := dk_96 (dk_at dksL_law_5 2 rfl rfl)
theorem dL_law_127 : decode cL_law 127 = .ok (.iaload, 1) := dk_46 (dk_at dksL_law_5 3 rfl rfl)
theorem dL_law_128 : decode cL_law 128 = .ok (.invokevirtual 18, 3) := dk_182 0 18 (dk_at dksL_law_5 4 rfl rfl)
theorem dL_law_131 : decode cL_law 131 = .ok (.aload_n 2, 1) := dk_44 (dk_at dksL_law_5 7 rfl rfl)
theorem dL_law_132 : decode cL_law 132 = .ok (.aload_n 0, 1) := dk_42 (dk_at dksL_law_5 8 rfl rfl)
theorem dL_law_133 : decode cL_law 133 = .ok (.iload_n 3, 1) := dk_29 (dk_at dksL_law_5 9 rfl rfl)
theorem dL_law_134 : decode cL_law 134 = .ok (.iconst 1, 1) := dk_4 (dk_at dksL_law_5 10 rfl rfl)
theorem dL_law_135 : decode cL_law 135 = .ok (.iadd, 1) := dk_96 (dk_at dksL_law_5 11 rfl rfl)
theorem dL_law_136 : decode cL_law 136 = .ok (.iaload, 1) := dk_46 (dk_at dksL_law_5 12 rfl rfl)
theorem dL_law_137 : decode cL_law 137 = .ok (.aload_n 0, 1) := dk_42 (dk_at dksL_law_5 13 rfl rfl)
theorem dL_law_138 : decode cL_law 138 = .ok (.iload_n 3, 1) := dk_29 (dk_at dksL_law_5 14 rfl rfl)
theorem dL_law_139 : decode cL_law 139 = .ok (.iconst 2, 1) := dk_5 (dk_at dksL_law_5 15 rfl rfl)
theorem dL_law_140 : decode cL_law 140 = .ok (.iadd, 1) := dk_96 (dk_at dksL_law_5 16 rfl rfl)
theorem dL_law_141 : decode cL_law 141 = .ok (.iaload, 1) := dk_46 (dk_at dksL_law_5 17 rfl rfl)
theorem dL_law_142 : decode cL_law 142 = .ok (.invokevirtual 22, 3) := dk_182 0 22 (dk_at dksL_law_5 18 rfl rfl)
theorem dL_law_145 : decode cL_law 145 = .ok (.goto 122, 3) := dk_167 0 122 (dk_at dksL_law_5 21 rfl rfl)
theorem dL_law_148 : decode cL_law 148 = .ok (.aload_n 1, 1) := dk_43 (dk_at dksL_law_6 0 rfl rfl)
theorem dL_law_149 : decode cL_law 149 = .ok (.aload_n 0, 1) := dk_42 (dk_at dksL_law_6 1 rfl rfl)
theorem dL_law_150 : decode cL_law 150 = .ok (.iload_n 3, 1) := dk_29 (dk_at dksL_law_6 2 rfl rfl)
theorem dL_law_151 : decode cL_law 151 = .ok (.iconst 1, 1) := dk_4 (dk_at dksL_law_6 3 rfl rfl)
theorem dL_law_152 : decode cL_law 152 = .ok (.iadd, 1) := dk_96 (dk_at dksL_law_6 4 rfl rfl)
theorem dL_law_153 : decode cL_law 153 = .ok (.iaload, 1) := dk_46 (dk_at dksL_law_6 5 rfl rfl)
theorem dL_law_154 : decode cL_law 154 = .ok (.aload_n 0, 1) := dk_42 (dk_at dksL_law_6 6 rfl rfl)
theorem dL_law_155 : decode cL_law 155 = .ok (.iload_n 3, 1) := dk_29 (dk_at dksL_law_6 7 rfl rfl)
theorem dL_law_156 : decode cL_law 156 = .ok (.iconst 2, 1) := dk_5 (dk_at dksL_law_6 8 rfl rfl)
theorem dL_law_157 : decode cL_law 157 = .ok (.iadd, 1) := dk_96 (dk_at dksL_law_6 9 rfl rfl)
theorem dL_law_158 : decode cL_law 158 = .ok (.iaload, 1) := dk_46 (dk_at dksL_law_6 10 rfl rfl)
theorem dL_law_159 : decode cL_law 159 = .ok (.invokevirtual 23, 3) := dk_182 0 23 (dk_at dksL_law_6 11 rfl rfl)
theorem dL_law_162 : decode cL_law 162 = .ok (.aload_n 2, 1) := dk_44 (dk_at dksL_law_6 14 rfl rfl)
theorem dL_law_163 : decode cL_law 163 = .ok (.aload_n 0, 1) := dk_42 (dk_at dksL_law_6 15 rfl rfl)
theorem dL_law_164 : decode cL_law 164 = .ok (.iload_n 3, 1) := dk_29 (dk_at dksL_law_6 16 rfl rfl)
theorem dL_law_165 : decode cL_law 165 = .ok (.iconst 1, 1) := dk_4 (dk_at dksL_law_6 17 rfl rfl)
theorem dL_law_166 : decode cL_law 166 = .ok (.iadd, 1) := dk_96 (dk_at dksL_law_6 18 rfl rfl)
theorem dL_law_167 : decode cL_law 167 = .ok (.iaload, 1) := dk_46 (dk_at dksL_law_6 19 rfl rfl)
theorem dL_law_168 : decode cL_law 168 = .ok (.aload_n 0, 1) := dk_42 (dk_at dksL_law_6 20 rfl rfl)
theorem dL_law_169 : decode cL_law 169 = .ok (.iload_n 3, 1) := dk_29 (dk_at dksL_law_6 21 rfl rfl)
theorem dL_law_170 : decode cL_law 170 = .ok (.iconst 2, 1) := dk_5 (dk_at dksL_law_6 22 rfl rfl)
theorem dL_law_171 : decode cL_law 171 = .ok (.iadd, 1) := dk_96 (dk_at dksL_law_6 23 rfl rfl)
theorem dL_law_172 : decode cL_law 172 = .ok (.iaload, 1) := dk_46 (dk_at dksL_law_7 0 rfl rfl)
theorem dL_law_173 : decode cL_law 173 = .ok (.invokevirtual 26, 3) := dk_182 0 26 (dk_at dksL_law_7 1 rfl rfl)
theorem dL_law_176 : decode cL_law 176 = .ok (.goto 91, 3) := dk_167 0 91 (dk_at dksL_law_7 4 rfl rfl)
theorem dL_law_179 : decode cL_law 179 = .ok (.aload_n 1, 1) := dk_43 (dk_at dksL_law_7 7 rfl rfl)
theorem dL_law_180 : decode cL_law 180 = .ok (.aload_n 0, 1) := dk_42 (dk_at dksL_law_7 8 rfl rfl)
theorem dL_law_181 : decode cL_law 181 = .ok (.iload_n 3, 1) := dk_29 (dk_at dksL_law_7 9 rfl rfl)
theorem dL_law_182 : decode cL_law 182 = .ok (.iconst 1, 1) := dk_4 (dk_at dksL_law_7 10 rfl rfl)
theorem dL_law_183 : decode cL_law 183 = .ok (.iadd, 1) := dk_96 (dk_at dksL_law_7 11 rfl rfl)
theorem dL_law_184 : decode cL_law 184 = .ok (.iaload, 1) := dk_46 (dk_at dksL_law_7 12 rfl rfl)
theorem dL_law_185 : decode cL_law 185 = .ok (.aload_n 0, 1) := dk_42 (dk_at dksL_law_7 13 rfl rfl)
theorem dL_law_186 : decode cL_law 186 = .ok (.iload_n 3, 1) := dk_29 (dk_at dksL_law_7 14 rfl rfl)
theorem dL_law_187 : decode cL_law 187 = .ok (.iconst 2, 1) := dk_5 (dk_at dksL_law_7 15 rfl rfl)
theorem dL_law_188 : decode cL_law 188 = .ok (.iadd, 1) := dk_96 (dk_at dksL_law_7 16 rfl rfl)
theorem dL_law_189 : decode cL_law 189 = .ok (.iaload, 1) := dk_46 (dk_at dksL_law_7 17 rfl rfl)
theorem dL_law_190 : decode cL_law 190 = .ok (.invokevirtual 27, 3) := dk_182 0 27 (dk_at dksL_law_7 18 rfl rfl)
theorem dL_law_193 : decode cL_law 193 = .ok (.aload_n 2, 1) := dk_44 (dk_at dksL_law_7 21 rfl rfl)
theorem dL_law_194 : decode cL_law 194 = .ok (.aload_n 0, 1) := dk_42 (dk_at dksL_law_7 22 rfl rfl)
theorem dL_law_195 : decode cL_law 195 = .ok (.iload_n 3, 1) := dk_29 (dk_at dksL_law_7 23 rfl rfl)
theorem dL_law_196 : decode cL_law 196 = .ok (.iconst 1, 1) := dk_4 (dk_at dksL_law_8 0 rfl rfl)
theorem dL_law_197 : decode cL_law 197 = .ok (.iadd, 1) := dk_96 (dk_at dksL_law_8 1 rfl rfl)
theorem dL_law_198 : decode cL_law 198 = .ok (.iaload, 1) := dk_46 (dk_at dksL_law_8 2 rfl rfl)
theorem dL_law_199 : decode cL_law 199 = .ok (.aload_n 0, 1) := dk_42 (dk_at dksL_law_8 3 rfl rfl)
theorem dL_law_200 : decode cL_law 200 = .ok (.iload_n 3, 1) := dk_29 (dk_at dksL_law_8 4 rfl rfl)
theorem dL_law_201 : decode cL_law 201 = .ok (.iconst 2, 1) := dk_5 (dk_at dksL_law_8 5 rfl rfl)
theorem dL_law_202 : decode cL_law 202 = .ok (.iadd, 1) := dk_96 (dk_at dksL_law_8 6 rfl rfl)
theorem dL_law_203 : decode cL_law 203 = .ok (.iaload, 1) := dk_46 (dk_at dksL_law_8 7 rfl rfl)
theorem dL_law_204 : decode cL_law 204 = .ok (.invokevirtual 30, 3) := dk_182 0 30 (dk_at dksL_law_8 8 rfl rfl)
theorem dL_law_207 : decode cL_law 207 = .ok (.goto 60, 3) := dk_167 0 60 (dk_at dksL_law_8 11 rfl rfl)
theorem dL_law_210 : decode cL_law 210 = .ok (.aload_n 1, 1) := dk_43 (dk_at dksL_law_8 14 rfl rfl)
theorem dL_law_211 : decode cL_law 211 = .ok (.invokevirtual 31, 3) := dk_182 0 31 (dk_at dksL_law_8 15 rfl rfl)
theorem dL_law_214 : decode cL_law 214 = .ok (.aload_n 2, 1) := dk_44 (dk_at dksL_law_8 18 rfl rfl)
theorem dL_law_215 : decode cL_law 215 = .ok (.invokevirtual 34, 3) := dk_182 0 34 (dk_at dksL_law_8 19 rfl rfl)
theorem dL_law_218 : decode cL_law 218 = .ok (.goto 49, 3) := dk_167 0 49 (dk_at dksL_law_9 0 rfl rfl)
theorem dL_law_221 : decode cL_law 221 = .ok (.aload_n 1, 1) := dk_43 (dk_at dksL_law_9 3 rfl rfl)
theorem dL_law_222 : decode cL_law 222 = .ok (.aload_n 0, 1) := dk_42 (dk_at dksL_law_9 4 rfl rfl)
theorem dL_law_223 : decode cL_law 223 = .ok (.iload_n 3, 1) := dk_29 (dk_at dksL_law_9 5 rfl rfl)
theorem dL_law_224 : decode cL_law 224 = .ok (.iconst 1, 1) := dk_4 (dk_at dksL_law_9 6 rfl rfl)
theorem dL_law_225 : decode cL_law 225 = .ok (.iadd, 1) := dk_96 (dk_at dksL_law_9 7 rfl rfl)
theorem dL_law_226 : decode cL_law 226 = .ok (.iaload, 1) := dk_46 (dk_at dksL_law_9 8 rfl rfl)
theorem dL_law_227 : decode cL_law 227 = .ok (.invokevirtual 35, 3) := dk_182 0 35 (dk_at dksL_law_9 9 rfl rfl)
theorem dL_law_230 : decode cL_law 230 = .ok (.aload_n 2, 1) := dk_44 (dk_at dksL_law_9 12 rfl rfl)
theorem dL_law_231 : decode cL_law 231 = .ok (.aload_n 0, 1) := dk_42 (dk_at dksL_law_9 13 rfl rfl)
theorem dL_law_232 : decode cL_law 232 = .ok (.iload_n 3, 1) := dk_29 (dk_at dksL_law_9 14 rfl rfl)
theorem dL_law_233 : decode cL_law 233 = .ok (.iconst 1, 1) := dk_4 (dk_at dksL_law_9 15 rfl rfl)
theorem dL_law_234 : decode cL_law 234 = .ok (.iadd, 1) := dk_96 (dk_at dksL_law_9 16 rfl rfl)
theorem dL_law_235 : decode cL_law 235 = .ok (.iaload, 1) := dk_46 (dk_at dksL_law_9 17 rfl rfl)
theorem dL_law_236 : decode cL_law 236 = .ok (.invokevirtual 39, 3) := dk_182 0 39 (dk_at dksL_law_9 18 rfl rfl)
theorem dL_law_239 : decode cL_law 239 = .ok (.if_icmp .eq 28, 3) := dk_159 0 28 (dk_at dksL_law_9 21 rfl rfl)
theorem dL_law_242 : decode cL_law 242 = .ok (.iconst 0, 1) := dk_3 (dk_at dksL_law_10 0 rfl rfl)
theorem dL_law_243 : decode cL_law 243 = .ok (.ireturn, 1) := dk_172 (dk_at dksL_law_10 1 rfl rfl)
theorem dL_law_244 : decode cL_law 244 = .ok (.aload_n 1, 1) := dk_43 (dk_at dksL_law_10 2 rfl rfl)
theorem dL_law_245 : decode cL_law 245 = .ok (.aload_n 0, 1) := dk_42 (dk_at dksL_law_10 3 rfl rfl)
theorem dL_law_246 : decode cL_law 246 = .ok (.iload_n 3, 1) := dk_29 (dk_at dksL_law_10 4 rfl rfl)
theorem dL_law_247 : decode cL_law 247 = .ok (.iconst 1, 1) := dk_4 (dk_at dksL_law_10 5 rfl rfl)
theorem dL_law_248 : decode cL_law 248 = .ok (.iadd, 1) := dk_96 (dk_at dksL_law_10 6 rfl rfl)
theorem dL_law_249 : decode cL_law 249 = .ok (.iaload, 1) := dk_46 (dk_at dksL_law_10 7 rfl rfl)
theorem dL_law_250 : decode cL_law 250 = .ok (.invokevirtual 40, 3) := dk_182 0 40 (dk_at dksL_law_10 8 rfl rfl)
theorem dL_law_253 : decode cL_law 253 = .ok (.aload_n 2, 1) := dk_44 (dk_at dksL_law_10 11 rfl rfl)
theorem dL_law_254 : decode cL_law 254 = .ok (.aload_n 0, 1) := dk_42 (dk_at dksL_law_10 12 rfl rfl)
theorem dL_law_255 : decode cL_law 255 = .ok (.iload_n 3, 1) := dk_29 (dk_at dksL_law_10 13 rfl rfl)
theorem dL_law_256 : decode cL_law 256 = .ok (.iconst 1, 1) := dk_4 (dk_at dksL_law_10 14 rfl rfl)
theorem dL_law_257 : decode cL_law 257 = .ok (.iadd, 1) := dk_96 (dk_at dksL_law_10 15 rfl rfl)
theorem dL_law_258 : decode cL_law 258 = .ok (.iaload, 1) := dk_46 (dk_at dksL_law_10 16 rfl rfl)
theorem dL_law_259 : decode cL_law 259 = .ok (.invokevirtual 43, 3) := dk_182 0 43 (dk_at dksL_law_10 17 rfl rfl)
theorem dL_law_262 : decode cL_law 262 = .ok (.if_icmp .eq 5, 3) := dk_159 0 5 (dk_at dksL_law_10 20 rfl rfl)
theorem dL_law_265 : decode cL_law 265 = .ok (.iconst 0, 1) := dk_3 (dk_at dksL_law_10 23 rfl rfl)
theorem dL_law_266 : decode cL_law 266 = .ok (.ireturn, 1) := dk_172 (dk_at dksL_law_11 0 rfl rfl)
theorem dL_law_267 : decode cL_law 267 = .ok (.iinc 3 6, 3) := dk_132 3 6 (dk_at dksL_law_11 1 rfl rfl)
theorem dL_law_270 : decode cL_law 270 = .ok (.goto (-252), 3) := dk_167 255 4 (dk_at dksL_law_11 4 rfl rfl)
theorem dL_law_273 : decode cL_law 273 = .ok (.iconst 1, 1) := dk_4 (dk_at dksL_law_11 7 rfl rfl)
theorem dL_law_274 : decode cL_law 274 = .ok (.ireturn, 1) := dk_172 (dk_at dksL_law_11 8 rfl rfl)
end
section
/-! ===== the plain law: rows of numbers as naturals, distances, bits, bytes ===== -/
theorem hd_top {p : Program} {l : Launch} {e : Env} {R : Room} {s : State} {m : MethodId} {args : Array Value} {below : List Frame} {meth : Method} {c : Code} {H : Heap} {locs : List Loc} {cells slots : Nat} {Q : State → Prop} {pc : Nat} {ls : Array Slot} {rest : List Value} {x : Int32} (y : Int32) (h : x = y) (k : W p l e R s m args below meth c H locs cells slots Q (F0 m pc ls (.int y :: rest))) : W p l e R s m args below meth c H locs cells slots Q (F0 m pc ls (.int x :: rest)) := by
  subst h
  exact k
/-- an array of ints that are naturals -/
def hd_ar (r : Nat → Nat) : Nat → Int32 := fun j => nI (r j)
def hd_up (r : Nat → Nat) (k v : Nat) : Nat → Nat := fun j => if j = k then v else r j
def hd_z : Nat → Nat := fun _ => 0
/-- an array of bytes, as naturals below 256 -/
def hd_bt (k : Nat → Nat) : Nat → Int32 := fun j => (nI (k j)).toInt8.toInt32
theorem hd_up_s (r : Nat → Nat) (k v : Nat) : hd_up r k v k = v := if_pos rfl
theorem hd_up_n (r : Nat → Nat) {k j : Nat} (v : Nat) (h : j ≠ k) : hd_up r k v j = r j := if_neg h
theorem hd_up_lt {r : Nat → Nat} {k v N : Nat} (h : ∀ j, r j < N) (hv : v < N) : ∀ j, hd_up r k v j < N := by
  intro j
  by_cases e : j = k
  · rw [e, hd_up_s]; exact hv
  · rw [hd_up_n r v e]; exact h j
theorem hd_upd (r : Nat → Nat) (k v : Nat) : upd (hd_ar r) k (nI v) = hd_ar (hd_up r k v) := by
  funext j
  show (if j = k then nI v else nI (r j)) = nI (if j = k then v else r j)
  by_cases h : j = k
  · rw [if_pos h, if_pos h]
  · rw [if_neg h, if_neg h]
theorem hd_short {v : Nat} (h : v < 32768) : (nI v).toInt16.toInt32 = nI v := by
  apply Int32.toInt_inj.mp
  rw [Int16.toInt_toInt32, Int32.toInt_toInt16, nI_toInt (by omega)]
  exact Int.bmod_eq_of_le (by omega) (by omega)
theorem hd_rd (r : Nat → Nat) {k : Nat} (hk : k < 2 ^ 31) : hd_ar r (nI k).toNatClampNeg = nI (r k) := by
  rw [nI_clamp hk]; rfl
theorem hd_rdb (r : Nat → Nat) {k : Nat} (hk : k < 2 ^ 31) : hd_bt r (nI k).toNatClampNeg = (nI (r k)).toInt8.toInt32 := by
  rw [nI_clamp hk]; rfl
/-- an int store -/
theorem hd_upi (r : Nat → Nat) {k : Nat} (v : Nat) (hk : k < 2 ^ 31) : upd (hd_ar r) (nI k).toNatClampNeg (nI v) = hd_ar (hd_up r k v) := by
  rw [nI_clamp hk, hd_upd]
/-- a store into an array of shorts -/
theorem hd_ups (r : Nat → Nat) {k v : Nat} (hk : k < 2 ^ 31) (hv : v < 32768) : upd (hd_ar r) (nI k).toNatClampNeg (vp_nar .short (nI v)) = hd_ar (hd_up r k v) := by
  rw [nI_clamp hk, vp_nar_short, hd_short hv, hd_upd]
/-- a store into an array of bytes -/
theorem hd_upb (r : Nat → Nat) {k n : Nat} {x : Int32} (hk : k < 2 ^ 31) (hx : x.toInt8 = (nI n).toInt8) : upd (hd_bt r) (nI k).toNatClampNeg (vp_nar .byte x.toInt8.toInt32) = hd_bt (hd_up r k n) := by
  rw [nI_clamp hk, pk_vb, hx]
  funext j
  show (if j = k then (nI n).toInt8.toInt32 else (nI (r j)).toInt8.toInt32) = (nI (if j = k then n else r j)).toInt8.toInt32
  by_cases h : j = k
  · rw [if_pos h, if_pos h]
  · rw [if_neg h, if_neg h]
theorem hd_zz (k : Nat) : hd_up hd_z k 0 = hd_z := by
  funext j
  show (if j = k then 0 else 0) = 0
  by_cases h : j = k
  · rw [if_pos h]
  · rw [if_neg h]
theorem hd_fill0 {k : Nat} (hk : k < 2 ^ 31) : upd (hd_bt hd_z) (nI k).toNatClampNeg (vp_nar .byte (nI 0)) = hd_bt hd_z := by
  have h := hd_upb hd_z (n := 0) (x := nI 0) hk rfl
  rw [hd_zz] at h
  have e : vp_nar .byte (nI 0) = vp_nar .byte (nI 0).toInt8.toInt32 := by decide +kernel
  rw [e]
  exact h
theorem hd_new_i (N : Nat) (cA : ClassId) : vp_cell cA (N, .inl (hd_ar hd_z)) = arrV cA N (fun _ => .int 0) := rfl
theorem hd_new_b (N : Nat) (cA : ClassId) : vp_cell cA (N, .inl (hd_bt hd_z)) = arrV cA N (fun _ => .int 0) := by
  rw [vp_cell_i]
  exact congrArg (arrV cA N) (funext fun _ => congrArg Value.int (show (nI 0).toInt8.toInt32 = 0 from by decide))
/-! ===== places and numbers modulo the prime ===== -/
def hd_m (x : Int32) : Nat := x.toBitVec.toNat % 2147483648 % 12289
def hd_i (x : Int32) : Nat := x.toBitVec.toNat % 1024
def hd_j (x : Int32) : Nat := x.toBitVec.toNat % 32
theorem hd_m_lt (x : Int32) : hd_m x < 12289 := Nat.mod_lt _ (by decide)
theorem hd_i_lt (x : Int32) : hd_i x < 1024 := Nat.mod_lt _ (by decide)
theorem hd_j_lt (x : Int32) : hd_j x < 32 := Nat.mod_lt _ (by decide)
theorem hd_iE (x : Int32) : x &&& nI 1023 = nI (hd_i x) := pk_and x 10 (by decide +kernel)
theorem hd_jE (x : Int32) : x &&& nI 31 = nI (hd_j x) := pk_and x 5 (by decide +kernel)
theorem hd_mE (x : Int32) : (x &&& nI 2147483647) - (x &&& nI 2147483647) / nI 12289 * nI 12289 = nI (hd_m x) := by
  rw [pk_and x 31 (by decide +kernel), pk_rem (Nat.mod_lt _ (by decide)) (by decide) (by decide)]
  rfl
theorem hd_q0 : ¬ nI 12289 = 0 := by decide +kernel
theorem hd_1k0 : ¬ nI 1024 = 0 := by decide +kernel
/-- n numbers of the row from p on: a, a + s, .. modulo the prime -/
def hd_lay (r : Nat → Nat) (a s p : Nat) : Nat → (Nat → Nat)
  | 0 => r
  | k + 1 => hd_up (hd_lay r a s p k) ((p + k) % 1024) ((a + s * k) % 12289)
theorem hd_lay_lt {r : Nat → Nat} (a s p : Nat) (h : ∀ j, r j < 12289) : ∀ n j, hd_lay r a s p n j < 12289
  | 0, j => h j
  | n + 1, j => hd_up_lt (hd_lay_lt a s p h n) (Nat.mod_lt _ (by decide)) j
theorem hd_step (a s i : Nat) : ((a + s * i) % 12289 + s) % 12289 = (a + s * (i + 1)) % 12289 := by
  rw [Nat.mod_add_mod, Nat.mul_succ, Nat.add_assoc]
theorem hd_lb {s i : Nat} (hs : s < 12289) (hi : i < 128) : s * i < 1600000 :=
  Nat.lt_of_le_of_lt (Nat.mul_le_mul (Nat.le_of_lt hs) (Nat.le_of_lt hi)) (by decide)
/-! ===== the help ===== -/
def hd_help (h : Nat → Nat) (i v : Nat) : Nat → (Nat → Nat)
  | 0 => h
  | k + 1 => hd_up (hd_help h i v k) ((i + 64 * k) % 1024) (v / 2 ^ (2 * k) % 4)
theorem hd_help_lt {h : Nat → Nat} (i v : Nat) (hh : ∀ j, h j < 4) : ∀ n j, hd_help h i v n j < 4
  | 0, j => hh j
  | n + 1, j => hd_up_lt (hd_help_lt i v hh n) (Nat.mod_lt _ (by decide)) j
theorem hd_sl : ∀ n, n < 32 → (((nI n).toUInt32 &&& Int32.toUInt32 31).toBitVec % 32).toNat = n := by decide +kernel
theorem hd_hv (v : Int32) {k : Nat} (hk : k < 16) : (v.toUInt32 >>> ((nI (2 * k)).toUInt32 &&& Int32.toUInt32 31)).toInt32 &&& nI 3 = nI (v.toBitVec.toNat / 2 ^ (2 * k) % 4) := by
  rw [pk_and _ 2 (by decide +kernel), pk_ushr v (nI (2 * k)) (2 * k) (hd_sl (2 * k) (by omega))]
theorem hd_w3 {v : Int32} {n : Nat} (w : Int32) (hw : w.toBitVec.toNat = v.toBitVec.toNat / 2 ^ (2 * n)) : w &&& nI 3 = nI (v.toBitVec.toNat / 2 ^ (2 * n) % 4) := by
  rw [pk_and w 2 (by decide +kernel), hw]
theorem hd_w2 {v : Int32} {n : Nat} (w : Int32) (hw : w.toBitVec.toNat = v.toBitVec.toNat / 2 ^ (2 * n)) : ((w.toUInt32 >>> ((nI 2).toUInt32 &&& Int32.toUInt32 31)).toInt32).toBitVec.toNat = v.toBitVec.toNat / 2 ^ (2 * (n + 1)) := by
  rw [pk_ushr w (nI 2) 2 (hd_sl 2 (by decide)), hw, Nat.div_div_eq_div_mul, ← Nat.pow_add]
  rfl
def hd_helps (h : Nat → Nat) (f s : Int32) : Nat → (Nat → Nat)
  | 0 => h
  | k + 1 => hd_up (hd_helps h f s k) k ((f + s * nI k).toBitVec.toNat / 128 % 4)
theorem hd_helps_lt {h : Nat → Nat} (f s : Int32) (hh : ∀ j, h j < 4) : ∀ n j, hd_helps h f s n j < 4
  | 0, j => hh j
  | n + 1, j => hd_up_lt (hd_helps_lt f s hh n) (Nat.mod_lt _ (by decide)) j
theorem hd_sv (c : Int32) : (c.toUInt32 >>> ((nI 7).toUInt32 &&& Int32.toUInt32 31)).toInt32 &&& nI 3 = nI (c.toBitVec.toNat / 128 % 4) := by
  rw [pk_and _ 2 (by decide +kernel), pk_ushr c (nI 7) 7 (hd_sl 7 (by decide))]
theorem hd_its (f s : Int32) (n : Nat) : f + s * nI n + s = f + s * nI (n + 1) := by
  rw [nI_succ]
  grind
theorem hd_its0 (f s : Int32) : f + s * nI 0 = f := by
  rw [nI_0]
  grind
/-! ===== the distance from the nearest multiple of eight primes ===== -/
def hd_d (n : Nat) : Nat := if n % 98312 < 49156 then n % 98312 else 98312 - n % 98312
theorem hd_d_le (n : Nat) : hd_d n ≤ 49156 := by
  unfold hd_d
  split
  · omega
  · omega
theorem hd_sgn (x : Int32) : x >>> (nI 31 &&& 31) = if x < 0 then -1 else 0 := by
  apply Int32.toInt_inj.mp
  rw [pk_shr x _ 31 (by decide +kernel), Int.shiftRight_eq_div_pow, show ((2 ^ 31 : Nat) : Int) = 2147483648 from rfl]
  have h1 := Int32.le_toInt x
  have h2 := Int32.toInt_lt x
  by_cases h : x < 0
  · rw [if_pos h, show (-1 : Int32).toInt = -1 from by decide]
    rw [Int32.lt_iff_toInt_lt, show (0 : Int32).toInt = 0 from by decide] at h
    omega
  · rw [if_neg h, show (0 : Int32).toInt = 0 from by decide]
    rw [Int32.lt_iff_toInt_lt, show (0 : Int32).toInt = 0 from by decide] at h
    omega
theorem hd_abs (x : Int32) : (x ^^^ (x >>> (nI 31 &&& 31))) - (x >>> (nI 31 &&& 31)) = if x < 0 then -x else x := by
  rw [hd_sgn]
  by_cases h : x < 0
  · rw [if_pos h, if_pos h, Int32.xor_neg_one, Int32.neg_eq_not_add x]
    grind
  · rw [if_neg h, if_neg h, Int32.xor_zero, Int32.sub_zero]
theorem hd_g0 {n : Nat} (h : n ≤ 294928) : n * 2730 / 134217728 * 49156 ≤ n := by omega
theorem hd_g1 {n : Nat} (h : n ≤ 294928) : nI (n * 2730 / 134217728) - ((nI 49155 - nI (n - n * 2730 / 134217728 * 49156)) >>> (nI 31 &&& 31)) = nI (n / 49156) := by
  have e0 : (nI 49155 - nI (n - n * 2730 / 134217728 * 49156)).toInt = (49155 : Nat) - ((n - n * 2730 / 134217728 * 49156 : Nat) : Int) := pk_sub_toInt (by decide) (by omega)
  rw [hd_sgn]
  by_cases hc : nI 49155 - nI (n - n * 2730 / 134217728 * 49156) < 0
  · rw [if_pos hc]
    rw [Int32.lt_iff_toInt_lt, e0, show (0 : Int32).toInt = 0 from by decide] at hc
    have e1 : n / 49156 = n * 2730 / 134217728 + 1 := by omega
    rw [e1, nI_succ]
    grind
  · rw [if_neg hc, Int32.sub_zero]
    rw [Int32.lt_iff_toInt_lt, e0, show (0 : Int32).toInt = 0 from by decide] at hc
    have e1 : n / 49156 = n * 2730 / 134217728 := by omega
    rw [e1]
theorem hd_g2 {n : Nat} (h : n ≤ 294928) : (if nI ((n / 49156 / 2 + n / 49156 % 2) * 98312) - nI n < 0 then -(nI ((n / 49156 / 2 + n / 49156 % 2) * 98312) - nI n) else nI ((n / 49156 / 2 + n / 49156 % 2) * 98312) - nI n) = nI (hd_d n) := by
  have e0 : (nI ((n / 49156 / 2 + n / 49156 % 2) * 98312) - nI n).toInt = (((n / 49156 / 2 + n / 49156 % 2) * 98312 : Nat) : Int) - (n : Int) := pk_sub_toInt (by omega) (by omega)
  by_cases hc : nI ((n / 49156 / 2 + n / 49156 % 2) * 98312) - nI n < 0
  · rw [if_pos hc]
    rw [Int32.lt_iff_toInt_lt, e0, show (0 : Int32).toInt = 0 from by decide] at hc
    have e1 : -(nI ((n / 49156 / 2 + n / 49156 % 2) * 98312) - nI n) = nI n - nI ((n / 49156 / 2 + n / 49156 % 2) * 98312) := by grind
    rw [e1, pk_sub (by omega)]
    have e2 : n - (n / 49156 / 2 + n / 49156 % 2) * 98312 = hd_d n := by
      unfold hd_d
      split <;> omega
    rw [e2]
  · rw [if_neg hc]
    rw [Int32.lt_iff_toInt_lt, e0, show (0 : Int32).toInt = 0 from by decide] at hc
    rw [pk_sub (by omega)]
    have e2 : (n / 49156 / 2 + n / 49156 % 2) * 98312 - n = hd_d n := by
      unfold hd_d
      split <;> omega
    rw [e2]
/-- the reference's own count: k multiples are below n -/
theorem hd_dm {n k : Nat} (h1 : 98312 * k ≤ n) (h2 : n < 98312 * (k + 1)) : n % 98312 = n - 98312 * k := by
  have e : n = n - 98312 * k + 98312 * k := by omega
  rw [e, Nat.add_mul_mod_self_left, Nat.mod_eq_of_lt (by omega)]
  omega
/-! ===== what a place tells, a bit, a byte ===== -/
def hd_t (r h : Nat → Nat) (j l : Nat) : Nat := hd_d (196624 + 8 * r j - 12289 * (if j = l then h l else 2 * h j + h l))
theorem hd_t_ne {r h : Nat → Nat} {j l : Nat} (e : j ≠ l) : hd_t r h j l = hd_d (196624 + 8 * r j - 12289 * (2 * h j + h l)) := by
  unfold hd_t
  rw [if_neg e]
theorem hd_t_eq (r h : Nat → Nat) (l : Nat) : hd_t r h l l = hd_d (196624 + 8 * r l - 12289 * h l) := by
  unfold hd_t
  rw [if_pos rfl]
def hd_b (r h : Nat → Nat) (i : Nat) : Nat := if hd_t r h i (768 + i) + hd_t r h (256 + i) (768 + i) + hd_t r h (512 + i) (768 + i) + hd_t r h (768 + i) (768 + i) < 98312 then 1 else 0
theorem hd_b_le (r h : Nat → Nat) (i : Nat) : hd_b r h i ≤ 1 := by
  unfold hd_b
  split
  · exact Nat.le_refl 1
  · exact Nat.zero_le 1
/-- the byte from its highest bit on, as the reference makes it -/
def hd_H (b : Nat → Nat) (j : Nat) : Nat → Nat
  | 0 => 0
  | t + 1 => 2 * hd_H b j t + b (8 * j + (7 - t))
/-- the byte from its lowest bit on, as the code makes it -/
def hd_P (b : Nat → Nat) (j : Nat) : Nat → Nat
  | 0 => 0
  | t + 1 => hd_P b j t + b (8 * j + t) * 2 ^ t
theorem hd_HP (b : Nat → Nat) (j : Nat) : hd_P b j 8 = hd_H b j 8 := by
  simp only [hd_P, hd_H]
  generalize b (8 * j + 0) = b0
  generalize b (8 * j + 1) = b1
  generalize b (8 * j + 2) = b2
  generalize b (8 * j + 3) = b3
  generalize b (8 * j + 4) = b4
  generalize b (8 * j + 5) = b5
  generalize b (8 * j + 6) = b6
  generalize b (8 * j + 7) = b7
  omega
theorem hd_P_lt {b : Nat → Nat} (hb : ∀ i, b i ≤ 1) (j : Nat) : ∀ t, hd_P b j t < 2 ^ t
  | 0 => Nat.one_pos
  | t + 1 => by
    have h1 := hd_P_lt hb j t
    have h2 : b (8 * j + t) * 2 ^ t ≤ 1 * 2 ^ t := Nat.mul_le_mul_right _ (hb _)
    rw [hd_P, Nat.pow_succ]
    omega
theorem hd_H_lt {b : Nat → Nat} (hb : ∀ i, b i ≤ 1) (j : Nat) : ∀ t, hd_H b j t < 2 ^ t
  | 0 => Nat.one_pos
  | t + 1 => by
    have h1 := hd_H_lt hb j t
    have h2 := hb (8 * j + (7 - t))
    rw [hd_H, Nat.pow_succ]
    omega
/-- the key behind i bits -/
def hd_K (b : Nat → Nat) : Nat → (Nat → Nat)
  | 0 => hd_z
  | i + 1 => hd_up (hd_K b i) (i / 8) (hd_K b i (i / 8) + b i * 2 ^ (i % 8))
theorem hd_Kv (b : Nat → Nat) : ∀ i j, hd_K b i j = hd_P b j (min 8 (i - 8 * j))
  | 0, j => by
    rw [Nat.zero_sub, Nat.min_zero]
    rfl
  | i + 1, j => by
    rw [hd_K]
    by_cases e : j = i / 8
    · subst e
      have e1 : min 8 (i - 8 * (i / 8)) = i % 8 := by omega
      have e2 : min 8 (i + 1 - 8 * (i / 8)) = i % 8 + 1 := by omega
      have e3 : 8 * (i / 8) + i % 8 = i := by omega
      rw [hd_up_s, hd_Kv b i, e1, e2, hd_P, e3]
    · rw [hd_up_n _ _ e, hd_Kv b i]
      have e1 : min 8 (i - 8 * j) = min 8 (i + 1 - 8 * j) := by omega
      rw [e1]
theorem hd_Klt {b : Nat → Nat} (hb : ∀ i, b i ≤ 1) (i : Nat) : hd_K b i (i / 8) < 2 ^ (i % 8) := by
  rw [hd_Kv]
  have e1 : min 8 (i - 8 * (i / 8)) = i % 8 := by omega
  rw [e1]
  exact hd_P_lt hb _ _
theorem hd_Kend (b : Nat → Nat) {j : Nat} (hj : j < 32) : hd_K b 256 j = hd_H b j 8 := by
  rw [hd_Kv, show min 8 (256 - 8 * j) = 8 from by omega, hd_HP]
theorem hd_or8 : ∀ t, t < 8 → ∀ k, k < 128 → ∀ b, b < 2 → k < 2 ^ t → ((nI k).toInt8.toInt32 ||| (nI b <<< (nI t &&& 31))).toInt8 = (nI (k + b * 2 ^ t)).toInt8 := by decide +kernel
theorem hd_or {b : Nat → Nat} (hb : ∀ i, b i ≤ 1) (i : Nat) : ((nI (hd_K b i (i / 8))).toInt8.toInt32 ||| (nI (b i) <<< (nI (i % 8) &&& 31))).toInt8 = (nI (hd_K b i (i / 8) + b i * 2 ^ (i % 8))).toInt8 := by
  have h1 := hd_Klt hb i
  have h2 : i % 8 < 8 := Nat.mod_lt _ (by decide)
  have h3 : 2 ^ (i % 8) ≤ 2 ^ 7 := Nat.pow_le_pow_right (by decide) (by omega)
  have h4 := hb i
  exact hd_or8 _ h2 _ (by omega) _ (by omega) h1
theorem hd_key {n : Nat} (h : n < 256) : (nI n).toInt8.toInt32 &&& nI 255 = nI n := sc_k8 n h
theorem hd_xle {v : Nat} (hv : v < 12289) (w : Nat) : 196624 + 8 * v - 12289 * w ≤ 294928 := by omega
theorem hd_xge {a b v : Nat} (ha : a < 4) (hb : b < 4) : 12289 * (2 * a + b) ≤ 196624 + 8 * v := by omega
theorem hd_xge1 {b v : Nat} (hb : b < 4) : 12289 * b ≤ 196624 + 8 * v := by omega
theorem hd_lt0 (u : Nat) (h : u < 8) : ¬ nI (8 - u) + (-1) < 0 := by
  have e : 8 - u = (7 - u) + 1 := by omega
  rw [e, pk_m1]
  exact nI_pos (by omega)
theorem hd_d8 {u : Nat} (h : u < 8) : nI (8 - u) + (-1) = nI (7 - u) := by
  have e : 8 - u = (7 - u) + 1 := by omega
  rw [e, pk_m1]
theorem hd_d8' {u : Nat} (h : u < 8) : nI (8 - u) + (-1) + (-1) = nI (8 - (u + 1)) + (-1) := by
  rw [hd_d8 h, show 8 - (u + 1) = 7 - u from by omega]
theorem hd_m1 : nI (8 - 8) + (-1) < 0 := by decide +kernel
theorem hd_lt8 : nI 7 = nI (8 - 0) + (-1) := by decide +kernel
theorem hd_ld {S : Nat} (h : S ≤ 196624) : ((nI S - nI 98312).toUInt32 >>> ((nI 31).toUInt32 &&& Int32.toUInt32 31)).toInt32 = nI (if S < 98312 then 1 else 0) := by
  by_cases hc : S < 98312
  · rw [if_pos hc]
    have e : nI S - nI 98312 = nI (S + 4294868984) := by
      rw [← nI_add, show nI 4294868984 = -nI 98312 from by decide +kernel]
      grind
    rw [e, pk_ushrN (by omega) (nI 31) 31 (hd_sl 31 (by decide))]
    rw [show (S + 4294868984) / 2 ^ 31 = 1 from by omega]
  · rw [if_neg hc, pk_sub (by omega), pk_ushrN (by omega) (nI 31) 31 (hd_sl 31 (by decide))]
    rw [show (S - 98312) / 2 ^ 31 = 0 from by omega]
theorem hd_bE {r h : Nat → Nat} {i : Nat} (hi : i < 256) : hd_b r h i = if hd_d (196624 + 8 * r i - 12289 * (2 * h i + h (768 + i))) + hd_d (196624 + 8 * r (256 + i) - 12289 * (2 * h (256 + i) + h (768 + i))) + hd_d (196624 + 8 * r (512 + i) - 12289 * (2 * h (512 + i) + h (768 + i))) + hd_d (196624 + 8 * r (768 + i) - 12289 * h (768 + i)) < 98312 then 1 else 0 := by
  unfold hd_b
  rw [hd_t_ne (show i ≠ 768 + i from by omega), hd_t_ne (show 256 + i ≠ 768 + i from by omega), hd_t_ne (show 512 + i ≠ 768 + i from by omega), hd_t_eq]
end
section
/-! ErrorCorrection, OwnArrays.fill, Arrays.fill: contracts -/
abbrev vwCl : List vw_C := [(RX0, TX0, 3), (RX1, TX1, 3)]
set_option maxHeartbeats 4000000 in
set_option maxRecDepth 100000 in
/-- abs(v) -/
theorem metX2_abs (l : Launch) (p0 : Int32) : Met l yX2_abs (ws_ yX2_abs cX2_abs 2 (some .int)) ({ frames := 0, cells := 0, slots := 0, locals := 0 }) (va_Pc [.int p0] (fun _ => True)) (vp_Si (fun r : Int32 => r = if p0 < 0 then -p0 else p0)) 0 0 (fun _ => False) := by
  refine Met.ofW (cc := cX2_abs) (maxL := 2) (ret := (some .int)) (by decide) rfl ?_
  intro p e s m args below meth c s₁ B hml hv
  obtain ⟨rfl, -⟩ := hv
  have hx := B.exec
  have hb := B.bytes
  have hr := B.returns
  have hts := atoms_spec (ws := (ws_ yX2_abs cX2_abs 2 (some .int))) B.pre
  have hts : ∀ w ∈ lw_all, w.before _ s = true := fun w h => hts w (List.mem_cons_of_mem _ h)
  have hown : s.vm.findClass RX2 = some m.cls := findClass_of_methodNamed B.named
  have hlocks := B.notSynchronized
  have hl := lv_entry ([.int p0]) (n := 2) (Nat.le_of_ble_eq_true rfl)
  rw [lg_entry_eq]
  generalize (lg_sl ([.int p0]) ++ List.replicate (2 - (lg_sl ([.int p0])).length) Slot.unset).toArray = ls at hl ⊢
  have hl : lv_has ls 2 [(0, .int p0)] := hl
  refine lv_iload_n hx hb dX2_abs_0 rfl (lv_at hl 0 rfl) ?_
  refine lv_bipush (v := nI 31) hx hb dX2_abs_1 (by decide +kernel) ?_
  refine lv_ishr hx hb dX2_abs_3 ?_
  refine lv_istore_n (lv' := [(1, .int (p0 >>> ((nI 31) &&& 31))), (0, .int p0)]) hx hb dX2_abs_4 rfl hl (by decide) rfl (fun ls hl => ?_)
  refine lv_iload_n hx hb dX2_abs_5 rfl (lv_at hl 1 rfl) ?_
  refine lv_iload_n hx hb dX2_abs_6 rfl (lv_at hl 0 rfl) ?_
  refine lv_ixor hx hb dX2_abs_7 ?_
  refine lv_iload_n hx hb dX2_abs_8 rfl (lv_at hl 0 rfl) ?_
  refine lv_isub hx hb dX2_abs_9 ?_
  refine hd_top (if p0 < 0 then -p0 else p0) (hd_abs p0) ?_
  exact W.iret (v := (if p0 < 0 then -p0 else p0)) hx hb hr (fun t ht hW => ⟨(if p0 < 0 then -p0 else p0), rfl, rfl, ht⟩) (fun q h => by cases h) dX2_abs_10
set_option maxHeartbeats 4000000 in
set_option maxRecDepth 100000 in
/-- g(x): the distance from the nearest multiple of eight primes -/
theorem metX2_g (l : Launch) (n : Nat) (hn : n ≤ 294928) : Met l yX2_g (ws_ yX2_g cX2_g 4 (some .int)) ({ frames := 1, cells := 0, slots := 0, locals := 21 }) (va_Pc [.int (nI n)] (fun _ => True)) (vp_Si (fun r : Int32 => r = nI (hd_d n))) 0 0 (fun _ => False) := by
  refine Met.ofW (cc := cX2_g) (maxL := 4) (ret := (some .int)) (by decide) rfl ?_
  intro p e s m args below meth c s₁ B hml hv
  obtain ⟨rfl, -⟩ := hv
  have hx := B.exec
  have hb := B.bytes
  have hr := B.returns
  have hts := atoms_spec (ws := (ws_ yX2_g cX2_g 4 (some .int))) B.pre
  have hts : ∀ w ∈ lw_all, w.before _ s = true := fun w h => hts w (List.mem_cons_of_mem _ h)
  have hown : s.vm.findClass RX2 = some m.cls := findClass_of_methodNamed B.named
  have hlocks := B.notSynchronized
  have hl := lv_entry ([.int (nI n)]) (n := 4) (Nat.le_of_ble_eq_true rfl)
  rw [lg_entry_eq]
  generalize (lg_sl ([.int (nI n)]) ++ List.replicate (4 - (lg_sl ([.int (nI n)])).length) Slot.unset).toArray = ls at hl ⊢
  have hl : lv_has ls 4 [(0, .int (nI n))] := hl
  refine lv_iload_n hx hb dX2_g_0 rfl (lv_at hl 0 rfl) ?_
  refine lv_sipush (v := nI 2730) hx hb dX2_g_1 (by decide +kernel) ?_
  refine lv_imul hx hb dX2_g_4 ?_
  refine hd_top (nI (n * 2730)) (pk_mul _ _) ?_
  refine lv_istore_n (lv' := [(3, .int (nI (n * 2730))), (0, .int (nI n))]) hx hb dX2_g_5 rfl hl (by decide) rfl (fun ls hl => ?_)
  refine lv_iload_n hx hb dX2_g_6 rfl (lv_at hl 0 rfl) ?_
  refine lv_bipush (v := nI 27) hx hb dX2_g_7 (by decide +kernel) ?_
  refine lv_ishr hx hb dX2_g_9 ?_
  refine hd_top (nI (n * 2730 / 134217728)) (pk_shrN (by omega) (nI 27 &&& 31) 27 (by decide +kernel)) ?_
  refine lv_istore_n (lv' := [(1, .int (nI (n * 2730 / 134217728))), (3, .int (nI (n * 2730))), (0, .int (nI n))]) hx hb dX2_g_10 rfl hl (by decide) rfl (fun ls hl => ?_)
  refine lv_iload_n hx hb dX2_g_11 rfl (lv_at hl 2 rfl) ?_
  refine lv_iload_n hx hb dX2_g_12 rfl (lv_at hl 0 rfl) ?_
  refine lv_ldc (v := nI 49156) hx hb hown (hts _ q64) dX2_g_13 ?_
  refine lv_imul hx hb dX2_g_15 ?_
  refine hd_top (nI (n * 2730 / 134217728 * 49156)) (pk_mul _ _) ?_
  refine lv_isub hx hb dX2_g_16 ?_
  refine hd_top (nI (n - n * 2730 / 134217728 * 49156)) (pk_sub (hd_g0 hn)) ?_
  refine lv_istore_n (lv' := [(3, .int (nI (n - n * 2730 / 134217728 * 49156))), (1, .int (nI (n * 2730 / 134217728))), (0, .int (nI n))]) hx hb dX2_g_17 rfl hl (by decide) rfl (fun ls hl => ?_)
  refine lv_ldc (v := nI 49155) hx hb hown (hts _ q65) dX2_g_18 ?_
  refine lv_iload_n hx hb dX2_g_20 rfl (lv_at hl 0 rfl) ?_
  refine lv_isub hx hb dX2_g_21 ?_
  refine lv_istore_n (lv' := [(3, .int ((nI 49155) - (nI (n - n * 2730 / 134217728 * 49156)))), (1, .int (nI (n * 2730 / 134217728))), (0, .int (nI n))]) hx hb dX2_g_22 rfl hl (by decide) rfl (fun ls hl => ?_)
  refine lv_iload_n hx hb dX2_g_23 rfl (lv_at hl 0 rfl) ?_
  refine lv_bipush (v := nI 31) hx hb dX2_g_24 (by decide +kernel) ?_
  refine lv_ishr hx hb dX2_g_26 ?_
  refine lv_istore_n (lv' := [(3, .int (((nI 49155) - (nI (n - n * 2730 / 134217728 * 49156))) >>> ((nI 31) &&& 31))), (1, .int (nI (n * 2730 / 134217728))), (0, .int (nI n))]) hx hb dX2_g_27 rfl hl (by decide) rfl (fun ls hl => ?_)
  refine lv_iload_n hx hb dX2_g_28 rfl (lv_at hl 1 rfl) ?_
  refine lv_iload_n hx hb dX2_g_29 rfl (lv_at hl 0 rfl) ?_
  refine lv_isub hx hb dX2_g_30 ?_
  refine hd_top (nI (n / 49156)) (hd_g1 hn) ?_
  refine lv_istore_n (lv' := [(1, .int (nI (n / 49156))), (3, .int (((nI 49155) - (nI (n - n * 2730 / 134217728 * 49156))) >>> ((nI 31) &&& 31))), (0, .int (nI n))]) hx hb dX2_g_31 rfl hl (by decide) rfl (fun ls hl => ?_)
  refine lv_iload_n hx hb dX2_g_32 rfl (lv_at hl 0 rfl) ?_
  refine lv_iconst (v := nI 1) hx hb dX2_g_33 (by decide +kernel) ?_
  refine lv_iand hx hb dX2_g_34 ?_
  refine hd_top (nI (n / 49156 % 2)) (pk_andN (by omega) 1 (by decide +kernel)) ?_
  refine lv_istore_n (lv' := [(2, .int (nI (n / 49156 % 2))), (1, .int (nI (n / 49156))), (3, .int (((nI 49155) - (nI (n - n * 2730 / 134217728 * 49156))) >>> ((nI 31) &&& 31))), (0, .int (nI n))]) hx hb dX2_g_35 rfl hl (by decide) rfl (fun ls hl => ?_)
  refine lv_iload_n hx hb dX2_g_36 rfl (lv_at hl 1 rfl) ?_
  refine lv_iconst (v := nI 1) hx hb dX2_g_37 (by decide +kernel) ?_
  refine lv_ishr hx hb dX2_g_38 ?_
  refine hd_top (nI (n / 49156 / 2)) (pk_shrN (by omega) (nI 1 &&& 31) 1 (by decide +kernel)) ?_
  refine lv_iload_n hx hb dX2_g_39 rfl (lv_at hl 0 rfl) ?_
  refine lv_iadd hx hb dX2_g_40 ?_
  refine hd_top (nI (n / 49156 / 2 + n / 49156 % 2)) (nI_add _ _) ?_
  refine lv_istore_n (lv' := [(1, .int (nI (n / 49156 / 2 + n / 49156 % 2))), (2, .int (nI (n / 49156 % 2))), (3, .int (((nI 49155) - (nI (n - n * 2730 / 134217728 * 49156))) >>> ((nI 31) &&& 31))), (0, .int (nI n))]) hx hb dX2_g_41 rfl hl (by decide) rfl (fun ls hl => ?_)
  refine lv_iload_n hx hb dX2_g_42 rfl (lv_at hl 0 rfl) ?_
  refine lv_ldc (v := nI 98312) hx hb hown (hts _ q66) dX2_g_43 ?_
  refine lv_imul hx hb dX2_g_45 ?_
  refine hd_top (nI ((n / 49156 / 2 + n / 49156 % 2) * 98312)) (pk_mul _ _) ?_
  refine lv_istore_n (lv' := [(1, .int (nI ((n / 49156 / 2 + n / 49156 % 2) * 98312))), (2, .int (nI (n / 49156 % 2))), (3, .int (((nI 49155) - (nI (n - n * 2730 / 134217728 * 49156))) >>> ((nI 31) &&& 31))), (0, .int (nI n))]) hx hb dX2_g_46 rfl hl (by decide) rfl (fun ls hl => ?_)
  refine lv_iload_n hx hb dX2_g_47 rfl (lv_at hl 0 rfl) ?_
  refine lv_iload_n hx hb dX2_g_48 rfl (lv_at hl 3 rfl) ?_
  refine lv_isub hx hb dX2_g_49 ?_
  refine vp_callSi (W.runS (As := [.int ((nI ((n / 49156 / 2 + n / 49156 % 2) * 98312)) - (nI n))]) (rest := []) ⟨hx, hb, hml, hown, hts⟩ (metX2_abs l ((nI ((n / 49156 / 2 + n / 49156 % 2) * 98312)) - (nI n))) (va_cwS 1 hts (lw_S q67 q68 q4 q69) rfl rfl rfl (by decide +kernel) ⟨Nat.le_of_ble_eq_true rfl, Nat.le_of_ble_eq_true rfl⟩) ⟨fun a U g mk q => q, fun U hU hW => ⟨rfl, trivial⟩⟩ rfl rfl hl.1 rfl (lv_room (Nat.le_of_ble_eq_true rfl)) dX2_g_50 ⟨Nat.le_of_ble_eq_true rfl, Nat.le_of_ble_eq_true rfl⟩) (fun r_1 hr_1 => ?_)
  obtain rfl : r_1 = nI (hd_d n) := hr_1.trans (hd_g2 hn)
  exact W.iret (v := (nI (hd_d n))) hx hb hr (fun t ht hW => ⟨(nI (hd_d n)), rfl, rfl, ht⟩) (fun q h => by cases h) dX2_g_53
set_option maxHeartbeats 4000000 in
set_option maxRecDepth 100000 in
/-- LDDecode: are the four distances together below eight primes -/
theorem metX2_LDDecode (l : Launch) (n0 n1 n2 n3 : Nat) (hn0 : n0 ≤ 294928) (hn1 : n1 ≤ 294928) (hn2 : n2 ≤ 294928) (hn3 : n3 ≤ 294928) : Met l yX2_LDDecode (ws_ yX2_LDDecode cX2_LDDecode 5 (some .short)) ({ frames := 2, cells := 0, slots := 0, locals := 44 }) (va_Pc [.int (nI n0), .int (nI n1), .int (nI n2), .int (nI n3)] (fun _ => True)) (vp_Si (fun r : Int32 => r = nI (if hd_d n0 + hd_d n1 + hd_d n2 + hd_d n3 < 98312 then 1 else 0))) 0 0 (fun _ => False) := by
  refine Met.ofW (cc := cX2_LDDecode) (maxL := 5) (ret := (some .short)) (by decide) rfl ?_
  intro p e s m args below meth c s₁ B hml hv
  obtain ⟨rfl, -⟩ := hv
  have hx := B.exec
  have hb := B.bytes
  have hr := B.returns
  have hts := atoms_spec (ws := (ws_ yX2_LDDecode cX2_LDDecode 5 (some .short))) B.pre
  have hts : ∀ w ∈ lw_all, w.before _ s = true := fun w h => hts w (List.mem_cons_of_mem _ h)
  have hown : s.vm.findClass RX2 = some m.cls := findClass_of_methodNamed B.named
  have hlocks := B.notSynchronized
  have hl := lv_entry ([.int (nI n0), .int (nI n1), .int (nI n2), .int (nI n3)]) (n := 5) (Nat.le_of_ble_eq_true rfl)
  rw [lg_entry_eq]
  generalize (lg_sl ([.int (nI n0), .int (nI n1), .int (nI n2), .int (nI n3)]) ++ List.replicate (5 - (lg_sl ([.int (nI n0), .int (nI n1), .int (nI n2), .int (nI n3)])).length) Slot.unset).toArray = ls at hl ⊢
  have hl : lv_has ls 5 [(0, .int (nI n0)), (1, .int (nI n1)), (2, .int (nI n2)), (3, .int (nI n3))] := hl
  refine lv_iload_n hx hb dX2_LDDecode_0 rfl (lv_at hl 0 rfl) ?_
  refine vp_callSi (W.runS (As := [.int (nI n0)]) (rest := []) ⟨hx, hb, hml, hown, hts⟩ (metX2_g l n0 hn0) (va_cwS 1 hts (lw_S q61 q62 q4 q63) rfl rfl rfl (by decide +kernel) ⟨Nat.le_of_ble_eq_true rfl, Nat.le_of_ble_eq_true rfl⟩) ⟨fun a U g mk q => q, fun U hU hW => ⟨rfl, trivial⟩⟩ rfl rfl hl.1 rfl (lv_room (Nat.le_of_ble_eq_true rfl)) dX2_LDDecode_1 ⟨Nat.le_of_ble_eq_true rfl, Nat.le_of_ble_eq_true rfl⟩) (fun r_0 hr_0 => ?_)
  obtain rfl : r_0 = nI (hd_d n0) := hr_0
  refine lv_istore (lv' := [(4, .int (nI (hd_d n0))), (0, .int (nI n0)), (1, .int (nI n1)), (2, .int (nI n2)), (3, .int (nI n3))]) hx hb dX2_LDDecode_4 hl (by decide) rfl (fun ls hl => ?_)
  refine lv_iload hx hb dX2_LDDecode_6 (lv_at hl 0 rfl) ?_
  refine lv_iload_n hx hb dX2_LDDecode_8 rfl (lv_at hl 2 rfl) ?_
  refine vp_callSi (W.runS (As := [.int (nI n1)]) (rest := [.int (nI (hd_d n0))]) ⟨hx, hb, hml, hown, hts⟩ (metX2_g l n1 hn1) (va_cwS 1 hts (lw_S q61 q62 q4 q63) rfl rfl rfl (by decide +kernel) ⟨Nat.le_of_ble_eq_true rfl, Nat.le_of_ble_eq_true rfl⟩) ⟨fun a U g mk q => q, fun U hU hW => ⟨rfl, trivial⟩⟩ rfl rfl hl.1 rfl (lv_room (Nat.le_of_ble_eq_true rfl)) dX2_LDDecode_9 ⟨Nat.le_of_ble_eq_true rfl, Nat.le_of_ble_eq_true rfl⟩) (fun r_1 hr_1 => ?_)
  obtain rfl : r_1 = nI (hd_d n1) := hr_1
  refine lv_iadd hx hb dX2_LDDecode_12 ?_
  refine hd_top (nI (hd_d n0 + hd_d n1)) (nI_add _ _) ?_
  refine lv_istore (lv' := [(4, .int (nI (hd_d n0 + hd_d n1))), (0, .int (nI n0)), (1, .int (nI n1)), (2, .int (nI n2)), (3, .int (nI n3))]) hx hb dX2_LDDecode_13 hl (by decide) rfl (fun ls hl => ?_)
  refine lv_iload hx hb dX2_LDDecode_15 (lv_at hl 0 rfl) ?_
  refine lv_iload_n hx hb dX2_LDDecode_17 rfl (lv_at hl 3 rfl) ?_
  refine vp_callSi (W.runS (As := [.int (nI n2)]) (rest := [.int (nI (hd_d n0 + hd_d n1))]) ⟨hx, hb, hml, hown, hts⟩ (metX2_g l n2 hn2) (va_cwS 1 hts (lw_S q61 q62 q4 q63) rfl rfl rfl (by decide +kernel) ⟨Nat.le_of_ble_eq_true rfl, Nat.le_of_ble_eq_true rfl⟩) ⟨fun a U g mk q => q, fun U hU hW => ⟨rfl, trivial⟩⟩ rfl rfl hl.1 rfl (lv_room (Nat.le_of_ble_eq_true rfl)) dX2_LDDecode_18 ⟨Nat.le_of_ble_eq_true rfl, Nat.le_of_ble_eq_true rfl⟩) (fun r_2 hr_2 => ?_)
  obtain rfl : r_2 = nI (hd_d n2) := hr_2
  refine lv_iadd hx hb dX2_LDDecode_21 ?_
  refine hd_top (nI (hd_d n0 + hd_d n1 + hd_d n2)) (nI_add _ _) ?_
  refine lv_istore (lv' := [(4, .int (nI (hd_d n0 + hd_d n1 + hd_d n2))), (0, .int (nI n0)), (1, .int (nI n1)), (2, .int (nI n2)), (3, .int (nI n3))]) hx hb dX2_LDDecode_22 hl (by decide) rfl (fun ls hl => ?_)
  refine lv_iload hx hb dX2_LDDecode_24 (lv_at hl 0 rfl) ?_
  refine lv_iload_n hx hb dX2_LDDecode_26 rfl (lv_at hl 4 rfl) ?_
  refine vp_callSi (W.runS (As := [.int (nI n3)]) (rest := [.int (nI (hd_d n0 + hd_d n1 + hd_d n2))]) ⟨hx, hb, hml, hown, hts⟩ (metX2_g l n3 hn3) (va_cwS 1 hts (lw_S q61 q62 q4 q63) rfl rfl rfl (by decide +kernel) ⟨Nat.le_of_ble_eq_true rfl, Nat.le_of_ble_eq_true rfl⟩) ⟨fun a U g mk q => q, fun U hU hW => ⟨rfl, trivial⟩⟩ rfl rfl hl.1 rfl (lv_room (Nat.le_of_ble_eq_true rfl)) dX2_LDDecode_27 ⟨Nat.le_of_ble_eq_true rfl, Nat.le_of_ble_eq_true rfl⟩) (fun r_3 hr_3 => ?_)
  obtain rfl : r_3 = nI (hd_d n3) := hr_3
  have hs0 := hd_d_le n0
  have hs1 := hd_d_le n1
  have hs2 := hd_d_le n2
  have hs3 := hd_d_le n3
  have hif : (if hd_d n0 + hd_d n1 + hd_d n2 + hd_d n3 < 98312 then 1 else 0) < 32768 := by split <;> decide
  refine lv_iadd hx hb dX2_LDDecode_30 ?_
  refine hd_top (nI (hd_d n0 + hd_d n1 + hd_d n2 + hd_d n3)) (nI_add _ _) ?_
  refine lv_istore (lv' := [(4, .int (nI (hd_d n0 + hd_d n1 + hd_d n2 + hd_d n3))), (0, .int (nI n0)), (1, .int (nI n1)), (2, .int (nI n2)), (3, .int (nI n3))]) hx hb dX2_LDDecode_31 hl (by decide) rfl (fun ls hl => ?_)
  refine lv_iload hx hb dX2_LDDecode_33 (lv_at hl 0 rfl) ?_
  refine lv_ldc (v := nI 98312) hx hb hown (hts _ q66) dX2_LDDecode_35 ?_
  refine lv_isub hx hb dX2_LDDecode_37 ?_
  refine lv_istore (lv' := [(4, .int ((nI (hd_d n0 + hd_d n1 + hd_d n2 + hd_d n3)) - (nI 98312))), (0, .int (nI n0)), (1, .int (nI n1)), (2, .int (nI n2)), (3, .int (nI n3))]) hx hb dX2_LDDecode_38 hl (by decide) rfl (fun ls hl => ?_)
  refine lv_iload hx hb dX2_LDDecode_40 (lv_at hl 0 rfl) ?_
  refine lv_bipush (v := nI 31) hx hb dX2_LDDecode_42 (by decide +kernel) ?_
  refine lv_iushr hx hb dX2_LDDecode_44 rfl ?_
  refine hd_top (nI (if hd_d n0 + hd_d n1 + hd_d n2 + hd_d n3 < 98312 then 1 else 0)) (hd_ld (by omega)) ?_
  refine lv_i2s hx hb dX2_LDDecode_45 rfl ?_
  refine hd_top (nI (if hd_d n0 + hd_d n1 + hd_d n2 + hd_d n3 < 98312 then 1 else 0)) (hd_short hif) ?_
  exact W.zret (v := (nI (if hd_d n0 + hd_d n1 + hd_d n2 + hd_d n3 < 98312 then 1 else 0))) hx hb hr (congrArg Value.int (hd_short hif)) (fun t ht hW => ⟨(nI (if hd_d n0 + hd_d n1 + hd_d n2 + hd_d n3 < 98312 then 1 else 0)), rfl, rfl, ht⟩) (fun q h => by cases h) dX2_LDDecode_46
set_option maxHeartbeats 4000000 in
set_option maxRecDepth 100000 in
/-- Arrays.fill(byte[], byte): zeros over zeros -/
theorem metJ0_fill (l : Launch) (dC : Nat → ClassId) (dI : Nat → Nat → Nat) (q0 : Nat) (ck : ClassId) (sz : Nat) : Met l yJ0_fill (ws_ yJ0_fill cJ0_fill 4 none) ({ frames := 0, cells := 0, slots := 0, locals := 0 }) (va_Pc [.ref q0, .int (nI 0)] (fun U => U.heap.size = sz ∧ va_P (dC, dI) vwCl [(q0, .inl (ck, 32, .inl (hd_bt hd_z)))] U.heap ∧ va_K (dC, dI) vwCl [(ck, .byte)] U ∧ va_D (fun _ => True) [(q0, .inl (ck, 32, .inl (hd_bt hd_z)))])) (va_Qv (fun _ : Unit => True) (fun _ t => va_P (dC, dI) vwCl [(q0, .inl (ck, 32, .inl (hd_bt hd_z)))] t.heap ∧ va_K (dC, dI) vwCl [(ck, .byte)] t ∧ va_D (va_A [(q0, .inl (ck, 32, .inl (hd_bt hd_z)))] sz) [(q0, .inl (ck, 32, .inl (hd_bt hd_z)))]) (va_A [(q0, .inl (ck, 32, .inl (hd_bt hd_z)))] sz)) 0 0 (va_A [(q0, .inl (ck, 32, .inl (hd_bt hd_z)))] sz) := by
  refine Met.ofW (cc := cJ0_fill) (maxL := 4) (ret := none) (by decide) rfl ?_
  intro p e s m args below meth c s₁ B hml hv
  obtain ⟨rfl, hsz, hP, hK, hD0⟩ := hv
  have hx := B.exec
  have hb := B.bytes
  have hr := B.returns
  have hts := atoms_spec (ws := (ws_ yJ0_fill cJ0_fill 4 none)) B.pre
  have hts : ∀ w ∈ lw_all, w.before _ s = true := fun w h => hts w (List.mem_cons_of_mem _ h)
  have hown : s.vm.findClass RJ0 = some m.cls := findClass_of_methodNamed B.named
  have hlocks := B.notSynchronized
  subst hsz
  have hD := hD0.self (sz := s.heap.size)
  generalize hAe : va_A [(q0, .inl (ck, 32, .inl (hd_bt hd_z)))] s.heap.size = A at hD ⊢
  have hA : ∀ q : Nat, s.heap.size ≤ q → A q := fun q h => by rw [← hAe]; exact Or.inr h
  have hS : va_S A s.heap s.heap [] := va_S.rf
  have hP : va_P (dC, dI) vwCl [(q0, .inl (ck, 32, .inl (hd_bt hd_z)))] s.heap := hP
  have hl := lv_entry ([.ref q0, .int (nI 0)]) (n := 4) (Nat.le_of_ble_eq_true rfl)
  rw [lg_entry_eq]
  generalize (lg_sl ([.ref q0, .int (nI 0)]) ++ List.replicate (4 - (lg_sl ([.ref q0, .int (nI 0)])).length) Slot.unset).toArray = ls at hl ⊢
  have hl : lv_has ls 4 [(0, .ref q0), (1, .int (nI 0))] := hl
  refine lv_iconst (v := nI 0) hx hb dJ0_fill_0 (by decide +kernel) ?_
  refine lv_istore_n (lv' := [(2, .int (nI 0)), (0, .ref q0), (1, .int (nI 0))]) hx hb dJ0_fill_1 rfl hl (by decide) rfl (fun ls hl => ?_)
  refine lv_aload_n hx hb dJ0_fill_2 rfl (lv_at hl 1 rfl) ?_
  refine va_alen (v := nI 32) hx hb hK hP 0 0 rfl rfl rfl dJ0_fill_3 ?_
  refine lv_istore_n (lv' := [(3, .int (nI 32)), (2, .int (nI 0)), (0, .ref q0), (1, .int (nI 0))]) hx hb dJ0_fill_4 rfl hl (by decide) rfl (fun ls hl => ?_)
  have loop : ∀ (n i : Nat), i ≤ 32 → 33 ≤ i + n → ∀ (H : Heap) (locs : List Loc) (ls : Array Slot), va_P (dC, dI) vwCl [(q0, .inl (ck, 32, .inl (hd_bt hd_z)))] H → va_D A [(q0, .inl (ck, 32, .inl (hd_bt hd_z)))] → va_S A s.heap H locs → lv_has ls 4 [(2, .int (nI i)), (3, .int (nI 32)), (0, .ref q0), (1, .int (nI 0))] → W p l e (headSpec (ws_ yJ0_fill cJ0_fill 4 none) ({ frames := 0, cells := 0, slots := 0, locals := 0 })).room s m ([.ref q0, .int (nI 0)] : List Value).toArray below meth c H locs 0 0 (MQ below (va_Qv (fun _ : Unit => True) (fun _ t => va_P (dC, dI) vwCl [(q0, .inl (ck, 32, .inl (hd_bt hd_z)))] t.heap ∧ va_K (dC, dI) vwCl [(ck, .byte)] t ∧ va_D A [(q0, .inl (ck, 32, .inl (hd_bt hd_z)))]) A) ([.ref q0, .int (nI 0)] : List Value).toArray s 0 0 A) (F0 m 5 ls []) := by
    intro n
    induction n with
    | zero =>
      intro i h1 h2
      exact absurd h2 (by omega)
    | succ n ih =>
      intro i h1 h2 H locs ls hP hD hS hl
      refine lv_iload_n hx hb dJ0_fill_5 rfl (lv_at hl 0 rfl) ?_
      refine lv_iload_n hx hb dJ0_fill_6 rfl (lv_at hl 1 rfl) ?_
      refine lv_icmp_ge (tgt := 20) hx hb dJ0_fill_7 (by decide) (fun hc => ?_) (fun hc => ?_)
      · skip
        have hP9 := hP.sub (ws' := [(q0, .inl (ck, 32, .inl (hd_bt hd_z)))]) [0] rfl
        have hD9 := hD.sub (ws' := [(q0, .inl (ck, 32, .inl (hd_bt hd_z)))]) [0] (by decide) rfl
        have hK9 := hK.sub (tys' := [(ck, .byte)]) [0] rfl
        exact W.vret hx hb hr (fun t ht hW => ⟨⟨(), rfl, trivial, by rw [ht]; exact hP9, va_K.moved hW.alike hK9, hD9⟩, hS.F ht⟩) hS.2.2 dJ0_fill_20
      · have hi : i < 32 := by
          rcases Nat.lt_or_ge i 32 with h | h
          · exact h
          · exact absurd ((nI_leI (by decide) (by omega)).mpr h) hc
        refine lv_aload_n hx hb dJ0_fill_10 rfl (lv_at hl 2 rfl) ?_
        refine lv_iload_n hx hb dJ0_fill_11 rfl (lv_at hl 0 rfl) ?_
        refine lv_iload_n hx hb dJ0_fill_12 rfl (lv_at hl 3 rfl) ?_
        refine va_bast hx hb hK hP hD hS 0 0 rfl rfl (vp_in_nI hi (by decide)) dJ0_fill_13 (fun H locs hP hD hS => ?_)
        rw [hd_fill0 (k := i) (by omega)] at hP hD
        have hP : va_P (dC, dI) vwCl [(q0, .inl (ck, 32, .inl (hd_bt hd_z)))] H := hP
        have hD : va_D A [(q0, .inl (ck, 32, .inl (hd_bt hd_z)))] := hD
        refine lv_iinc (v := (nI (i + 1))) (lv' := [(2, .int (nI (i + 1))), (3, .int (nI 32)), (0, .ref q0), (1, .int (nI 0))]) hx hb dJ0_fill_14 hl (k := 0) rfl (nI_1 i) (by decide) rfl (fun ls hl => ?_)
        refine lv_goto (tgt := 5) hx hb dJ0_fill_17 (by decide) ?_
        exact ih (i + 1) hi (by omega) _ _ ls hP hD hS (lv_sub hl [0, 1, 2, 3] rfl)
  exact loop 33 0 (by omega) (by omega) _ _ ls hP hD hS (lv_sub hl [1, 0, 2, 3] rfl)
set_option maxHeartbeats 4000000 in
set_option maxRecDepth 100000 in
/-- OwnArrays.fill -/
theorem metX3_fill (l : Launch) (dC : Nat → ClassId) (dI : Nat → Nat → Nat) (q0 : Nat) (ck : ClassId) (sz : Nat) : Met l yX3_fill (ws_ yX3_fill cX3_fill 2 none) ({ frames := 1, cells := 0, slots := 0, locals := 23 }) (va_Pc [.ref q0, .int (nI 0)] (fun U => U.heap.size = sz ∧ va_P (dC, dI) vwCl [(q0, .inl (ck, 32, .inl (hd_bt hd_z)))] U.heap ∧ va_K (dC, dI) vwCl [(ck, .byte)] U ∧ va_D (fun _ => True) [(q0, .inl (ck, 32, .inl (hd_bt hd_z)))])) (va_Qv (fun _ : Unit => True) (fun _ t => va_P (dC, dI) vwCl [(q0, .inl (ck, 32, .inl (hd_bt hd_z)))] t.heap ∧ va_K (dC, dI) vwCl [(ck, .byte)] t ∧ va_D (va_A [(q0, .inl (ck, 32, .inl (hd_bt hd_z)))] sz) [(q0, .inl (ck, 32, .inl (hd_bt hd_z)))]) (va_A [(q0, .inl (ck, 32, .inl (hd_bt hd_z)))] sz)) 0 0 (va_A [(q0, .inl (ck, 32, .inl (hd_bt hd_z)))] sz) := by
  refine Met.ofW (cc := cX3_fill) (maxL := 2) (ret := none) (by decide) rfl ?_
  intro p e s m args below meth c s₁ B hml hv
  obtain ⟨rfl, hsz, hP, hK, hD0⟩ := hv
  have hx := B.exec
  have hb := B.bytes
  have hr := B.returns
  have hts := atoms_spec (ws := (ws_ yX3_fill cX3_fill 2 none)) B.pre
  have hts : ∀ w ∈ lw_all, w.before _ s = true := fun w h => hts w (List.mem_cons_of_mem _ h)
  have hown : s.vm.findClass RX3 = some m.cls := findClass_of_methodNamed B.named
  have hlocks := B.notSynchronized
  subst hsz
  have hD := hD0.self (sz := s.heap.size)
  generalize hAe : va_A [(q0, .inl (ck, 32, .inl (hd_bt hd_z)))] s.heap.size = A at hD ⊢
  have hA : ∀ q : Nat, s.heap.size ≤ q → A q := fun q h => by rw [← hAe]; exact Or.inr h
  have hS : va_S A s.heap s.heap [] := va_S.rf
  have hP : va_P (dC, dI) vwCl [(q0, .inl (ck, 32, .inl (hd_bt hd_z)))] s.heap := hP
  have hl := lv_entry ([.ref q0, .int (nI 0)]) (n := 2) (Nat.le_of_ble_eq_true rfl)
  rw [lg_entry_eq]
  generalize (lg_sl ([.ref q0, .int (nI 0)]) ++ List.replicate (2 - (lg_sl ([.ref q0, .int (nI 0)])).length) Slot.unset).toArray = ls at hl ⊢
  have hl : lv_has ls 2 [(0, .ref q0), (1, .int (nI 0))] := hl
  refine lv_aload_n hx hb dX3_fill_0 rfl (lv_at hl 0 rfl) ?_
  refine lv_iload_n hx hb dX3_fill_1 rfl (lv_at hl 1 rfl) ?_
  have hPc := hP.sub (ws' := [(q0, .inl (ck, 32, .inl (hd_bt hd_z)))]) [0] rfl
  have hDc := hD.sub (ws' := [(q0, .inl (ck, 32, .inl (hd_bt hd_z)))]) [0] (by decide) rfl
  have hKc := hK.sub (tys' := [(ck, .byte)]) [0] rfl
  have hFc := va_free (wc := [(q0, .inl (ck, 32, .inl (hd_bt hd_z)))]) hD hS hA [0] rfl
  refine va_callv (va_runS (As := [.ref q0, .int (nI 0)]) (rest := []) ⟨hx, hb, hml, hown, hts⟩ (metJ0_fill l dC dI q0 ck s.heap.size) (va_cwS 2 hts (lw_S q54 q55 q6 q56) rfl rfl rfl (by decide +kernel) ⟨Nat.le_of_ble_eq_true rfl, Nat.le_of_ble_eq_true rfl⟩) ⟨fun a U g mk q => by obtain ⟨q0, q1, qP, qK, qD⟩ := q; exact ⟨q0, q1, qP, va_K.moved (u := U) (U := U.calling g mk a) (Vm.Alike.refl U.vm) qK, qD⟩, fun U hU hW => ⟨rfl, by rw [hU], by rw [hU]; exact hPc, va_K.moved hW.alike hKc, hDc.weaken (fun _ _ _ _ => trivial)⟩⟩ rfl rfl hl.1 rfl (lv_room (Nat.le_of_ble_eq_true rfl)) dX3_fill_2 ⟨Nat.le_of_ble_eq_true rfl, Nat.le_of_ble_eq_true rfl⟩) hS (fun q _ h => hFc q h) hFc (fun u t H1 locs ht hvm hw hB hz1 hk1 hS => ?_)
  obtain ⟨hP1, hK1, hD1⟩ := hB
  rw [ht] at hP1
  have hK1 := va_K.moved hvm.symm hK1
  obtain ⟨hP, hD⟩ := va_join (wr := []) (w1 := [(q0, .inl (ck, 32, .inl (hd_bt hd_z)))]) hP hD [0] [] rfl rfl (by decide) (by decide) hk1 hFc hP1 hD1
  have hK := (hK.sub (tys' := []) [] rfl).app hK1
  generalize H1 = H at hP hS ⊢
  have hP : va_P (dC, dI) vwCl [(q0, .inl (ck, 32, .inl (hd_bt hd_z)))] H := hP
  have hD : va_D A [(q0, .inl (ck, 32, .inl (hd_bt hd_z)))] := hD
  have hK : va_K (dC, dI) vwCl [(ck, .byte)] s := hK
  have hP9 := hP.sub (ws' := [(q0, .inl (ck, 32, .inl (hd_bt hd_z)))]) [0] rfl
  have hD9 := hD.sub (ws' := [(q0, .inl (ck, 32, .inl (hd_bt hd_z)))]) [0] (by decide) rfl
  have hK9 := hK.sub (tys' := [(ck, .byte)]) [0] rfl
  exact W.vret hx hb hr (fun t ht hW => ⟨⟨(), rfl, trivial, by rw [ht]; exact hP9, va_K.moved hW.alike hK9, hD9⟩, hS.F ht⟩) hS.2.2 dX3_fill_5
set_option maxHeartbeats 4000000 in
set_option maxRecDepth 100000 in
/-- rec: the key of row and help -/
theorem metX2_rec (l : Launch) (dC : Nat → ClassId) (dI : Nat → Nat → Nat) (q0 qr qh : Nat) (ck cr ch : ClassId) (sz : Nat) (r h : Nat → Nat) (hrb : ∀ j, r j < 12289) (hhb : ∀ j, h j < 4) : Met l yX2_rec (ws_ yX2_rec cX2_rec 5 none) ({ frames := 3, cells := 1, slots := 4, locals := 68 }) (va_Pc [.ref q0, .ref qr, .ref qh] (fun U => U.heap.size = sz ∧ va_P (dC, dI) vwCl [(q0, .inl (ck, 32, .inl (hd_bt hd_z))), (qr, .inl (cr, 1024, .inl (hd_ar r))), (qh, .inl (ch, 1024, .inl (hd_ar h)))] U.heap ∧ va_K (dC, dI) vwCl [(ck, .byte), (cr, .short), (ch, .short)] U ∧ va_D (fun _ => True) [(q0, .inl (ck, 32, .inl (hd_bt hd_z))), (qr, .inl (cr, 1024, .inl (hd_ar r))), (qh, .inl (ch, 1024, .inl (hd_ar h)))])) (va_Qv (fun _ : Unit => True) (fun _ t => va_P (dC, dI) vwCl [(q0, .inl (ck, 32, .inl (hd_bt (hd_K (hd_b r h) 256)))), (qr, .inl (cr, 1024, .inl (hd_ar r))), (qh, .inl (ch, 1024, .inl (hd_ar h)))] t.heap ∧ va_K (dC, dI) vwCl [(ck, .byte), (cr, .short), (ch, .short)] t ∧ va_D (va_A [(q0, .inl (ck, 32, .inl (hd_bt hd_z))), (qr, .inl (cr, 1024, .inl (hd_ar r))), (qh, .inl (ch, 1024, .inl (hd_ar h)))] sz) [(q0, .inl (ck, 32, .inl (hd_bt (hd_K (hd_b r h) 256)))), (qr, .inl (cr, 1024, .inl (hd_ar r))), (qh, .inl (ch, 1024, .inl (hd_ar h)))]) (va_A [(q0, .inl (ck, 32, .inl (hd_bt hd_z))), (qr, .inl (cr, 1024, .inl (hd_ar r))), (qh, .inl (ch, 1024, .inl (hd_ar h)))] sz)) 1 4 (va_A [(q0, .inl (ck, 32, .inl (hd_bt hd_z))), (qr, .inl (cr, 1024, .inl (hd_ar r))), (qh, .inl (ch, 1024, .inl (hd_ar h)))] sz) := by
  refine Met.ofW (cc := cX2_rec) (maxL := 5) (ret := none) (by decide) rfl ?_
  intro p e s m args below meth c s₁ B hml hv
  obtain ⟨rfl, hsz, hP, hK, hD0⟩ := hv
  have hx := B.exec
  have hb := B.bytes
  have hr := B.returns
  have hts := atoms_spec (ws := (ws_ yX2_rec cX2_rec 5 none)) B.pre
  have hts : ∀ w ∈ lw_all, w.before _ s = true := fun w h => hts w (List.mem_cons_of_mem _ h)
  have hown : s.vm.findClass RX2 = some m.cls := findClass_of_methodNamed B.named
  have hlocks := B.notSynchronized
  subst hsz
  have hD := hD0.self (sz := s.heap.size)
  generalize hAe : va_A [(q0, .inl (ck, 32, .inl (hd_bt hd_z))), (qr, .inl (cr, 1024, .inl (hd_ar r))), (qh, .inl (ch, 1024, .inl (hd_ar h)))] s.heap.size = A at hD ⊢
  have hA : ∀ q : Nat, s.heap.size ≤ q → A q := fun q h => by rw [← hAe]; exact Or.inr h
  have hS : va_S A s.heap s.heap [] := va_S.rf
  have hP : va_P (dC, dI) vwCl [(q0, .inl (ck, 32, .inl (hd_bt hd_z))), (qr, .inl (cr, 1024, .inl (hd_ar r))), (qh, .inl (ch, 1024, .inl (hd_ar h)))] s.heap := hP
  have hl := lv_entry ([.ref q0, .ref qr, .ref qh]) (n := 5) (Nat.le_of_ble_eq_true rfl)
  rw [lg_entry_eq]
  generalize (lg_sl ([.ref q0, .ref qr, .ref qh]) ++ List.replicate (5 - (lg_sl ([.ref q0, .ref qr, .ref qh])).length) Slot.unset).toArray = ls at hl ⊢
  have hl : lv_has ls 5 [(0, .ref q0), (1, .ref qr), (2, .ref qh)] := hl
  refine lv_aload_n hx hb dX2_rec_0 rfl (lv_at hl 0 rfl) ?_
  refine lv_iconst (v := nI 0) hx hb dX2_rec_1 (by decide +kernel) ?_
  have hPc := hP.sub (ws' := [(q0, .inl (ck, 32, .inl (hd_bt hd_z)))]) [0] rfl
  have hDc := hD.sub (ws' := [(q0, .inl (ck, 32, .inl (hd_bt hd_z)))]) [0] (by decide) rfl
  have hKc := hK.sub (tys' := [(ck, .byte)]) [0] rfl
  have hFc := va_free (wc := [(q0, .inl (ck, 32, .inl (hd_bt hd_z)))]) hD hS hA [0] rfl
  refine va_callv (va_runS (As := [.ref q0, .int (nI 0)]) (rest := []) ⟨hx, hb, hml, hown, hts⟩ (metX3_fill l dC dI q0 ck s.heap.size) (va_cwS 2 hts (lw_S q51 q52 q5 q53) rfl rfl rfl (by decide +kernel) ⟨Nat.le_of_ble_eq_true rfl, Nat.le_of_ble_eq_true rfl⟩) ⟨fun a U g mk q => by obtain ⟨q0, q1, qP, qK, qD⟩ := q; exact ⟨q0, q1, qP, va_K.moved (u := U) (U := U.calling g mk a) (Vm.Alike.refl U.vm) qK, qD⟩, fun U hU hW => ⟨rfl, by rw [hU], by rw [hU]; exact hPc, va_K.moved hW.alike hKc, hDc.weaken (fun _ _ _ _ => trivial)⟩⟩ rfl rfl hl.1 rfl (lv_room (Nat.le_of_ble_eq_true rfl)) dX2_rec_2 ⟨Nat.le_of_ble_eq_true rfl, Nat.le_of_ble_eq_true rfl⟩) hS (fun q _ h => hFc q h) hFc (fun u t H1 locs ht hvm hw hB hz1 hk1 hS => ?_)
  obtain ⟨hP1, hK1, hD1⟩ := hB
  rw [ht] at hP1
  have hK1 := va_K.moved hvm.symm hK1
  obtain ⟨hP, hD⟩ := va_join (wr := [(qr, .inl (cr, 1024, .inl (hd_ar r))), (qh, .inl (ch, 1024, .inl (hd_ar h)))]) (w1 := [(q0, .inl (ck, 32, .inl (hd_bt hd_z)))]) hP hD [0] [1, 2] rfl rfl (by decide) (by decide) hk1 hFc hP1 hD1
  have hK := (hK.sub (tys' := [(cr, .short), (ch, .short)]) [1, 2] rfl).app hK1
  generalize H1 = H at hP hS ⊢
  have hP : va_P (dC, dI) vwCl [(qr, .inl (cr, 1024, .inl (hd_ar r))), (qh, .inl (ch, 1024, .inl (hd_ar h))), (q0, .inl (ck, 32, .inl (hd_bt hd_z)))] H := hP
  have hD : va_D A [(qr, .inl (cr, 1024, .inl (hd_ar r))), (qh, .inl (ch, 1024, .inl (hd_ar h))), (q0, .inl (ck, 32, .inl (hd_bt hd_z)))] := hD
  have hK : va_K (dC, dI) vwCl [(cr, .short), (ch, .short), (ck, .byte)] s := hK
  refine lv_iconst (v := nI 4) hx hb dX2_rec_5 (by decide +kernel) ?_
  refine va_newa (atype := .int) (ty := .int) (N' := 4) (a0 := (4, .inl (hd_ar hd_z))) hx hb (hts _ q70) rfl hK hP hD hS hA (hd_new_i 4) (by decide +kernel) (by decide +kernel) (Nat.le_of_ble_eq_true rfl) (Nat.le_of_ble_eq_true rfl) (Nat.le_of_ble_eq_true rfl) dX2_rec_6 (fun qt ct H hK hP hD hS => ?_)
  have hP : va_P (dC, dI) vwCl [(qr, .inl (cr, 1024, .inl (hd_ar r))), (qh, .inl (ch, 1024, .inl (hd_ar h))), (q0, .inl (ck, 32, .inl (hd_bt hd_z))), (qt, .inl (ct, 4, .inl (hd_ar hd_z)))] H := hP
  have hD : va_D A [(qr, .inl (cr, 1024, .inl (hd_ar r))), (qh, .inl (ch, 1024, .inl (hd_ar h))), (q0, .inl (ck, 32, .inl (hd_bt hd_z))), (qt, .inl (ct, 4, .inl (hd_ar hd_z)))] := hD
  have hK : va_K (dC, dI) vwCl [(cr, .short), (ch, .short), (ck, .byte), (ct, .int)] s := hK
  refine W.widen (k := 1) (n := 4) (Nat.le_of_ble_eq_true rfl) (Nat.le_of_ble_eq_true rfl) ?_
  refine lv_astore_n (lv' := [(3, .ref qt), (0, .ref q0), (1, .ref qr), (2, .ref qh)]) hx hb dX2_rec_8 rfl hl (by decide) rfl (fun ls hl => ?_)
  refine lv_iconst (v := nI 0) hx hb dX2_rec_9 (by decide +kernel) ?_
  refine lv_istore (lv' := [(4, .int (nI 0)), (3, .ref qt), (0, .ref q0), (1, .ref qr), (2, .ref qh)]) hx hb dX2_rec_10 hl (by decide) rfl (fun ls hl => ?_)
  have loop : ∀ (n i : Nat), i ≤ 256 → 257 ≤ i + n → ∀ (tf : Nat → Int32) (H : Heap) (locs : List Loc) (ls : Array Slot), va_P (dC, dI) vwCl [(qr, .inl (cr, 1024, .inl (hd_ar r))), (qh, .inl (ch, 1024, .inl (hd_ar h))), (q0, .inl (ck, 32, .inl (hd_bt (hd_K (hd_b r h) i)))), (qt, .inl (ct, 4, .inl tf))] H → va_D A [(qr, .inl (cr, 1024, .inl (hd_ar r))), (qh, .inl (ch, 1024, .inl (hd_ar h))), (q0, .inl (ck, 32, .inl (hd_bt (hd_K (hd_b r h) i)))), (qt, .inl (ct, 4, .inl tf))] → va_S A s.heap H locs → lv_has ls 5 [(4, .int (nI i)), (3, .ref qt), (0, .ref q0), (1, .ref qr), (2, .ref qh)] → W p l e (headSpec (ws_ yX2_rec cX2_rec 5 none) ({ frames := 3, cells := 1, slots := 4, locals := 68 })).room s m ([.ref q0, .ref qr, .ref qh] : List Value).toArray below meth c H locs 1 4 (MQ below (va_Qv (fun _ : Unit => True) (fun _ t => va_P (dC, dI) vwCl [(q0, .inl (ck, 32, .inl (hd_bt (hd_K (hd_b r h) 256)))), (qr, .inl (cr, 1024, .inl (hd_ar r))), (qh, .inl (ch, 1024, .inl (hd_ar h)))] t.heap ∧ va_K (dC, dI) vwCl [(ck, .byte), (cr, .short), (ch, .short)] t ∧ va_D A [(q0, .inl (ck, 32, .inl (hd_bt (hd_K (hd_b r h) 256)))), (qr, .inl (cr, 1024, .inl (hd_ar r))), (qh, .inl (ch, 1024, .inl (hd_ar h)))]) A) ([.ref q0, .ref qr, .ref qh] : List Value).toArray s 1 4 A) (F0 m 12 ls []) := by
    intro n
    induction n with
    | zero =>
      intro i h1 h2
      exact absurd h2 (by omega)
    | succ n ih =>
      intro i h1 h2 tf H locs ls hP hD hS hl
      refine lv_iload hx hb dX2_rec_12 (lv_at hl 0 rfl) ?_
      refine lv_sipush (v := nI 256) hx hb dX2_rec_14 (by decide +kernel) ?_
      refine lv_icmp_ge (tgt := 206) hx hb dX2_rec_17 (by decide) (fun hc => ?_) (fun hc => ?_)
      · have hi : i = 256 := by
          have := (nI_leI (by decide) (by omega)).mp hc
          omega
        subst hi
        have hP9 := hP.sub (ws' := [(q0, .inl (ck, 32, .inl (hd_bt (hd_K (hd_b r h) 256)))), (qr, .inl (cr, 1024, .inl (hd_ar r))), (qh, .inl (ch, 1024, .inl (hd_ar h)))]) [2, 0, 1] rfl
        have hD9 := hD.sub (ws' := [(q0, .inl (ck, 32, .inl (hd_bt (hd_K (hd_b r h) 256)))), (qr, .inl (cr, 1024, .inl (hd_ar r))), (qh, .inl (ch, 1024, .inl (hd_ar h)))]) [2, 0, 1] (by decide) rfl
        have hK9 := hK.sub (tys' := [(ck, .byte), (cr, .short), (ch, .short)]) [2, 0, 1] rfl
        exact W.vret hx hb hr (fun t ht hW => ⟨⟨(), rfl, trivial, by rw [ht]; exact hP9, va_K.moved hW.alike hK9, hD9⟩, hS.F ht⟩) hS.2.2 dX2_rec_206
      · have hi : i < 256 := by
          rcases Nat.lt_or_ge i 256 with h | h
          · exact h
          · exact absurd ((nI_leI (by decide) (by omega)).mpr h) hc
        have g1 := hd_xge (v := r i) (hhb i) (hhb (768 + i))
        have g2 := hd_xge (v := r (256 + i)) (hhb (256 + i)) (hhb (768 + i))
        have g3 := hd_xge (v := r (512 + i)) (hhb (512 + i)) (hhb (768 + i))
        have g4 := hd_xge1 (v := r (768 + i)) (hhb (768 + i))
        refine lv_aload_n hx hb dX2_rec_20 rfl (lv_at hl 1 rfl) ?_
        refine lv_iconst (v := nI 0) hx hb dX2_rec_21 (by decide +kernel) ?_
        refine lv_ldc (v := nI 196624) hx hb hown (hts _ q57) dX2_rec_22 ?_
        refine lv_bipush (v := nI 8) hx hb dX2_rec_24 (by decide +kernel) ?_
        refine lv_aload_n hx hb dX2_rec_26 rfl (lv_at hl 3 rfl) ?_
        refine lv_iconst (v := nI 0) hx hb dX2_rec_27 (by decide +kernel) ?_
        refine lv_iload hx hb dX2_rec_28 (lv_at hl 0 rfl) ?_
        refine lv_iadd hx hb dX2_rec_30 ?_
        refine hd_top (nI i) (by rw [nI_add, Nat.zero_add]) ?_
        refine va_sald hx hb hK hP 0 0 rfl rfl (vp_in_nI (show i < 1024 from by omega) (by decide)) dX2_rec_31 ?_
        refine hd_top (nI (r i)) (hd_rd _ (by omega)) ?_
        refine lv_imul hx hb dX2_rec_32 ?_
        refine hd_top (nI (8 * (r i))) (pk_mul _ _) ?_
        refine lv_iadd hx hb dX2_rec_33 ?_
        refine hd_top (nI (196624 + 8 * (r i))) (nI_add _ _) ?_
        refine lv_sipush (v := nI 12289) hx hb dX2_rec_34 (by decide +kernel) ?_
        refine lv_iconst (v := nI 2) hx hb dX2_rec_37 (by decide +kernel) ?_
        refine lv_aload_n hx hb dX2_rec_38 rfl (lv_at hl 4 rfl) ?_
        refine lv_iconst (v := nI 0) hx hb dX2_rec_39 (by decide +kernel) ?_
        refine lv_iload hx hb dX2_rec_40 (lv_at hl 0 rfl) ?_
        refine lv_iadd hx hb dX2_rec_42 ?_
        refine hd_top (nI i) (by rw [nI_add, Nat.zero_add]) ?_
        refine va_sald hx hb hK hP 1 1 rfl rfl (vp_in_nI (show i < 1024 from by omega) (by decide)) dX2_rec_43 ?_
        refine hd_top (nI (h i)) (hd_rd _ (by omega)) ?_
        refine lv_imul hx hb dX2_rec_44 ?_
        refine hd_top (nI (2 * (h i))) (pk_mul _ _) ?_
        refine lv_aload_n hx hb dX2_rec_45 rfl (lv_at hl 4 rfl) ?_
        refine lv_sipush (v := nI 768) hx hb dX2_rec_46 (by decide +kernel) ?_
        refine lv_iload hx hb dX2_rec_49 (lv_at hl 0 rfl) ?_
        refine lv_iadd hx hb dX2_rec_51 ?_
        refine hd_top (nI (768 + i)) (nI_add _ _) ?_
        refine va_sald hx hb hK hP 1 1 rfl rfl (vp_in_nI (show 768 + i < 1024 from by omega) (by decide)) dX2_rec_52 ?_
        refine hd_top (nI (h (768 + i))) (hd_rd _ (by omega)) ?_
        refine lv_iadd hx hb dX2_rec_53 ?_
        refine hd_top (nI (2 * (h i) + h (768 + i))) (nI_add _ _) ?_
        refine lv_imul hx hb dX2_rec_54 ?_
        refine hd_top (nI (12289 * (2 * (h i) + h (768 + i)))) (pk_mul _ _) ?_
        refine lv_isub hx hb dX2_rec_55 ?_
        refine hd_top (nI (196624 + 8 * r i - 12289 * (2 * h i + h (768 + i)))) (pk_sub g1) ?_
        refine va_iast hx hb hK hP hD hS 3 3 rfl rfl (vp_in_nI (by decide) (by decide)) dX2_rec_56 (fun H locs hP hD hS => ?_)
        rw [nI_clamp (show (0 : Nat) < 2 ^ 31 from by decide)] at hP hD
        have hP : va_P (dC, dI) vwCl [(qr, .inl (cr, 1024, .inl (hd_ar r))), (qh, .inl (ch, 1024, .inl (hd_ar h))), (q0, .inl (ck, 32, .inl (hd_bt (hd_K (hd_b r h) i)))), (qt, .inl (ct, 4, .inl (upd tf 0 (nI (196624 + 8 * r i - 12289 * (2 * h i + h (768 + i)))))))] H := hP
        have hD : va_D A [(qr, .inl (cr, 1024, .inl (hd_ar r))), (qh, .inl (ch, 1024, .inl (hd_ar h))), (q0, .inl (ck, 32, .inl (hd_bt (hd_K (hd_b r h) i)))), (qt, .inl (ct, 4, .inl (upd tf 0 (nI (196624 + 8 * r i - 12289 * (2 * h i + h (768 + i)))))))] := hD
        refine lv_aload_n hx hb dX2_rec_57 rfl (lv_at hl 1 rfl) ?_
        refine lv_iconst (v := nI 1) hx hb dX2_rec_58 (by decide +kernel) ?_
        refine lv_ldc (v := nI 196624) hx hb hown (hts _ q57) dX2_rec_59 ?_
        refine lv_bipush (v := nI 8) hx hb dX2_rec_61 (by decide +kernel) ?_
        refine lv_aload_n hx hb dX2_rec_63 rfl (lv_at hl 3 rfl) ?_
        refine lv_sipush (v := nI 256) hx hb dX2_rec_64 (by decide +kernel) ?_
        refine lv_iload hx hb dX2_rec_67 (lv_at hl 0 rfl) ?_
        refine lv_iadd hx hb dX2_rec_69 ?_
        refine hd_top (nI (256 + i)) (nI_add _ _) ?_
        refine va_sald hx hb hK hP 0 0 rfl rfl (vp_in_nI (show 256 + i < 1024 from by omega) (by decide)) dX2_rec_70 ?_
        refine hd_top (nI (r (256 + i))) (hd_rd _ (by omega)) ?_
        refine lv_imul hx hb dX2_rec_71 ?_
        refine hd_top (nI (8 * (r (256 + i)))) (pk_mul _ _) ?_
        refine lv_iadd hx hb dX2_rec_72 ?_
        refine hd_top (nI (196624 + 8 * (r (256 + i)))) (nI_add _ _) ?_
        refine lv_sipush (v := nI 12289) hx hb dX2_rec_73 (by decide +kernel) ?_
        refine lv_iconst (v := nI 2) hx hb dX2_rec_76 (by decide +kernel) ?_
        refine lv_aload_n hx hb dX2_rec_77 rfl (lv_at hl 4 rfl) ?_
        refine lv_sipush (v := nI 256) hx hb dX2_rec_78 (by decide +kernel) ?_
        refine lv_iload hx hb dX2_rec_81 (lv_at hl 0 rfl) ?_
        refine lv_iadd hx hb dX2_rec_83 ?_
        refine hd_top (nI (256 + i)) (nI_add _ _) ?_
        refine va_sald hx hb hK hP 1 1 rfl rfl (vp_in_nI (show 256 + i < 1024 from by omega) (by decide)) dX2_rec_84 ?_
        refine hd_top (nI (h (256 + i))) (hd_rd _ (by omega)) ?_
        refine lv_imul hx hb dX2_rec_85 ?_
        refine hd_top (nI (2 * (h (256 + i)))) (pk_mul _ _) ?_
        refine lv_aload_n hx hb dX2_rec_86 rfl (lv_at hl 4 rfl) ?_
        refine lv_sipush (v := nI 768) hx hb dX2_rec_87 (by decide +kernel) ?_
        refine lv_iload hx hb dX2_rec_90 (lv_at hl 0 rfl) ?_
        refine lv_iadd hx hb dX2_rec_92 ?_
        refine hd_top (nI (768 + i)) (nI_add _ _) ?_
        refine va_sald hx hb hK hP 1 1 rfl rfl (vp_in_nI (show 768 + i < 1024 from by omega) (by decide)) dX2_rec_93 ?_
        refine hd_top (nI (h (768 + i))) (hd_rd _ (by omega)) ?_
        refine lv_iadd hx hb dX2_rec_94 ?_
        refine hd_top (nI (2 * (h (256 + i)) + h (768 + i))) (nI_add _ _) ?_
        refine lv_imul hx hb dX2_rec_95 ?_
        refine hd_top (nI (12289 * (2 * (h (256 + i)) + h (768 + i)))) (pk_mul _ _) ?_
        refine lv_isub hx hb dX2_rec_96 ?_
        refine hd_top (nI (196624 + 8 * r (256 + i) - 12289 * (2 * h (256 + i) + h (768 + i)))) (pk_sub g2) ?_
        refine va_iast hx hb hK hP hD hS 3 3 rfl rfl (vp_in_nI (by decide) (by decide)) dX2_rec_97 (fun H locs hP hD hS => ?_)
        rw [nI_clamp (show (1 : Nat) < 2 ^ 31 from by decide)] at hP hD
        have hP : va_P (dC, dI) vwCl [(qr, .inl (cr, 1024, .inl (hd_ar r))), (qh, .inl (ch, 1024, .inl (hd_ar h))), (q0, .inl (ck, 32, .inl (hd_bt (hd_K (hd_b r h) i)))), (qt, .inl (ct, 4, .inl (upd (upd tf 0 (nI (196624 + 8 * r i - 12289 * (2 * h i + h (768 + i))))) 1 (nI (196624 + 8 * r (256 + i) - 12289 * (2 * h (256 + i) + h (768 + i)))))))] H := hP
        have hD : va_D A [(qr, .inl (cr, 1024, .inl (hd_ar r))), (qh, .inl (ch, 1024, .inl (hd_ar h))), (q0, .inl (ck, 32, .inl (hd_bt (hd_K (hd_b r h) i)))), (qt, .inl (ct, 4, .inl (upd (upd tf 0 (nI (196624 + 8 * r i - 12289 * (2 * h i + h (768 + i))))) 1 (nI (196624 + 8 * r (256 + i) - 12289 * (2 * h (256 + i) + h (768 + i)))))))] := hD
        refine lv_aload_n hx hb dX2_rec_98 rfl (lv_at hl 1 rfl) ?_
        refine lv_iconst (v := nI 2) hx hb dX2_rec_99 (by decide +kernel) ?_
        refine lv_ldc (v := nI 196624) hx hb hown (hts _ q57) dX2_rec_100 ?_
        refine lv_bipush (v := nI 8) hx hb dX2_rec_102 (by decide +kernel) ?_
        refine lv_aload_n hx hb dX2_rec_104 rfl (lv_at hl 3 rfl) ?_
        refine lv_sipush (v := nI 512) hx hb dX2_rec_105 (by decide +kernel) ?_
        refine lv_iload hx hb dX2_rec_108 (lv_at hl 0 rfl) ?_
        refine lv_iadd hx hb dX2_rec_110 ?_
        refine hd_top (nI (512 + i)) (nI_add _ _) ?_
        refine va_sald hx hb hK hP 0 0 rfl rfl (vp_in_nI (show 512 + i < 1024 from by omega) (by decide)) dX2_rec_111 ?_
        refine hd_top (nI (r (512 + i))) (hd_rd _ (by omega)) ?_
        refine lv_imul hx hb dX2_rec_112 ?_
        refine hd_top (nI (8 * (r (512 + i)))) (pk_mul _ _) ?_
        refine lv_iadd hx hb dX2_rec_113 ?_
        refine hd_top (nI (196624 + 8 * (r (512 + i)))) (nI_add _ _) ?_
        refine lv_sipush (v := nI 12289) hx hb dX2_rec_114 (by decide +kernel) ?_
        refine lv_iconst (v := nI 2) hx hb dX2_rec_117 (by decide +kernel) ?_
        refine lv_aload_n hx hb dX2_rec_118 rfl (lv_at hl 4 rfl) ?_
        refine lv_sipush (v := nI 512) hx hb dX2_rec_119 (by decide +kernel) ?_
        refine lv_iload hx hb dX2_rec_122 (lv_at hl 0 rfl) ?_
        refine lv_iadd hx hb dX2_rec_124 ?_
        refine hd_top (nI (512 + i)) (nI_add _ _) ?_
        refine va_sald hx hb hK hP 1 1 rfl rfl (vp_in_nI (show 512 + i < 1024 from by omega) (by decide)) dX2_rec_125 ?_
        refine hd_top (nI (h (512 + i))) (hd_rd _ (by omega)) ?_
        refine lv_imul hx hb dX2_rec_126 ?_
        refine hd_top (nI (2 * (h (512 + i)))) (pk_mul _ _) ?_
        refine lv_aload_n hx hb dX2_rec_127 rfl (lv_at hl 4 rfl) ?_
        refine lv_sipush (v := nI 768) hx hb dX2_rec_128 (by decide +kernel) ?_
        refine lv_iload hx hb dX2_rec_131 (lv_at hl 0 rfl) ?_
        refine lv_iadd hx hb dX2_rec_133 ?_
        refine hd_top (nI (768 + i)) (nI_add _ _) ?_
        refine va_sald hx hb hK hP 1 1 rfl rfl (vp_in_nI (show 768 + i < 1024 from by omega) (by decide)) dX2_rec_134 ?_
        refine hd_top (nI (h (768 + i))) (hd_rd _ (by omega)) ?_
        refine lv_iadd hx hb dX2_rec_135 ?_
        refine hd_top (nI (2 * (h (512 + i)) + h (768 + i))) (nI_add _ _) ?_
        refine lv_imul hx hb dX2_rec_136 ?_
        refine hd_top (nI (12289 * (2 * (h (512 + i)) + h (768 + i)))) (pk_mul _ _) ?_
        refine lv_isub hx hb dX2_rec_137 ?_
        refine hd_top (nI (196624 + 8 * r (512 + i) - 12289 * (2 * h (512 + i) + h (768 + i)))) (pk_sub g3) ?_
        refine va_iast hx hb hK hP hD hS 3 3 rfl rfl (vp_in_nI (by decide) (by decide)) dX2_rec_138 (fun H locs hP hD hS => ?_)
        rw [nI_clamp (show (2 : Nat) < 2 ^ 31 from by decide)] at hP hD
        have hP : va_P (dC, dI) vwCl [(qr, .inl (cr, 1024, .inl (hd_ar r))), (qh, .inl (ch, 1024, .inl (hd_ar h))), (q0, .inl (ck, 32, .inl (hd_bt (hd_K (hd_b r h) i)))), (qt, .inl (ct, 4, .inl (upd (upd (upd tf 0 (nI (196624 + 8 * r i - 12289 * (2 * h i + h (768 + i))))) 1 (nI (196624 + 8 * r (256 + i) - 12289 * (2 * h (256 + i) + h (768 + i))))) 2 (nI (196624 + 8 * r (512 + i) - 12289 * (2 * h (512 + i) + h (768 + i)))))))] H := hP
        have hD : va_D A [(qr, .inl (cr, 1024, .inl (hd_ar r))), (qh, .inl (ch, 1024, .inl (hd_ar h))), (q0, .inl (ck, 32, .inl (hd_bt (hd_K (hd_b r h) i)))), (qt, .inl (ct, 4, .inl (upd (upd (upd tf 0 (nI (196624 + 8 * r i - 12289 * (2 * h i + h (768 + i))))) 1 (nI (196624 + 8 * r (256 + i) - 12289 * (2 * h (256 + i) + h (768 + i))))) 2 (nI (196624 + 8 * r (512 + i) - 12289 * (2 * h (512 + i) + h (768 + i)))))))] := hD
        refine lv_aload_n hx hb dX2_rec_139 rfl (lv_at hl 1 rfl) ?_
        refine lv_iconst (v := nI 3) hx hb dX2_rec_140 (by decide +kernel) ?_
        refine lv_ldc (v := nI 196624) hx hb hown (hts _ q57) dX2_rec_141 ?_
        refine lv_bipush (v := nI 8) hx hb dX2_rec_143 (by decide +kernel) ?_
        refine lv_aload_n hx hb dX2_rec_145 rfl (lv_at hl 3 rfl) ?_
        refine lv_sipush (v := nI 768) hx hb dX2_rec_146 (by decide +kernel) ?_
        refine lv_iload hx hb dX2_rec_149 (lv_at hl 0 rfl) ?_
        refine lv_iadd hx hb dX2_rec_151 ?_
        refine hd_top (nI (768 + i)) (nI_add _ _) ?_
        refine va_sald hx hb hK hP 0 0 rfl rfl (vp_in_nI (show 768 + i < 1024 from by omega) (by decide)) dX2_rec_152 ?_
        refine hd_top (nI (r (768 + i))) (hd_rd _ (by omega)) ?_
        refine lv_imul hx hb dX2_rec_153 ?_
        refine hd_top (nI (8 * (r (768 + i)))) (pk_mul _ _) ?_
        refine lv_iadd hx hb dX2_rec_154 ?_
        refine hd_top (nI (196624 + 8 * (r (768 + i)))) (nI_add _ _) ?_
        refine lv_sipush (v := nI 12289) hx hb dX2_rec_155 (by decide +kernel) ?_
        refine lv_aload_n hx hb dX2_rec_158 rfl (lv_at hl 4 rfl) ?_
        refine lv_sipush (v := nI 768) hx hb dX2_rec_159 (by decide +kernel) ?_
        refine lv_iload hx hb dX2_rec_162 (lv_at hl 0 rfl) ?_
        refine lv_iadd hx hb dX2_rec_164 ?_
        refine hd_top (nI (768 + i)) (nI_add _ _) ?_
        refine va_sald hx hb hK hP 1 1 rfl rfl (vp_in_nI (show 768 + i < 1024 from by omega) (by decide)) dX2_rec_165 ?_
        refine hd_top (nI (h (768 + i))) (hd_rd _ (by omega)) ?_
        refine lv_imul hx hb dX2_rec_166 ?_
        refine hd_top (nI (12289 * (h (768 + i)))) (pk_mul _ _) ?_
        refine lv_isub hx hb dX2_rec_167 ?_
        refine hd_top (nI (196624 + 8 * r (768 + i) - 12289 * h (768 + i))) (pk_sub g4) ?_
        refine va_iast hx hb hK hP hD hS 3 3 rfl rfl (vp_in_nI (by decide) (by decide)) dX2_rec_168 (fun H locs hP hD hS => ?_)
        rw [nI_clamp (show (3 : Nat) < 2 ^ 31 from by decide)] at hP hD
        have hP : va_P (dC, dI) vwCl [(qr, .inl (cr, 1024, .inl (hd_ar r))), (qh, .inl (ch, 1024, .inl (hd_ar h))), (q0, .inl (ck, 32, .inl (hd_bt (hd_K (hd_b r h) i)))), (qt, .inl (ct, 4, .inl (upd (upd (upd (upd tf 0 (nI (196624 + 8 * r i - 12289 * (2 * h i + h (768 + i))))) 1 (nI (196624 + 8 * r (256 + i) - 12289 * (2 * h (256 + i) + h (768 + i))))) 2 (nI (196624 + 8 * r (512 + i) - 12289 * (2 * h (512 + i) + h (768 + i))))) 3 (nI (196624 + 8 * r (768 + i) - 12289 * h (768 + i))))))] H := hP
        have hD : va_D A [(qr, .inl (cr, 1024, .inl (hd_ar r))), (qh, .inl (ch, 1024, .inl (hd_ar h))), (q0, .inl (ck, 32, .inl (hd_bt (hd_K (hd_b r h) i)))), (qt, .inl (ct, 4, .inl (upd (upd (upd (upd tf 0 (nI (196624 + 8 * r i - 12289 * (2 * h i + h (768 + i))))) 1 (nI (196624 + 8 * r (256 + i) - 12289 * (2 * h (256 + i) + h (768 + i))))) 2 (nI (196624 + 8 * r (512 + i) - 12289 * (2 * h (512 + i) + h (768 + i))))) 3 (nI (196624 + 8 * r (768 + i) - 12289 * h (768 + i))))))] := hD
        obtain ⟨tg, hg⟩ : ∃ tg, tg = (upd (upd (upd (upd tf 0 (nI (196624 + 8 * r i - 12289 * (2 * h i + h (768 + i))))) 1 (nI (196624 + 8 * r (256 + i) - 12289 * (2 * h (256 + i) + h (768 + i))))) 2 (nI (196624 + 8 * r (512 + i) - 12289 * (2 * h (512 + i) + h (768 + i))))) 3 (nI (196624 + 8 * r (768 + i) - 12289 * h (768 + i)))) := ⟨_, rfl⟩
        have e0 : tg 0 = nI (196624 + 8 * r i - 12289 * (2 * h i + h (768 + i))) := by rw [hg]; rfl
        have e1 : tg 1 = nI (196624 + 8 * r (256 + i) - 12289 * (2 * h (256 + i) + h (768 + i))) := by rw [hg]; rfl
        have e2 : tg 2 = nI (196624 + 8 * r (512 + i) - 12289 * (2 * h (512 + i) + h (768 + i))) := by rw [hg]; rfl
        have e3 : tg 3 = nI (196624 + 8 * r (768 + i) - 12289 * h (768 + i)) := by rw [hg]; rfl
        rw [← hg] at hP hD
        have hP : va_P (dC, dI) vwCl [(qr, .inl (cr, 1024, .inl (hd_ar r))), (qh, .inl (ch, 1024, .inl (hd_ar h))), (q0, .inl (ck, 32, .inl (hd_bt (hd_K (hd_b r h) i)))), (qt, .inl (ct, 4, .inl tg))] H := hP
        have hD : va_D A [(qr, .inl (cr, 1024, .inl (hd_ar r))), (qh, .inl (ch, 1024, .inl (hd_ar h))), (q0, .inl (ck, 32, .inl (hd_bt (hd_K (hd_b r h) i)))), (qt, .inl (ct, 4, .inl tg))] := hD
        refine lv_aload_n hx hb dX2_rec_169 rfl (lv_at hl 2 rfl) ?_
        refine lv_iload hx hb dX2_rec_170 (lv_at hl 0 rfl) ?_
        refine lv_iconst (v := nI 3) hx hb dX2_rec_172 (by decide +kernel) ?_
        refine lv_iushr hx hb dX2_rec_173 rfl ?_
        refine hd_top (nI (i / 8)) (pk_ushrN (by omega) (nI 3) 3 (hd_sl 3 (by decide))) ?_
        refine lv_dup2_11 hx hb dX2_rec_174 rfl rfl ?_
        refine va_bald hx hb hK hP 2 2 rfl rfl (vp_in_nI (show i / 8 < 32 from by omega) (by decide)) dX2_rec_175 ?_
        refine hd_top ((nI (hd_K (hd_b r h) i (i / 8))).toInt8.toInt32) (hd_rdb _ (by omega)) ?_
        refine lv_aload_n hx hb dX2_rec_176 rfl (lv_at hl 1 rfl) ?_
        refine lv_iconst (v := nI 0) hx hb dX2_rec_177 (by decide +kernel) ?_
        refine va_iald hx hb hK hP 3 3 rfl rfl (vp_in_nI (by decide) (by decide)) dX2_rec_178 ?_
        refine hd_top (nI (196624 + 8 * r i - 12289 * (2 * h i + h (768 + i)))) ((congrArg tg (nI_clamp (show (0 : Nat) < 2 ^ 31 from by decide))).trans e0) ?_
        refine lv_aload_n hx hb dX2_rec_179 rfl (lv_at hl 1 rfl) ?_
        refine lv_iconst (v := nI 1) hx hb dX2_rec_180 (by decide +kernel) ?_
        refine va_iald hx hb hK hP 3 3 rfl rfl (vp_in_nI (by decide) (by decide)) dX2_rec_181 ?_
        refine hd_top (nI (196624 + 8 * r (256 + i) - 12289 * (2 * h (256 + i) + h (768 + i)))) ((congrArg tg (nI_clamp (show (1 : Nat) < 2 ^ 31 from by decide))).trans e1) ?_
        refine lv_aload_n hx hb dX2_rec_182 rfl (lv_at hl 1 rfl) ?_
        refine lv_iconst (v := nI 2) hx hb dX2_rec_183 (by decide +kernel) ?_
        refine va_iald hx hb hK hP 3 3 rfl rfl (vp_in_nI (by decide) (by decide)) dX2_rec_184 ?_
        refine hd_top (nI (196624 + 8 * r (512 + i) - 12289 * (2 * h (512 + i) + h (768 + i)))) ((congrArg tg (nI_clamp (show (2 : Nat) < 2 ^ 31 from by decide))).trans e2) ?_
        refine lv_aload_n hx hb dX2_rec_185 rfl (lv_at hl 1 rfl) ?_
        refine lv_iconst (v := nI 3) hx hb dX2_rec_186 (by decide +kernel) ?_
        refine va_iald hx hb hK hP 3 3 rfl rfl (vp_in_nI (by decide) (by decide)) dX2_rec_187 ?_
        refine hd_top (nI (196624 + 8 * r (768 + i) - 12289 * h (768 + i))) ((congrArg tg (nI_clamp (show (3 : Nat) < 2 ^ 31 from by decide))).trans e3) ?_
        refine vp_callSi (W.runS (As := [.int (nI (196624 + 8 * r i - 12289 * (2 * h i + h (768 + i)))), .int (nI (196624 + 8 * r (256 + i) - 12289 * (2 * h (256 + i) + h (768 + i)))), .int (nI (196624 + 8 * r (512 + i) - 12289 * (2 * h (512 + i) + h (768 + i)))), .int (nI (196624 + 8 * r (768 + i) - 12289 * h (768 + i)))]) (rest := [.int ((nI (hd_K (hd_b r h) i (i / 8))).toInt8.toInt32), .int (nI (i / 8)), .ref q0]) ⟨hx, hb, hml, hown, hts⟩ (metX2_LDDecode l _ _ _ _ (hd_xle (hrb i) _) (hd_xle (hrb (256 + i)) _) (hd_xle (hrb (512 + i)) _) (hd_xle (hrb (768 + i)) _)) (va_cwS 4 hts (lw_S q58 q59 q4 q60) rfl rfl rfl (by decide +kernel) ⟨Nat.le_of_ble_eq_true rfl, Nat.le_of_ble_eq_true rfl⟩) ⟨fun a U g mk q => q, fun U hU hW => ⟨rfl, trivial⟩⟩ rfl rfl hl.1 rfl (lv_room (Nat.le_of_ble_eq_true rfl)) dX2_rec_188 ⟨Nat.le_of_ble_eq_true rfl, Nat.le_of_ble_eq_true rfl⟩) (fun r_1 hr_1 => ?_)
        obtain rfl : r_1 = nI (hd_b r h i) := hr_1.trans (by rw [hd_bE (show i < 256 from hi)])
        refine lv_iload hx hb dX2_rec_191 (lv_at hl 0 rfl) ?_
        refine lv_bipush (v := nI 7) hx hb dX2_rec_193 (by decide +kernel) ?_
        refine lv_iand hx hb dX2_rec_195 ?_
        refine hd_top (nI (i % 8)) (pk_andN (by omega) 3 (by decide +kernel)) ?_
        refine lv_ishl hx hb dX2_rec_196 ?_
        refine lv_ior hx hb dX2_rec_197 ?_
        refine lv_i2b hx hb dX2_rec_198 rfl ?_
        refine va_bast hx hb hK hP hD hS 2 2 rfl rfl (vp_in_nI (show i / 8 < 32 from by omega) (by decide)) dX2_rec_199 (fun H locs hP hD hS => ?_)
        rw [hd_upb (hd_K (hd_b r h) i) (n := hd_K (hd_b r h) i (i / 8) + hd_b r h i * 2 ^ (i % 8)) (show i / 8 < 2 ^ 31 from by omega) (hd_or (hd_b_le r h) i)] at hP hD
        have hP : va_P (dC, dI) vwCl [(qr, .inl (cr, 1024, .inl (hd_ar r))), (qh, .inl (ch, 1024, .inl (hd_ar h))), (q0, .inl (ck, 32, .inl (hd_bt (hd_K (hd_b r h) (i + 1))))), (qt, .inl (ct, 4, .inl tg))] H := hP
        have hD : va_D A [(qr, .inl (cr, 1024, .inl (hd_ar r))), (qh, .inl (ch, 1024, .inl (hd_ar h))), (q0, .inl (ck, 32, .inl (hd_bt (hd_K (hd_b r h) (i + 1))))), (qt, .inl (ct, 4, .inl tg))] := hD
        refine lv_iinc (v := (nI (i + 1))) (lv' := [(4, .int (nI (i + 1))), (3, .ref qt), (0, .ref q0), (1, .ref qr), (2, .ref qh)]) hx hb dX2_rec_200 hl (k := 0) rfl (nI_1 i) (by decide) rfl (fun ls hl => ?_)
        refine lv_goto (tgt := 12) hx hb dX2_rec_203 (by decide) ?_
        exact ih (i + 1) hi (by omega) _ _ _ ls hP hD hS (lv_sub hl [0, 1, 2, 3, 4] rfl)
  exact loop 257 0 (by omega) (by omega) _ _ _ ls hP hD hS (lv_sub hl [0, 1, 2, 3, 4] rfl)
end
section
/-! HopeMendDesk: contracts -/
set_option maxHeartbeats 4000000 in
set_option maxRecDepth 100000 in
/-- the constructor: three new arrays of zeros -/
theorem metX0_init (l : Launch) (dC : Nat → ClassId) (dI : Nat → Nat → Nat) (h0 : Nat) (sz : Nat) : Met l yX0_init (ws_ yX0_init cX0_init 1 none) ({ frames := 1, cells := 3, slots := 2080, locals := 12 }) (va_Pc [.ref h0] (fun U => U.heap.size = sz ∧ va_P (dC, dI) vwCl [(h0, .inr (0, [.null, .null, .null]))] U.heap ∧ va_K (dC, dI) vwCl [] U ∧ va_D (fun _ => True) [(h0, .inr (0, [.null, .null, .null]))])) (va_Qv (fun _ : Unit => True) (fun _ t => ∃ (qr qh qk : Nat) (cr ch ck : ClassId), va_P (dC, dI) vwCl [(h0, .inr (0, [.ref qr, .ref qh, .ref qk])), (qr, .inl (cr, 1024, .inl (hd_ar hd_z))), (qh, .inl (ch, 1024, .inl (hd_ar hd_z))), (qk, .inl (ck, 32, .inl (hd_bt hd_z)))] t.heap ∧ va_K (dC, dI) vwCl [(cr, .short), (ch, .short), (ck, .byte)] t ∧ va_D (va_A [(h0, .inr (0, [.null, .null, .null]))] sz) [(h0, .inr (0, [.ref qr, .ref qh, .ref qk])), (qr, .inl (cr, 1024, .inl (hd_ar hd_z))), (qh, .inl (ch, 1024, .inl (hd_ar hd_z))), (qk, .inl (ck, 32, .inl (hd_bt hd_z)))]) (va_A [(h0, .inr (0, [.null, .null, .null]))] sz)) 3 2080 (va_A [(h0, .inr (0, [.null, .null, .null]))] sz) := by
  refine Met.ofW (cc := cX0_init) (maxL := 1) (ret := none) (by decide) rfl ?_
  intro p e s m args below meth c s₁ B hml hv
  obtain ⟨rfl, hsz, hP, hK, hD0⟩ := hv
  have hx := B.exec
  have hb := B.bytes
  have hr := B.returns
  have hts := atoms_spec (ws := (ws_ yX0_init cX0_init 1 none)) B.pre
  have hts : ∀ w ∈ lw_all, w.before _ s = true := fun w h => hts w (List.mem_cons_of_mem _ h)
  have hown : s.vm.findClass RX0 = some m.cls := findClass_of_methodNamed B.named
  have hlocks := B.notSynchronized
  have hin : meth.name = "<init>" := (name_of_methodNamed B.named B.method).1
  subst hsz
  have hD := hD0.self (sz := s.heap.size)
  generalize hAe : va_A [(h0, .inr (0, [.null, .null, .null]))] s.heap.size = A at hD ⊢
  have hA : ∀ q : Nat, s.heap.size ≤ q → A q := fun q h => by rw [← hAe]; exact Or.inr h
  have hS : va_S A s.heap s.heap [] := va_S.rf
  have hP : va_P (dC, dI) vwCl [(h0, .inr (0, [.null, .null, .null]))] s.heap := hP
  have hl := lv_entry ([.ref h0]) (n := 1) (Nat.le_of_ble_eq_true rfl)
  rw [lg_entry_eq]
  generalize (lg_sl ([.ref h0]) ++ List.replicate (1 - (lg_sl ([.ref h0])).length) Slot.unset).toArray = ls at hl ⊢
  have hl : lv_has ls 1 [(0, .ref h0)] := hl
  refine lv_aload_n hx hb dX0_init_0 rfl (lv_at hl 0 rfl) ?_
  refine W.objInit hx hb hown (hts _ q12) (hts _ q13) (hts _ q14) rfl (by rw [hml]; exact hl.1) rfl dX0_init_1 (Nat.le_of_ble_eq_true rfl) (Nat.le_of_ble_eq_true rfl) ?_
  refine W.eq (g2 := F0 m 4 ls []) rfl ?_
  refine lv_aload_n hx hb dX0_init_4 rfl (lv_at hl 0 rfl) ?_
  refine lv_sipush (v := nI 1024) hx hb dX0_init_5 (by decide +kernel) ?_
  refine va_newa (atype := .short) (ty := .short) (N' := 1024) (a0 := (1024, .inl (hd_ar hd_z))) hx hb (hts _ q25) rfl hK hP hD hS hA (hd_new_i 1024) (by decide +kernel) (by decide +kernel) (Nat.le_of_ble_eq_true rfl) (Nat.le_of_ble_eq_true rfl) (Nat.le_of_ble_eq_true rfl) dX0_init_8 (fun qr cr H hK hP hD hS => ?_)
  have hP : va_P (dC, dI) vwCl [(h0, .inr (0, [.null, .null, .null])), (qr, .inl (cr, 1024, .inl (hd_ar hd_z)))] H := hP
  have hD : va_D A [(h0, .inr (0, [.null, .null, .null])), (qr, .inl (cr, 1024, .inl (hd_ar hd_z)))] := hD
  have hK : va_K (dC, dI) vwCl [(cr, .short)] s := hK
  refine W.widen (k := 1) (n := 1024) (Nat.le_of_ble_eq_true rfl) (Nat.le_of_ble_eq_true rfl) ?_
  refine va_putF (D := (dC, dI)) (ci := 0) (v := .ref qr) (ty := .array .short) (C := RX0) (T := TX0) (N := 3) hx hb hts in_X0 tyX0 tyX0_ok nmX0 hown hK hP hD hS 0 rfl rfl 0 (by decide) (hts _ q15) (fun _ h9 => h9) rfl hin rfl (by decide +kernel) rfl rfl (Nat.le_of_ble_eq_true rfl) dX0_init_10 (fun H locs hP hD hS => ?_)
  have hP : va_P (dC, dI) vwCl [(h0, .inr (0, [.ref qr, .null, .null])), (qr, .inl (cr, 1024, .inl (hd_ar hd_z)))] H := hP
  have hD : va_D A [(h0, .inr (0, [.ref qr, .null, .null])), (qr, .inl (cr, 1024, .inl (hd_ar hd_z)))] := hD
  refine lv_aload_n hx hb dX0_init_13 rfl (lv_at hl 0 rfl) ?_
  refine lv_sipush (v := nI 1024) hx hb dX0_init_14 (by decide +kernel) ?_
  refine va_newa (atype := .short) (ty := .short) (N' := 1024) (a0 := (1024, .inl (hd_ar hd_z))) hx hb (hts _ q25) rfl hK hP hD hS hA (hd_new_i 1024) (by decide +kernel) (by decide +kernel) (Nat.le_of_ble_eq_true rfl) (Nat.le_of_ble_eq_true rfl) (Nat.le_of_ble_eq_true rfl) dX0_init_17 (fun qh ch H hK hP hD hS => ?_)
  have hP : va_P (dC, dI) vwCl [(h0, .inr (0, [.ref qr, .null, .null])), (qr, .inl (cr, 1024, .inl (hd_ar hd_z))), (qh, .inl (ch, 1024, .inl (hd_ar hd_z)))] H := hP
  have hD : va_D A [(h0, .inr (0, [.ref qr, .null, .null])), (qr, .inl (cr, 1024, .inl (hd_ar hd_z))), (qh, .inl (ch, 1024, .inl (hd_ar hd_z)))] := hD
  have hK : va_K (dC, dI) vwCl [(cr, .short), (ch, .short)] s := hK
  refine W.widen (k := 2) (n := 2048) (Nat.le_of_ble_eq_true rfl) (Nat.le_of_ble_eq_true rfl) ?_
  refine va_putF (D := (dC, dI)) (ci := 0) (v := .ref qh) (ty := .array .short) (C := RX0) (T := TX0) (N := 3) hx hb hts in_X0 tyX0 tyX0_ok nmX0 hown hK hP hD hS 0 rfl rfl 1 (by decide) (hts _ q16) (fun _ h9 => h9) rfl hin rfl (by decide +kernel) rfl rfl (Nat.le_of_ble_eq_true rfl) dX0_init_19 (fun H locs hP hD hS => ?_)
  have hP : va_P (dC, dI) vwCl [(h0, .inr (0, [.ref qr, .ref qh, .null])), (qr, .inl (cr, 1024, .inl (hd_ar hd_z))), (qh, .inl (ch, 1024, .inl (hd_ar hd_z)))] H := hP
  have hD : va_D A [(h0, .inr (0, [.ref qr, .ref qh, .null])), (qr, .inl (cr, 1024, .inl (hd_ar hd_z))), (qh, .inl (ch, 1024, .inl (hd_ar hd_z)))] := hD
  refine lv_aload_n hx hb dX0_init_22 rfl (lv_at hl 0 rfl) ?_
  refine lv_bipush (v := nI 32) hx hb dX0_init_23 (by decide +kernel) ?_
  refine va_newa (atype := .byte) (ty := .byte) (N' := 32) (a0 := (32, .inl (hd_bt hd_z))) hx hb (hts _ q26) rfl hK hP hD hS hA (hd_new_b 32) (by decide +kernel) (by decide +kernel) (Nat.le_of_ble_eq_true rfl) (Nat.le_of_ble_eq_true rfl) (Nat.le_of_ble_eq_true rfl) dX0_init_25 (fun qk ck H hK hP hD hS => ?_)
  have hP : va_P (dC, dI) vwCl [(h0, .inr (0, [.ref qr, .ref qh, .null])), (qr, .inl (cr, 1024, .inl (hd_ar hd_z))), (qh, .inl (ch, 1024, .inl (hd_ar hd_z))), (qk, .inl (ck, 32, .inl (hd_bt hd_z)))] H := hP
  have hD : va_D A [(h0, .inr (0, [.ref qr, .ref qh, .null])), (qr, .inl (cr, 1024, .inl (hd_ar hd_z))), (qh, .inl (ch, 1024, .inl (hd_ar hd_z))), (qk, .inl (ck, 32, .inl (hd_bt hd_z)))] := hD
  have hK : va_K (dC, dI) vwCl [(cr, .short), (ch, .short), (ck, .byte)] s := hK
  refine W.widen (k := 3) (n := 2080) (Nat.le_of_ble_eq_true rfl) (Nat.le_of_ble_eq_true rfl) ?_
  refine va_put (D := (dC, dI)) (ci := 0) (v := .ref qk) (ty := .array .byte) (C := RX0) (T := TX0) (N := 3) hx hb hts in_X0 tyX0 tyX0_ok nmX0 hown hK hP hD hS 0 rfl rfl 2 (by decide) (hts _ q17) (fun _ h9 => h9) rfl (by decide +kernel) rfl rfl (Nat.le_of_ble_eq_true rfl) dX0_init_27 (fun H locs hP hD hS => ?_)
  have hP : va_P (dC, dI) vwCl [(h0, .inr (0, [.ref qr, .ref qh, .ref qk])), (qr, .inl (cr, 1024, .inl (hd_ar hd_z))), (qh, .inl (ch, 1024, .inl (hd_ar hd_z))), (qk, .inl (ck, 32, .inl (hd_bt hd_z)))] H := hP
  have hD : va_D A [(h0, .inr (0, [.ref qr, .ref qh, .ref qk])), (qr, .inl (cr, 1024, .inl (hd_ar hd_z))), (qh, .inl (ch, 1024, .inl (hd_ar hd_z))), (qk, .inl (ck, 32, .inl (hd_bt hd_z)))] := hD
  have hP9 := hP.sub (ws' := [(h0, .inr (0, [.ref qr, .ref qh, .ref qk])), (qr, .inl (cr, 1024, .inl (hd_ar hd_z))), (qh, .inl (ch, 1024, .inl (hd_ar hd_z))), (qk, .inl (ck, 32, .inl (hd_bt hd_z)))]) [0, 1, 2, 3] rfl
  have hD9 := hD.sub (ws' := [(h0, .inr (0, [.ref qr, .ref qh, .ref qk])), (qr, .inl (cr, 1024, .inl (hd_ar hd_z))), (qh, .inl (ch, 1024, .inl (hd_ar hd_z))), (qk, .inl (ck, 32, .inl (hd_bt hd_z)))]) [0, 1, 2, 3] (by decide) rfl
  have hK9 := hK.sub (tys' := [(cr, .short), (ch, .short), (ck, .byte)]) [0, 1, 2] rfl
  exact W.vret hx hb hr (fun t ht hW => ⟨⟨(), rfl, trivial, qr, qh, qk, cr, ch, ck, by rw [ht]; exact hP9, va_K.moved hW.alike hK9, hD9⟩, hS.F ht⟩) hS.2.2 dX0_init_30
set_option maxHeartbeats 4000000 in
set_option maxRecDepth 100000 in
/-- lay: 128 places from p2 on -/
theorem metX0_lay (l : Launch) (dC : Nat → ClassId) (dI : Nat → Nat → Nat) (h0 qr qh qk : Nat) (cr ch ck : ClassId) (sz : Nat) (r h k : Nat → Nat) (p0 p1 p2 : Int32) : Met l yX0_lay (ws_ yX0_lay cX0_lay 8 none) ({ frames := 0, cells := 0, slots := 0, locals := 0 }) (va_Pc [.ref h0, .int p0, .int p1, .int p2] (fun U => U.heap.size = sz ∧ va_P (dC, dI) vwCl [(h0, .inr (0, [.ref qr, .ref qh, .ref qk])), (qr, .inl (cr, 1024, .inl (hd_ar r))), (qh, .inl (ch, 1024, .inl (hd_ar h))), (qk, .inl (ck, 32, .inl (hd_bt k)))] U.heap ∧ va_K (dC, dI) vwCl [(cr, .short), (ch, .short), (ck, .byte)] U ∧ va_D (fun _ => True) [(h0, .inr (0, [.ref qr, .ref qh, .ref qk])), (qr, .inl (cr, 1024, .inl (hd_ar r))), (qh, .inl (ch, 1024, .inl (hd_ar h))), (qk, .inl (ck, 32, .inl (hd_bt k)))])) (va_Qv (fun _ : Unit => True) (fun _ t => va_P (dC, dI) vwCl [(h0, .inr (0, [.ref qr, .ref qh, .ref qk])), (qr, .inl (cr, 1024, .inl (hd_ar (hd_lay r (hd_m p0) (hd_m p1) (hd_i p2) 128)))), (qh, .inl (ch, 1024, .inl (hd_ar h))), (qk, .inl (ck, 32, .inl (hd_bt k)))] t.heap ∧ va_K (dC, dI) vwCl [(cr, .short), (ch, .short), (ck, .byte)] t ∧ va_D (va_A [(h0, .inr (0, [.ref qr, .ref qh, .ref qk])), (qr, .inl (cr, 1024, .inl (hd_ar r))), (qh, .inl (ch, 1024, .inl (hd_ar h))), (qk, .inl (ck, 32, .inl (hd_bt k)))] sz) [(h0, .inr (0, [.ref qr, .ref qh, .ref qk])), (qr, .inl (cr, 1024, .inl (hd_ar (hd_lay r (hd_m p0) (hd_m p1) (hd_i p2) 128)))), (qh, .inl (ch, 1024, .inl (hd_ar h))), (qk, .inl (ck, 32, .inl (hd_bt k)))]) (va_A [(h0, .inr (0, [.ref qr, .ref qh, .ref qk])), (qr, .inl (cr, 1024, .inl (hd_ar r))), (qh, .inl (ch, 1024, .inl (hd_ar h))), (qk, .inl (ck, 32, .inl (hd_bt k)))] sz)) 0 0 (va_A [(h0, .inr (0, [.ref qr, .ref qh, .ref qk])), (qr, .inl (cr, 1024, .inl (hd_ar r))), (qh, .inl (ch, 1024, .inl (hd_ar h))), (qk, .inl (ck, 32, .inl (hd_bt k)))] sz) := by
  refine Met.ofW (cc := cX0_lay) (maxL := 8) (ret := none) (by decide) rfl ?_
  intro p e s m args below meth c s₁ B hml hv
  obtain ⟨rfl, hsz, hP, hK, hD0⟩ := hv
  have hx := B.exec
  have hb := B.bytes
  have hr := B.returns
  have hts := atoms_spec (ws := (ws_ yX0_lay cX0_lay 8 none)) B.pre
  have hts : ∀ w ∈ lw_all, w.before _ s = true := fun w h => hts w (List.mem_cons_of_mem _ h)
  have hown : s.vm.findClass RX0 = some m.cls := findClass_of_methodNamed B.named
  have hlocks := B.notSynchronized
  subst hsz
  have hD := hD0.self (sz := s.heap.size)
  generalize hAe : va_A [(h0, .inr (0, [.ref qr, .ref qh, .ref qk])), (qr, .inl (cr, 1024, .inl (hd_ar r))), (qh, .inl (ch, 1024, .inl (hd_ar h))), (qk, .inl (ck, 32, .inl (hd_bt k)))] s.heap.size = A at hD ⊢
  have hA : ∀ q : Nat, s.heap.size ≤ q → A q := fun q h => by rw [← hAe]; exact Or.inr h
  have hS : va_S A s.heap s.heap [] := va_S.rf
  have hP : va_P (dC, dI) vwCl [(h0, .inr (0, [.ref qr, .ref qh, .ref qk])), (qr, .inl (cr, 1024, .inl (hd_ar r))), (qh, .inl (ch, 1024, .inl (hd_ar h))), (qk, .inl (ck, 32, .inl (hd_bt k)))] s.heap := hP
  have hl := lv_entry ([.ref h0, .int p0, .int p1, .int p2]) (n := 8) (Nat.le_of_ble_eq_true rfl)
  rw [lg_entry_eq]
  generalize (lg_sl ([.ref h0, .int p0, .int p1, .int p2]) ++ List.replicate (8 - (lg_sl ([.ref h0, .int p0, .int p1, .int p2])).length) Slot.unset).toArray = ls at hl ⊢
  have hl : lv_has ls 8 [(0, .ref h0), (1, .int p0), (2, .int p1), (3, .int p2)] := hl
  have b0 := hd_m_lt p0
  have b1 := hd_m_lt p1
  have b2 := hd_i_lt p2
  have ez : hd_m p0 = (hd_m p0 + hd_m p1 * 0) % 12289 := by rw [Nat.mul_zero, Nat.add_zero, Nat.mod_eq_of_lt b0]
  refine lv_iload_n hx hb dX0_lay_0 rfl (lv_at hl 1 rfl) ?_
  refine lv_ldc (v := nI 2147483647) hx hb hown (hts _ q31) dX0_lay_1 ?_
  refine lv_iand hx hb dX0_lay_3 ?_
  refine lv_sipush (v := nI 12289) hx hb dX0_lay_4 (by decide +kernel) ?_
  refine lv_irem hx hb dX0_lay_7 hd_q0 ?_
  refine hd_top (nI ((hd_m p0 + hd_m p1 * 0) % 12289)) ((hd_mE p0).trans (congrArg nI ez)) ?_
  refine lv_istore (lv' := [(4, .int (nI ((hd_m p0 + hd_m p1 * 0) % 12289))), (0, .ref h0), (1, .int p0), (2, .int p1), (3, .int p2)]) hx hb dX0_lay_8 hl (by decide) rfl (fun ls hl => ?_)
  refine lv_iload_n hx hb dX0_lay_10 rfl (lv_at hl 3 rfl) ?_
  refine lv_ldc (v := nI 2147483647) hx hb hown (hts _ q31) dX0_lay_11 ?_
  refine lv_iand hx hb dX0_lay_13 ?_
  refine lv_sipush (v := nI 12289) hx hb dX0_lay_14 (by decide +kernel) ?_
  refine lv_irem hx hb dX0_lay_17 hd_q0 ?_
  refine hd_top (nI (hd_m p1)) (hd_mE p1) ?_
  refine lv_istore (lv' := [(5, .int (nI (hd_m p1))), (4, .int (nI ((hd_m p0 + hd_m p1 * 0) % 12289))), (0, .ref h0), (1, .int p0), (2, .int p1), (3, .int p2)]) hx hb dX0_lay_18 hl (by decide) rfl (fun ls hl => ?_)
  refine lv_iload_n hx hb dX0_lay_20 rfl (lv_at hl 5 rfl) ?_
  refine lv_sipush (v := nI 1023) hx hb dX0_lay_21 (by decide +kernel) ?_
  refine lv_iand hx hb dX0_lay_24 ?_
  refine hd_top (nI (hd_i p2)) (hd_iE p2) ?_
  refine lv_istore (lv' := [(6, .int (nI (hd_i p2))), (5, .int (nI (hd_m p1))), (4, .int (nI ((hd_m p0 + hd_m p1 * 0) % 12289))), (0, .ref h0), (1, .int p0), (2, .int p1), (3, .int p2)]) hx hb dX0_lay_25 hl (by decide) rfl (fun ls hl => ?_)
  refine lv_iconst (v := nI 0) hx hb dX0_lay_27 (by decide +kernel) ?_
  refine lv_istore (lv' := [(7, .int (nI 0)), (6, .int (nI (hd_i p2))), (5, .int (nI (hd_m p1))), (4, .int (nI ((hd_m p0 + hd_m p1 * 0) % 12289))), (0, .ref h0), (1, .int p0), (2, .int p1), (3, .int p2)]) hx hb dX0_lay_28 hl (by decide) rfl (fun ls hl => ?_)
  have loop : ∀ (n i : Nat), i ≤ 128 → 129 ≤ i + n → ∀ (H : Heap) (locs : List Loc) (ls : Array Slot), va_P (dC, dI) vwCl [(h0, .inr (0, [.ref qr, .ref qh, .ref qk])), (qr, .inl (cr, 1024, .inl (hd_ar (hd_lay r (hd_m p0) (hd_m p1) (hd_i p2) i)))), (qh, .inl (ch, 1024, .inl (hd_ar h))), (qk, .inl (ck, 32, .inl (hd_bt k)))] H → va_D A [(h0, .inr (0, [.ref qr, .ref qh, .ref qk])), (qr, .inl (cr, 1024, .inl (hd_ar (hd_lay r (hd_m p0) (hd_m p1) (hd_i p2) i)))), (qh, .inl (ch, 1024, .inl (hd_ar h))), (qk, .inl (ck, 32, .inl (hd_bt k)))] → va_S A s.heap H locs → lv_has ls 8 [(7, .int (nI i)), (6, .int (nI (hd_i p2))), (5, .int (nI (hd_m p1))), (4, .int (nI ((hd_m p0 + hd_m p1 * i) % 12289))), (0, .ref h0)] → W p l e (headSpec (ws_ yX0_lay cX0_lay 8 none) ({ frames := 0, cells := 0, slots := 0, locals := 0 })).room s m ([.ref h0, .int p0, .int p1, .int p2] : List Value).toArray below meth c H locs 0 0 (MQ below (va_Qv (fun _ : Unit => True) (fun _ t => va_P (dC, dI) vwCl [(h0, .inr (0, [.ref qr, .ref qh, .ref qk])), (qr, .inl (cr, 1024, .inl (hd_ar (hd_lay r (hd_m p0) (hd_m p1) (hd_i p2) 128)))), (qh, .inl (ch, 1024, .inl (hd_ar h))), (qk, .inl (ck, 32, .inl (hd_bt k)))] t.heap ∧ va_K (dC, dI) vwCl [(cr, .short), (ch, .short), (ck, .byte)] t ∧ va_D A [(h0, .inr (0, [.ref qr, .ref qh, .ref qk])), (qr, .inl (cr, 1024, .inl (hd_ar (hd_lay r (hd_m p0) (hd_m p1) (hd_i p2) 128)))), (qh, .inl (ch, 1024, .inl (hd_ar h))), (qk, .inl (ck, 32, .inl (hd_bt k)))]) A) ([.ref h0, .int p0, .int p1, .int p2] : List Value).toArray s 0 0 A) (F0 m 30 ls []) := by
    intro n
    induction n with
    | zero =>
      intro i h1 h2
      exact absurd h2 (by omega)
    | succ n ih =>
      intro i h1 h2 H locs ls hP hD hS hl
      refine lv_iload hx hb dX0_lay_30 (lv_at hl 0 rfl) ?_
      refine lv_sipush (v := nI 128) hx hb dX0_lay_32 (by decide +kernel) ?_
      refine lv_icmp_ge (tgt := 72) hx hb dX0_lay_35 (by decide) (fun hc => ?_) (fun hc => ?_)
      · have hi : i = 128 := by
          have := (nI_leI (by decide) (by omega)).mp hc
          omega
        subst hi
        have hP9 := hP.sub (ws' := [(h0, .inr (0, [.ref qr, .ref qh, .ref qk])), (qr, .inl (cr, 1024, .inl (hd_ar (hd_lay r (hd_m p0) (hd_m p1) (hd_i p2) 128)))), (qh, .inl (ch, 1024, .inl (hd_ar h))), (qk, .inl (ck, 32, .inl (hd_bt k)))]) [0, 1, 2, 3] rfl
        have hD9 := hD.sub (ws' := [(h0, .inr (0, [.ref qr, .ref qh, .ref qk])), (qr, .inl (cr, 1024, .inl (hd_ar (hd_lay r (hd_m p0) (hd_m p1) (hd_i p2) 128)))), (qh, .inl (ch, 1024, .inl (hd_ar h))), (qk, .inl (ck, 32, .inl (hd_bt k)))]) [0, 1, 2, 3] (by decide) rfl
        have hK9 := hK.sub (tys' := [(cr, .short), (ch, .short), (ck, .byte)]) [0, 1, 2] rfl
        exact W.vret hx hb hr (fun t ht hW => ⟨⟨(), rfl, trivial, by rw [ht]; exact hP9, va_K.moved hW.alike hK9, hD9⟩, hS.F ht⟩) hS.2.2 dX0_lay_72
      · have hi : i < 128 := by
          rcases Nat.lt_or_ge i 128 with h | h
          · exact h
          · exact absurd ((nI_leI (by decide) (by omega)).mpr h) hc
        have b3 := hd_lb b1 hi
        refine lv_aload_n hx hb dX0_lay_38 rfl (lv_at hl 4 rfl) ?_
        refine va_get (D := (dC, dI)) (ci := 0) (v := .ref qr) (C := RX0) (T := TX0) (N := 3) hx hb hts in_X0 hown hK hP 0 rfl rfl 0 (by decide) (hts _ q15) (fun _ h9 => h9) rfl dX0_lay_39 ?_
        refine lv_iload hx hb dX0_lay_42 (lv_at hl 1 rfl) ?_
        refine lv_iload hx hb dX0_lay_44 (lv_at hl 0 rfl) ?_
        refine lv_iadd hx hb dX0_lay_46 ?_
        refine hd_top (nI (hd_i p2 + i)) (nI_add _ _) ?_
        refine lv_sipush (v := nI 1023) hx hb dX0_lay_47 (by decide +kernel) ?_
        refine lv_iand hx hb dX0_lay_50 ?_
        refine hd_top (nI ((hd_i p2 + i) % 1024)) (pk_andN (by omega) 10 (by decide +kernel)) ?_
        refine lv_iload hx hb dX0_lay_51 (lv_at hl 3 rfl) ?_
        refine lv_i2s hx hb dX0_lay_53 rfl ?_
        refine hd_top (nI ((hd_m p0 + hd_m p1 * i) % 12289)) (hd_short (Nat.lt_of_lt_of_le (Nat.mod_lt _ (by decide)) (by decide))) ?_
        refine va_sast hx hb hK hP hD hS 1 0 rfl rfl (vp_in_nI (Nat.mod_lt _ (by decide)) (by decide)) dX0_lay_54 (fun H locs hP hD hS => ?_)
        rw [hd_ups (hd_lay r (hd_m p0) (hd_m p1) (hd_i p2) i) (k := (hd_i p2 + i) % 1024) (v := (hd_m p0 + hd_m p1 * i) % 12289) (by omega) (Nat.lt_of_lt_of_le (Nat.mod_lt _ (by decide)) (by decide))] at hP hD
        have hP : va_P (dC, dI) vwCl [(h0, .inr (0, [.ref qr, .ref qh, .ref qk])), (qr, .inl (cr, 1024, .inl (hd_ar (hd_lay r (hd_m p0) (hd_m p1) (hd_i p2) (i + 1))))), (qh, .inl (ch, 1024, .inl (hd_ar h))), (qk, .inl (ck, 32, .inl (hd_bt k)))] H := hP
        have hD : va_D A [(h0, .inr (0, [.ref qr, .ref qh, .ref qk])), (qr, .inl (cr, 1024, .inl (hd_ar (hd_lay r (hd_m p0) (hd_m p1) (hd_i p2) (i + 1))))), (qh, .inl (ch, 1024, .inl (hd_ar h))), (qk, .inl (ck, 32, .inl (hd_bt k)))] := hD
        refine lv_iload hx hb dX0_lay_55 (lv_at hl 3 rfl) ?_
        refine lv_iload hx hb dX0_lay_57 (lv_at hl 2 rfl) ?_
        refine lv_iadd hx hb dX0_lay_59 ?_
        refine hd_top (nI ((hd_m p0 + hd_m p1 * i) % 12289 + hd_m p1)) (nI_add _ _) ?_
        refine lv_sipush (v := nI 12289) hx hb dX0_lay_60 (by decide +kernel) ?_
        refine lv_irem hx hb dX0_lay_63 hd_q0 ?_
        refine hd_top (nI ((hd_m p0 + hd_m p1 * (i + 1)) % 12289)) ((pk_rem (by omega) (by decide) (by decide)).trans (congrArg nI (hd_step _ _ _))) ?_
        refine lv_istore (lv' := [(4, .int (nI ((hd_m p0 + hd_m p1 * (i + 1)) % 12289))), (7, .int (nI i)), (6, .int (nI (hd_i p2))), (5, .int (nI (hd_m p1))), (0, .ref h0)]) hx hb dX0_lay_64 hl (by decide) rfl (fun ls hl => ?_)
        refine lv_iinc (v := (nI (i + 1))) (lv' := [(7, .int (nI (i + 1))), (4, .int (nI ((hd_m p0 + hd_m p1 * (i + 1)) % 12289))), (6, .int (nI (hd_i p2))), (5, .int (nI (hd_m p1))), (0, .ref h0)]) hx hb dX0_lay_66 hl (k := 1) rfl (nI_1 i) (by decide) rfl (fun ls hl => ?_)
        refine lv_goto (tgt := 30) hx hb dX0_lay_69 (by decide) ?_
        exact ih (i + 1) hi (by omega) _ _ ls hP hD hS (lv_sub hl [0, 2, 3, 1, 4] rfl)
  exact loop 129 0 (by omega) (by omega) _ _ ls hP hD hS (lv_sub hl [0, 1, 2, 3, 4] rfl)
set_option maxHeartbeats 4000000 in
set_option maxRecDepth 100000 in
/-- set -/
theorem metX0_set (l : Launch) (dC : Nat → ClassId) (dI : Nat → Nat → Nat) (h0 qr qh qk : Nat) (cr ch ck : ClassId) (sz : Nat) (r h k : Nat → Nat) (p0 p1 : Int32) : Met l yX0_set (ws_ yX0_set cX0_set 3 none) ({ frames := 0, cells := 0, slots := 0, locals := 0 }) (va_Pc [.ref h0, .int p0, .int p1] (fun U => U.heap.size = sz ∧ va_P (dC, dI) vwCl [(h0, .inr (0, [.ref qr, .ref qh, .ref qk])), (qr, .inl (cr, 1024, .inl (hd_ar r))), (qh, .inl (ch, 1024, .inl (hd_ar h))), (qk, .inl (ck, 32, .inl (hd_bt k)))] U.heap ∧ va_K (dC, dI) vwCl [(cr, .short), (ch, .short), (ck, .byte)] U ∧ va_D (fun _ => True) [(h0, .inr (0, [.ref qr, .ref qh, .ref qk])), (qr, .inl (cr, 1024, .inl (hd_ar r))), (qh, .inl (ch, 1024, .inl (hd_ar h))), (qk, .inl (ck, 32, .inl (hd_bt k)))])) (va_Qv (fun _ : Unit => True) (fun _ t => va_P (dC, dI) vwCl [(h0, .inr (0, [.ref qr, .ref qh, .ref qk])), (qr, .inl (cr, 1024, .inl (hd_ar (hd_up r (hd_i p0) (hd_m p1))))), (qh, .inl (ch, 1024, .inl (hd_ar h))), (qk, .inl (ck, 32, .inl (hd_bt k)))] t.heap ∧ va_K (dC, dI) vwCl [(cr, .short), (ch, .short), (ck, .byte)] t ∧ va_D (va_A [(h0, .inr (0, [.ref qr, .ref qh, .ref qk])), (qr, .inl (cr, 1024, .inl (hd_ar r))), (qh, .inl (ch, 1024, .inl (hd_ar h))), (qk, .inl (ck, 32, .inl (hd_bt k)))] sz) [(h0, .inr (0, [.ref qr, .ref qh, .ref qk])), (qr, .inl (cr, 1024, .inl (hd_ar (hd_up r (hd_i p0) (hd_m p1))))), (qh, .inl (ch, 1024, .inl (hd_ar h))), (qk, .inl (ck, 32, .inl (hd_bt k)))]) (va_A [(h0, .inr (0, [.ref qr, .ref qh, .ref qk])), (qr, .inl (cr, 1024, .inl (hd_ar r))), (qh, .inl (ch, 1024, .inl (hd_ar h))), (qk, .inl (ck, 32, .inl (hd_bt k)))] sz)) 0 0 (va_A [(h0, .inr (0, [.ref qr, .ref qh, .ref qk])), (qr, .inl (cr, 1024, .inl (hd_ar r))), (qh, .inl (ch, 1024, .inl (hd_ar h))), (qk, .inl (ck, 32, .inl (hd_bt k)))] sz) := by
  refine Met.ofW (cc := cX0_set) (maxL := 3) (ret := none) (by decide) rfl ?_
  intro p e s m args below meth c s₁ B hml hv
  obtain ⟨rfl, hsz, hP, hK, hD0⟩ := hv
  have hx := B.exec
  have hb := B.bytes
  have hr := B.returns
  have hts := atoms_spec (ws := (ws_ yX0_set cX0_set 3 none)) B.pre
  have hts : ∀ w ∈ lw_all, w.before _ s = true := fun w h => hts w (List.mem_cons_of_mem _ h)
  have hown : s.vm.findClass RX0 = some m.cls := findClass_of_methodNamed B.named
  have hlocks := B.notSynchronized
  subst hsz
  have hD := hD0.self (sz := s.heap.size)
  generalize hAe : va_A [(h0, .inr (0, [.ref qr, .ref qh, .ref qk])), (qr, .inl (cr, 1024, .inl (hd_ar r))), (qh, .inl (ch, 1024, .inl (hd_ar h))), (qk, .inl (ck, 32, .inl (hd_bt k)))] s.heap.size = A at hD ⊢
  have hA : ∀ q : Nat, s.heap.size ≤ q → A q := fun q h => by rw [← hAe]; exact Or.inr h
  have hS : va_S A s.heap s.heap [] := va_S.rf
  have hP : va_P (dC, dI) vwCl [(h0, .inr (0, [.ref qr, .ref qh, .ref qk])), (qr, .inl (cr, 1024, .inl (hd_ar r))), (qh, .inl (ch, 1024, .inl (hd_ar h))), (qk, .inl (ck, 32, .inl (hd_bt k)))] s.heap := hP
  have hl := lv_entry ([.ref h0, .int p0, .int p1]) (n := 3) (Nat.le_of_ble_eq_true rfl)
  rw [lg_entry_eq]
  generalize (lg_sl ([.ref h0, .int p0, .int p1]) ++ List.replicate (3 - (lg_sl ([.ref h0, .int p0, .int p1])).length) Slot.unset).toArray = ls at hl ⊢
  have hl : lv_has ls 3 [(0, .ref h0), (1, .int p0), (2, .int p1)] := hl
  have b0 := hd_i_lt p0
  have b1 := hd_m_lt p1
  refine lv_aload_n hx hb dX0_set_0 rfl (lv_at hl 0 rfl) ?_
  refine va_get (D := (dC, dI)) (ci := 0) (v := .ref qr) (C := RX0) (T := TX0) (N := 3) hx hb hts in_X0 hown hK hP 0 rfl rfl 0 (by decide) (hts _ q15) (fun _ h9 => h9) rfl dX0_set_1 ?_
  refine lv_iload_n hx hb dX0_set_4 rfl (lv_at hl 1 rfl) ?_
  refine lv_sipush (v := nI 1023) hx hb dX0_set_5 (by decide +kernel) ?_
  refine lv_iand hx hb dX0_set_8 ?_
  refine hd_top (nI (hd_i p0)) (hd_iE p0) ?_
  refine lv_iload_n hx hb dX0_set_9 rfl (lv_at hl 2 rfl) ?_
  refine lv_ldc (v := nI 2147483647) hx hb hown (hts _ q31) dX0_set_10 ?_
  refine lv_iand hx hb dX0_set_12 ?_
  refine lv_sipush (v := nI 12289) hx hb dX0_set_13 (by decide +kernel) ?_
  refine lv_irem hx hb dX0_set_16 hd_q0 ?_
  refine hd_top (nI (hd_m p1)) (hd_mE p1) ?_
  refine lv_i2s hx hb dX0_set_17 rfl ?_
  refine hd_top (nI (hd_m p1)) (hd_short (by omega)) ?_
  refine va_sast hx hb hK hP hD hS 1 0 rfl rfl (vp_in_nI b0 (by decide)) dX0_set_18 (fun H locs hP hD hS => ?_)
  rw [hd_ups r (k := hd_i p0) (v := hd_m p1) (by omega) (by omega)] at hP hD
  have hP : va_P (dC, dI) vwCl [(h0, .inr (0, [.ref qr, .ref qh, .ref qk])), (qr, .inl (cr, 1024, .inl (hd_ar (hd_up r (hd_i p0) (hd_m p1))))), (qh, .inl (ch, 1024, .inl (hd_ar h))), (qk, .inl (ck, 32, .inl (hd_bt k)))] H := hP
  have hD : va_D A [(h0, .inr (0, [.ref qr, .ref qh, .ref qk])), (qr, .inl (cr, 1024, .inl (hd_ar (hd_up r (hd_i p0) (hd_m p1))))), (qh, .inl (ch, 1024, .inl (hd_ar h))), (qk, .inl (ck, 32, .inl (hd_bt k)))] := hD
  have hP9 := hP.sub (ws' := [(h0, .inr (0, [.ref qr, .ref qh, .ref qk])), (qr, .inl (cr, 1024, .inl (hd_ar (hd_up r (hd_i p0) (hd_m p1))))), (qh, .inl (ch, 1024, .inl (hd_ar h))), (qk, .inl (ck, 32, .inl (hd_bt k)))]) [0, 1, 2, 3] rfl
  have hD9 := hD.sub (ws' := [(h0, .inr (0, [.ref qr, .ref qh, .ref qk])), (qr, .inl (cr, 1024, .inl (hd_ar (hd_up r (hd_i p0) (hd_m p1))))), (qh, .inl (ch, 1024, .inl (hd_ar h))), (qk, .inl (ck, 32, .inl (hd_bt k)))]) [0, 1, 2, 3] (by decide) rfl
  have hK9 := hK.sub (tys' := [(cr, .short), (ch, .short), (ck, .byte)]) [0, 1, 2] rfl
  exact W.vret hx hb hr (fun t ht hW => ⟨⟨(), rfl, trivial, by rw [ht]; exact hP9, va_K.moved hW.alike hK9, hD9⟩, hS.F ht⟩) hS.2.2 dX0_set_19
set_option maxHeartbeats 4000000 in
set_option maxRecDepth 100000 in
/-- help: sixteen places -/
theorem metX0_help (l : Launch) (dC : Nat → ClassId) (dI : Nat → Nat → Nat) (h0 qr qh qk : Nat) (cr ch ck : ClassId) (sz : Nat) (r h k : Nat → Nat) (p0 p1 : Int32) : Met l yX0_help (ws_ yX0_help cX0_help 4 none) ({ frames := 0, cells := 0, slots := 0, locals := 0 }) (va_Pc [.ref h0, .int p0, .int p1] (fun U => U.heap.size = sz ∧ va_P (dC, dI) vwCl [(h0, .inr (0, [.ref qr, .ref qh, .ref qk])), (qr, .inl (cr, 1024, .inl (hd_ar r))), (qh, .inl (ch, 1024, .inl (hd_ar h))), (qk, .inl (ck, 32, .inl (hd_bt k)))] U.heap ∧ va_K (dC, dI) vwCl [(cr, .short), (ch, .short), (ck, .byte)] U ∧ va_D (fun _ => True) [(h0, .inr (0, [.ref qr, .ref qh, .ref qk])), (qr, .inl (cr, 1024, .inl (hd_ar r))), (qh, .inl (ch, 1024, .inl (hd_ar h))), (qk, .inl (ck, 32, .inl (hd_bt k)))])) (va_Qv (fun _ : Unit => True) (fun _ t => va_P (dC, dI) vwCl [(h0, .inr (0, [.ref qr, .ref qh, .ref qk])), (qr, .inl (cr, 1024, .inl (hd_ar r))), (qh, .inl (ch, 1024, .inl (hd_ar (hd_help h (hd_i p0) p1.toBitVec.toNat 16)))), (qk, .inl (ck, 32, .inl (hd_bt k)))] t.heap ∧ va_K (dC, dI) vwCl [(cr, .short), (ch, .short), (ck, .byte)] t ∧ va_D (va_A [(h0, .inr (0, [.ref qr, .ref qh, .ref qk])), (qr, .inl (cr, 1024, .inl (hd_ar r))), (qh, .inl (ch, 1024, .inl (hd_ar h))), (qk, .inl (ck, 32, .inl (hd_bt k)))] sz) [(h0, .inr (0, [.ref qr, .ref qh, .ref qk])), (qr, .inl (cr, 1024, .inl (hd_ar r))), (qh, .inl (ch, 1024, .inl (hd_ar (hd_help h (hd_i p0) p1.toBitVec.toNat 16)))), (qk, .inl (ck, 32, .inl (hd_bt k)))]) (va_A [(h0, .inr (0, [.ref qr, .ref qh, .ref qk])), (qr, .inl (cr, 1024, .inl (hd_ar r))), (qh, .inl (ch, 1024, .inl (hd_ar h))), (qk, .inl (ck, 32, .inl (hd_bt k)))] sz)) 0 0 (va_A [(h0, .inr (0, [.ref qr, .ref qh, .ref qk])), (qr, .inl (cr, 1024, .inl (hd_ar r))), (qh, .inl (ch, 1024, .inl (hd_ar h))), (qk, .inl (ck, 32, .inl (hd_bt k)))] sz) := by
  refine Met.ofW (cc := cX0_help) (maxL := 4) (ret := none) (by decide) rfl ?_
  intro p e s m args below meth c s₁ B hml hv
  obtain ⟨rfl, hsz, hP, hK, hD0⟩ := hv
  have hx := B.exec
  have hb := B.bytes
  have hr := B.returns
  have hts := atoms_spec (ws := (ws_ yX0_help cX0_help 4 none)) B.pre
  have hts : ∀ w ∈ lw_all, w.before _ s = true := fun w h => hts w (List.mem_cons_of_mem _ h)
  have hown : s.vm.findClass RX0 = some m.cls := findClass_of_methodNamed B.named
  have hlocks := B.notSynchronized
  subst hsz
  have hD := hD0.self (sz := s.heap.size)
  generalize hAe : va_A [(h0, .inr (0, [.ref qr, .ref qh, .ref qk])), (qr, .inl (cr, 1024, .inl (hd_ar r))), (qh, .inl (ch, 1024, .inl (hd_ar h))), (qk, .inl (ck, 32, .inl (hd_bt k)))] s.heap.size = A at hD ⊢
  have hA : ∀ q : Nat, s.heap.size ≤ q → A q := fun q h => by rw [← hAe]; exact Or.inr h
  have hS : va_S A s.heap s.heap [] := va_S.rf
  have hP : va_P (dC, dI) vwCl [(h0, .inr (0, [.ref qr, .ref qh, .ref qk])), (qr, .inl (cr, 1024, .inl (hd_ar r))), (qh, .inl (ch, 1024, .inl (hd_ar h))), (qk, .inl (ck, 32, .inl (hd_bt k)))] s.heap := hP
  have hl := lv_entry ([.ref h0, .int p0, .int p1]) (n := 4) (Nat.le_of_ble_eq_true rfl)
  rw [lg_entry_eq]
  generalize (lg_sl ([.ref h0, .int p0, .int p1]) ++ List.replicate (4 - (lg_sl ([.ref h0, .int p0, .int p1])).length) Slot.unset).toArray = ls at hl ⊢
  have hl : lv_has ls 4 [(0, .ref h0), (1, .int p0), (2, .int p1)] := hl
  have b0 := hd_i_lt p0
  refine lv_iconst (v := nI 0) hx hb dX0_help_0 (by decide +kernel) ?_
  refine lv_istore_n (lv' := [(3, .int (nI 0)), (0, .ref h0), (1, .int p0), (2, .int p1)]) hx hb dX0_help_1 rfl hl (by decide) rfl (fun ls hl => ?_)
  have loop : ∀ (n i : Nat), i ≤ 16 → 17 ≤ i + n → ∀ (H : Heap) (locs : List Loc) (ls : Array Slot), va_P (dC, dI) vwCl [(h0, .inr (0, [.ref qr, .ref qh, .ref qk])), (qr, .inl (cr, 1024, .inl (hd_ar r))), (qh, .inl (ch, 1024, .inl (hd_ar (hd_help h (hd_i p0) p1.toBitVec.toNat i)))), (qk, .inl (ck, 32, .inl (hd_bt k)))] H → va_D A [(h0, .inr (0, [.ref qr, .ref qh, .ref qk])), (qr, .inl (cr, 1024, .inl (hd_ar r))), (qh, .inl (ch, 1024, .inl (hd_ar (hd_help h (hd_i p0) p1.toBitVec.toNat i)))), (qk, .inl (ck, 32, .inl (hd_bt k)))] → va_S A s.heap H locs → lv_has ls 4 [(3, .int (nI i)), (0, .ref h0), (1, .int p0), (2, .int p1)] → W p l e (headSpec (ws_ yX0_help cX0_help 4 none) ({ frames := 0, cells := 0, slots := 0, locals := 0 })).room s m ([.ref h0, .int p0, .int p1] : List Value).toArray below meth c H locs 0 0 (MQ below (va_Qv (fun _ : Unit => True) (fun _ t => va_P (dC, dI) vwCl [(h0, .inr (0, [.ref qr, .ref qh, .ref qk])), (qr, .inl (cr, 1024, .inl (hd_ar r))), (qh, .inl (ch, 1024, .inl (hd_ar (hd_help h (hd_i p0) p1.toBitVec.toNat 16)))), (qk, .inl (ck, 32, .inl (hd_bt k)))] t.heap ∧ va_K (dC, dI) vwCl [(cr, .short), (ch, .short), (ck, .byte)] t ∧ va_D A [(h0, .inr (0, [.ref qr, .ref qh, .ref qk])), (qr, .inl (cr, 1024, .inl (hd_ar r))), (qh, .inl (ch, 1024, .inl (hd_ar (hd_help h (hd_i p0) p1.toBitVec.toNat 16)))), (qk, .inl (ck, 32, .inl (hd_bt k)))]) A) ([.ref h0, .int p0, .int p1] : List Value).toArray s 0 0 A) (F0 m 2 ls []) := by
    intro n
    induction n with
    | zero =>
      intro i h1 h2
      exact absurd h2 (by omega)
    | succ n ih =>
      intro i h1 h2 H locs ls hP hD hS hl
      refine lv_iload_n hx hb dX0_help_2 rfl (lv_at hl 0 rfl) ?_
      refine lv_bipush (v := nI 16) hx hb dX0_help_3 (by decide +kernel) ?_
      refine lv_icmp_ge (tgt := 41) hx hb dX0_help_5 (by decide) (fun hc => ?_) (fun hc => ?_)
      · have hi : i = 16 := by
          have := (nI_leI (by decide) (by omega)).mp hc
          omega
        subst hi
        have hP9 := hP.sub (ws' := [(h0, .inr (0, [.ref qr, .ref qh, .ref qk])), (qr, .inl (cr, 1024, .inl (hd_ar r))), (qh, .inl (ch, 1024, .inl (hd_ar (hd_help h (hd_i p0) p1.toBitVec.toNat 16)))), (qk, .inl (ck, 32, .inl (hd_bt k)))]) [0, 1, 2, 3] rfl
        have hD9 := hD.sub (ws' := [(h0, .inr (0, [.ref qr, .ref qh, .ref qk])), (qr, .inl (cr, 1024, .inl (hd_ar r))), (qh, .inl (ch, 1024, .inl (hd_ar (hd_help h (hd_i p0) p1.toBitVec.toNat 16)))), (qk, .inl (ck, 32, .inl (hd_bt k)))]) [0, 1, 2, 3] (by decide) rfl
        have hK9 := hK.sub (tys' := [(cr, .short), (ch, .short), (ck, .byte)]) [0, 1, 2] rfl
        exact W.vret hx hb hr (fun t ht hW => ⟨⟨(), rfl, trivial, by rw [ht]; exact hP9, va_K.moved hW.alike hK9, hD9⟩, hS.F ht⟩) hS.2.2 dX0_help_41
      · have hi : i < 16 := by
          rcases Nat.lt_or_ge i 16 with h | h
          · exact h
          · exact absurd ((nI_leI (by decide) (by omega)).mpr h) hc
        have bv : p1.toBitVec.toNat / 2 ^ (2 * i) % 4 < 4 := Nat.mod_lt _ (by decide)
        refine lv_aload_n hx hb dX0_help_8 rfl (lv_at hl 1 rfl) ?_
        refine va_get (D := (dC, dI)) (ci := 0) (v := .ref qh) (C := RX0) (T := TX0) (N := 3) hx hb hts in_X0 hown hK hP 0 rfl rfl 1 (by decide) (hts _ q16) (fun _ h9 => h9) rfl dX0_help_9 ?_
        refine lv_iload_n hx hb dX0_help_12 rfl (lv_at hl 2 rfl) ?_
        refine lv_sipush (v := nI 1023) hx hb dX0_help_13 (by decide +kernel) ?_
        refine lv_iand hx hb dX0_help_16 ?_
        refine hd_top (nI (hd_i p0)) (hd_iE p0) ?_
        refine lv_bipush (v := nI 64) hx hb dX0_help_17 (by decide +kernel) ?_
        refine lv_iload_n hx hb dX0_help_19 rfl (lv_at hl 0 rfl) ?_
        refine lv_imul hx hb dX0_help_20 ?_
        refine hd_top (nI (64 * i)) (pk_mul _ _) ?_
        refine lv_iadd hx hb dX0_help_21 ?_
        refine hd_top (nI (hd_i p0 + 64 * i)) (nI_add _ _) ?_
        refine lv_sipush (v := nI 1023) hx hb dX0_help_22 (by decide +kernel) ?_
        refine lv_iand hx hb dX0_help_25 ?_
        refine hd_top (nI ((hd_i p0 + 64 * i) % 1024)) (pk_andN (by omega) 10 (by decide +kernel)) ?_
        refine lv_iload_n hx hb dX0_help_26 rfl (lv_at hl 3 rfl) ?_
        refine lv_iconst (v := nI 2) hx hb dX0_help_27 (by decide +kernel) ?_
        refine lv_iload_n hx hb dX0_help_28 rfl (lv_at hl 0 rfl) ?_
        refine lv_imul hx hb dX0_help_29 ?_
        refine hd_top (nI (2 * i)) (pk_mul _ _) ?_
        refine lv_iushr hx hb dX0_help_30 rfl ?_
        refine lv_iconst (v := nI 3) hx hb dX0_help_31 (by decide +kernel) ?_
        refine lv_iand hx hb dX0_help_32 ?_
        refine hd_top (nI (p1.toBitVec.toNat / 2 ^ (2 * i) % 4)) (hd_hv p1 hi) ?_
        refine lv_i2s hx hb dX0_help_33 rfl ?_
        refine hd_top (nI (p1.toBitVec.toNat / 2 ^ (2 * i) % 4)) (hd_short (by omega)) ?_
        refine va_sast hx hb hK hP hD hS 2 1 rfl rfl (vp_in_nI (Nat.mod_lt _ (by decide)) (by decide)) dX0_help_34 (fun H locs hP hD hS => ?_)
        rw [hd_ups (hd_help h (hd_i p0) p1.toBitVec.toNat i) (k := (hd_i p0 + 64 * i) % 1024) (v := p1.toBitVec.toNat / 2 ^ (2 * i) % 4) (by omega) (by omega)] at hP hD
        have hP : va_P (dC, dI) vwCl [(h0, .inr (0, [.ref qr, .ref qh, .ref qk])), (qr, .inl (cr, 1024, .inl (hd_ar r))), (qh, .inl (ch, 1024, .inl (hd_ar (hd_help h (hd_i p0) p1.toBitVec.toNat (i + 1))))), (qk, .inl (ck, 32, .inl (hd_bt k)))] H := hP
        have hD : va_D A [(h0, .inr (0, [.ref qr, .ref qh, .ref qk])), (qr, .inl (cr, 1024, .inl (hd_ar r))), (qh, .inl (ch, 1024, .inl (hd_ar (hd_help h (hd_i p0) p1.toBitVec.toNat (i + 1))))), (qk, .inl (ck, 32, .inl (hd_bt k)))] := hD
        refine lv_iinc (v := (nI (i + 1))) (lv' := [(3, .int (nI (i + 1))), (0, .ref h0), (1, .int p0), (2, .int p1)]) hx hb dX0_help_35 hl (k := 0) rfl (nI_1 i) (by decide) rfl (fun ls hl => ?_)
        refine lv_goto (tgt := 2) hx hb dX0_help_38 (by decide) ?_
        exact ih (i + 1) hi (by omega) _ _ ls hP hD hS (lv_sub hl [0, 1, 2, 3] rfl)
  exact loop 17 0 (by omega) (by omega) _ _ ls hP hD hS (lv_sub hl [0, 1, 2, 3] rfl)
set_option maxHeartbeats 4000000 in
set_option maxRecDepth 100000 in
/-- helps: all places -/
theorem metX0_helps (l : Launch) (dC : Nat → ClassId) (dI : Nat → Nat → Nat) (h0 qr qh qk : Nat) (cr ch ck : ClassId) (sz : Nat) (r h k : Nat → Nat) (p0 p1 : Int32) : Met l yX0_helps (ws_ yX0_helps cX0_helps 4 none) ({ frames := 0, cells := 0, slots := 0, locals := 0 }) (va_Pc [.ref h0, .int p0, .int p1] (fun U => U.heap.size = sz ∧ va_P (dC, dI) vwCl [(h0, .inr (0, [.ref qr, .ref qh, .ref qk])), (qr, .inl (cr, 1024, .inl (hd_ar r))), (qh, .inl (ch, 1024, .inl (hd_ar h))), (qk, .inl (ck, 32, .inl (hd_bt k)))] U.heap ∧ va_K (dC, dI) vwCl [(cr, .short), (ch, .short), (ck, .byte)] U ∧ va_D (fun _ => True) [(h0, .inr (0, [.ref qr, .ref qh, .ref qk])), (qr, .inl (cr, 1024, .inl (hd_ar r))), (qh, .inl (ch, 1024, .inl (hd_ar h))), (qk, .inl (ck, 32, .inl (hd_bt k)))])) (va_Qv (fun _ : Unit => True) (fun _ t => va_P (dC, dI) vwCl [(h0, .inr (0, [.ref qr, .ref qh, .ref qk])), (qr, .inl (cr, 1024, .inl (hd_ar r))), (qh, .inl (ch, 1024, .inl (hd_ar (hd_helps h p0 p1 1024)))), (qk, .inl (ck, 32, .inl (hd_bt k)))] t.heap ∧ va_K (dC, dI) vwCl [(cr, .short), (ch, .short), (ck, .byte)] t ∧ va_D (va_A [(h0, .inr (0, [.ref qr, .ref qh, .ref qk])), (qr, .inl (cr, 1024, .inl (hd_ar r))), (qh, .inl (ch, 1024, .inl (hd_ar h))), (qk, .inl (ck, 32, .inl (hd_bt k)))] sz) [(h0, .inr (0, [.ref qr, .ref qh, .ref qk])), (qr, .inl (cr, 1024, .inl (hd_ar r))), (qh, .inl (ch, 1024, .inl (hd_ar (hd_helps h p0 p1 1024)))), (qk, .inl (ck, 32, .inl (hd_bt k)))]) (va_A [(h0, .inr (0, [.ref qr, .ref qh, .ref qk])), (qr, .inl (cr, 1024, .inl (hd_ar r))), (qh, .inl (ch, 1024, .inl (hd_ar h))), (qk, .inl (ck, 32, .inl (hd_bt k)))] sz)) 0 0 (va_A [(h0, .inr (0, [.ref qr, .ref qh, .ref qk])), (qr, .inl (cr, 1024, .inl (hd_ar r))), (qh, .inl (ch, 1024, .inl (hd_ar h))), (qk, .inl (ck, 32, .inl (hd_bt k)))] sz) := by
  refine Met.ofW (cc := cX0_helps) (maxL := 4) (ret := none) (by decide) rfl ?_
  intro p e s m args below meth c s₁ B hml hv
  obtain ⟨rfl, hsz, hP, hK, hD0⟩ := hv
  have hx := B.exec
  have hb := B.bytes
  have hr := B.returns
  have hts := atoms_spec (ws := (ws_ yX0_helps cX0_helps 4 none)) B.pre
  have hts : ∀ w ∈ lw_all, w.before _ s = true := fun w h => hts w (List.mem_cons_of_mem _ h)
  have hown : s.vm.findClass RX0 = some m.cls := findClass_of_methodNamed B.named
  have hlocks := B.notSynchronized
  subst hsz
  have hD := hD0.self (sz := s.heap.size)
  generalize hAe : va_A [(h0, .inr (0, [.ref qr, .ref qh, .ref qk])), (qr, .inl (cr, 1024, .inl (hd_ar r))), (qh, .inl (ch, 1024, .inl (hd_ar h))), (qk, .inl (ck, 32, .inl (hd_bt k)))] s.heap.size = A at hD ⊢
  have hA : ∀ q : Nat, s.heap.size ≤ q → A q := fun q h => by rw [← hAe]; exact Or.inr h
  have hS : va_S A s.heap s.heap [] := va_S.rf
  have hP : va_P (dC, dI) vwCl [(h0, .inr (0, [.ref qr, .ref qh, .ref qk])), (qr, .inl (cr, 1024, .inl (hd_ar r))), (qh, .inl (ch, 1024, .inl (hd_ar h))), (qk, .inl (ck, 32, .inl (hd_bt k)))] s.heap := hP
  have hl := lv_entry ([.ref h0, .int p0, .int p1]) (n := 4) (Nat.le_of_ble_eq_true rfl)
  rw [lg_entry_eq]
  generalize (lg_sl ([.ref h0, .int p0, .int p1]) ++ List.replicate (4 - (lg_sl ([.ref h0, .int p0, .int p1])).length) Slot.unset).toArray = ls at hl ⊢
  have hl : lv_has ls 4 [(0, .ref h0), (1, .int p0), (2, .int p1)] := hl
  refine lv_iconst (v := nI 0) hx hb dX0_helps_0 (by decide +kernel) ?_
  refine lv_istore_n (lv' := [(3, .int (nI 0)), (0, .ref h0), (1, .int p0), (2, .int p1)]) hx hb dX0_helps_1 rfl hl (by decide) rfl (fun ls hl => ?_)
  have loop : ∀ (n i : Nat), i ≤ 1024 → 1025 ≤ i + n → ∀ (H : Heap) (locs : List Loc) (ls : Array Slot), va_P (dC, dI) vwCl [(h0, .inr (0, [.ref qr, .ref qh, .ref qk])), (qr, .inl (cr, 1024, .inl (hd_ar r))), (qh, .inl (ch, 1024, .inl (hd_ar (hd_helps h p0 p1 i)))), (qk, .inl (ck, 32, .inl (hd_bt k)))] H → va_D A [(h0, .inr (0, [.ref qr, .ref qh, .ref qk])), (qr, .inl (cr, 1024, .inl (hd_ar r))), (qh, .inl (ch, 1024, .inl (hd_ar (hd_helps h p0 p1 i)))), (qk, .inl (ck, 32, .inl (hd_bt k)))] → va_S A s.heap H locs → lv_has ls 4 [(3, .int (nI i)), (0, .ref h0), (1, .int p0), (2, .int p1)] → W p l e (headSpec (ws_ yX0_helps cX0_helps 4 none) ({ frames := 0, cells := 0, slots := 0, locals := 0 })).room s m ([.ref h0, .int p0, .int p1] : List Value).toArray below meth c H locs 0 0 (MQ below (va_Qv (fun _ : Unit => True) (fun _ t => va_P (dC, dI) vwCl [(h0, .inr (0, [.ref qr, .ref qh, .ref qk])), (qr, .inl (cr, 1024, .inl (hd_ar r))), (qh, .inl (ch, 1024, .inl (hd_ar (hd_helps h p0 p1 1024)))), (qk, .inl (ck, 32, .inl (hd_bt k)))] t.heap ∧ va_K (dC, dI) vwCl [(cr, .short), (ch, .short), (ck, .byte)] t ∧ va_D A [(h0, .inr (0, [.ref qr, .ref qh, .ref qk])), (qr, .inl (cr, 1024, .inl (hd_ar r))), (qh, .inl (ch, 1024, .inl (hd_ar (hd_helps h p0 p1 1024)))), (qk, .inl (ck, 32, .inl (hd_bt k)))]) A) ([.ref h0, .int p0, .int p1] : List Value).toArray s 0 0 A) (F0 m 2 ls []) := by
    intro n
    induction n with
    | zero =>
      intro i h1 h2
      exact absurd h2 (by omega)
    | succ n ih =>
      intro i h1 h2 H locs ls hP hD hS hl
      refine lv_iload_n hx hb dX0_helps_2 rfl (lv_at hl 0 rfl) ?_
      refine lv_sipush (v := nI 1024) hx hb dX0_helps_3 (by decide +kernel) ?_
      refine lv_icmp_ge (tgt := 32) hx hb dX0_helps_6 (by decide) (fun hc => ?_) (fun hc => ?_)
      · have hi : i = 1024 := by
          have := (nI_leI (by decide) (by omega)).mp hc
          omega
        subst hi
        have hP9 := hP.sub (ws' := [(h0, .inr (0, [.ref qr, .ref qh, .ref qk])), (qr, .inl (cr, 1024, .inl (hd_ar r))), (qh, .inl (ch, 1024, .inl (hd_ar (hd_helps h p0 p1 1024)))), (qk, .inl (ck, 32, .inl (hd_bt k)))]) [0, 1, 2, 3] rfl
        have hD9 := hD.sub (ws' := [(h0, .inr (0, [.ref qr, .ref qh, .ref qk])), (qr, .inl (cr, 1024, .inl (hd_ar r))), (qh, .inl (ch, 1024, .inl (hd_ar (hd_helps h p0 p1 1024)))), (qk, .inl (ck, 32, .inl (hd_bt k)))]) [0, 1, 2, 3] (by decide) rfl
        have hK9 := hK.sub (tys' := [(cr, .short), (ch, .short), (ck, .byte)]) [0, 1, 2] rfl
        exact W.vret hx hb hr (fun t ht hW => ⟨⟨(), rfl, trivial, by rw [ht]; exact hP9, va_K.moved hW.alike hK9, hD9⟩, hS.F ht⟩) hS.2.2 dX0_helps_32
      · have hi : i < 1024 := by
          rcases Nat.lt_or_ge i 1024 with h | h
          · exact h
          · exact absurd ((nI_leI (by decide) (by omega)).mpr h) hc
        have bv : (p0 + p1 * nI i).toBitVec.toNat / 128 % 4 < 4 := Nat.mod_lt _ (by decide)
        refine lv_aload_n hx hb dX0_helps_9 rfl (lv_at hl 1 rfl) ?_
        refine va_get (D := (dC, dI)) (ci := 0) (v := .ref qh) (C := RX0) (T := TX0) (N := 3) hx hb hts in_X0 hown hK hP 0 rfl rfl 1 (by decide) (hts _ q16) (fun _ h9 => h9) rfl dX0_helps_10 ?_
        refine lv_iload_n hx hb dX0_helps_13 rfl (lv_at hl 0 rfl) ?_
        refine lv_iload_n hx hb dX0_helps_14 rfl (lv_at hl 2 rfl) ?_
        refine lv_iload_n hx hb dX0_helps_15 rfl (lv_at hl 3 rfl) ?_
        refine lv_iload_n hx hb dX0_helps_16 rfl (lv_at hl 0 rfl) ?_
        refine lv_imul hx hb dX0_helps_17 ?_
        refine lv_iadd hx hb dX0_helps_18 ?_
        refine lv_bipush (v := nI 7) hx hb dX0_helps_19 (by decide +kernel) ?_
        refine lv_iushr hx hb dX0_helps_21 rfl ?_
        refine lv_iconst (v := nI 3) hx hb dX0_helps_22 (by decide +kernel) ?_
        refine lv_iand hx hb dX0_helps_23 ?_
        refine hd_top (nI ((p0 + p1 * nI i).toBitVec.toNat / 128 % 4)) (hd_sv _) ?_
        refine lv_i2s hx hb dX0_helps_24 rfl ?_
        refine hd_top (nI ((p0 + p1 * nI i).toBitVec.toNat / 128 % 4)) (hd_short (by omega)) ?_
        refine va_sast hx hb hK hP hD hS 2 1 rfl rfl (vp_in_nI hi (by decide)) dX0_helps_25 (fun H locs hP hD hS => ?_)
        rw [hd_ups (hd_helps h p0 p1 i) (k := i) (v := (p0 + p1 * nI i).toBitVec.toNat / 128 % 4) (by omega) (by omega)] at hP hD
        have hP : va_P (dC, dI) vwCl [(h0, .inr (0, [.ref qr, .ref qh, .ref qk])), (qr, .inl (cr, 1024, .inl (hd_ar r))), (qh, .inl (ch, 1024, .inl (hd_ar (hd_helps h p0 p1 (i + 1))))), (qk, .inl (ck, 32, .inl (hd_bt k)))] H := hP
        have hD : va_D A [(h0, .inr (0, [.ref qr, .ref qh, .ref qk])), (qr, .inl (cr, 1024, .inl (hd_ar r))), (qh, .inl (ch, 1024, .inl (hd_ar (hd_helps h p0 p1 (i + 1))))), (qk, .inl (ck, 32, .inl (hd_bt k)))] := hD
        refine lv_iinc (v := (nI (i + 1))) (lv' := [(3, .int (nI (i + 1))), (0, .ref h0), (1, .int p0), (2, .int p1)]) hx hb dX0_helps_26 hl (k := 0) rfl (nI_1 i) (by decide) rfl (fun ls hl => ?_)
        refine lv_goto (tgt := 2) hx hb dX0_helps_29 (by decide) ?_
        exact ih (i + 1) hi (by omega) _ _ ls hP hD hS (lv_sub hl [0, 1, 2, 3] rfl)
  exact loop 1025 0 (by omega) (by omega) _ _ ls hP hD hS (lv_sub hl [0, 1, 2, 3] rfl)
set_option maxHeartbeats 4000000 in
set_option maxRecDepth 100000 in
/-- mend: a new key -/
theorem metX0_mend (l : Launch) (dC : Nat → ClassId) (dI : Nat → Nat → Nat) (h0 qr qh qk : Nat) (cr ch ck : ClassId) (sz : Nat) (r h k : Nat → Nat) (hrb : ∀ j, r j < 12289) (hhb : ∀ j, h j < 4) : Met l yX0_mend (ws_ yX0_mend cX0_mend 2 none) ({ frames := 4, cells := 2, slots := 36, locals := 92 }) (va_Pc [.ref h0] (fun U => U.heap.size = sz ∧ va_P (dC, dI) vwCl [(h0, .inr (0, [.ref qr, .ref qh, .ref qk])), (qr, .inl (cr, 1024, .inl (hd_ar r))), (qh, .inl (ch, 1024, .inl (hd_ar h))), (qk, .inl (ck, 32, .inl (hd_bt k)))] U.heap ∧ va_K (dC, dI) vwCl [(cr, .short), (ch, .short), (ck, .byte)] U ∧ va_D (fun _ => True) [(h0, .inr (0, [.ref qr, .ref qh, .ref qk])), (qr, .inl (cr, 1024, .inl (hd_ar r))), (qh, .inl (ch, 1024, .inl (hd_ar h))), (qk, .inl (ck, 32, .inl (hd_bt k)))])) (va_Qv (fun _ : Unit => True) (fun _ t => ∃ (qz : Nat) (cz : ClassId), va_P (dC, dI) vwCl [(h0, .inr (0, [.ref qr, .ref qh, .ref qz])), (qr, .inl (cr, 1024, .inl (hd_ar r))), (qh, .inl (ch, 1024, .inl (hd_ar h))), (qz, .inl (cz, 32, .inl (hd_bt (hd_K (hd_b r h) 256))))] t.heap ∧ va_K (dC, dI) vwCl [(cr, .short), (ch, .short), (cz, .byte)] t ∧ va_D (va_A [(h0, .inr (0, [.ref qr, .ref qh, .ref qk])), (qr, .inl (cr, 1024, .inl (hd_ar r))), (qh, .inl (ch, 1024, .inl (hd_ar h))), (qk, .inl (ck, 32, .inl (hd_bt k)))] sz) [(h0, .inr (0, [.ref qr, .ref qh, .ref qz])), (qr, .inl (cr, 1024, .inl (hd_ar r))), (qh, .inl (ch, 1024, .inl (hd_ar h))), (qz, .inl (cz, 32, .inl (hd_bt (hd_K (hd_b r h) 256))))]) (va_A [(h0, .inr (0, [.ref qr, .ref qh, .ref qk])), (qr, .inl (cr, 1024, .inl (hd_ar r))), (qh, .inl (ch, 1024, .inl (hd_ar h))), (qk, .inl (ck, 32, .inl (hd_bt k)))] sz)) 2 36 (va_A [(h0, .inr (0, [.ref qr, .ref qh, .ref qk])), (qr, .inl (cr, 1024, .inl (hd_ar r))), (qh, .inl (ch, 1024, .inl (hd_ar h))), (qk, .inl (ck, 32, .inl (hd_bt k)))] sz) := by
  refine Met.ofW (cc := cX0_mend) (maxL := 2) (ret := none) (by decide) rfl ?_
  intro p e s m args below meth c s₁ B hml hv
  obtain ⟨rfl, hsz, hP, hK, hD0⟩ := hv
  have hx := B.exec
  have hb := B.bytes
  have hr := B.returns
  have hts := atoms_spec (ws := (ws_ yX0_mend cX0_mend 2 none)) B.pre
  have hts : ∀ w ∈ lw_all, w.before _ s = true := fun w h => hts w (List.mem_cons_of_mem _ h)
  have hown : s.vm.findClass RX0 = some m.cls := findClass_of_methodNamed B.named
  have hlocks := B.notSynchronized
  subst hsz
  have hD := hD0.self (sz := s.heap.size)
  generalize hAe : va_A [(h0, .inr (0, [.ref qr, .ref qh, .ref qk])), (qr, .inl (cr, 1024, .inl (hd_ar r))), (qh, .inl (ch, 1024, .inl (hd_ar h))), (qk, .inl (ck, 32, .inl (hd_bt k)))] s.heap.size = A at hD ⊢
  have hA : ∀ q : Nat, s.heap.size ≤ q → A q := fun q h => by rw [← hAe]; exact Or.inr h
  have hS : va_S A s.heap s.heap [] := va_S.rf
  have hP : va_P (dC, dI) vwCl [(h0, .inr (0, [.ref qr, .ref qh, .ref qk])), (qr, .inl (cr, 1024, .inl (hd_ar r))), (qh, .inl (ch, 1024, .inl (hd_ar h))), (qk, .inl (ck, 32, .inl (hd_bt k)))] s.heap := hP
  have hl := lv_entry ([.ref h0]) (n := 2) (Nat.le_of_ble_eq_true rfl)
  rw [lg_entry_eq]
  generalize (lg_sl ([.ref h0]) ++ List.replicate (2 - (lg_sl ([.ref h0])).length) Slot.unset).toArray = ls at hl ⊢
  have hl : lv_has ls 2 [(0, .ref h0)] := hl
  refine lv_bipush (v := nI 32) hx hb dX0_mend_0 (by decide +kernel) ?_
  refine va_newa (atype := .byte) (ty := .byte) (N' := 32) (a0 := (32, .inl (hd_bt hd_z))) hx hb (hts _ q26) rfl hK hP hD hS hA (hd_new_b 32) (by decide +kernel) (by decide +kernel) (Nat.le_of_ble_eq_true rfl) (Nat.le_of_ble_eq_true rfl) (Nat.le_of_ble_eq_true rfl) dX0_mend_2 (fun qz cz H hK hP hD hS => ?_)
  have hP : va_P (dC, dI) vwCl [(h0, .inr (0, [.ref qr, .ref qh, .ref qk])), (qr, .inl (cr, 1024, .inl (hd_ar r))), (qh, .inl (ch, 1024, .inl (hd_ar h))), (qk, .inl (ck, 32, .inl (hd_bt k))), (qz, .inl (cz, 32, .inl (hd_bt hd_z)))] H := hP
  have hD : va_D A [(h0, .inr (0, [.ref qr, .ref qh, .ref qk])), (qr, .inl (cr, 1024, .inl (hd_ar r))), (qh, .inl (ch, 1024, .inl (hd_ar h))), (qk, .inl (ck, 32, .inl (hd_bt k))), (qz, .inl (cz, 32, .inl (hd_bt hd_z)))] := hD
  have hK : va_K (dC, dI) vwCl [(cr, .short), (ch, .short), (ck, .byte), (cz, .byte)] s := hK
  refine W.widen (k := 1) (n := 32) (Nat.le_of_ble_eq_true rfl) (Nat.le_of_ble_eq_true rfl) ?_
  refine lv_astore_n (lv' := [(1, .ref qz), (0, .ref h0)]) hx hb dX0_mend_4 rfl hl (by decide) rfl (fun ls hl => ?_)
  refine lv_aload_n hx hb dX0_mend_5 rfl (lv_at hl 0 rfl) ?_
  refine lv_aload_n hx hb dX0_mend_6 rfl (lv_at hl 1 rfl) ?_
  refine va_get (D := (dC, dI)) (ci := 0) (v := .ref qr) (C := RX0) (T := TX0) (N := 3) hx hb hts in_X0 hown hK hP 0 rfl rfl 0 (by decide) (hts _ q15) (fun _ h9 => h9) rfl dX0_mend_7 ?_
  refine lv_aload_n hx hb dX0_mend_10 rfl (lv_at hl 1 rfl) ?_
  refine va_get (D := (dC, dI)) (ci := 0) (v := .ref qh) (C := RX0) (T := TX0) (N := 3) hx hb hts in_X0 hown hK hP 0 rfl rfl 1 (by decide) (hts _ q16) (fun _ h9 => h9) rfl dX0_mend_11 ?_
  have hPc := hP.sub (ws' := [(qz, .inl (cz, 32, .inl (hd_bt hd_z))), (qr, .inl (cr, 1024, .inl (hd_ar r))), (qh, .inl (ch, 1024, .inl (hd_ar h)))]) [4, 1, 2] rfl
  have hDc := hD.sub (ws' := [(qz, .inl (cz, 32, .inl (hd_bt hd_z))), (qr, .inl (cr, 1024, .inl (hd_ar r))), (qh, .inl (ch, 1024, .inl (hd_ar h)))]) [4, 1, 2] (by decide) rfl
  have hKc := hK.sub (tys' := [(cz, .byte), (cr, .short), (ch, .short)]) [3, 0, 1] rfl
  have hFc := va_free (wc := [(qz, .inl (cz, 32, .inl (hd_bt hd_z))), (qr, .inl (cr, 1024, .inl (hd_ar r))), (qh, .inl (ch, 1024, .inl (hd_ar h)))]) hD hS hA [4, 1, 2] rfl
  refine va_callv (va_runS (As := [.ref qz, .ref qr, .ref qh]) (rest := []) ⟨hx, hb, hml, hown, hts⟩ (metX2_rec l dC dI qz qr qh cz cr ch H.size r h hrb hhb) (va_cwS 3 hts (lw_S q48 q49 q4 q50) rfl rfl rfl (by decide +kernel) ⟨Nat.le_of_ble_eq_true rfl, Nat.le_of_ble_eq_true rfl⟩) ⟨fun a U g mk q => by obtain ⟨q0, q1, qP, qK, qD⟩ := q; exact ⟨q0, q1, qP, va_K.moved (u := U) (U := U.calling g mk a) (Vm.Alike.refl U.vm) qK, qD⟩, fun U hU hW => ⟨rfl, by rw [hU], by rw [hU]; exact hPc, va_K.moved hW.alike hKc, hDc.weaken (fun _ _ _ _ => trivial)⟩⟩ rfl rfl hl.1 rfl (lv_room (Nat.le_of_ble_eq_true rfl)) dX0_mend_14 ⟨Nat.le_of_ble_eq_true rfl, Nat.le_of_ble_eq_true rfl⟩) hS (fun q _ h => hFc q h) hFc (fun u t H1 locs ht hvm hw hB hz1 hk1 hS => ?_)
  obtain ⟨hP1, hK1, hD1⟩ := hB
  rw [ht] at hP1
  have hK1 := va_K.moved hvm.symm hK1
  obtain ⟨hP, hD⟩ := va_join (wr := [(h0, .inr (0, [.ref qr, .ref qh, .ref qk])), (qk, .inl (ck, 32, .inl (hd_bt k)))]) (w1 := [(qz, .inl (cz, 32, .inl (hd_bt (hd_K (hd_b r h) 256)))), (qr, .inl (cr, 1024, .inl (hd_ar r))), (qh, .inl (ch, 1024, .inl (hd_ar h)))]) hP hD [4, 1, 2] [0, 3] rfl rfl (by decide) (by decide) hk1 hFc hP1 hD1
  have hK := (hK.sub (tys' := [(ck, .byte)]) [2] rfl).app hK1
  generalize H1 = H at hP hS ⊢
  have hP : va_P (dC, dI) vwCl [(h0, .inr (0, [.ref qr, .ref qh, .ref qk])), (qk, .inl (ck, 32, .inl (hd_bt k))), (qz, .inl (cz, 32, .inl (hd_bt (hd_K (hd_b r h) 256)))), (qr, .inl (cr, 1024, .inl (hd_ar r))), (qh, .inl (ch, 1024, .inl (hd_ar h)))] H := hP
  have hD : va_D A [(h0, .inr (0, [.ref qr, .ref qh, .ref qk])), (qk, .inl (ck, 32, .inl (hd_bt k))), (qz, .inl (cz, 32, .inl (hd_bt (hd_K (hd_b r h) 256)))), (qr, .inl (cr, 1024, .inl (hd_ar r))), (qh, .inl (ch, 1024, .inl (hd_ar h)))] := hD
  have hK : va_K (dC, dI) vwCl [(ck, .byte), (cz, .byte), (cr, .short), (ch, .short)] s := hK
  refine W.widen (k := 2) (n := 36) (Nat.le_of_ble_eq_true rfl) (Nat.le_of_ble_eq_true rfl) ?_
  refine lv_aload_n hx hb dX0_mend_17 rfl (lv_at hl 1 rfl) ?_
  refine lv_aload_n hx hb dX0_mend_18 rfl (lv_at hl 0 rfl) ?_
  refine va_put (D := (dC, dI)) (ci := 0) (v := .ref qz) (ty := .array .byte) (C := RX0) (T := TX0) (N := 3) hx hb hts in_X0 tyX0 tyX0_ok nmX0 hown hK hP hD hS 0 rfl rfl 2 (by decide) (hts _ q17) (fun _ h9 => h9) rfl (by decide +kernel) rfl rfl (Nat.le_of_ble_eq_true rfl) dX0_mend_19 (fun H locs hP hD hS => ?_)
  have hP : va_P (dC, dI) vwCl [(h0, .inr (0, [.ref qr, .ref qh, .ref qz])), (qk, .inl (ck, 32, .inl (hd_bt k))), (qz, .inl (cz, 32, .inl (hd_bt (hd_K (hd_b r h) 256)))), (qr, .inl (cr, 1024, .inl (hd_ar r))), (qh, .inl (ch, 1024, .inl (hd_ar h)))] H := hP
  have hD : va_D A [(h0, .inr (0, [.ref qr, .ref qh, .ref qz])), (qk, .inl (ck, 32, .inl (hd_bt k))), (qz, .inl (cz, 32, .inl (hd_bt (hd_K (hd_b r h) 256)))), (qr, .inl (cr, 1024, .inl (hd_ar r))), (qh, .inl (ch, 1024, .inl (hd_ar h)))] := hD
  have hP9 := hP.sub (ws' := [(h0, .inr (0, [.ref qr, .ref qh, .ref qz])), (qr, .inl (cr, 1024, .inl (hd_ar r))), (qh, .inl (ch, 1024, .inl (hd_ar h))), (qz, .inl (cz, 32, .inl (hd_bt (hd_K (hd_b r h) 256))))]) [0, 3, 4, 2] rfl
  have hD9 := hD.sub (ws' := [(h0, .inr (0, [.ref qr, .ref qh, .ref qz])), (qr, .inl (cr, 1024, .inl (hd_ar r))), (qh, .inl (ch, 1024, .inl (hd_ar h))), (qz, .inl (cz, 32, .inl (hd_bt (hd_K (hd_b r h) 256))))]) [0, 3, 4, 2] (by decide) rfl
  have hK9 := hK.sub (tys' := [(cr, .short), (ch, .short), (cz, .byte)]) [2, 3, 1] rfl
  exact W.vret hx hb hr (fun t ht hW => ⟨⟨(), rfl, trivial, qz, cz, by rw [ht]; exact hP9, va_K.moved hW.alike hK9, hD9⟩, hS.F ht⟩) hS.2.2 dX0_mend_22
set_option maxHeartbeats 4000000 in
set_option maxRecDepth 100000 in
/-- key(i) -/
theorem metX0_key (l : Launch) (dC : Nat → ClassId) (dI : Nat → Nat → Nat) (h0 qr qh qk : Nat) (cr ch ck : ClassId) (r h k : Nat → Nat) (hkb : ∀ j, j < 32 → k j < 256) (p0 : Int32) : Met l yX0_key (ws_ yX0_key cX0_key 2 (some .int)) ({ frames := 0, cells := 0, slots := 0, locals := 0 }) (va_Pc [.ref h0, .int p0] (fun U => va_P (dC, dI) vwCl [(h0, .inr (0, [.ref qr, .ref qh, .ref qk])), (qr, .inl (cr, 1024, .inl (hd_ar r))), (qh, .inl (ch, 1024, .inl (hd_ar h))), (qk, .inl (ck, 32, .inl (hd_bt k)))] U.heap ∧ va_K (dC, dI) vwCl [(cr, .short), (ch, .short), (ck, .byte)] U)) (vp_Si (fun r9 : Int32 => r9 = nI (k (hd_j p0)))) 0 0 (fun _ => False) := by
  refine Met.ofW (cc := cX0_key) (maxL := 2) (ret := (some .int)) (by decide) rfl ?_
  intro p e s m args below meth c s₁ B hml hv
  obtain ⟨rfl, hP, hK⟩ := hv
  have hx := B.exec
  have hb := B.bytes
  have hr := B.returns
  have hts := atoms_spec (ws := (ws_ yX0_key cX0_key 2 (some .int))) B.pre
  have hts : ∀ w ∈ lw_all, w.before _ s = true := fun w h => hts w (List.mem_cons_of_mem _ h)
  have hown : s.vm.findClass RX0 = some m.cls := findClass_of_methodNamed B.named
  have hlocks := B.notSynchronized
  have hl := lv_entry ([.ref h0, .int p0]) (n := 2) (Nat.le_of_ble_eq_true rfl)
  rw [lg_entry_eq]
  generalize (lg_sl ([.ref h0, .int p0]) ++ List.replicate (2 - (lg_sl ([.ref h0, .int p0])).length) Slot.unset).toArray = ls at hl ⊢
  have hl : lv_has ls 2 [(0, .ref h0), (1, .int p0)] := hl
  refine lv_aload_n hx hb dX0_key_0 rfl (lv_at hl 0 rfl) ?_
  refine va_get (D := (dC, dI)) (ci := 0) (v := .ref qk) (C := RX0) (T := TX0) (N := 3) hx hb hts in_X0 hown hK hP 0 rfl rfl 2 (by decide) (hts _ q17) (fun _ h9 => h9) rfl dX0_key_1 ?_
  refine lv_iload_n hx hb dX0_key_4 rfl (lv_at hl 1 rfl) ?_
  refine lv_bipush (v := nI 31) hx hb dX0_key_5 (by decide +kernel) ?_
  refine lv_iand hx hb dX0_key_7 ?_
  refine hd_top (nI (hd_j p0)) (hd_jE p0) ?_
  refine va_bald hx hb hK hP 3 2 rfl rfl (vp_in_nI (hd_j_lt p0) (by decide)) dX0_key_8 ?_
  refine hd_top ((nI (k (hd_j p0))).toInt8.toInt32) (hd_rdb _ (Nat.lt_trans (hd_j_lt p0) (by decide))) ?_
  refine lv_sipush (v := nI 255) hx hb dX0_key_9 (by decide +kernel) ?_
  refine lv_iand hx hb dX0_key_12 ?_
  refine hd_top (nI (k (hd_j p0))) (hd_key (hkb _ (hd_j_lt p0))) ?_
  exact W.iret (v := (nI (k (hd_j p0)))) hx hb hr (fun t ht hW => ⟨(nI (k (hd_j p0))), rfl, rfl, ht⟩) (fun q h => by cases h) dX0_key_13
set_option maxHeartbeats 4000000 in
set_option maxRecDepth 100000 in
/-- get(i) -/
theorem metX0_get (l : Launch) (dC : Nat → ClassId) (dI : Nat → Nat → Nat) (h0 qr qh qk : Nat) (cr ch ck : ClassId) (r h k : Nat → Nat) (p0 : Int32) : Met l yX0_get (ws_ yX0_get cX0_get 2 (some .int)) ({ frames := 0, cells := 0, slots := 0, locals := 0 }) (va_Pc [.ref h0, .int p0] (fun U => va_P (dC, dI) vwCl [(h0, .inr (0, [.ref qr, .ref qh, .ref qk])), (qr, .inl (cr, 1024, .inl (hd_ar r))), (qh, .inl (ch, 1024, .inl (hd_ar h))), (qk, .inl (ck, 32, .inl (hd_bt k)))] U.heap ∧ va_K (dC, dI) vwCl [(cr, .short), (ch, .short), (ck, .byte)] U)) (vp_Si (fun r9 : Int32 => r9 = nI (r (hd_i p0)))) 0 0 (fun _ => False) := by
  refine Met.ofW (cc := cX0_get) (maxL := 2) (ret := (some .int)) (by decide) rfl ?_
  intro p e s m args below meth c s₁ B hml hv
  obtain ⟨rfl, hP, hK⟩ := hv
  have hx := B.exec
  have hb := B.bytes
  have hr := B.returns
  have hts := atoms_spec (ws := (ws_ yX0_get cX0_get 2 (some .int))) B.pre
  have hts : ∀ w ∈ lw_all, w.before _ s = true := fun w h => hts w (List.mem_cons_of_mem _ h)
  have hown : s.vm.findClass RX0 = some m.cls := findClass_of_methodNamed B.named
  have hlocks := B.notSynchronized
  have hl := lv_entry ([.ref h0, .int p0]) (n := 2) (Nat.le_of_ble_eq_true rfl)
  rw [lg_entry_eq]
  generalize (lg_sl ([.ref h0, .int p0]) ++ List.replicate (2 - (lg_sl ([.ref h0, .int p0])).length) Slot.unset).toArray = ls at hl ⊢
  have hl : lv_has ls 2 [(0, .ref h0), (1, .int p0)] := hl
  refine lv_aload_n hx hb dX0_get_0 rfl (lv_at hl 0 rfl) ?_
  refine va_get (D := (dC, dI)) (ci := 0) (v := .ref qr) (C := RX0) (T := TX0) (N := 3) hx hb hts in_X0 hown hK hP 0 rfl rfl 0 (by decide) (hts _ q15) (fun _ h9 => h9) rfl dX0_get_1 ?_
  refine lv_iload_n hx hb dX0_get_4 rfl (lv_at hl 1 rfl) ?_
  refine lv_sipush (v := nI 1023) hx hb dX0_get_5 (by decide +kernel) ?_
  refine lv_iand hx hb dX0_get_8 ?_
  refine hd_top (nI (hd_i p0)) (hd_iE p0) ?_
  refine va_sald hx hb hK hP 1 0 rfl rfl (vp_in_nI (hd_i_lt p0) (by decide)) dX0_get_9 ?_
  refine hd_top (nI (r (hd_i p0))) (hd_rd _ (Nat.lt_trans (hd_i_lt p0) (by decide))) ?_
  exact W.iret (v := (nI (r (hd_i p0)))) hx hb hr (fun t ht hW => ⟨(nI (r (hd_i p0))), rfl, rfl, ht⟩) (fun q h => by cases h) dX0_get_10
end
section
/-! HopeMendDeskModel: contracts -/
set_option maxHeartbeats 4000000 in
set_option maxRecDepth 100000 in
/-- the constructor: three new arrays of zeros -/
theorem metX1_init (l : Launch) (dC : Nat → ClassId) (dI : Nat → Nat → Nat) (h0 : Nat) (sz : Nat) : Met l yX1_init (ws_ yX1_init cX1_init 1 none) ({ frames := 1, cells := 3, slots := 2080, locals := 12 }) (va_Pc [.ref h0] (fun U => U.heap.size = sz ∧ va_P (dC, dI) vwCl [(h0, .inr (1, [.null, .null, .null]))] U.heap ∧ va_K (dC, dI) vwCl [] U ∧ va_D (fun _ => True) [(h0, .inr (1, [.null, .null, .null]))])) (va_Qv (fun _ : Unit => True) (fun _ t => ∃ (qr qh qk : Nat) (cr ch ck : ClassId), va_P (dC, dI) vwCl [(h0, .inr (1, [.ref qr, .ref qh, .ref qk])), (qr, .inl (cr, 1024, .inl (hd_ar hd_z))), (qh, .inl (ch, 1024, .inl (hd_ar hd_z))), (qk, .inl (ck, 32, .inl (hd_ar hd_z)))] t.heap ∧ va_K (dC, dI) vwCl [(cr, .int), (ch, .int), (ck, .int)] t ∧ va_D (va_A [(h0, .inr (1, [.null, .null, .null]))] sz) [(h0, .inr (1, [.ref qr, .ref qh, .ref qk])), (qr, .inl (cr, 1024, .inl (hd_ar hd_z))), (qh, .inl (ch, 1024, .inl (hd_ar hd_z))), (qk, .inl (ck, 32, .inl (hd_ar hd_z)))]) (va_A [(h0, .inr (1, [.null, .null, .null]))] sz)) 3 2080 (va_A [(h0, .inr (1, [.null, .null, .null]))] sz) := by
  refine Met.ofW (cc := cX1_init) (maxL := 1) (ret := none) (by decide) rfl ?_
  intro p e s m args below meth c s₁ B hml hv
  obtain ⟨rfl, hsz, hP, hK, hD0⟩ := hv
  have hx := B.exec
  have hb := B.bytes
  have hr := B.returns
  have hts := atoms_spec (ws := (ws_ yX1_init cX1_init 1 none)) B.pre
  have hts : ∀ w ∈ lw_all, w.before _ s = true := fun w h => hts w (List.mem_cons_of_mem _ h)
  have hown : s.vm.findClass RX1 = some m.cls := findClass_of_methodNamed B.named
  have hlocks := B.notSynchronized
  have hin : meth.name = "<init>" := (name_of_methodNamed B.named B.method).1
  subst hsz
  have hD := hD0.self (sz := s.heap.size)
  generalize hAe : va_A [(h0, .inr (1, [.null, .null, .null]))] s.heap.size = A at hD ⊢
  have hA : ∀ q : Nat, s.heap.size ≤ q → A q := fun q h => by rw [← hAe]; exact Or.inr h
  have hS : va_S A s.heap s.heap [] := va_S.rf
  have hP : va_P (dC, dI) vwCl [(h0, .inr (1, [.null, .null, .null]))] s.heap := hP
  have hl := lv_entry ([.ref h0]) (n := 1) (Nat.le_of_ble_eq_true rfl)
  rw [lg_entry_eq]
  generalize (lg_sl ([.ref h0]) ++ List.replicate (1 - (lg_sl ([.ref h0])).length) Slot.unset).toArray = ls at hl ⊢
  have hl : lv_has ls 1 [(0, .ref h0)] := hl
  refine lv_aload_n hx hb dX1_init_0 rfl (lv_at hl 0 rfl) ?_
  refine W.objInit hx hb hown (hts _ q84) (hts _ q13) (hts _ q14) rfl (by rw [hml]; exact hl.1) rfl dX1_init_1 (Nat.le_of_ble_eq_true rfl) (Nat.le_of_ble_eq_true rfl) ?_
  refine W.eq (g2 := F0 m 4 ls []) rfl ?_
  refine lv_aload_n hx hb dX1_init_4 rfl (lv_at hl 0 rfl) ?_
  refine lv_sipush (v := nI 1024) hx hb dX1_init_5 (by decide +kernel) ?_
  refine va_newa (atype := .int) (ty := .int) (N' := 1024) (a0 := (1024, .inl (hd_ar hd_z))) hx hb (hts _ q70) rfl hK hP hD hS hA (hd_new_i 1024) (by decide +kernel) (by decide +kernel) (Nat.le_of_ble_eq_true rfl) (Nat.le_of_ble_eq_true rfl) (Nat.le_of_ble_eq_true rfl) dX1_init_8 (fun qr cr H hK hP hD hS => ?_)
  have hP : va_P (dC, dI) vwCl [(h0, .inr (1, [.null, .null, .null])), (qr, .inl (cr, 1024, .inl (hd_ar hd_z)))] H := hP
  have hD : va_D A [(h0, .inr (1, [.null, .null, .null])), (qr, .inl (cr, 1024, .inl (hd_ar hd_z)))] := hD
  have hK : va_K (dC, dI) vwCl [(cr, .int)] s := hK
  refine W.widen (k := 1) (n := 1024) (Nat.le_of_ble_eq_true rfl) (Nat.le_of_ble_eq_true rfl) ?_
  refine va_putF (D := (dC, dI)) (ci := 1) (v := .ref qr) (ty := .array .int) (C := RX1) (T := TX1) (N := 3) hx hb hts in_X1 tyX1 tyX1_ok nmX1 hown hK hP hD hS 0 rfl rfl 0 (by decide) (hts _ q85) (fun _ h9 => h9) rfl hin rfl (by decide +kernel) rfl rfl (Nat.le_of_ble_eq_true rfl) dX1_init_10 (fun H locs hP hD hS => ?_)
  have hP : va_P (dC, dI) vwCl [(h0, .inr (1, [.ref qr, .null, .null])), (qr, .inl (cr, 1024, .inl (hd_ar hd_z)))] H := hP
  have hD : va_D A [(h0, .inr (1, [.ref qr, .null, .null])), (qr, .inl (cr, 1024, .inl (hd_ar hd_z)))] := hD
  refine lv_aload_n hx hb dX1_init_13 rfl (lv_at hl 0 rfl) ?_
  refine lv_sipush (v := nI 1024) hx hb dX1_init_14 (by decide +kernel) ?_
  refine va_newa (atype := .int) (ty := .int) (N' := 1024) (a0 := (1024, .inl (hd_ar hd_z))) hx hb (hts _ q70) rfl hK hP hD hS hA (hd_new_i 1024) (by decide +kernel) (by decide +kernel) (Nat.le_of_ble_eq_true rfl) (Nat.le_of_ble_eq_true rfl) (Nat.le_of_ble_eq_true rfl) dX1_init_17 (fun qh ch H hK hP hD hS => ?_)
  have hP : va_P (dC, dI) vwCl [(h0, .inr (1, [.ref qr, .null, .null])), (qr, .inl (cr, 1024, .inl (hd_ar hd_z))), (qh, .inl (ch, 1024, .inl (hd_ar hd_z)))] H := hP
  have hD : va_D A [(h0, .inr (1, [.ref qr, .null, .null])), (qr, .inl (cr, 1024, .inl (hd_ar hd_z))), (qh, .inl (ch, 1024, .inl (hd_ar hd_z)))] := hD
  have hK : va_K (dC, dI) vwCl [(cr, .int), (ch, .int)] s := hK
  refine W.widen (k := 2) (n := 2048) (Nat.le_of_ble_eq_true rfl) (Nat.le_of_ble_eq_true rfl) ?_
  refine va_putF (D := (dC, dI)) (ci := 1) (v := .ref qh) (ty := .array .int) (C := RX1) (T := TX1) (N := 3) hx hb hts in_X1 tyX1 tyX1_ok nmX1 hown hK hP hD hS 0 rfl rfl 1 (by decide) (hts _ q86) (fun _ h9 => h9) rfl hin rfl (by decide +kernel) rfl rfl (Nat.le_of_ble_eq_true rfl) dX1_init_19 (fun H locs hP hD hS => ?_)
  have hP : va_P (dC, dI) vwCl [(h0, .inr (1, [.ref qr, .ref qh, .null])), (qr, .inl (cr, 1024, .inl (hd_ar hd_z))), (qh, .inl (ch, 1024, .inl (hd_ar hd_z)))] H := hP
  have hD : va_D A [(h0, .inr (1, [.ref qr, .ref qh, .null])), (qr, .inl (cr, 1024, .inl (hd_ar hd_z))), (qh, .inl (ch, 1024, .inl (hd_ar hd_z)))] := hD
  refine lv_aload_n hx hb dX1_init_22 rfl (lv_at hl 0 rfl) ?_
  refine lv_bipush (v := nI 32) hx hb dX1_init_23 (by decide +kernel) ?_
  refine va_newa (atype := .int) (ty := .int) (N' := 32) (a0 := (32, .inl (hd_ar hd_z))) hx hb (hts _ q70) rfl hK hP hD hS hA (hd_new_i 32) (by decide +kernel) (by decide +kernel) (Nat.le_of_ble_eq_true rfl) (Nat.le_of_ble_eq_true rfl) (Nat.le_of_ble_eq_true rfl) dX1_init_25 (fun qk ck H hK hP hD hS => ?_)
  have hP : va_P (dC, dI) vwCl [(h0, .inr (1, [.ref qr, .ref qh, .null])), (qr, .inl (cr, 1024, .inl (hd_ar hd_z))), (qh, .inl (ch, 1024, .inl (hd_ar hd_z))), (qk, .inl (ck, 32, .inl (hd_ar hd_z)))] H := hP
  have hD : va_D A [(h0, .inr (1, [.ref qr, .ref qh, .null])), (qr, .inl (cr, 1024, .inl (hd_ar hd_z))), (qh, .inl (ch, 1024, .inl (hd_ar hd_z))), (qk, .inl (ck, 32, .inl (hd_ar hd_z)))] := hD
  have hK : va_K (dC, dI) vwCl [(cr, .int), (ch, .int), (ck, .int)] s := hK
  refine W.widen (k := 3) (n := 2080) (Nat.le_of_ble_eq_true rfl) (Nat.le_of_ble_eq_true rfl) ?_
  refine va_putF (D := (dC, dI)) (ci := 1) (v := .ref qk) (ty := .array .int) (C := RX1) (T := TX1) (N := 3) hx hb hts in_X1 tyX1 tyX1_ok nmX1 hown hK hP hD hS 0 rfl rfl 2 (by decide) (hts _ q87) (fun _ h9 => h9) rfl hin rfl (by decide +kernel) rfl rfl (Nat.le_of_ble_eq_true rfl) dX1_init_27 (fun H locs hP hD hS => ?_)
  have hP : va_P (dC, dI) vwCl [(h0, .inr (1, [.ref qr, .ref qh, .ref qk])), (qr, .inl (cr, 1024, .inl (hd_ar hd_z))), (qh, .inl (ch, 1024, .inl (hd_ar hd_z))), (qk, .inl (ck, 32, .inl (hd_ar hd_z)))] H := hP
  have hD : va_D A [(h0, .inr (1, [.ref qr, .ref qh, .ref qk])), (qr, .inl (cr, 1024, .inl (hd_ar hd_z))), (qh, .inl (ch, 1024, .inl (hd_ar hd_z))), (qk, .inl (ck, 32, .inl (hd_ar hd_z)))] := hD
  have hP9 := hP.sub (ws' := [(h0, .inr (1, [.ref qr, .ref qh, .ref qk])), (qr, .inl (cr, 1024, .inl (hd_ar hd_z))), (qh, .inl (ch, 1024, .inl (hd_ar hd_z))), (qk, .inl (ck, 32, .inl (hd_ar hd_z)))]) [0, 1, 2, 3] rfl
  have hD9 := hD.sub (ws' := [(h0, .inr (1, [.ref qr, .ref qh, .ref qk])), (qr, .inl (cr, 1024, .inl (hd_ar hd_z))), (qh, .inl (ch, 1024, .inl (hd_ar hd_z))), (qk, .inl (ck, 32, .inl (hd_ar hd_z)))]) [0, 1, 2, 3] (by decide) rfl
  have hK9 := hK.sub (tys' := [(cr, .int), (ch, .int), (ck, .int)]) [0, 1, 2] rfl
  exact W.vret hx hb hr (fun t ht hW => ⟨⟨(), rfl, trivial, qr, qh, qk, cr, ch, ck, by rw [ht]; exact hP9, va_K.moved hW.alike hK9, hD9⟩, hS.F ht⟩) hS.2.2 dX1_init_30
set_option maxHeartbeats 4000000 in
set_option maxRecDepth 100000 in
/-- lay: 128 places from p2 on -/
theorem metX1_lay (l : Launch) (dC : Nat → ClassId) (dI : Nat → Nat → Nat) (h0 qr qh qk : Nat) (cr ch ck : ClassId) (sz : Nat) (r h k : Nat → Nat) (p0 p1 p2 : Int32) : Met l yX1_lay (ws_ yX1_lay cX1_lay 7 none) ({ frames := 0, cells := 0, slots := 0, locals := 0 }) (va_Pc [.ref h0, .int p0, .int p1, .int p2] (fun U => U.heap.size = sz ∧ va_P (dC, dI) vwCl [(h0, .inr (1, [.ref qr, .ref qh, .ref qk])), (qr, .inl (cr, 1024, .inl (hd_ar r))), (qh, .inl (ch, 1024, .inl (hd_ar h))), (qk, .inl (ck, 32, .inl (hd_ar k)))] U.heap ∧ va_K (dC, dI) vwCl [(cr, .int), (ch, .int), (ck, .int)] U ∧ va_D (fun _ => True) [(h0, .inr (1, [.ref qr, .ref qh, .ref qk])), (qr, .inl (cr, 1024, .inl (hd_ar r))), (qh, .inl (ch, 1024, .inl (hd_ar h))), (qk, .inl (ck, 32, .inl (hd_ar k)))])) (va_Qv (fun _ : Unit => True) (fun _ t => va_P (dC, dI) vwCl [(h0, .inr (1, [.ref qr, .ref qh, .ref qk])), (qr, .inl (cr, 1024, .inl (hd_ar (hd_lay r (hd_m p0) (hd_m p1) (hd_i p2) 128)))), (qh, .inl (ch, 1024, .inl (hd_ar h))), (qk, .inl (ck, 32, .inl (hd_ar k)))] t.heap ∧ va_K (dC, dI) vwCl [(cr, .int), (ch, .int), (ck, .int)] t ∧ va_D (va_A [(h0, .inr (1, [.ref qr, .ref qh, .ref qk])), (qr, .inl (cr, 1024, .inl (hd_ar r))), (qh, .inl (ch, 1024, .inl (hd_ar h))), (qk, .inl (ck, 32, .inl (hd_ar k)))] sz) [(h0, .inr (1, [.ref qr, .ref qh, .ref qk])), (qr, .inl (cr, 1024, .inl (hd_ar (hd_lay r (hd_m p0) (hd_m p1) (hd_i p2) 128)))), (qh, .inl (ch, 1024, .inl (hd_ar h))), (qk, .inl (ck, 32, .inl (hd_ar k)))]) (va_A [(h0, .inr (1, [.ref qr, .ref qh, .ref qk])), (qr, .inl (cr, 1024, .inl (hd_ar r))), (qh, .inl (ch, 1024, .inl (hd_ar h))), (qk, .inl (ck, 32, .inl (hd_ar k)))] sz)) 0 0 (va_A [(h0, .inr (1, [.ref qr, .ref qh, .ref qk])), (qr, .inl (cr, 1024, .inl (hd_ar r))), (qh, .inl (ch, 1024, .inl (hd_ar h))), (qk, .inl (ck, 32, .inl (hd_ar k)))] sz) := by
  refine Met.ofW (cc := cX1_lay) (maxL := 7) (ret := none) (by decide) rfl ?_
  intro p e s m args below meth c s₁ B hml hv
  obtain ⟨rfl, hsz, hP, hK, hD0⟩ := hv
  have hx := B.exec
  have hb := B.bytes
  have hr := B.returns
  have hts := atoms_spec (ws := (ws_ yX1_lay cX1_lay 7 none)) B.pre
  have hts : ∀ w ∈ lw_all, w.before _ s = true := fun w h => hts w (List.mem_cons_of_mem _ h)
  have hown : s.vm.findClass RX1 = some m.cls := findClass_of_methodNamed B.named
  have hlocks := B.notSynchronized
  subst hsz
  have hD := hD0.self (sz := s.heap.size)
  generalize hAe : va_A [(h0, .inr (1, [.ref qr, .ref qh, .ref qk])), (qr, .inl (cr, 1024, .inl (hd_ar r))), (qh, .inl (ch, 1024, .inl (hd_ar h))), (qk, .inl (ck, 32, .inl (hd_ar k)))] s.heap.size = A at hD ⊢
  have hA : ∀ q : Nat, s.heap.size ≤ q → A q := fun q h => by rw [← hAe]; exact Or.inr h
  have hS : va_S A s.heap s.heap [] := va_S.rf
  have hP : va_P (dC, dI) vwCl [(h0, .inr (1, [.ref qr, .ref qh, .ref qk])), (qr, .inl (cr, 1024, .inl (hd_ar r))), (qh, .inl (ch, 1024, .inl (hd_ar h))), (qk, .inl (ck, 32, .inl (hd_ar k)))] s.heap := hP
  have hl := lv_entry ([.ref h0, .int p0, .int p1, .int p2]) (n := 7) (Nat.le_of_ble_eq_true rfl)
  rw [lg_entry_eq]
  generalize (lg_sl ([.ref h0, .int p0, .int p1, .int p2]) ++ List.replicate (7 - (lg_sl ([.ref h0, .int p0, .int p1, .int p2])).length) Slot.unset).toArray = ls at hl ⊢
  have hl : lv_has ls 7 [(0, .ref h0), (1, .int p0), (2, .int p1), (3, .int p2)] := hl
  have b0 := hd_m_lt p0
  have b1 := hd_m_lt p1
  have b2 := hd_i_lt p2
  refine lv_iload_n hx hb dX1_lay_0 rfl (lv_at hl 1 rfl) ?_
  refine lv_ldc (v := nI 2147483647) hx hb hown (hts _ q99) dX1_lay_1 ?_
  refine lv_iand hx hb dX1_lay_3 ?_
  refine lv_sipush (v := nI 12289) hx hb dX1_lay_4 (by decide +kernel) ?_
  refine lv_irem hx hb dX1_lay_7 hd_q0 ?_
  refine hd_top (nI (hd_m p0)) (hd_mE p0) ?_
  refine lv_istore (lv' := [(4, .int (nI (hd_m p0))), (0, .ref h0), (1, .int p0), (2, .int p1), (3, .int p2)]) hx hb dX1_lay_8 hl (by decide) rfl (fun ls hl => ?_)
  refine lv_iload_n hx hb dX1_lay_10 rfl (lv_at hl 3 rfl) ?_
  refine lv_ldc (v := nI 2147483647) hx hb hown (hts _ q99) dX1_lay_11 ?_
  refine lv_iand hx hb dX1_lay_13 ?_
  refine lv_sipush (v := nI 12289) hx hb dX1_lay_14 (by decide +kernel) ?_
  refine lv_irem hx hb dX1_lay_17 hd_q0 ?_
  refine hd_top (nI (hd_m p1)) (hd_mE p1) ?_
  refine lv_istore (lv' := [(5, .int (nI (hd_m p1))), (4, .int (nI (hd_m p0))), (0, .ref h0), (1, .int p0), (2, .int p1), (3, .int p2)]) hx hb dX1_lay_18 hl (by decide) rfl (fun ls hl => ?_)
  refine lv_iconst (v := nI 0) hx hb dX1_lay_20 (by decide +kernel) ?_
  refine lv_istore (lv' := [(6, .int (nI 0)), (5, .int (nI (hd_m p1))), (4, .int (nI (hd_m p0))), (0, .ref h0), (1, .int p0), (2, .int p1), (3, .int p2)]) hx hb dX1_lay_21 hl (by decide) rfl (fun ls hl => ?_)
  have loop : ∀ (n i : Nat), i ≤ 128 → 129 ≤ i + n → ∀ (H : Heap) (locs : List Loc) (ls : Array Slot), va_P (dC, dI) vwCl [(h0, .inr (1, [.ref qr, .ref qh, .ref qk])), (qr, .inl (cr, 1024, .inl (hd_ar (hd_lay r (hd_m p0) (hd_m p1) (hd_i p2) i)))), (qh, .inl (ch, 1024, .inl (hd_ar h))), (qk, .inl (ck, 32, .inl (hd_ar k)))] H → va_D A [(h0, .inr (1, [.ref qr, .ref qh, .ref qk])), (qr, .inl (cr, 1024, .inl (hd_ar (hd_lay r (hd_m p0) (hd_m p1) (hd_i p2) i)))), (qh, .inl (ch, 1024, .inl (hd_ar h))), (qk, .inl (ck, 32, .inl (hd_ar k)))] → va_S A s.heap H locs → lv_has ls 7 [(6, .int (nI i)), (5, .int (nI (hd_m p1))), (4, .int (nI (hd_m p0))), (0, .ref h0), (3, .int p2)] → W p l e (headSpec (ws_ yX1_lay cX1_lay 7 none) ({ frames := 0, cells := 0, slots := 0, locals := 0 })).room s m ([.ref h0, .int p0, .int p1, .int p2] : List Value).toArray below meth c H locs 0 0 (MQ below (va_Qv (fun _ : Unit => True) (fun _ t => va_P (dC, dI) vwCl [(h0, .inr (1, [.ref qr, .ref qh, .ref qk])), (qr, .inl (cr, 1024, .inl (hd_ar (hd_lay r (hd_m p0) (hd_m p1) (hd_i p2) 128)))), (qh, .inl (ch, 1024, .inl (hd_ar h))), (qk, .inl (ck, 32, .inl (hd_ar k)))] t.heap ∧ va_K (dC, dI) vwCl [(cr, .int), (ch, .int), (ck, .int)] t ∧ va_D A [(h0, .inr (1, [.ref qr, .ref qh, .ref qk])), (qr, .inl (cr, 1024, .inl (hd_ar (hd_lay r (hd_m p0) (hd_m p1) (hd_i p2) 128)))), (qh, .inl (ch, 1024, .inl (hd_ar h))), (qk, .inl (ck, 32, .inl (hd_ar k)))]) A) ([.ref h0, .int p0, .int p1, .int p2] : List Value).toArray s 0 0 A) (F0 m 23 ls []) := by
    intro n
    induction n with
    | zero =>
      intro i h1 h2
      exact absurd h2 (by omega)
    | succ n ih =>
      intro i h1 h2 H locs ls hP hD hS hl
      refine lv_iload hx hb dX1_lay_23 (lv_at hl 0 rfl) ?_
      refine lv_sipush (v := nI 128) hx hb dX1_lay_25 (by decide +kernel) ?_
      refine lv_icmp_ge (tgt := 66) hx hb dX1_lay_28 (by decide) (fun hc => ?_) (fun hc => ?_)
      · have hi : i = 128 := by
          have := (nI_leI (by decide) (by omega)).mp hc
          omega
        subst hi
        have hP9 := hP.sub (ws' := [(h0, .inr (1, [.ref qr, .ref qh, .ref qk])), (qr, .inl (cr, 1024, .inl (hd_ar (hd_lay r (hd_m p0) (hd_m p1) (hd_i p2) 128)))), (qh, .inl (ch, 1024, .inl (hd_ar h))), (qk, .inl (ck, 32, .inl (hd_ar k)))]) [0, 1, 2, 3] rfl
        have hD9 := hD.sub (ws' := [(h0, .inr (1, [.ref qr, .ref qh, .ref qk])), (qr, .inl (cr, 1024, .inl (hd_ar (hd_lay r (hd_m p0) (hd_m p1) (hd_i p2) 128)))), (qh, .inl (ch, 1024, .inl (hd_ar h))), (qk, .inl (ck, 32, .inl (hd_ar k)))]) [0, 1, 2, 3] (by decide) rfl
        have hK9 := hK.sub (tys' := [(cr, .int), (ch, .int), (ck, .int)]) [0, 1, 2] rfl
        exact W.vret hx hb hr (fun t ht hW => ⟨⟨(), rfl, trivial, by rw [ht]; exact hP9, va_K.moved hW.alike hK9, hD9⟩, hS.F ht⟩) hS.2.2 dX1_lay_66
      · have hi : i < 128 := by
          rcases Nat.lt_or_ge i 128 with h | h
          · exact h
          · exact absurd ((nI_leI (by decide) (by omega)).mpr h) hc
        have b3 := hd_lb b1 hi
        refine lv_aload_n hx hb dX1_lay_31 rfl (lv_at hl 3 rfl) ?_
        refine va_get (D := (dC, dI)) (ci := 1) (v := .ref qr) (C := RX1) (T := TX1) (N := 3) hx hb hts in_X1 hown hK hP 0 rfl rfl 0 (by decide) (hts _ q85) (fun _ h9 => h9) rfl dX1_lay_32 ?_
        refine lv_iload_n hx hb dX1_lay_35 rfl (lv_at hl 4 rfl) ?_
        refine lv_sipush (v := nI 1023) hx hb dX1_lay_36 (by decide +kernel) ?_
        refine lv_iand hx hb dX1_lay_39 ?_
        refine hd_top (nI (hd_i p2)) (hd_iE p2) ?_
        refine lv_iload hx hb dX1_lay_40 (lv_at hl 0 rfl) ?_
        refine lv_iadd hx hb dX1_lay_42 ?_
        refine hd_top (nI (hd_i p2 + i)) (nI_add _ _) ?_
        refine lv_sipush (v := nI 1024) hx hb dX1_lay_43 (by decide +kernel) ?_
        refine lv_irem hx hb dX1_lay_46 hd_1k0 ?_
        refine hd_top (nI ((hd_i p2 + i) % 1024)) (pk_rem (by omega) (by decide) (by decide)) ?_
        refine lv_iload hx hb dX1_lay_47 (lv_at hl 2 rfl) ?_
        refine lv_iload hx hb dX1_lay_49 (lv_at hl 1 rfl) ?_
        refine lv_iload hx hb dX1_lay_51 (lv_at hl 0 rfl) ?_
        refine lv_imul hx hb dX1_lay_53 ?_
        refine hd_top (nI ((hd_m p1) * i)) (pk_mul _ _) ?_
        refine lv_iadd hx hb dX1_lay_54 ?_
        refine hd_top (nI (hd_m p0 + (hd_m p1) * i)) (nI_add _ _) ?_
        refine lv_sipush (v := nI 12289) hx hb dX1_lay_55 (by decide +kernel) ?_
        refine lv_irem hx hb dX1_lay_58 hd_q0 ?_
        refine hd_top (nI ((hd_m p0 + hd_m p1 * i) % 12289)) (pk_rem (by omega) (by decide) (by decide)) ?_
        refine va_iast hx hb hK hP hD hS 1 0 rfl rfl (vp_in_nI (Nat.mod_lt _ (by decide)) (by decide)) dX1_lay_59 (fun H locs hP hD hS => ?_)
        rw [hd_upi (hd_lay r (hd_m p0) (hd_m p1) (hd_i p2) i) (k := (hd_i p2 + i) % 1024) ((hd_m p0 + hd_m p1 * i) % 12289) (by omega)] at hP hD
        have hP : va_P (dC, dI) vwCl [(h0, .inr (1, [.ref qr, .ref qh, .ref qk])), (qr, .inl (cr, 1024, .inl (hd_ar (hd_lay r (hd_m p0) (hd_m p1) (hd_i p2) (i + 1))))), (qh, .inl (ch, 1024, .inl (hd_ar h))), (qk, .inl (ck, 32, .inl (hd_ar k)))] H := hP
        have hD : va_D A [(h0, .inr (1, [.ref qr, .ref qh, .ref qk])), (qr, .inl (cr, 1024, .inl (hd_ar (hd_lay r (hd_m p0) (hd_m p1) (hd_i p2) (i + 1))))), (qh, .inl (ch, 1024, .inl (hd_ar h))), (qk, .inl (ck, 32, .inl (hd_ar k)))] := hD
        refine lv_iinc (v := (nI (i + 1))) (lv' := [(6, .int (nI (i + 1))), (5, .int (nI (hd_m p1))), (4, .int (nI (hd_m p0))), (0, .ref h0), (3, .int p2)]) hx hb dX1_lay_60 hl (k := 0) rfl (nI_1 i) (by decide) rfl (fun ls hl => ?_)
        refine lv_goto (tgt := 23) hx hb dX1_lay_63 (by decide) ?_
        exact ih (i + 1) hi (by omega) _ _ ls hP hD hS (lv_sub hl [0, 1, 2, 3, 4] rfl)
  exact loop 129 0 (by omega) (by omega) _ _ ls hP hD hS (lv_sub hl [0, 1, 2, 3, 6] rfl)
set_option maxHeartbeats 4000000 in
set_option maxRecDepth 100000 in
/-- set -/
theorem metX1_set (l : Launch) (dC : Nat → ClassId) (dI : Nat → Nat → Nat) (h0 qr qh qk : Nat) (cr ch ck : ClassId) (sz : Nat) (r h k : Nat → Nat) (p0 p1 : Int32) : Met l yX1_set (ws_ yX1_set cX1_set 3 none) ({ frames := 0, cells := 0, slots := 0, locals := 0 }) (va_Pc [.ref h0, .int p0, .int p1] (fun U => U.heap.size = sz ∧ va_P (dC, dI) vwCl [(h0, .inr (1, [.ref qr, .ref qh, .ref qk])), (qr, .inl (cr, 1024, .inl (hd_ar r))), (qh, .inl (ch, 1024, .inl (hd_ar h))), (qk, .inl (ck, 32, .inl (hd_ar k)))] U.heap ∧ va_K (dC, dI) vwCl [(cr, .int), (ch, .int), (ck, .int)] U ∧ va_D (fun _ => True) [(h0, .inr (1, [.ref qr, .ref qh, .ref qk])), (qr, .inl (cr, 1024, .inl (hd_ar r))), (qh, .inl (ch, 1024, .inl (hd_ar h))), (qk, .inl (ck, 32, .inl (hd_ar k)))])) (va_Qv (fun _ : Unit => True) (fun _ t => va_P (dC, dI) vwCl [(h0, .inr (1, [.ref qr, .ref qh, .ref qk])), (qr, .inl (cr, 1024, .inl (hd_ar (hd_up r (hd_i p0) (hd_m p1))))), (qh, .inl (ch, 1024, .inl (hd_ar h))), (qk, .inl (ck, 32, .inl (hd_ar k)))] t.heap ∧ va_K (dC, dI) vwCl [(cr, .int), (ch, .int), (ck, .int)] t ∧ va_D (va_A [(h0, .inr (1, [.ref qr, .ref qh, .ref qk])), (qr, .inl (cr, 1024, .inl (hd_ar r))), (qh, .inl (ch, 1024, .inl (hd_ar h))), (qk, .inl (ck, 32, .inl (hd_ar k)))] sz) [(h0, .inr (1, [.ref qr, .ref qh, .ref qk])), (qr, .inl (cr, 1024, .inl (hd_ar (hd_up r (hd_i p0) (hd_m p1))))), (qh, .inl (ch, 1024, .inl (hd_ar h))), (qk, .inl (ck, 32, .inl (hd_ar k)))]) (va_A [(h0, .inr (1, [.ref qr, .ref qh, .ref qk])), (qr, .inl (cr, 1024, .inl (hd_ar r))), (qh, .inl (ch, 1024, .inl (hd_ar h))), (qk, .inl (ck, 32, .inl (hd_ar k)))] sz)) 0 0 (va_A [(h0, .inr (1, [.ref qr, .ref qh, .ref qk])), (qr, .inl (cr, 1024, .inl (hd_ar r))), (qh, .inl (ch, 1024, .inl (hd_ar h))), (qk, .inl (ck, 32, .inl (hd_ar k)))] sz) := by
  refine Met.ofW (cc := cX1_set) (maxL := 3) (ret := none) (by decide) rfl ?_
  intro p e s m args below meth c s₁ B hml hv
  obtain ⟨rfl, hsz, hP, hK, hD0⟩ := hv
  have hx := B.exec
  have hb := B.bytes
  have hr := B.returns
  have hts := atoms_spec (ws := (ws_ yX1_set cX1_set 3 none)) B.pre
  have hts : ∀ w ∈ lw_all, w.before _ s = true := fun w h => hts w (List.mem_cons_of_mem _ h)
  have hown : s.vm.findClass RX1 = some m.cls := findClass_of_methodNamed B.named
  have hlocks := B.notSynchronized
  subst hsz
  have hD := hD0.self (sz := s.heap.size)
  generalize hAe : va_A [(h0, .inr (1, [.ref qr, .ref qh, .ref qk])), (qr, .inl (cr, 1024, .inl (hd_ar r))), (qh, .inl (ch, 1024, .inl (hd_ar h))), (qk, .inl (ck, 32, .inl (hd_ar k)))] s.heap.size = A at hD ⊢
  have hA : ∀ q : Nat, s.heap.size ≤ q → A q := fun q h => by rw [← hAe]; exact Or.inr h
  have hS : va_S A s.heap s.heap [] := va_S.rf
  have hP : va_P (dC, dI) vwCl [(h0, .inr (1, [.ref qr, .ref qh, .ref qk])), (qr, .inl (cr, 1024, .inl (hd_ar r))), (qh, .inl (ch, 1024, .inl (hd_ar h))), (qk, .inl (ck, 32, .inl (hd_ar k)))] s.heap := hP
  have hl := lv_entry ([.ref h0, .int p0, .int p1]) (n := 3) (Nat.le_of_ble_eq_true rfl)
  rw [lg_entry_eq]
  generalize (lg_sl ([.ref h0, .int p0, .int p1]) ++ List.replicate (3 - (lg_sl ([.ref h0, .int p0, .int p1])).length) Slot.unset).toArray = ls at hl ⊢
  have hl : lv_has ls 3 [(0, .ref h0), (1, .int p0), (2, .int p1)] := hl
  have b0 := hd_i_lt p0
  have b1 := hd_m_lt p1
  refine lv_aload_n hx hb dX1_set_0 rfl (lv_at hl 0 rfl) ?_
  refine va_get (D := (dC, dI)) (ci := 1) (v := .ref qr) (C := RX1) (T := TX1) (N := 3) hx hb hts in_X1 hown hK hP 0 rfl rfl 0 (by decide) (hts _ q85) (fun _ h9 => h9) rfl dX1_set_1 ?_
  refine lv_iload_n hx hb dX1_set_4 rfl (lv_at hl 1 rfl) ?_
  refine lv_sipush (v := nI 1023) hx hb dX1_set_5 (by decide +kernel) ?_
  refine lv_iand hx hb dX1_set_8 ?_
  refine hd_top (nI (hd_i p0)) (hd_iE p0) ?_
  refine lv_iload_n hx hb dX1_set_9 rfl (lv_at hl 2 rfl) ?_
  refine lv_ldc (v := nI 2147483647) hx hb hown (hts _ q99) dX1_set_10 ?_
  refine lv_iand hx hb dX1_set_12 ?_
  refine lv_sipush (v := nI 12289) hx hb dX1_set_13 (by decide +kernel) ?_
  refine lv_irem hx hb dX1_set_16 hd_q0 ?_
  refine hd_top (nI (hd_m p1)) (hd_mE p1) ?_
  refine va_iast hx hb hK hP hD hS 1 0 rfl rfl (vp_in_nI b0 (by decide)) dX1_set_17 (fun H locs hP hD hS => ?_)
  rw [hd_upi r (k := hd_i p0) (hd_m p1) (by omega)] at hP hD
  have hP : va_P (dC, dI) vwCl [(h0, .inr (1, [.ref qr, .ref qh, .ref qk])), (qr, .inl (cr, 1024, .inl (hd_ar (hd_up r (hd_i p0) (hd_m p1))))), (qh, .inl (ch, 1024, .inl (hd_ar h))), (qk, .inl (ck, 32, .inl (hd_ar k)))] H := hP
  have hD : va_D A [(h0, .inr (1, [.ref qr, .ref qh, .ref qk])), (qr, .inl (cr, 1024, .inl (hd_ar (hd_up r (hd_i p0) (hd_m p1))))), (qh, .inl (ch, 1024, .inl (hd_ar h))), (qk, .inl (ck, 32, .inl (hd_ar k)))] := hD
  have hP9 := hP.sub (ws' := [(h0, .inr (1, [.ref qr, .ref qh, .ref qk])), (qr, .inl (cr, 1024, .inl (hd_ar (hd_up r (hd_i p0) (hd_m p1))))), (qh, .inl (ch, 1024, .inl (hd_ar h))), (qk, .inl (ck, 32, .inl (hd_ar k)))]) [0, 1, 2, 3] rfl
  have hD9 := hD.sub (ws' := [(h0, .inr (1, [.ref qr, .ref qh, .ref qk])), (qr, .inl (cr, 1024, .inl (hd_ar (hd_up r (hd_i p0) (hd_m p1))))), (qh, .inl (ch, 1024, .inl (hd_ar h))), (qk, .inl (ck, 32, .inl (hd_ar k)))]) [0, 1, 2, 3] (by decide) rfl
  have hK9 := hK.sub (tys' := [(cr, .int), (ch, .int), (ck, .int)]) [0, 1, 2] rfl
  exact W.vret hx hb hr (fun t ht hW => ⟨⟨(), rfl, trivial, by rw [ht]; exact hP9, va_K.moved hW.alike hK9, hD9⟩, hS.F ht⟩) hS.2.2 dX1_set_18
set_option maxHeartbeats 4000000 in
set_option maxRecDepth 100000 in
/-- help: sixteen places -/
theorem metX1_help (l : Launch) (dC : Nat → ClassId) (dI : Nat → Nat → Nat) (h0 qr qh qk : Nat) (cr ch ck : ClassId) (sz : Nat) (r h k : Nat → Nat) (p0 p1 : Int32) : Met l yX1_help (ws_ yX1_help cX1_help 5 none) ({ frames := 0, cells := 0, slots := 0, locals := 0 }) (va_Pc [.ref h0, .int p0, .int p1] (fun U => U.heap.size = sz ∧ va_P (dC, dI) vwCl [(h0, .inr (1, [.ref qr, .ref qh, .ref qk])), (qr, .inl (cr, 1024, .inl (hd_ar r))), (qh, .inl (ch, 1024, .inl (hd_ar h))), (qk, .inl (ck, 32, .inl (hd_ar k)))] U.heap ∧ va_K (dC, dI) vwCl [(cr, .int), (ch, .int), (ck, .int)] U ∧ va_D (fun _ => True) [(h0, .inr (1, [.ref qr, .ref qh, .ref qk])), (qr, .inl (cr, 1024, .inl (hd_ar r))), (qh, .inl (ch, 1024, .inl (hd_ar h))), (qk, .inl (ck, 32, .inl (hd_ar k)))])) (va_Qv (fun _ : Unit => True) (fun _ t => va_P (dC, dI) vwCl [(h0, .inr (1, [.ref qr, .ref qh, .ref qk])), (qr, .inl (cr, 1024, .inl (hd_ar r))), (qh, .inl (ch, 1024, .inl (hd_ar (hd_help h (hd_i p0) p1.toBitVec.toNat 16)))), (qk, .inl (ck, 32, .inl (hd_ar k)))] t.heap ∧ va_K (dC, dI) vwCl [(cr, .int), (ch, .int), (ck, .int)] t ∧ va_D (va_A [(h0, .inr (1, [.ref qr, .ref qh, .ref qk])), (qr, .inl (cr, 1024, .inl (hd_ar r))), (qh, .inl (ch, 1024, .inl (hd_ar h))), (qk, .inl (ck, 32, .inl (hd_ar k)))] sz) [(h0, .inr (1, [.ref qr, .ref qh, .ref qk])), (qr, .inl (cr, 1024, .inl (hd_ar r))), (qh, .inl (ch, 1024, .inl (hd_ar (hd_help h (hd_i p0) p1.toBitVec.toNat 16)))), (qk, .inl (ck, 32, .inl (hd_ar k)))]) (va_A [(h0, .inr (1, [.ref qr, .ref qh, .ref qk])), (qr, .inl (cr, 1024, .inl (hd_ar r))), (qh, .inl (ch, 1024, .inl (hd_ar h))), (qk, .inl (ck, 32, .inl (hd_ar k)))] sz)) 0 0 (va_A [(h0, .inr (1, [.ref qr, .ref qh, .ref qk])), (qr, .inl (cr, 1024, .inl (hd_ar r))), (qh, .inl (ch, 1024, .inl (hd_ar h))), (qk, .inl (ck, 32, .inl (hd_ar k)))] sz) := by
  refine Met.ofW (cc := cX1_help) (maxL := 5) (ret := none) (by decide) rfl ?_
  intro p e s m args below meth c s₁ B hml hv
  obtain ⟨rfl, hsz, hP, hK, hD0⟩ := hv
  have hx := B.exec
  have hb := B.bytes
  have hr := B.returns
  have hts := atoms_spec (ws := (ws_ yX1_help cX1_help 5 none)) B.pre
  have hts : ∀ w ∈ lw_all, w.before _ s = true := fun w h => hts w (List.mem_cons_of_mem _ h)
  have hown : s.vm.findClass RX1 = some m.cls := findClass_of_methodNamed B.named
  have hlocks := B.notSynchronized
  subst hsz
  have hD := hD0.self (sz := s.heap.size)
  generalize hAe : va_A [(h0, .inr (1, [.ref qr, .ref qh, .ref qk])), (qr, .inl (cr, 1024, .inl (hd_ar r))), (qh, .inl (ch, 1024, .inl (hd_ar h))), (qk, .inl (ck, 32, .inl (hd_ar k)))] s.heap.size = A at hD ⊢
  have hA : ∀ q : Nat, s.heap.size ≤ q → A q := fun q h => by rw [← hAe]; exact Or.inr h
  have hS : va_S A s.heap s.heap [] := va_S.rf
  have hP : va_P (dC, dI) vwCl [(h0, .inr (1, [.ref qr, .ref qh, .ref qk])), (qr, .inl (cr, 1024, .inl (hd_ar r))), (qh, .inl (ch, 1024, .inl (hd_ar h))), (qk, .inl (ck, 32, .inl (hd_ar k)))] s.heap := hP
  have hl := lv_entry ([.ref h0, .int p0, .int p1]) (n := 5) (Nat.le_of_ble_eq_true rfl)
  rw [lg_entry_eq]
  generalize (lg_sl ([.ref h0, .int p0, .int p1]) ++ List.replicate (5 - (lg_sl ([.ref h0, .int p0, .int p1])).length) Slot.unset).toArray = ls at hl ⊢
  have hl : lv_has ls 5 [(0, .ref h0), (1, .int p0), (2, .int p1)] := hl
  have b0 := hd_i_lt p0
  refine lv_iload_n hx hb dX1_help_0 rfl (lv_at hl 2 rfl) ?_
  refine lv_istore_n (lv' := [(3, .int p1), (0, .ref h0), (1, .int p0), (2, .int p1)]) hx hb dX1_help_1 rfl hl (by decide) rfl (fun ls hl => ?_)
  refine lv_iconst (v := nI 0) hx hb dX1_help_2 (by decide +kernel) ?_
  refine lv_istore (lv' := [(4, .int (nI 0)), (3, .int p1), (0, .ref h0), (1, .int p0), (2, .int p1)]) hx hb dX1_help_3 hl (by decide) rfl (fun ls hl => ?_)
  have loop : ∀ (n i : Nat) (x : Int32), i ≤ 16 → 17 ≤ i + n → x.toBitVec.toNat = p1.toBitVec.toNat / 2 ^ (2 * i) → ∀ (H : Heap) (locs : List Loc) (ls : Array Slot), va_P (dC, dI) vwCl [(h0, .inr (1, [.ref qr, .ref qh, .ref qk])), (qr, .inl (cr, 1024, .inl (hd_ar r))), (qh, .inl (ch, 1024, .inl (hd_ar (hd_help h (hd_i p0) p1.toBitVec.toNat i)))), (qk, .inl (ck, 32, .inl (hd_ar k)))] H → va_D A [(h0, .inr (1, [.ref qr, .ref qh, .ref qk])), (qr, .inl (cr, 1024, .inl (hd_ar r))), (qh, .inl (ch, 1024, .inl (hd_ar (hd_help h (hd_i p0) p1.toBitVec.toNat i)))), (qk, .inl (ck, 32, .inl (hd_ar k)))] → va_S A s.heap H locs → lv_has ls 5 [(4, .int (nI i)), (3, .int x), (0, .ref h0), (1, .int p0)] → W p l e (headSpec (ws_ yX1_help cX1_help 5 none) ({ frames := 0, cells := 0, slots := 0, locals := 0 })).room s m ([.ref h0, .int p0, .int p1] : List Value).toArray below meth c H locs 0 0 (MQ below (va_Qv (fun _ : Unit => True) (fun _ t => va_P (dC, dI) vwCl [(h0, .inr (1, [.ref qr, .ref qh, .ref qk])), (qr, .inl (cr, 1024, .inl (hd_ar r))), (qh, .inl (ch, 1024, .inl (hd_ar (hd_help h (hd_i p0) p1.toBitVec.toNat 16)))), (qk, .inl (ck, 32, .inl (hd_ar k)))] t.heap ∧ va_K (dC, dI) vwCl [(cr, .int), (ch, .int), (ck, .int)] t ∧ va_D A [(h0, .inr (1, [.ref qr, .ref qh, .ref qk])), (qr, .inl (cr, 1024, .inl (hd_ar r))), (qh, .inl (ch, 1024, .inl (hd_ar (hd_help h (hd_i p0) p1.toBitVec.toNat 16)))), (qk, .inl (ck, 32, .inl (hd_ar k)))]) A) ([.ref h0, .int p0, .int p1] : List Value).toArray s 0 0 A) (F0 m 5 ls []) := by
    intro n
    induction n with
    | zero =>
      intro i x h1 h2
      exact absurd h2 (by omega)
    | succ n ih =>
      intro i x h1 h2 hw H locs ls hP hD hS hl
      refine lv_iload hx hb dX1_help_5 (lv_at hl 0 rfl) ?_
      refine lv_bipush (v := nI 16) hx hb dX1_help_7 (by decide +kernel) ?_
      refine lv_icmp_ge (tgt := 45) hx hb dX1_help_9 (by decide) (fun hc => ?_) (fun hc => ?_)
      · have hi : i = 16 := by
          have := (nI_leI (by decide) (by omega)).mp hc
          omega
        subst hi
        have hP9 := hP.sub (ws' := [(h0, .inr (1, [.ref qr, .ref qh, .ref qk])), (qr, .inl (cr, 1024, .inl (hd_ar r))), (qh, .inl (ch, 1024, .inl (hd_ar (hd_help h (hd_i p0) p1.toBitVec.toNat 16)))), (qk, .inl (ck, 32, .inl (hd_ar k)))]) [0, 1, 2, 3] rfl
        have hD9 := hD.sub (ws' := [(h0, .inr (1, [.ref qr, .ref qh, .ref qk])), (qr, .inl (cr, 1024, .inl (hd_ar r))), (qh, .inl (ch, 1024, .inl (hd_ar (hd_help h (hd_i p0) p1.toBitVec.toNat 16)))), (qk, .inl (ck, 32, .inl (hd_ar k)))]) [0, 1, 2, 3] (by decide) rfl
        have hK9 := hK.sub (tys' := [(cr, .int), (ch, .int), (ck, .int)]) [0, 1, 2] rfl
        exact W.vret hx hb hr (fun t ht hW => ⟨⟨(), rfl, trivial, by rw [ht]; exact hP9, va_K.moved hW.alike hK9, hD9⟩, hS.F ht⟩) hS.2.2 dX1_help_45
      · have hi : i < 16 := by
          rcases Nat.lt_or_ge i 16 with h | h
          · exact h
          · exact absurd ((nI_leI (by decide) (by omega)).mpr h) hc
        have bv : p1.toBitVec.toNat / 2 ^ (2 * i) % 4 < 4 := Nat.mod_lt _ (by decide)
        refine lv_aload_n hx hb dX1_help_12 rfl (lv_at hl 2 rfl) ?_
        refine va_get (D := (dC, dI)) (ci := 1) (v := .ref qh) (C := RX1) (T := TX1) (N := 3) hx hb hts in_X1 hown hK hP 0 rfl rfl 1 (by decide) (hts _ q86) (fun _ h9 => h9) rfl dX1_help_13 ?_
        refine lv_iload_n hx hb dX1_help_16 rfl (lv_at hl 3 rfl) ?_
        refine lv_sipush (v := nI 1023) hx hb dX1_help_17 (by decide +kernel) ?_
        refine lv_iand hx hb dX1_help_20 ?_
        refine hd_top (nI (hd_i p0)) (hd_iE p0) ?_
        refine lv_bipush (v := nI 64) hx hb dX1_help_21 (by decide +kernel) ?_
        refine lv_iload hx hb dX1_help_23 (lv_at hl 0 rfl) ?_
        refine lv_imul hx hb dX1_help_25 ?_
        refine hd_top (nI (64 * i)) (pk_mul _ _) ?_
        refine lv_iadd hx hb dX1_help_26 ?_
        refine hd_top (nI (hd_i p0 + 64 * i)) (nI_add _ _) ?_
        refine lv_sipush (v := nI 1024) hx hb dX1_help_27 (by decide +kernel) ?_
        refine lv_irem hx hb dX1_help_30 hd_1k0 ?_
        refine hd_top (nI ((hd_i p0 + 64 * i) % 1024)) (pk_rem (by omega) (by decide) (by decide)) ?_
        refine lv_iload_n hx hb dX1_help_31 rfl (lv_at hl 1 rfl) ?_
        refine lv_iconst (v := nI 3) hx hb dX1_help_32 (by decide +kernel) ?_
        refine lv_iand hx hb dX1_help_33 ?_
        refine hd_top (nI (p1.toBitVec.toNat / 2 ^ (2 * i) % 4)) (hd_w3 x hw) ?_
        refine va_iast hx hb hK hP hD hS 2 1 rfl rfl (vp_in_nI (Nat.mod_lt _ (by decide)) (by decide)) dX1_help_34 (fun H locs hP hD hS => ?_)
        rw [hd_upi (hd_help h (hd_i p0) p1.toBitVec.toNat i) (k := (hd_i p0 + 64 * i) % 1024) (p1.toBitVec.toNat / 2 ^ (2 * i) % 4) (by omega)] at hP hD
        have hP : va_P (dC, dI) vwCl [(h0, .inr (1, [.ref qr, .ref qh, .ref qk])), (qr, .inl (cr, 1024, .inl (hd_ar r))), (qh, .inl (ch, 1024, .inl (hd_ar (hd_help h (hd_i p0) p1.toBitVec.toNat (i + 1))))), (qk, .inl (ck, 32, .inl (hd_ar k)))] H := hP
        have hD : va_D A [(h0, .inr (1, [.ref qr, .ref qh, .ref qk])), (qr, .inl (cr, 1024, .inl (hd_ar r))), (qh, .inl (ch, 1024, .inl (hd_ar (hd_help h (hd_i p0) p1.toBitVec.toNat (i + 1))))), (qk, .inl (ck, 32, .inl (hd_ar k)))] := hD
        refine lv_iload_n hx hb dX1_help_35 rfl (lv_at hl 1 rfl) ?_
        refine lv_iconst (v := nI 2) hx hb dX1_help_36 (by decide +kernel) ?_
        refine lv_iushr hx hb dX1_help_37 rfl ?_
        refine lv_istore_n (lv' := [(3, .int (x.toUInt32 >>> ((nI 2).toUInt32 &&& Int32.toUInt32 31)).toInt32), (4, .int (nI i)), (0, .ref h0), (1, .int p0)]) hx hb dX1_help_38 rfl hl (by decide) rfl (fun ls hl => ?_)
        refine lv_iinc (v := (nI (i + 1))) (lv' := [(4, .int (nI (i + 1))), (3, .int (x.toUInt32 >>> ((nI 2).toUInt32 &&& Int32.toUInt32 31)).toInt32), (0, .ref h0), (1, .int p0)]) hx hb dX1_help_39 hl (k := 1) rfl (nI_1 i) (by decide) rfl (fun ls hl => ?_)
        refine lv_goto (tgt := 5) hx hb dX1_help_42 (by decide) ?_
        exact ih (i + 1) _ hi (by omega) (hd_w2 x hw) _ _ ls hP hD hS (lv_sub hl [0, 1, 2, 3] rfl)
  exact loop 17 0 p1 (by omega) (by omega) (by rw [Nat.mul_zero, Nat.pow_zero, Nat.div_one]) _ _ ls hP hD hS (lv_sub hl [0, 1, 2, 3] rfl)
set_option maxHeartbeats 4000000 in
set_option maxRecDepth 100000 in
/-- helps: all places -/
theorem metX1_helps (l : Launch) (dC : Nat → ClassId) (dI : Nat → Nat → Nat) (h0 qr qh qk : Nat) (cr ch ck : ClassId) (sz : Nat) (r h k : Nat → Nat) (p0 p1 : Int32) : Met l yX1_helps (ws_ yX1_helps cX1_helps 5 none) ({ frames := 0, cells := 0, slots := 0, locals := 0 }) (va_Pc [.ref h0, .int p0, .int p1] (fun U => U.heap.size = sz ∧ va_P (dC, dI) vwCl [(h0, .inr (1, [.ref qr, .ref qh, .ref qk])), (qr, .inl (cr, 1024, .inl (hd_ar r))), (qh, .inl (ch, 1024, .inl (hd_ar h))), (qk, .inl (ck, 32, .inl (hd_ar k)))] U.heap ∧ va_K (dC, dI) vwCl [(cr, .int), (ch, .int), (ck, .int)] U ∧ va_D (fun _ => True) [(h0, .inr (1, [.ref qr, .ref qh, .ref qk])), (qr, .inl (cr, 1024, .inl (hd_ar r))), (qh, .inl (ch, 1024, .inl (hd_ar h))), (qk, .inl (ck, 32, .inl (hd_ar k)))])) (va_Qv (fun _ : Unit => True) (fun _ t => va_P (dC, dI) vwCl [(h0, .inr (1, [.ref qr, .ref qh, .ref qk])), (qr, .inl (cr, 1024, .inl (hd_ar r))), (qh, .inl (ch, 1024, .inl (hd_ar (hd_helps h p0 p1 1024)))), (qk, .inl (ck, 32, .inl (hd_ar k)))] t.heap ∧ va_K (dC, dI) vwCl [(cr, .int), (ch, .int), (ck, .int)] t ∧ va_D (va_A [(h0, .inr (1, [.ref qr, .ref qh, .ref qk])), (qr, .inl (cr, 1024, .inl (hd_ar r))), (qh, .inl (ch, 1024, .inl (hd_ar h))), (qk, .inl (ck, 32, .inl (hd_ar k)))] sz) [(h0, .inr (1, [.ref qr, .ref qh, .ref qk])), (qr, .inl (cr, 1024, .inl (hd_ar r))), (qh, .inl (ch, 1024, .inl (hd_ar (hd_helps h p0 p1 1024)))), (qk, .inl (ck, 32, .inl (hd_ar k)))]) (va_A [(h0, .inr (1, [.ref qr, .ref qh, .ref qk])), (qr, .inl (cr, 1024, .inl (hd_ar r))), (qh, .inl (ch, 1024, .inl (hd_ar h))), (qk, .inl (ck, 32, .inl (hd_ar k)))] sz)) 0 0 (va_A [(h0, .inr (1, [.ref qr, .ref qh, .ref qk])), (qr, .inl (cr, 1024, .inl (hd_ar r))), (qh, .inl (ch, 1024, .inl (hd_ar h))), (qk, .inl (ck, 32, .inl (hd_ar k)))] sz) := by
  refine Met.ofW (cc := cX1_helps) (maxL := 5) (ret := none) (by decide) rfl ?_
  intro p e s m args below meth c s₁ B hml hv
  obtain ⟨rfl, hsz, hP, hK, hD0⟩ := hv
  have hx := B.exec
  have hb := B.bytes
  have hr := B.returns
  have hts := atoms_spec (ws := (ws_ yX1_helps cX1_helps 5 none)) B.pre
  have hts : ∀ w ∈ lw_all, w.before _ s = true := fun w h => hts w (List.mem_cons_of_mem _ h)
  have hown : s.vm.findClass RX1 = some m.cls := findClass_of_methodNamed B.named
  have hlocks := B.notSynchronized
  subst hsz
  have hD := hD0.self (sz := s.heap.size)
  generalize hAe : va_A [(h0, .inr (1, [.ref qr, .ref qh, .ref qk])), (qr, .inl (cr, 1024, .inl (hd_ar r))), (qh, .inl (ch, 1024, .inl (hd_ar h))), (qk, .inl (ck, 32, .inl (hd_ar k)))] s.heap.size = A at hD ⊢
  have hA : ∀ q : Nat, s.heap.size ≤ q → A q := fun q h => by rw [← hAe]; exact Or.inr h
  have hS : va_S A s.heap s.heap [] := va_S.rf
  have hP : va_P (dC, dI) vwCl [(h0, .inr (1, [.ref qr, .ref qh, .ref qk])), (qr, .inl (cr, 1024, .inl (hd_ar r))), (qh, .inl (ch, 1024, .inl (hd_ar h))), (qk, .inl (ck, 32, .inl (hd_ar k)))] s.heap := hP
  have hl := lv_entry ([.ref h0, .int p0, .int p1]) (n := 5) (Nat.le_of_ble_eq_true rfl)
  rw [lg_entry_eq]
  generalize (lg_sl ([.ref h0, .int p0, .int p1]) ++ List.replicate (5 - (lg_sl ([.ref h0, .int p0, .int p1])).length) Slot.unset).toArray = ls at hl ⊢
  have hl : lv_has ls 5 [(0, .ref h0), (1, .int p0), (2, .int p1)] := hl
  refine lv_iload_n hx hb dX1_helps_0 rfl (lv_at hl 1 rfl) ?_
  refine lv_istore_n (lv' := [(3, .int p0), (0, .ref h0), (1, .int p0), (2, .int p1)]) hx hb dX1_helps_1 rfl hl (by decide) rfl (fun ls hl => ?_)
  refine lv_iconst (v := nI 0) hx hb dX1_helps_2 (by decide +kernel) ?_
  refine lv_istore (lv' := [(4, .int (nI 0)), (3, .int p0), (0, .ref h0), (1, .int p0), (2, .int p1)]) hx hb dX1_helps_3 hl (by decide) rfl (fun ls hl => ?_)
  have loop : ∀ (n i : Nat) (x : Int32), i ≤ 1024 → 1025 ≤ i + n → x = p0 + p1 * nI i → ∀ (H : Heap) (locs : List Loc) (ls : Array Slot), va_P (dC, dI) vwCl [(h0, .inr (1, [.ref qr, .ref qh, .ref qk])), (qr, .inl (cr, 1024, .inl (hd_ar r))), (qh, .inl (ch, 1024, .inl (hd_ar (hd_helps h p0 p1 i)))), (qk, .inl (ck, 32, .inl (hd_ar k)))] H → va_D A [(h0, .inr (1, [.ref qr, .ref qh, .ref qk])), (qr, .inl (cr, 1024, .inl (hd_ar r))), (qh, .inl (ch, 1024, .inl (hd_ar (hd_helps h p0 p1 i)))), (qk, .inl (ck, 32, .inl (hd_ar k)))] → va_S A s.heap H locs → lv_has ls 5 [(4, .int (nI i)), (3, .int x), (0, .ref h0), (2, .int p1)] → W p l e (headSpec (ws_ yX1_helps cX1_helps 5 none) ({ frames := 0, cells := 0, slots := 0, locals := 0 })).room s m ([.ref h0, .int p0, .int p1] : List Value).toArray below meth c H locs 0 0 (MQ below (va_Qv (fun _ : Unit => True) (fun _ t => va_P (dC, dI) vwCl [(h0, .inr (1, [.ref qr, .ref qh, .ref qk])), (qr, .inl (cr, 1024, .inl (hd_ar r))), (qh, .inl (ch, 1024, .inl (hd_ar (hd_helps h p0 p1 1024)))), (qk, .inl (ck, 32, .inl (hd_ar k)))] t.heap ∧ va_K (dC, dI) vwCl [(cr, .int), (ch, .int), (ck, .int)] t ∧ va_D A [(h0, .inr (1, [.ref qr, .ref qh, .ref qk])), (qr, .inl (cr, 1024, .inl (hd_ar r))), (qh, .inl (ch, 1024, .inl (hd_ar (hd_helps h p0 p1 1024)))), (qk, .inl (ck, 32, .inl (hd_ar k)))]) A) ([.ref h0, .int p0, .int p1] : List Value).toArray s 0 0 A) (F0 m 5 ls []) := by
    intro n
    induction n with
    | zero =>
      intro i x h1 h2
      exact absurd h2 (by omega)
    | succ n ih =>
      intro i x h1 h2 hw H locs ls hP hD hS hl
      refine lv_iload hx hb dX1_helps_5 (lv_at hl 0 rfl) ?_
      refine lv_sipush (v := nI 1024) hx hb dX1_helps_7 (by decide +kernel) ?_
      refine lv_icmp_ge (tgt := 36) hx hb dX1_helps_10 (by decide) (fun hc => ?_) (fun hc => ?_)
      · have hi : i = 1024 := by
          have := (nI_leI (by decide) (by omega)).mp hc
          omega
        subst hi
        have hP9 := hP.sub (ws' := [(h0, .inr (1, [.ref qr, .ref qh, .ref qk])), (qr, .inl (cr, 1024, .inl (hd_ar r))), (qh, .inl (ch, 1024, .inl (hd_ar (hd_helps h p0 p1 1024)))), (qk, .inl (ck, 32, .inl (hd_ar k)))]) [0, 1, 2, 3] rfl
        have hD9 := hD.sub (ws' := [(h0, .inr (1, [.ref qr, .ref qh, .ref qk])), (qr, .inl (cr, 1024, .inl (hd_ar r))), (qh, .inl (ch, 1024, .inl (hd_ar (hd_helps h p0 p1 1024)))), (qk, .inl (ck, 32, .inl (hd_ar k)))]) [0, 1, 2, 3] (by decide) rfl
        have hK9 := hK.sub (tys' := [(cr, .int), (ch, .int), (ck, .int)]) [0, 1, 2] rfl
        exact W.vret hx hb hr (fun t ht hW => ⟨⟨(), rfl, trivial, by rw [ht]; exact hP9, va_K.moved hW.alike hK9, hD9⟩, hS.F ht⟩) hS.2.2 dX1_helps_36
      · have hi : i < 1024 := by
          rcases Nat.lt_or_ge i 1024 with h | h
          · exact h
          · exact absurd ((nI_leI (by decide) (by omega)).mpr h) hc
        have bv : (p0 + p1 * nI i).toBitVec.toNat / 128 % 4 < 4 := Nat.mod_lt _ (by decide)
        refine lv_aload_n hx hb dX1_helps_13 rfl (lv_at hl 2 rfl) ?_
        refine va_get (D := (dC, dI)) (ci := 1) (v := .ref qh) (C := RX1) (T := TX1) (N := 3) hx hb hts in_X1 hown hK hP 0 rfl rfl 1 (by decide) (hts _ q86) (fun _ h9 => h9) rfl dX1_helps_14 ?_
        refine lv_iload hx hb dX1_helps_17 (lv_at hl 0 rfl) ?_
        refine lv_iload_n hx hb dX1_helps_19 rfl (lv_at hl 1 rfl) ?_
        refine lv_bipush (v := nI 7) hx hb dX1_helps_20 (by decide +kernel) ?_
        refine lv_iushr hx hb dX1_helps_22 rfl ?_
        refine lv_iconst (v := nI 3) hx hb dX1_helps_23 (by decide +kernel) ?_
        refine lv_iand hx hb dX1_helps_24 ?_
        refine hd_top (nI ((p0 + p1 * nI i).toBitVec.toNat / 128 % 4)) (by rw [hw]; exact hd_sv _) ?_
        refine va_iast hx hb hK hP hD hS 2 1 rfl rfl (vp_in_nI hi (by decide)) dX1_helps_25 (fun H locs hP hD hS => ?_)
        rw [hd_upi (hd_helps h p0 p1 i) (k := i) ((p0 + p1 * nI i).toBitVec.toNat / 128 % 4) (by omega)] at hP hD
        have hP : va_P (dC, dI) vwCl [(h0, .inr (1, [.ref qr, .ref qh, .ref qk])), (qr, .inl (cr, 1024, .inl (hd_ar r))), (qh, .inl (ch, 1024, .inl (hd_ar (hd_helps h p0 p1 (i + 1))))), (qk, .inl (ck, 32, .inl (hd_ar k)))] H := hP
        have hD : va_D A [(h0, .inr (1, [.ref qr, .ref qh, .ref qk])), (qr, .inl (cr, 1024, .inl (hd_ar r))), (qh, .inl (ch, 1024, .inl (hd_ar (hd_helps h p0 p1 (i + 1))))), (qk, .inl (ck, 32, .inl (hd_ar k)))] := hD
        refine lv_iload_n hx hb dX1_helps_26 rfl (lv_at hl 1 rfl) ?_
        refine lv_iload_n hx hb dX1_helps_27 rfl (lv_at hl 3 rfl) ?_
        refine lv_iadd hx hb dX1_helps_28 ?_
        refine lv_istore_n (lv' := [(3, .int (x + p1)), (4, .int (nI i)), (0, .ref h0), (2, .int p1)]) hx hb dX1_helps_29 rfl hl (by decide) rfl (fun ls hl => ?_)
        refine lv_iinc (v := (nI (i + 1))) (lv' := [(4, .int (nI (i + 1))), (3, .int (x + p1)), (0, .ref h0), (2, .int p1)]) hx hb dX1_helps_30 hl (k := 1) rfl (nI_1 i) (by decide) rfl (fun ls hl => ?_)
        refine lv_goto (tgt := 5) hx hb dX1_helps_33 (by decide) ?_
        exact ih (i + 1) _ hi (by omega) (by rw [hw]; exact hd_its _ _ _) _ _ ls hP hD hS (lv_sub hl [0, 1, 2, 3] rfl)
  exact loop 1025 0 p0 (by omega) (by omega) (hd_its0 p0 p1).symm _ _ ls hP hD hS (lv_sub hl [0, 1, 2, 4] rfl)
set_option maxHeartbeats 4000000 in
set_option maxRecDepth 100000 in
/-- distance -/
theorem metX1_distance (l : Launch) (n : Nat) (hn : n ≤ 294928) : Met l yX1_distance (ws_ yX1_distance cX1_distance 4 (some .int)) ({ frames := 0, cells := 0, slots := 0, locals := 0 }) (va_Pc [.int (nI n)] (fun _ => True)) (vp_Si (fun r : Int32 => r = nI (hd_d n))) 0 0 (fun _ => False) := by
  refine Met.ofW (cc := cX1_distance) (maxL := 4) (ret := (some .int)) (by decide) rfl ?_
  intro p e s m args below meth c s₁ B hml hv
  obtain ⟨rfl, -⟩ := hv
  have hx := B.exec
  have hb := B.bytes
  have hr := B.returns
  have hts := atoms_spec (ws := (ws_ yX1_distance cX1_distance 4 (some .int))) B.pre
  have hts : ∀ w ∈ lw_all, w.before _ s = true := fun w h => hts w (List.mem_cons_of_mem _ h)
  have hown : s.vm.findClass RX1 = some m.cls := findClass_of_methodNamed B.named
  have hlocks := B.notSynchronized
  have hl := lv_entry ([.int (nI n)]) (n := 4) (Nat.le_of_ble_eq_true rfl)
  rw [lg_entry_eq]
  generalize (lg_sl ([.int (nI n)]) ++ List.replicate (4 - (lg_sl ([.int (nI n)])).length) Slot.unset).toArray = ls at hl ⊢
  have hl : lv_has ls 4 [(0, .int (nI n))] := hl
  refine lv_iconst (v := nI 0) hx hb dX1_distance_0 (by decide +kernel) ?_
  refine lv_istore_n (lv' := [(1, .int (nI 0)), (0, .int (nI n))]) hx hb dX1_distance_1 rfl hl (by decide) rfl (fun ls hl => ?_)
  have loop : ∀ (f k : Nat), 98312 * k ≤ n → n < 98312 * (k + f) → ∀ (ls : Array Slot), lv_has ls 4 [(1, .int (nI (98312 * k))), (0, .int (nI n))] → W p l e (headSpec (ws_ yX1_distance cX1_distance 4 (some .int)) ({ frames := 0, cells := 0, slots := 0, locals := 0 })).room s m ([.int (nI n)] : List Value).toArray below meth c s.heap [] 0 0 (MQ below (vp_Si (fun r : Int32 => r = nI (hd_d n))) ([.int (nI n)] : List Value).toArray s 0 0 (fun _ => False)) (F0 m 2 ls []) := by
    intro f
    induction f with
    | zero =>
      intro k h1 h2
      exact absurd h2 (by omega)
    | succ f ih =>
      intro k h1 h2 ls hl
      refine lv_iload_n hx hb dX1_distance_2 rfl (lv_at hl 0 rfl) ?_
      refine lv_ldc (v := nI 98312) hx hb hown (hts _ q124) dX1_distance_3 ?_
      refine lv_iadd hx hb dX1_distance_5 ?_
      refine hd_top (nI (98312 * (k + 1))) (by rw [nI_add, Nat.mul_succ]) ?_
      refine lv_iload_n hx hb dX1_distance_6 rfl (lv_at hl 1 rfl) ?_
      refine lv_icmp_gt (tgt := 18) hx hb dX1_distance_7 (by decide) (fun hc => ?_) (fun hc => ?_)
      · have hk : n < 98312 * (k + 1) := (nI_ltI (by omega) (by omega)).mp hc
        have e0 := hd_dm h1 hk
        refine lv_iload_n hx hb dX1_distance_18 rfl (lv_at hl 1 rfl) ?_
        refine lv_iload_n hx hb dX1_distance_19 rfl (lv_at hl 0 rfl) ?_
        refine lv_isub hx hb dX1_distance_20 ?_
        refine hd_top (nI (n - 98312 * k)) (pk_sub h1) ?_
        refine lv_istore_n (lv' := [(2, .int (nI (n - 98312 * k))), (1, .int (nI (98312 * k))), (0, .int (nI n))]) hx hb dX1_distance_21 rfl hl (by decide) rfl (fun ls hl => ?_)
        refine lv_iload_n hx hb dX1_distance_22 rfl (lv_at hl 1 rfl) ?_
        refine lv_ldc (v := nI 98312) hx hb hown (hts _ q124) dX1_distance_23 ?_
        refine lv_iadd hx hb dX1_distance_25 ?_
        refine hd_top (nI (98312 * (k + 1))) (by rw [nI_add, Nat.mul_succ]) ?_
        refine lv_iload_n hx hb dX1_distance_26 rfl (lv_at hl 2 rfl) ?_
        refine lv_isub hx hb dX1_distance_27 ?_
        refine hd_top (nI (98312 * (k + 1) - n)) (pk_sub (by omega)) ?_
        refine lv_istore_n (lv' := [(3, .int (nI (98312 * (k + 1) - n))), (2, .int (nI (n - 98312 * k))), (1, .int (nI (98312 * k))), (0, .int (nI n))]) hx hb dX1_distance_28 rfl hl (by decide) rfl (fun ls hl => ?_)
        refine lv_iload_n hx hb dX1_distance_29 rfl (lv_at hl 1 rfl) ?_
        refine lv_iload_n hx hb dX1_distance_30 rfl (lv_at hl 0 rfl) ?_
        refine lv_icmp_ge (tgt := 38) hx hb dX1_distance_31 (by decide) (fun hg => ?_) (fun hg => ?_)
        · have hj : 98312 * (k + 1) - n ≤ n - 98312 * k := (nI_leI (by omega) (by omega)).mp hg
          refine lv_iload_n hx hb dX1_distance_38 rfl (lv_at hl 0 rfl) ?_
          refine hd_top (nI (hd_d n)) (congrArg nI ?_) ?_
          · unfold hd_d
            rw [e0]
            split <;> omega
          exact W.iret (v := (nI (hd_d n))) hx hb hr (fun t ht hW => ⟨(nI (hd_d n)), rfl, rfl, ht⟩) (fun q h => by cases h) dX1_distance_39
        · have hj : ¬ 98312 * (k + 1) - n ≤ n - 98312 * k := fun h => hg ((nI_leI (by omega) (by omega)).mpr h)
          refine lv_iload_n hx hb dX1_distance_34 rfl (lv_at hl 1 rfl) ?_
          refine lv_goto (tgt := 39) hx hb dX1_distance_35 (by decide) ?_
          refine hd_top (nI (hd_d n)) (congrArg nI ?_) ?_
          · unfold hd_d
            rw [e0]
            split <;> omega
          exact W.iret (v := (nI (hd_d n))) hx hb hr (fun t ht hW => ⟨(nI (hd_d n)), rfl, rfl, ht⟩) (fun q h => by cases h) dX1_distance_39
      · have hk : ¬ n < 98312 * (k + 1) := fun h => hc ((nI_ltI (by omega) (by omega)).mpr h)
        refine lv_iload_n hx hb dX1_distance_10 rfl (lv_at hl 0 rfl) ?_
        refine lv_ldc (v := nI 98312) hx hb hown (hts _ q124) dX1_distance_11 ?_
        refine lv_iadd hx hb dX1_distance_13 ?_
        refine hd_top (nI (98312 * (k + 1))) (by rw [nI_add, Nat.mul_succ]) ?_
        refine lv_istore_n (lv' := [(1, .int (nI (98312 * (k + 1)))), (0, .int (nI n))]) hx hb dX1_distance_14 rfl hl (by decide) rfl (fun ls hl => ?_)
        refine lv_goto (tgt := 2) hx hb dX1_distance_15 (by decide) ?_
        exact ih (k + 1) (by omega) (by omega) ls (lv_sub hl [0, 1] rfl)
  exact loop 4 0 (by omega) (by omega) ls (lv_sub hl [0, 1] rfl)
set_option maxHeartbeats 4000000 in
set_option maxRecDepth 100000 in
/-- told(place, last) -/
theorem metX1_told (l : Launch) (dC : Nat → ClassId) (dI : Nat → Nat → Nat) (h0 qr qh qk : Nat) (cr ch ck : ClassId) (r h k : Nat → Nat) (hrb : ∀ j, r j < 12289) (hhb : ∀ j, h j < 4) (j0 l0 : Nat) (hj0 : j0 < 1024) (hl0 : l0 < 1024) : Met l yX1_told (ws_ yX1_told cX1_told 4 (some .int)) ({ frames := 1, cells := 0, slots := 0, locals := 23 }) (va_Pc [.ref h0, .int (nI j0), .int (nI l0)] (fun U => va_P (dC, dI) vwCl [(h0, .inr (1, [.ref qr, .ref qh, .ref qk])), (qr, .inl (cr, 1024, .inl (hd_ar r))), (qh, .inl (ch, 1024, .inl (hd_ar h))), (qk, .inl (ck, 32, .inl (hd_ar k)))] U.heap ∧ va_K (dC, dI) vwCl [(cr, .int), (ch, .int), (ck, .int)] U)) (vp_Si (fun r9 : Int32 => r9 = nI (hd_t r h j0 l0))) 0 0 (fun _ => False) := by
  refine Met.ofW (cc := cX1_told) (maxL := 4) (ret := (some .int)) (by decide) rfl ?_
  intro p e s m args below meth c s₁ B hml hv
  obtain ⟨rfl, hP, hK⟩ := hv
  have hx := B.exec
  have hb := B.bytes
  have hr := B.returns
  have hts := atoms_spec (ws := (ws_ yX1_told cX1_told 4 (some .int))) B.pre
  have hts : ∀ w ∈ lw_all, w.before _ s = true := fun w h => hts w (List.mem_cons_of_mem _ h)
  have hown : s.vm.findClass RX1 = some m.cls := findClass_of_methodNamed B.named
  have hlocks := B.notSynchronized
  have hl := lv_entry ([.ref h0, .int (nI j0), .int (nI l0)]) (n := 4) (Nat.le_of_ble_eq_true rfl)
  rw [lg_entry_eq]
  generalize (lg_sl ([.ref h0, .int (nI j0), .int (nI l0)]) ++ List.replicate (4 - (lg_sl ([.ref h0, .int (nI j0), .int (nI l0)])).length) Slot.unset).toArray = ls at hl ⊢
  have hl : lv_has ls 4 [(0, .ref h0), (1, .int (nI j0)), (2, .int (nI l0))] := hl
  have k29 : ∀ (v : Nat), v = (if j0 = l0 then h l0 else 2 * h j0 + h l0) → W p l e (headSpec (ws_ yX1_told cX1_told 4 (some .int)) ({ frames := 1, cells := 0, slots := 0, locals := 23 })).room s m ([.ref h0, .int (nI j0), .int (nI l0)] : List Value).toArray below meth c s.heap [] 0 0 (MQ below (vp_Si (fun r9 : Int32 => r9 = nI (hd_t r h j0 l0))) ([.ref h0, .int (nI j0), .int (nI l0)] : List Value).toArray s 0 0 (fun _ => False)) (F0 m 29 ls [.int (nI v)]) := by
    intro v hv
    have bv : 12289 * v ≤ 196624 + 8 * r j0 := by
      have := hhb j0
      have := hhb l0
      rw [hv]
      split <;> omega
    refine lv_istore_n (lv' := [(3, .int (nI v)), (0, .ref h0), (1, .int (nI j0)), (2, .int (nI l0))]) hx hb dX1_told_29 rfl hl (by decide) rfl (fun ls hl => ?_)
    refine lv_ldc (v := nI 196624) hx hb hown (hts _ q120) dX1_told_30 ?_
    refine lv_bipush (v := nI 8) hx hb dX1_told_32 (by decide +kernel) ?_
    refine lv_aload_n hx hb dX1_told_34 rfl (lv_at hl 1 rfl) ?_
    refine va_get (D := (dC, dI)) (ci := 1) (v := .ref qr) (C := RX1) (T := TX1) (N := 3) hx hb hts in_X1 hown hK hP 0 rfl rfl 0 (by decide) (hts _ q85) (fun _ h9 => h9) rfl dX1_told_35 ?_
    refine lv_iload_n hx hb dX1_told_38 rfl (lv_at hl 2 rfl) ?_
    refine va_iald hx hb hK hP 1 0 rfl rfl (vp_in_nI hj0 (by decide)) dX1_told_39 ?_
    refine hd_top (nI (r j0)) (hd_rd _ (by omega)) ?_
    refine lv_imul hx hb dX1_told_40 ?_
    refine hd_top (nI (8 * (r j0))) (pk_mul _ _) ?_
    refine lv_iadd hx hb dX1_told_41 ?_
    refine hd_top (nI (196624 + 8 * (r j0))) (nI_add _ _) ?_
    refine lv_sipush (v := nI 12289) hx hb dX1_told_42 (by decide +kernel) ?_
    refine lv_iload_n hx hb dX1_told_45 rfl (lv_at hl 0 rfl) ?_
    refine lv_imul hx hb dX1_told_46 ?_
    refine hd_top (nI (12289 * v)) (pk_mul _ _) ?_
    refine lv_isub hx hb dX1_told_47 ?_
    refine hd_top (nI (196624 + 8 * r j0 - 12289 * v)) (pk_sub bv) ?_
    refine vp_callSi (W.runS (As := [.int (nI (196624 + 8 * r j0 - 12289 * v))]) (rest := []) ⟨hx, hb, hml, hown, hts⟩ (metX1_distance l (196624 + 8 * r j0 - 12289 * v) (hd_xle (hrb j0) v)) (va_cwS 1 hts (lw_S q121 q122 q3 q123) rfl rfl rfl (by decide +kernel) ⟨Nat.le_of_ble_eq_true rfl, Nat.le_of_ble_eq_true rfl⟩) ⟨fun a U g mk q => q, fun U hU hW => ⟨rfl, trivial⟩⟩ rfl rfl hl.1 rfl (lv_room (Nat.le_of_ble_eq_true rfl)) dX1_told_48 ⟨Nat.le_of_ble_eq_true rfl, Nat.le_of_ble_eq_true rfl⟩) (fun r_1 hr_1 => ?_)
    obtain rfl : r_1 = nI (hd_t r h j0 l0) := hr_1.trans (by rw [hv]; rfl)
    exact W.iret (v := (nI (hd_t r h j0 l0))) hx hb hr (fun t ht hW => ⟨(nI (hd_t r h j0 l0)), rfl, rfl, ht⟩) (fun q h => by cases h) dX1_told_51
  refine lv_iload_n hx hb dX1_told_0 rfl (lv_at hl 1 rfl) ?_
  refine lv_iload_n hx hb dX1_told_1 rfl (lv_at hl 2 rfl) ?_
  refine lv_icmp_ne (tgt := 14) hx hb dX1_told_2 (by decide) (fun hc => ?_) (fun hc => ?_)
  · have hne : ¬ j0 = l0 := fun h => hc (congrArg nI h)
    refine lv_iconst (v := nI 2) hx hb dX1_told_14 (by decide +kernel) ?_
    refine lv_aload_n hx hb dX1_told_15 rfl (lv_at hl 0 rfl) ?_
    refine va_get (D := (dC, dI)) (ci := 1) (v := .ref qh) (C := RX1) (T := TX1) (N := 3) hx hb hts in_X1 hown hK hP 0 rfl rfl 1 (by decide) (hts _ q86) (fun _ h9 => h9) rfl dX1_told_16 ?_
    refine lv_iload_n hx hb dX1_told_19 rfl (lv_at hl 1 rfl) ?_
    refine va_iald hx hb hK hP 2 1 rfl rfl (vp_in_nI hj0 (by decide)) dX1_told_20 ?_
    refine hd_top (nI (h j0)) (hd_rd _ (by omega)) ?_
    refine lv_imul hx hb dX1_told_21 ?_
    refine hd_top (nI (2 * (h j0))) (pk_mul _ _) ?_
    refine lv_aload_n hx hb dX1_told_22 rfl (lv_at hl 0 rfl) ?_
    refine va_get (D := (dC, dI)) (ci := 1) (v := .ref qh) (C := RX1) (T := TX1) (N := 3) hx hb hts in_X1 hown hK hP 0 rfl rfl 1 (by decide) (hts _ q86) (fun _ h9 => h9) rfl dX1_told_23 ?_
    refine lv_iload_n hx hb dX1_told_26 rfl (lv_at hl 2 rfl) ?_
    refine va_iald hx hb hK hP 2 1 rfl rfl (vp_in_nI hl0 (by decide)) dX1_told_27 ?_
    refine hd_top (nI (h l0)) (hd_rd _ (by omega)) ?_
    refine lv_iadd hx hb dX1_told_28 ?_
    refine hd_top (nI (2 * (h j0) + h l0)) (nI_add _ _) ?_
    exact k29 _ (if_neg hne).symm
  · have heq : j0 = l0 := (nI_eq (by omega) (by omega)).mp hc
    refine lv_aload_n hx hb dX1_told_5 rfl (lv_at hl 0 rfl) ?_
    refine va_get (D := (dC, dI)) (ci := 1) (v := .ref qh) (C := RX1) (T := TX1) (N := 3) hx hb hts in_X1 hown hK hP 0 rfl rfl 1 (by decide) (hts _ q86) (fun _ h9 => h9) rfl dX1_told_6 ?_
    refine lv_iload_n hx hb dX1_told_9 rfl (lv_at hl 2 rfl) ?_
    refine va_iald hx hb hK hP 2 1 rfl rfl (vp_in_nI hl0 (by decide)) dX1_told_10 ?_
    refine hd_top (nI (h l0)) (hd_rd _ (by omega)) ?_
    refine lv_goto (tgt := 29) hx hb dX1_told_11 (by decide) ?_
    exact k29 _ (if_pos heq).symm
set_option maxHeartbeats 4000000 in
set_option maxRecDepth 100000 in
/-- mend: the key, byte by byte -/
theorem metX1_mend (l : Launch) (dC : Nat → ClassId) (dI : Nat → Nat → Nat) (h0 qr qh qk : Nat) (cr ch ck : ClassId) (sz : Nat) (r h k : Nat → Nat) (hrb : ∀ j, r j < 12289) (hhb : ∀ j, h j < 4) : Met l yX1_mend (ws_ yX1_mend cX1_mend 7 none) ({ frames := 2, cells := 0, slots := 0, locals := 46 }) (va_Pc [.ref h0] (fun U => U.heap.size = sz ∧ va_P (dC, dI) vwCl [(h0, .inr (1, [.ref qr, .ref qh, .ref qk])), (qr, .inl (cr, 1024, .inl (hd_ar r))), (qh, .inl (ch, 1024, .inl (hd_ar h))), (qk, .inl (ck, 32, .inl (hd_ar k)))] U.heap ∧ va_K (dC, dI) vwCl [(cr, .int), (ch, .int), (ck, .int)] U ∧ va_D (fun _ => True) [(h0, .inr (1, [.ref qr, .ref qh, .ref qk])), (qr, .inl (cr, 1024, .inl (hd_ar r))), (qh, .inl (ch, 1024, .inl (hd_ar h))), (qk, .inl (ck, 32, .inl (hd_ar k)))])) (va_Qv (fun _ : Unit => True) (fun _ t => ∃ kk : Nat → Nat, (∀ j, j < 32 → kk j = hd_H (hd_b r h) j 8) ∧ va_P (dC, dI) vwCl [(h0, .inr (1, [.ref qr, .ref qh, .ref qk])), (qr, .inl (cr, 1024, .inl (hd_ar r))), (qh, .inl (ch, 1024, .inl (hd_ar h))), (qk, .inl (ck, 32, .inl (hd_ar kk)))] t.heap ∧ va_K (dC, dI) vwCl [(cr, .int), (ch, .int), (ck, .int)] t ∧ va_D (va_A [(h0, .inr (1, [.ref qr, .ref qh, .ref qk])), (qr, .inl (cr, 1024, .inl (hd_ar r))), (qh, .inl (ch, 1024, .inl (hd_ar h))), (qk, .inl (ck, 32, .inl (hd_ar k)))] sz) [(h0, .inr (1, [.ref qr, .ref qh, .ref qk])), (qr, .inl (cr, 1024, .inl (hd_ar r))), (qh, .inl (ch, 1024, .inl (hd_ar h))), (qk, .inl (ck, 32, .inl (hd_ar kk)))]) (va_A [(h0, .inr (1, [.ref qr, .ref qh, .ref qk])), (qr, .inl (cr, 1024, .inl (hd_ar r))), (qh, .inl (ch, 1024, .inl (hd_ar h))), (qk, .inl (ck, 32, .inl (hd_ar k)))] sz)) 0 0 (va_A [(h0, .inr (1, [.ref qr, .ref qh, .ref qk])), (qr, .inl (cr, 1024, .inl (hd_ar r))), (qh, .inl (ch, 1024, .inl (hd_ar h))), (qk, .inl (ck, 32, .inl (hd_ar k)))] sz) := by
  refine Met.ofW (cc := cX1_mend) (maxL := 7) (ret := none) (by decide) rfl ?_
  intro p e s m args below meth c s₁ B hml hv
  obtain ⟨rfl, hsz, hP, hK, hD0⟩ := hv
  have hx := B.exec
  have hb := B.bytes
  have hr := B.returns
  have hts := atoms_spec (ws := (ws_ yX1_mend cX1_mend 7 none)) B.pre
  have hts : ∀ w ∈ lw_all, w.before _ s = true := fun w h => hts w (List.mem_cons_of_mem _ h)
  have hown : s.vm.findClass RX1 = some m.cls := findClass_of_methodNamed B.named
  have hlocks := B.notSynchronized
  subst hsz
  have hD := hD0.self (sz := s.heap.size)
  generalize hAe : va_A [(h0, .inr (1, [.ref qr, .ref qh, .ref qk])), (qr, .inl (cr, 1024, .inl (hd_ar r))), (qh, .inl (ch, 1024, .inl (hd_ar h))), (qk, .inl (ck, 32, .inl (hd_ar k)))] s.heap.size = A at hD ⊢
  have hA : ∀ q : Nat, s.heap.size ≤ q → A q := fun q h => by rw [← hAe]; exact Or.inr h
  have hS : va_S A s.heap s.heap [] := va_S.rf
  have hP : va_P (dC, dI) vwCl [(h0, .inr (1, [.ref qr, .ref qh, .ref qk])), (qr, .inl (cr, 1024, .inl (hd_ar r))), (qh, .inl (ch, 1024, .inl (hd_ar h))), (qk, .inl (ck, 32, .inl (hd_ar k)))] s.heap := hP
  have hl := lv_entry ([.ref h0]) (n := 7) (Nat.le_of_ble_eq_true rfl)
  rw [lg_entry_eq]
  generalize (lg_sl ([.ref h0]) ++ List.replicate (7 - (lg_sl ([.ref h0])).length) Slot.unset).toArray = ls at hl ⊢
  have hl : lv_has ls 7 [(0, .ref h0)] := hl
  refine lv_iconst (v := nI 0) hx hb dX1_mend_0 (by decide +kernel) ?_
  refine lv_istore_n (lv' := [(1, .int (nI 0)), (0, .ref h0)]) hx hb dX1_mend_1 rfl hl (by decide) rfl (fun ls hl => ?_)
  have loop : ∀ (n u : Nat) (kk : Nat → Nat), u ≤ 32 → 33 ≤ u + n → (∀ j, j < u → kk j = hd_H (hd_b r h) j 8) → ∀ (H : Heap) (locs : List Loc) (ls : Array Slot), va_P (dC, dI) vwCl [(h0, .inr (1, [.ref qr, .ref qh, .ref qk])), (qr, .inl (cr, 1024, .inl (hd_ar r))), (qh, .inl (ch, 1024, .inl (hd_ar h))), (qk, .inl (ck, 32, .inl (hd_ar kk)))] H → va_D A [(h0, .inr (1, [.ref qr, .ref qh, .ref qk])), (qr, .inl (cr, 1024, .inl (hd_ar r))), (qh, .inl (ch, 1024, .inl (hd_ar h))), (qk, .inl (ck, 32, .inl (hd_ar kk)))] → va_S A s.heap H locs → lv_has ls 7 [(1, .int (nI u)), (0, .ref h0)] → W p l e (headSpec (ws_ yX1_mend cX1_mend 7 none) ({ frames := 2, cells := 0, slots := 0, locals := 46 })).room s m ([.ref h0] : List Value).toArray below meth c H locs 0 0 (MQ below (va_Qv (fun _ : Unit => True) (fun _ t => ∃ kk : Nat → Nat, (∀ j, j < 32 → kk j = hd_H (hd_b r h) j 8) ∧ va_P (dC, dI) vwCl [(h0, .inr (1, [.ref qr, .ref qh, .ref qk])), (qr, .inl (cr, 1024, .inl (hd_ar r))), (qh, .inl (ch, 1024, .inl (hd_ar h))), (qk, .inl (ck, 32, .inl (hd_ar kk)))] t.heap ∧ va_K (dC, dI) vwCl [(cr, .int), (ch, .int), (ck, .int)] t ∧ va_D A [(h0, .inr (1, [.ref qr, .ref qh, .ref qk])), (qr, .inl (cr, 1024, .inl (hd_ar r))), (qh, .inl (ch, 1024, .inl (hd_ar h))), (qk, .inl (ck, 32, .inl (hd_ar kk)))]) A) ([.ref h0] : List Value).toArray s 0 0 A) (F0 m 2 ls []) := by
    intro n
    induction n with
    | zero =>
      intro u kk h1 h2
      exact absurd h2 (by omega)
    | succ n ih =>
      intro u kk h1 h2 hkk H locs ls hP hD hS hl
      refine lv_iload_n hx hb dX1_mend_2 rfl (lv_at hl 0 rfl) ?_
      refine lv_bipush (v := nI 32) hx hb dX1_mend_3 (by decide +kernel) ?_
      refine lv_icmp_ge (tgt := 114) hx hb dX1_mend_5 (by decide) (fun hc => ?_) (fun hc => ?_)
      · have hi : u = 32 := by
          have := (nI_leI (by decide) (by omega)).mp hc
          omega
        subst hi
        have hP9 := hP.sub (ws' := [(h0, .inr (1, [.ref qr, .ref qh, .ref qk])), (qr, .inl (cr, 1024, .inl (hd_ar r))), (qh, .inl (ch, 1024, .inl (hd_ar h))), (qk, .inl (ck, 32, .inl (hd_ar kk)))]) [0, 1, 2, 3] rfl
        have hD9 := hD.sub (ws' := [(h0, .inr (1, [.ref qr, .ref qh, .ref qk])), (qr, .inl (cr, 1024, .inl (hd_ar r))), (qh, .inl (ch, 1024, .inl (hd_ar h))), (qk, .inl (ck, 32, .inl (hd_ar kk)))]) [0, 1, 2, 3] (by decide) rfl
        have hK9 := hK.sub (tys' := [(cr, .int), (ch, .int), (ck, .int)]) [0, 1, 2] rfl
        exact W.vret hx hb hr (fun t ht hW => ⟨⟨(), rfl, trivial, kk, hkk, by rw [ht]; exact hP9, va_K.moved hW.alike hK9, hD9⟩, hS.F ht⟩) hS.2.2 dX1_mend_114
      · have hu : u < 32 := by
          rcases Nat.lt_or_ge u 32 with h | h
          · exact h
          · exact absurd ((nI_leI (by decide) (by omega)).mpr h) hc
        refine lv_iconst (v := nI 0) hx hb dX1_mend_8 (by decide +kernel) ?_
        refine lv_istore_n (lv' := [(2, .int (nI 0)), (1, .int (nI u)), (0, .ref h0)]) hx hb dX1_mend_9 rfl hl (by decide) rfl (fun ls hl => ?_)
        refine lv_bipush (v := nI 7) hx hb dX1_mend_10 (by decide +kernel) ?_
        refine hd_top (nI (8 - 0) + (-1)) (hd_lt8) ?_
        refine lv_istore_n (lv' := [(3, .int (nI (8 - 0) + (-1))), (2, .int (nI 0)), (1, .int (nI u)), (0, .ref h0)]) hx hb dX1_mend_12 rfl hl (by decide) rfl (fun ls hl => ?_)
        have inner : ∀ (f t : Nat), t ≤ 8 → 9 ≤ t + f → ∀ (ls : Array Slot), lv_has ls 7 [(3, .int (nI (8 - t) + (-1))), (2, .int (nI (hd_H (hd_b r h) u t))), (1, .int (nI u)), (0, .ref h0)] → W p l e (headSpec (ws_ yX1_mend cX1_mend 7 none) ({ frames := 2, cells := 0, slots := 0, locals := 46 })).room s m ([.ref h0] : List Value).toArray below meth c H locs 0 0 (MQ below (va_Qv (fun _ : Unit => True) (fun _ t => ∃ kk : Nat → Nat, (∀ j, j < 32 → kk j = hd_H (hd_b r h) j 8) ∧ va_P (dC, dI) vwCl [(h0, .inr (1, [.ref qr, .ref qh, .ref qk])), (qr, .inl (cr, 1024, .inl (hd_ar r))), (qh, .inl (ch, 1024, .inl (hd_ar h))), (qk, .inl (ck, 32, .inl (hd_ar kk)))] t.heap ∧ va_K (dC, dI) vwCl [(cr, .int), (ch, .int), (ck, .int)] t ∧ va_D A [(h0, .inr (1, [.ref qr, .ref qh, .ref qk])), (qr, .inl (cr, 1024, .inl (hd_ar r))), (qh, .inl (ch, 1024, .inl (hd_ar h))), (qk, .inl (ck, 32, .inl (hd_ar kk)))]) A) ([.ref h0] : List Value).toArray s 0 0 A) (F0 m 13 ls []) := by
          intro f
          induction f with
          | zero =>
            intro t g1 g2
            exact absurd g2 (by omega)
          | succ f ihf =>
            intro t g1 g2 ls hl
            refine lv_iload_n hx hb dX1_mend_13 rfl (lv_at hl 0 rfl) ?_
            refine lv_if_lt (tgt := 101) hx hb dX1_mend_14 (by decide) (fun hx0 => ?_) (fun hx0 => ?_)
            · have ht : t = 8 := by
                rcases Nat.lt_or_ge t 8 with h | h
                · exact absurd hx0 (hd_lt0 t h)
                · omega
              subst ht
              refine lv_aload_n hx hb dX1_mend_101 rfl (lv_at hl 3 rfl) ?_
              refine va_get (D := (dC, dI)) (ci := 1) (v := .ref qk) (C := RX1) (T := TX1) (N := 3) hx hb hts in_X1 hown hK hP 0 rfl rfl 2 (by decide) (hts _ q87) (fun _ h9 => h9) rfl dX1_mend_102 ?_
              refine lv_iload_n hx hb dX1_mend_105 rfl (lv_at hl 2 rfl) ?_
              refine lv_iload_n hx hb dX1_mend_106 rfl (lv_at hl 1 rfl) ?_
              refine va_iast hx hb hK hP hD hS 3 2 rfl rfl (vp_in_nI hu (by decide)) dX1_mend_107 (fun H locs hP hD hS => ?_)
              rw [hd_upi kk (k := u) (hd_H (hd_b r h) u 8) (by omega)] at hP hD
              have hP : va_P (dC, dI) vwCl [(h0, .inr (1, [.ref qr, .ref qh, .ref qk])), (qr, .inl (cr, 1024, .inl (hd_ar r))), (qh, .inl (ch, 1024, .inl (hd_ar h))), (qk, .inl (ck, 32, .inl (hd_ar (hd_up kk u (hd_H (hd_b r h) u 8)))))] H := hP
              have hD : va_D A [(h0, .inr (1, [.ref qr, .ref qh, .ref qk])), (qr, .inl (cr, 1024, .inl (hd_ar r))), (qh, .inl (ch, 1024, .inl (hd_ar h))), (qk, .inl (ck, 32, .inl (hd_ar (hd_up kk u (hd_H (hd_b r h) u 8)))))] := hD
              refine lv_iinc (v := (nI (u + 1))) (lv' := [(1, .int (nI (u + 1))), (3, .int (nI (8 - 8) + (-1))), (2, .int (nI (hd_H (hd_b r h) u 8))), (0, .ref h0)]) hx hb dX1_mend_108 hl (k := 2) rfl (nI_1 u) (by decide) rfl (fun ls hl => ?_)
              refine lv_goto (tgt := 2) hx hb dX1_mend_111 (by decide) ?_
              refine ih (u + 1) _ hu (by omega) ?_ _ _ ls hP hD hS (lv_sub hl [0, 3] rfl)
              intro j hj
              by_cases e : j = u
              · rw [e, hd_up_s]
              · rw [hd_up_n _ _ e]
                exact hkk j (by omega)
            · have ht : t < 8 := by
                rcases Nat.lt_or_ge t 8 with h | h
                · exact h
                · exact absurd (show nI (8 - t) + (-1) < 0 from by rw [show t = 8 from by omega]; exact hd_m1) hx0
              obtain ⟨i, hi⟩ : ∃ i, i = 8 * u + (7 - t) := ⟨_, rfl⟩
              have bi : i < 256 := by omega
              refine lv_bipush (v := nI 8) hx hb dX1_mend_17 (by decide +kernel) ?_
              refine lv_iload_n hx hb dX1_mend_19 rfl (lv_at hl 2 rfl) ?_
              refine lv_imul hx hb dX1_mend_20 ?_
              refine hd_top (nI (8 * u)) (pk_mul _ _) ?_
              refine lv_iload_n hx hb dX1_mend_21 rfl (lv_at hl 0 rfl) ?_
              refine hd_top (nI (7 - t)) (hd_d8 ht) ?_
              refine lv_iadd hx hb dX1_mend_22 ?_
              refine hd_top (nI i) ((nI_add _ _).trans (congrArg nI hi.symm)) ?_
              refine lv_istore (lv' := [(4, .int (nI i)), (3, .int (nI (8 - t) + (-1))), (2, .int (nI (hd_H (hd_b r h) u t))), (1, .int (nI u)), (0, .ref h0)]) hx hb dX1_mend_23 hl (by decide) rfl (fun ls hl => ?_)
              refine lv_sipush (v := nI 768) hx hb dX1_mend_25 (by decide +kernel) ?_
              refine lv_iload hx hb dX1_mend_28 (lv_at hl 0 rfl) ?_
              refine lv_iadd hx hb dX1_mend_30 ?_
              refine hd_top (nI (768 + i)) (nI_add _ _) ?_
              refine lv_istore (lv' := [(5, .int (nI (768 + i))), (4, .int (nI i)), (3, .int (nI (8 - t) + (-1))), (2, .int (nI (hd_H (hd_b r h) u t))), (1, .int (nI u)), (0, .ref h0)]) hx hb dX1_mend_31 hl (by decide) rfl (fun ls hl => ?_)
              refine lv_aload_n hx hb dX1_mend_33 rfl (lv_at hl 5 rfl) ?_
              refine lv_iload hx hb dX1_mend_34 (lv_at hl 1 rfl) ?_
              refine lv_iload hx hb dX1_mend_36 (lv_at hl 0 rfl) ?_
              have hPc := hP.sub (ws' := [(h0, .inr (1, [.ref qr, .ref qh, .ref qk])), (qr, .inl (cr, 1024, .inl (hd_ar r))), (qh, .inl (ch, 1024, .inl (hd_ar h))), (qk, .inl (ck, 32, .inl (hd_ar kk)))]) [0, 1, 2, 3] rfl
              have hKc := hK.sub (tys' := [(cr, .int), (ch, .int), (ck, .int)]) [0, 1, 2] rfl
              refine vp_callSi (W.runV (As := [.int (nI i), .int (nI (768 + i))]) (rest := []) ⟨hx, hb, hml, hown, hts⟩ (metX1_told l dC dI h0 qr qh qk cr ch ck r h kk hrb hhb i (768 + i) (by omega) (by omega)) (cwV 2 hts (lw_V q116 q118 qs0 q3 q119) rfl rfl rfl (by decide +kernel) ⟨Nat.le_of_ble_eq_true rfl, Nat.le_of_ble_eq_true rfl⟩) ⟨fun a U g mk q => by obtain ⟨q0, qP, qK⟩ := q; exact ⟨q0, qP, va_K.moved (u := U) (U := U.calling g mk a) (Vm.Alike.refl U.vm) qK⟩, va_recv hKc hPc (ci := 1) (q0 := 0) rfl rfl, fun U hU hW => ⟨rfl, by rw [hU]; exact hPc, va_K.moved hW.alike hKc⟩⟩ rfl rfl hl.1 rfl (lv_room (Nat.le_of_ble_eq_true rfl)) dX1_mend_38 ⟨Nat.le_of_ble_eq_true rfl, Nat.le_of_ble_eq_true rfl⟩) (fun r_0 hr_0 => ?_)
              obtain rfl : r_0 = nI (hd_t r h i (768 + i)) := hr_0
              refine lv_aload_n hx hb dX1_mend_41 rfl (lv_at hl 5 rfl) ?_
              refine lv_sipush (v := nI 256) hx hb dX1_mend_42 (by decide +kernel) ?_
              refine lv_iload hx hb dX1_mend_45 (lv_at hl 1 rfl) ?_
              refine lv_iadd hx hb dX1_mend_47 ?_
              refine hd_top (nI (256 + i)) (nI_add _ _) ?_
              refine lv_iload hx hb dX1_mend_48 (lv_at hl 0 rfl) ?_
              have hPc := hP.sub (ws' := [(h0, .inr (1, [.ref qr, .ref qh, .ref qk])), (qr, .inl (cr, 1024, .inl (hd_ar r))), (qh, .inl (ch, 1024, .inl (hd_ar h))), (qk, .inl (ck, 32, .inl (hd_ar kk)))]) [0, 1, 2, 3] rfl
              have hKc := hK.sub (tys' := [(cr, .int), (ch, .int), (ck, .int)]) [0, 1, 2] rfl
              refine vp_callSi (W.runV (As := [.int (nI (256 + i)), .int (nI (768 + i))]) (rest := [.int (nI (hd_t r h i (768 + i)))]) ⟨hx, hb, hml, hown, hts⟩ (metX1_told l dC dI h0 qr qh qk cr ch ck r h kk hrb hhb (256 + i) (768 + i) (by omega) (by omega)) (cwV 2 hts (lw_V q116 q118 qs0 q3 q119) rfl rfl rfl (by decide +kernel) ⟨Nat.le_of_ble_eq_true rfl, Nat.le_of_ble_eq_true rfl⟩) ⟨fun a U g mk q => by obtain ⟨q0, qP, qK⟩ := q; exact ⟨q0, qP, va_K.moved (u := U) (U := U.calling g mk a) (Vm.Alike.refl U.vm) qK⟩, va_recv hKc hPc (ci := 1) (q0 := 0) rfl rfl, fun U hU hW => ⟨rfl, by rw [hU]; exact hPc, va_K.moved hW.alike hKc⟩⟩ rfl rfl hl.1 rfl (lv_room (Nat.le_of_ble_eq_true rfl)) dX1_mend_50 ⟨Nat.le_of_ble_eq_true rfl, Nat.le_of_ble_eq_true rfl⟩) (fun r_1 hr_1 => ?_)
              obtain rfl : r_1 = nI (hd_t r h (256 + i) (768 + i)) := hr_1
              refine lv_iadd hx hb dX1_mend_53 ?_
              refine hd_top (nI (hd_t r h i (768 + i) + hd_t r h (256 + i) (768 + i))) (nI_add _ _) ?_
              refine lv_aload_n hx hb dX1_mend_54 rfl (lv_at hl 5 rfl) ?_
              refine lv_sipush (v := nI 512) hx hb dX1_mend_55 (by decide +kernel) ?_
              refine lv_iload hx hb dX1_mend_58 (lv_at hl 1 rfl) ?_
              refine lv_iadd hx hb dX1_mend_60 ?_
              refine hd_top (nI (512 + i)) (nI_add _ _) ?_
              refine lv_iload hx hb dX1_mend_61 (lv_at hl 0 rfl) ?_
              have hPc := hP.sub (ws' := [(h0, .inr (1, [.ref qr, .ref qh, .ref qk])), (qr, .inl (cr, 1024, .inl (hd_ar r))), (qh, .inl (ch, 1024, .inl (hd_ar h))), (qk, .inl (ck, 32, .inl (hd_ar kk)))]) [0, 1, 2, 3] rfl
              have hKc := hK.sub (tys' := [(cr, .int), (ch, .int), (ck, .int)]) [0, 1, 2] rfl
              refine vp_callSi (W.runV (As := [.int (nI (512 + i)), .int (nI (768 + i))]) (rest := [.int (nI (hd_t r h i (768 + i) + hd_t r h (256 + i) (768 + i)))]) ⟨hx, hb, hml, hown, hts⟩ (metX1_told l dC dI h0 qr qh qk cr ch ck r h kk hrb hhb (512 + i) (768 + i) (by omega) (by omega)) (cwV 2 hts (lw_V q116 q118 qs0 q3 q119) rfl rfl rfl (by decide +kernel) ⟨Nat.le_of_ble_eq_true rfl, Nat.le_of_ble_eq_true rfl⟩) ⟨fun a U g mk q => by obtain ⟨q0, qP, qK⟩ := q; exact ⟨q0, qP, va_K.moved (u := U) (U := U.calling g mk a) (Vm.Alike.refl U.vm) qK⟩, va_recv hKc hPc (ci := 1) (q0 := 0) rfl rfl, fun U hU hW => ⟨rfl, by rw [hU]; exact hPc, va_K.moved hW.alike hKc⟩⟩ rfl rfl hl.1 rfl (lv_room (Nat.le_of_ble_eq_true rfl)) dX1_mend_63 ⟨Nat.le_of_ble_eq_true rfl, Nat.le_of_ble_eq_true rfl⟩) (fun r_2 hr_2 => ?_)
              obtain rfl : r_2 = nI (hd_t r h (512 + i) (768 + i)) := hr_2
              refine lv_iadd hx hb dX1_mend_66 ?_
              refine hd_top (nI (hd_t r h i (768 + i) + hd_t r h (256 + i) (768 + i) + hd_t r h (512 + i) (768 + i))) (nI_add _ _) ?_
              refine lv_aload_n hx hb dX1_mend_67 rfl (lv_at hl 5 rfl) ?_
              refine lv_iload hx hb dX1_mend_68 (lv_at hl 0 rfl) ?_
              refine lv_iload hx hb dX1_mend_70 (lv_at hl 0 rfl) ?_
              have hPc := hP.sub (ws' := [(h0, .inr (1, [.ref qr, .ref qh, .ref qk])), (qr, .inl (cr, 1024, .inl (hd_ar r))), (qh, .inl (ch, 1024, .inl (hd_ar h))), (qk, .inl (ck, 32, .inl (hd_ar kk)))]) [0, 1, 2, 3] rfl
              have hKc := hK.sub (tys' := [(cr, .int), (ch, .int), (ck, .int)]) [0, 1, 2] rfl
              refine vp_callSi (W.runV (As := [.int (nI (768 + i)), .int (nI (768 + i))]) (rest := [.int (nI (hd_t r h i (768 + i) + hd_t r h (256 + i) (768 + i) + hd_t r h (512 + i) (768 + i)))]) ⟨hx, hb, hml, hown, hts⟩ (metX1_told l dC dI h0 qr qh qk cr ch ck r h kk hrb hhb (768 + i) (768 + i) (by omega) (by omega)) (cwV 2 hts (lw_V q116 q118 qs0 q3 q119) rfl rfl rfl (by decide +kernel) ⟨Nat.le_of_ble_eq_true rfl, Nat.le_of_ble_eq_true rfl⟩) ⟨fun a U g mk q => by obtain ⟨q0, qP, qK⟩ := q; exact ⟨q0, qP, va_K.moved (u := U) (U := U.calling g mk a) (Vm.Alike.refl U.vm) qK⟩, va_recv hKc hPc (ci := 1) (q0 := 0) rfl rfl, fun U hU hW => ⟨rfl, by rw [hU]; exact hPc, va_K.moved hW.alike hKc⟩⟩ rfl rfl hl.1 rfl (lv_room (Nat.le_of_ble_eq_true rfl)) dX1_mend_72 ⟨Nat.le_of_ble_eq_true rfl, Nat.le_of_ble_eq_true rfl⟩) (fun r_3 hr_3 => ?_)
              obtain rfl : r_3 = nI (hd_t r h (768 + i) (768 + i)) := hr_3
              refine lv_iadd hx hb dX1_mend_75 ?_
              refine hd_top (nI (hd_t r h i (768 + i) + hd_t r h (256 + i) (768 + i) + hd_t r h (512 + i) (768 + i) + hd_t r h (768 + i) (768 + i))) (nI_add _ _) ?_
              refine lv_istore (lv' := [(6, .int (nI (hd_t r h i (768 + i) + hd_t r h (256 + i) (768 + i) + hd_t r h (512 + i) (768 + i) + hd_t r h (768 + i) (768 + i)))), (5, .int (nI (768 + i))), (4, .int (nI i)), (3, .int (nI (8 - t) + (-1))), (2, .int (nI (hd_H (hd_b r h) u t))), (1, .int (nI u)), (0, .ref h0)]) hx hb dX1_mend_76 hl (by decide) rfl (fun ls hl => ?_)
              refine lv_iconst (v := nI 2) hx hb dX1_mend_78 (by decide +kernel) ?_
              refine lv_iload_n hx hb dX1_mend_79 rfl (lv_at hl 4 rfl) ?_
              refine lv_imul hx hb dX1_mend_80 ?_
              refine hd_top (nI (2 * (hd_H (hd_b r h) u t))) (pk_mul _ _) ?_
              refine lv_iload hx hb dX1_mend_81 (lv_at hl 0 rfl) ?_
              refine lv_ldc (v := nI 98312) hx hb hown (hts _ q124) dX1_mend_83 ?_
              have hs0 := hd_d_le (196624 + 8 * r i - 12289 * (if i = 768 + i then h (768 + i) else 2 * h i + h (768 + i)))
              have hs1 := hd_d_le (196624 + 8 * r (256 + i) - 12289 * (if (256 + i) = 768 + i then h (768 + i) else 2 * h (256 + i) + h (768 + i)))
              have hs2 := hd_d_le (196624 + 8 * r (512 + i) - 12289 * (if (512 + i) = 768 + i then h (768 + i) else 2 * h (512 + i) + h (768 + i)))
              have hs3 := hd_d_le (196624 + 8 * r (768 + i) - 12289 * (if (768 + i) = 768 + i then h (768 + i) else 2 * h (768 + i) + h (768 + i)))
              have hs0 : hd_t r h i (768 + i) ≤ 49156 := hs0
              have hs1 : hd_t r h (256 + i) (768 + i) ≤ 49156 := hs1
              have hs2 : hd_t r h (512 + i) (768 + i) ≤ 49156 := hs2
              have hs3 : hd_t r h (768 + i) (768 + i) ≤ 49156 := hs3
              have k93 : ∀ v : Nat, v = hd_b r h i → W p l e (headSpec (ws_ yX1_mend cX1_mend 7 none) ({ frames := 2, cells := 0, slots := 0, locals := 46 })).room s m ([.ref h0] : List Value).toArray below meth c H locs 0 0 (MQ below (va_Qv (fun _ : Unit => True) (fun _ t => ∃ kk : Nat → Nat, (∀ j, j < 32 → kk j = hd_H (hd_b r h) j 8) ∧ va_P (dC, dI) vwCl [(h0, .inr (1, [.ref qr, .ref qh, .ref qk])), (qr, .inl (cr, 1024, .inl (hd_ar r))), (qh, .inl (ch, 1024, .inl (hd_ar h))), (qk, .inl (ck, 32, .inl (hd_ar kk)))] t.heap ∧ va_K (dC, dI) vwCl [(cr, .int), (ch, .int), (ck, .int)] t ∧ va_D A [(h0, .inr (1, [.ref qr, .ref qh, .ref qk])), (qr, .inl (cr, 1024, .inl (hd_ar r))), (qh, .inl (ch, 1024, .inl (hd_ar h))), (qk, .inl (ck, 32, .inl (hd_ar kk)))]) A) ([.ref h0] : List Value).toArray s 0 0 A) (F0 m 93 ls [.int (nI v), .int (nI (2 * (hd_H (hd_b r h) u t)))]) := by
                intro v hv
                refine lv_iadd hx hb dX1_mend_93 ?_
                refine hd_top (nI (hd_H (hd_b r h) u (t + 1))) ((nI_add _ _).trans (by rw [hv, hi]; rfl)) ?_
                refine lv_istore_n (lv' := [(2, .int (nI (hd_H (hd_b r h) u (t + 1)))), (6, .int (nI (hd_t r h i (768 + i) + hd_t r h (256 + i) (768 + i) + hd_t r h (512 + i) (768 + i) + hd_t r h (768 + i) (768 + i)))), (5, .int (nI (768 + i))), (4, .int (nI i)), (3, .int (nI (8 - t) + (-1))), (1, .int (nI u)), (0, .ref h0)]) hx hb dX1_mend_94 rfl hl (by decide) rfl (fun ls hl => ?_)
                refine lv_iinc (v := (nI (8 - (t + 1)) + (-1))) (lv' := [(3, .int (nI (8 - (t + 1)) + (-1))), (2, .int (nI (hd_H (hd_b r h) u (t + 1)))), (6, .int (nI (hd_t r h i (768 + i) + hd_t r h (256 + i) (768 + i) + hd_t r h (512 + i) (768 + i) + hd_t r h (768 + i) (768 + i)))), (5, .int (nI (768 + i))), (4, .int (nI i)), (1, .int (nI u)), (0, .ref h0)]) hx hb dX1_mend_95 hl (k := 4) rfl (hd_d8' ht) (by decide) rfl (fun ls hl => ?_)
                refine lv_goto (tgt := 13) hx hb dX1_mend_98 (by decide) ?_
                exact ihf (t + 1) ht (by omega) ls (lv_sub hl [0, 1, 5, 6] rfl)
              refine lv_icmp_ge (tgt := 92) hx hb dX1_mend_85 (by decide) (fun hg => ?_) (fun hg => ?_)
              · have hj : 98312 ≤ hd_t r h i (768 + i) + hd_t r h (256 + i) (768 + i) + hd_t r h (512 + i) (768 + i) + hd_t r h (768 + i) (768 + i) := (nI_leI (by omega) (by omega)).mp hg
                refine lv_iconst (v := nI 0) hx hb dX1_mend_92 (by decide +kernel) ?_
                exact k93 _ (if_neg (Nat.not_lt.mpr hj)).symm
              · have hj : hd_t r h i (768 + i) + hd_t r h (256 + i) (768 + i) + hd_t r h (512 + i) (768 + i) + hd_t r h (768 + i) (768 + i) < 98312 := Nat.lt_of_not_le (fun h => hg ((nI_leI (by omega) (by omega)).mpr h))
                refine lv_iconst (v := nI 1) hx hb dX1_mend_88 (by decide +kernel) ?_
                refine lv_goto (tgt := 93) hx hb dX1_mend_89 (by decide) ?_
                exact k93 _ (if_pos hj).symm
        exact inner 9 0 (by omega) (by omega) ls (lv_sub hl [0, 1, 2, 3] rfl)
  exact loop 33 0 k (by omega) (by omega) (fun j h => absurd h (Nat.not_lt_zero j)) _ _ ls hP hD hS (lv_sub hl [0, 1] rfl)
set_option maxHeartbeats 4000000 in
set_option maxRecDepth 100000 in
/-- key(i) -/
theorem metX1_key (l : Launch) (dC : Nat → ClassId) (dI : Nat → Nat → Nat) (h0 qr qh qk : Nat) (cr ch ck : ClassId) (r h k : Nat → Nat) (p0 : Int32) : Met l yX1_key (ws_ yX1_key cX1_key 2 (some .int)) ({ frames := 0, cells := 0, slots := 0, locals := 0 }) (va_Pc [.ref h0, .int p0] (fun U => va_P (dC, dI) vwCl [(h0, .inr (1, [.ref qr, .ref qh, .ref qk])), (qr, .inl (cr, 1024, .inl (hd_ar r))), (qh, .inl (ch, 1024, .inl (hd_ar h))), (qk, .inl (ck, 32, .inl (hd_ar k)))] U.heap ∧ va_K (dC, dI) vwCl [(cr, .int), (ch, .int), (ck, .int)] U)) (vp_Si (fun r9 : Int32 => r9 = nI (k (hd_j p0)))) 0 0 (fun _ => False) := by
  refine Met.ofW (cc := cX1_key) (maxL := 2) (ret := (some .int)) (by decide) rfl ?_
  intro p e s m args below meth c s₁ B hml hv
  obtain ⟨rfl, hP, hK⟩ := hv
  have hx := B.exec
  have hb := B.bytes
  have hr := B.returns
  have hts := atoms_spec (ws := (ws_ yX1_key cX1_key 2 (some .int))) B.pre
  have hts : ∀ w ∈ lw_all, w.before _ s = true := fun w h => hts w (List.mem_cons_of_mem _ h)
  have hown : s.vm.findClass RX1 = some m.cls := findClass_of_methodNamed B.named
  have hlocks := B.notSynchronized
  have hl := lv_entry ([.ref h0, .int p0]) (n := 2) (Nat.le_of_ble_eq_true rfl)
  rw [lg_entry_eq]
  generalize (lg_sl ([.ref h0, .int p0]) ++ List.replicate (2 - (lg_sl ([.ref h0, .int p0])).length) Slot.unset).toArray = ls at hl ⊢
  have hl : lv_has ls 2 [(0, .ref h0), (1, .int p0)] := hl
  refine lv_aload_n hx hb dX1_key_0 rfl (lv_at hl 0 rfl) ?_
  refine va_get (D := (dC, dI)) (ci := 1) (v := .ref qk) (C := RX1) (T := TX1) (N := 3) hx hb hts in_X1 hown hK hP 0 rfl rfl 2 (by decide) (hts _ q87) (fun _ h9 => h9) rfl dX1_key_1 ?_
  refine lv_iload_n hx hb dX1_key_4 rfl (lv_at hl 1 rfl) ?_
  refine lv_bipush (v := nI 31) hx hb dX1_key_5 (by decide +kernel) ?_
  refine lv_iand hx hb dX1_key_7 ?_
  refine hd_top (nI (hd_j p0)) (hd_jE p0) ?_
  refine va_iald hx hb hK hP 3 2 rfl rfl (vp_in_nI (hd_j_lt p0) (by decide)) dX1_key_8 ?_
  refine hd_top (nI (k (hd_j p0))) (hd_rd _ (Nat.lt_trans (hd_j_lt p0) (by decide))) ?_
  exact W.iret (v := (nI (k (hd_j p0)))) hx hb hr (fun t ht hW => ⟨(nI (k (hd_j p0))), rfl, rfl, ht⟩) (fun q h => by cases h) dX1_key_9
set_option maxHeartbeats 4000000 in
set_option maxRecDepth 100000 in
/-- get(i) -/
theorem metX1_get (l : Launch) (dC : Nat → ClassId) (dI : Nat → Nat → Nat) (h0 qr qh qk : Nat) (cr ch ck : ClassId) (r h k : Nat → Nat) (p0 : Int32) : Met l yX1_get (ws_ yX1_get cX1_get 2 (some .int)) ({ frames := 0, cells := 0, slots := 0, locals := 0 }) (va_Pc [.ref h0, .int p0] (fun U => va_P (dC, dI) vwCl [(h0, .inr (1, [.ref qr, .ref qh, .ref qk])), (qr, .inl (cr, 1024, .inl (hd_ar r))), (qh, .inl (ch, 1024, .inl (hd_ar h))), (qk, .inl (ck, 32, .inl (hd_ar k)))] U.heap ∧ va_K (dC, dI) vwCl [(cr, .int), (ch, .int), (ck, .int)] U)) (vp_Si (fun r9 : Int32 => r9 = nI (r (hd_i p0)))) 0 0 (fun _ => False) := by
  refine Met.ofW (cc := cX1_get) (maxL := 2) (ret := (some .int)) (by decide) rfl ?_
  intro p e s m args below meth c s₁ B hml hv
  obtain ⟨rfl, hP, hK⟩ := hv
  have hx := B.exec
  have hb := B.bytes
  have hr := B.returns
  have hts := atoms_spec (ws := (ws_ yX1_get cX1_get 2 (some .int))) B.pre
  have hts : ∀ w ∈ lw_all, w.before _ s = true := fun w h => hts w (List.mem_cons_of_mem _ h)
  have hown : s.vm.findClass RX1 = some m.cls := findClass_of_methodNamed B.named
  have hlocks := B.notSynchronized
  have hl := lv_entry ([.ref h0, .int p0]) (n := 2) (Nat.le_of_ble_eq_true rfl)
  rw [lg_entry_eq]
  generalize (lg_sl ([.ref h0, .int p0]) ++ List.replicate (2 - (lg_sl ([.ref h0, .int p0])).length) Slot.unset).toArray = ls at hl ⊢
  have hl : lv_has ls 2 [(0, .ref h0), (1, .int p0)] := hl
  refine lv_aload_n hx hb dX1_get_0 rfl (lv_at hl 0 rfl) ?_
  refine va_get (D := (dC, dI)) (ci := 1) (v := .ref qr) (C := RX1) (T := TX1) (N := 3) hx hb hts in_X1 hown hK hP 0 rfl rfl 0 (by decide) (hts _ q85) (fun _ h9 => h9) rfl dX1_get_1 ?_
  refine lv_iload_n hx hb dX1_get_4 rfl (lv_at hl 1 rfl) ?_
  refine lv_sipush (v := nI 1023) hx hb dX1_get_5 (by decide +kernel) ?_
  refine lv_iand hx hb dX1_get_8 ?_
  refine hd_top (nI (hd_i p0)) (hd_iE p0) ?_
  refine va_iald hx hb hK hP 1 0 rfl rfl (vp_in_nI (hd_i_lt p0) (by decide)) dX1_get_9 ?_
  refine hd_top (nI (r (hd_i p0))) (hd_rd _ (Nat.lt_trans (hd_i_lt p0) (by decide))) ?_
  exact W.iret (v := (nI (r (hd_i p0)))) hx hb hr (fun t ht hW => ⟨(nI (r (hd_i p0))), rfl, rfl, ht⟩) (fun q h => by cases h) dX1_get_10
end
section
/-! THE CLAIM OUT OF ONE WALK OF THE LAW'S BODY. Your part is whole_start (and what it stands on); all else here is the same for every law, but numbers. -/
def R_law : String := "HopeMendDeskLaw"
def lw_P (b : Addr) (xs : List Int32) (args : Array Value) (s : State) : Prop := args = #[.ref b] ∧ s.IntsAt b xs ∧ xs.length ≤ 48 ∧ (Jvm.Cond.and given_1 narrow_1).before args s = true
def lw_Q (_ : Array Value) (s : State) (o : Outcome) (t : State) : Prop := o = .returned (some (.int 1)) ∧ Framed s o t [] 1200000 5502250
def lw_Z (below : List Frame) (a : Array Value) (s : State) : State → Prop := fun t => ∃ o, t.status = .running ∧ Ended t below o ∧ lw_Q a s o t
/-- the law's own end, with 1 on the stack, nothing written that was there before, its room as the claim has it -/
theorem lw_ret {p : Program} {l : Launch} {e : Env} {s : State} {m : MethodId} {below : List Frame} {meth : Method} {c : Code} {b : Nat} (hx : p.tables.exec = Jvm.exec) (hb : c.code = code) (hr : meth.sig.returnType = ret) (hlocks : meth.locks = false) {pc : Nat} {H : Heap} {ls : Array Slot} (hdg : decode code pc = .ok (.ireturn, 1)) : W p l e room_1 s m #[Value.ref b] below meth c H [] 1200000 5502250 (lw_Z below #[Value.ref b] s) (F0 m pc ls [.int 1]) := by
  intro T hT X
  obtain ⟨fs, hret, hrun, hended, hW, hframe⟩ := X.leave (v := some (.int 1)) (hlocks := hlocks) (fun h => by rw [hr] at h; cases h)
  have hmeth' : T.vm.method? m = some meth := X.method'
  refine ⟨T.setFrames fs, ?_, .returned (some (.int 1)), hrun, hended, rfl, ⟨_, rfl⟩, hW, hframe⟩
  jvm_step X.here [X.here.top, hx, hb, hdg, hmeth', hr, ret, narrow_b1]
  (try refine ⟨rfl, ?_⟩); (try refine ⟨rfl, ?_⟩)
  first | (intro acts; rw [hret _ acts rfl rfl rfl]) | rw [hret _ _ rfl rfl rfl]
  exact Steps.refl _
/-- what holds at the law's entry: the machine, the code, the tables' words (any of lw_tbl by 'hts w (by decide +kernel)'), the script of L ints xs at the cell b, what the Statement gives of the start (any of its parts by flat_of_before) -/
def lw_At (p : Program) (s : State) (m : MethodId) (meth : Method) (c : Code) (b L : Nat) (xs : Nat → Int32) : Prop :=
  p.tables.exec = Jvm.exec ∧ c.code = code ∧ meth.sig.returnType = ret ∧ c.maxLocals = 4 ∧ s.vm.findClass R_law = some m.cls ∧ (∀ w ∈ lw_tbl, w.before #[Value.ref b] s = true) ∧ va_X b L xs s s.heap ∧ b < s.heap.size ∧ meth.locks = false ∧ (Jvm.Cond.and given_1 narrow_1).before #[Value.ref b] s = true
set_option maxHeartbeats 4000000 in
set_option maxRecDepth 100000 in
/-- the law's loop: at its head, behind j calls, both desks hold the same row and help, and keys that agree -/
theorem hd_loop {p : Program} {l : Launch} {e : Env} {s : State} {m : MethodId} {below : List Frame} {meth : Method} {c : Code} {dC : Nat → ClassId} {dI : Nat → Nat → Nat} {b L : Nat} {xs : Nat → Int32} (hL : L ≤ 48) (C0 : lw_At p s m meth c b L xs) :
    ∀ (n j : Nat), 6 * j ≤ L → L < 6 * (j + n) → ∀ (r h kx km : Nat → Nat), (∀ i, r i < 12289) → (∀ i, h i < 4) → (∀ i, i < 32 → kx i = km i ∧ km i < 256) → ∀ (x0 xr xh xk m0 mr mh mk : Nat) (cxr cxh cxk cmr cmh cmk : ClassId) (H : Heap) (locs : List Loc), va_K (dC, dI) vwCl [(cxr, .short), (cxh, .short), (cxk, .byte), (cmr, .int), (cmh, .int), (cmk, .int)] s → va_P (dC, dI) vwCl [(x0, .inr (0, [.ref xr, .ref xh, .ref xk])), (xr, .inl (cxr, 1024, .inl (hd_ar r))), (xh, .inl (cxh, 1024, .inl (hd_ar h))), (xk, .inl (cxk, 32, .inl (hd_bt kx))), (m0, .inr (1, [.ref mr, .ref mh, .ref mk])), (mr, .inl (cmr, 1024, .inl (hd_ar r))), (mh, .inl (cmh, 1024, .inl (hd_ar h))), (mk, .inl (cmk, 32, .inl (hd_ar km)))] H → va_D (fun q : Nat => s.heap.size ≤ q) [(x0, .inr (0, [.ref xr, .ref xh, .ref xk])), (xr, .inl (cxr, 1024, .inl (hd_ar r))), (xh, .inl (cxh, 1024, .inl (hd_ar h))), (xk, .inl (cxk, 32, .inl (hd_bt kx))), (m0, .inr (1, [.ref mr, .ref mh, .ref mk])), (mr, .inl (cmr, 1024, .inl (hd_ar r))), (mh, .inl (cmh, 1024, .inl (hd_ar h))), (mk, .inl (cmk, 32, .inl (hd_ar km)))] → va_S (fun q : Nat => s.heap.size ≤ q) s.heap H locs → ∀ (ls : Array Slot), lv_has ls 4 [(3, .int (nI (6 * j))), (0, .ref b), (1, .ref x0), (2, .ref m0)] → W p l e room_1 s m #[Value.ref b] below meth c H locs (8 + 2 * j) (4166 + 36 * j) (lw_Z below #[Value.ref b] s) (F0 m 18 ls []) := by
  obtain ⟨hx, hb, hr, hml, hown, hts0, hX, hbl, hlocks, hgv⟩ := C0
  have hts : ∀ w ∈ lw_all, w.before #[Value.ref b] s = true := fun w h => hts0 w (lw_all_tbl h)
  have hA : ∀ q : Nat, s.heap.size ≤ q → (fun q : Nat => s.heap.size ≤ q) q := fun _ h => h
  have hbA : ¬ (fun q : Nat => s.heap.size ≤ q) b := Nat.not_le.mpr hbl
  intro n
  induction n with
  | zero =>
    intro j h1 h2
    exact absurd h2 (by omega)
  | succ n ih =>
    intro j h1 h2 r h kx km hrb hhb hkk x0 xr xh xk m0 mr mh mk cxr cxh cxk cmr cmh cmk H locs hK hP hD hS ls hl
    refine lv_iload_n hx hb dL_law_18 rfl (lv_at hl 0 rfl) ?_
    refine lv_aload_n hx hb dL_law_19 rfl (lv_at hl 1 rfl) ?_
    refine va_slen hx hb hX hbl hbA hS dL_law_20 ?_
    refine hd_top (nI L) (rfl) ?_
    refine lv_bipush (v := nI 6) hx hb dL_law_21 (by decide +kernel) ?_
    refine lv_isub hx hb dL_law_23 ?_
    refine lv_icmp_gt (tgt := 273) hx hb dL_law_24 (by decide) (fun hc => ?_) (fun hc => ?_)
    · refine lv_iconst (v := 1) hx hb dL_law_273 (by decide) ?_
      refine va_forget (fun q hq => hS.2.2 q hq) ?_
      refine W.widen (k := 1200000) (n := 5502250) (by omega) (by omega) ?_
      exact lw_ret hx hb hr hlocks dL_law_274
    · have hlt : 6 * j + 6 ≤ L := by
        rw [Int32.lt_iff_toInt_lt, pk_sub_toInt (by omega) (by decide), nI_toInt (by omega)] at hc
        omega
      refine lv_aload_n hx hb dL_law_27 rfl (lv_at hl 1 rfl) ?_
      refine lv_iload_n hx hb dL_law_28 rfl (lv_at hl 0 rfl) ?_
      refine va_sld hx hb hX hbl hbA hS (vp_in_nI (show 6 * j < L from by omega) (by omega)) dL_law_29 ?_
      refine hd_top (xs (6 * j)) (congrArg xs (nI_clamp (by omega))) ?_
      refine lv_bipush (v := nI 7) hx hb dL_law_30 (by decide +kernel) ?_
      obtain ⟨z, hz, ez⟩ := pk_andE (xs (6 * j)) (m := nI 7) 3 (by decide +kernel)
      refine lv_iand hx hb dL_law_32 ?_
      refine hd_top (nI z) (ez) ?_
      rcases (show z = 0 ∨ z = 1 ∨ z = 2 ∨ z = 3 ∨ z = 4 ∨ z = 5 ∨ z = 6 ∨ z = 7 from by omega) with rfl | rfl | rfl | rfl | rfl | rfl | rfl | rfl
      · refine lv_tableIn (off := 43) (tgt := 76) hx hb dL_law_33 (by decide +kernel) (by decide +kernel) (by decide +kernel) (by decide) ?_
        have hS0 := hS
        refine lv_aload_n hx hb dL_law_76 rfl (lv_at hl 2 rfl) ?_
        refine lv_aload_n hx hb dL_law_77 rfl (lv_at hl 1 rfl) ?_
        refine lv_iload_n hx hb dL_law_78 rfl (lv_at hl 0 rfl) ?_
        refine lv_iconst (v := nI 1) hx hb dL_law_79 (by decide +kernel) ?_
        refine lv_iadd hx hb dL_law_80 ?_
        refine hd_top (nI (6 * j + 1)) (nI_add _ _) ?_
        refine va_sld hx hb hX hbl hbA hS (vp_in_nI (show 6 * j + 1 < L from by omega) (by omega)) dL_law_81 ?_
        refine hd_top (xs (6 * j + 1)) (congrArg xs (nI_clamp (by omega))) ?_
        refine lv_aload_n hx hb dL_law_82 rfl (lv_at hl 1 rfl) ?_
        refine lv_iload_n hx hb dL_law_83 rfl (lv_at hl 0 rfl) ?_
        refine lv_iconst (v := nI 2) hx hb dL_law_84 (by decide +kernel) ?_
        refine lv_iadd hx hb dL_law_85 ?_
        refine hd_top (nI (6 * j + 2)) (nI_add _ _) ?_
        refine va_sld hx hb hX hbl hbA hS (vp_in_nI (show 6 * j + 2 < L from by omega) (by omega)) dL_law_86 ?_
        refine hd_top (xs (6 * j + 2)) (congrArg xs (nI_clamp (by omega))) ?_
        refine lv_aload_n hx hb dL_law_87 rfl (lv_at hl 1 rfl) ?_
        refine lv_iload_n hx hb dL_law_88 rfl (lv_at hl 0 rfl) ?_
        refine lv_iconst (v := nI 3) hx hb dL_law_89 (by decide +kernel) ?_
        refine lv_iadd hx hb dL_law_90 ?_
        refine hd_top (nI (6 * j + 3)) (nI_add _ _) ?_
        refine va_sld hx hb hX hbl hbA hS (vp_in_nI (show 6 * j + 3 < L from by omega) (by omega)) dL_law_91 ?_
        refine hd_top (xs (6 * j + 3)) (congrArg xs (nI_clamp (by omega))) ?_
        have hPc := hP.sub (ws' := [(x0, .inr (0, [.ref xr, .ref xh, .ref xk])), (xr, .inl (cxr, 1024, .inl (hd_ar r))), (xh, .inl (cxh, 1024, .inl (hd_ar h))), (xk, .inl (cxk, 32, .inl (hd_bt kx)))]) [0, 1, 2, 3] rfl
        have hDc := hD.sub (ws' := [(x0, .inr (0, [.ref xr, .ref xh, .ref xk])), (xr, .inl (cxr, 1024, .inl (hd_ar r))), (xh, .inl (cxh, 1024, .inl (hd_ar h))), (xk, .inl (cxk, 32, .inl (hd_bt kx)))]) [0, 1, 2, 3] (by decide) rfl
        have hKc := hK.sub (tys' := [(cxr, .short), (cxh, .short), (cxk, .byte)]) [0, 1, 2] rfl
        have hFc := va_free (wc := [(x0, .inr (0, [.ref xr, .ref xh, .ref xk])), (xr, .inl (cxr, 1024, .inl (hd_ar r))), (xh, .inl (cxh, 1024, .inl (hd_ar h))), (xk, .inl (cxk, 32, .inl (hd_bt kx)))]) hD hS hA [0, 1, 2, 3] rfl
        refine va_callv (va_runV (As := [.int (xs (6 * j + 1)), .int (xs (6 * j + 2)), .int (xs (6 * j + 3))]) (rest := []) ⟨hx, hb, hml, hown, hts⟩ (metX0_lay l dC dI x0 xr xh xk cxr cxh cxk H.size r h kx (xs (6 * j + 1)) (xs (6 * j + 2)) (xs (6 * j + 3))) (cwV 3 hts (lw_V q27 q28 q29 q2 q30) rfl rfl rfl (by decide +kernel) ⟨Nat.le_of_ble_eq_true rfl, Nat.le_of_ble_eq_true rfl⟩) ⟨fun a U g mk q => by obtain ⟨q0, q1, qP, qK, qD⟩ := q; exact ⟨q0, q1, qP, va_K.moved (u := U) (U := U.calling g mk a) (Vm.Alike.refl U.vm) qK, qD⟩, va_recv hKc hPc (ci := 0) (q0 := 0) rfl rfl, fun U hU hW => ⟨rfl, by rw [hU], by rw [hU]; exact hPc, va_K.moved hW.alike hKc, hDc.weaken (fun _ _ _ _ => trivial)⟩⟩ rfl rfl hl.1 rfl (lv_room (Nat.le_of_ble_eq_true rfl)) dL_law_92 ⟨Nat.le_trans (show 8 + 2 * j + 0 ≤ 1000 from by omega) (Nat.le_of_ble_eq_true rfl), Nat.le_trans (show 4166 + 36 * j + 0 ≤ 10000 from by omega) (Nat.le_of_ble_eq_true rfl)⟩) hS (fun q _ h => hFc q h) hFc (fun u t H1 locs ht hvm hw hB hz1 hk1 hS => ?_)
        obtain ⟨hP1, hK1, hD1⟩ := hB
        rw [ht] at hP1
        have hK1 := va_K.moved hvm.symm hK1
        obtain ⟨hP, hD⟩ := va_join (wr := [(m0, .inr (1, [.ref mr, .ref mh, .ref mk])), (mr, .inl (cmr, 1024, .inl (hd_ar r))), (mh, .inl (cmh, 1024, .inl (hd_ar h))), (mk, .inl (cmk, 32, .inl (hd_ar km)))]) (w1 := [(x0, .inr (0, [.ref xr, .ref xh, .ref xk])), (xr, .inl (cxr, 1024, .inl (hd_ar (hd_lay r (hd_m (xs (6 * j + 1))) (hd_m (xs (6 * j + 2))) (hd_i (xs (6 * j + 3))) 128)))), (xh, .inl (cxh, 1024, .inl (hd_ar h))), (xk, .inl (cxk, 32, .inl (hd_bt kx)))]) hP hD [0, 1, 2, 3] [4, 5, 6, 7] rfl rfl (by decide) (by decide) hk1 hFc hP1 hD1
        have hK := (hK.sub (tys' := [(cmr, .int), (cmh, .int), (cmk, .int)]) [3, 4, 5] rfl).app hK1
        generalize H1 = H at hP hS ⊢
        have hP : va_P (dC, dI) vwCl [(m0, .inr (1, [.ref mr, .ref mh, .ref mk])), (mr, .inl (cmr, 1024, .inl (hd_ar r))), (mh, .inl (cmh, 1024, .inl (hd_ar h))), (mk, .inl (cmk, 32, .inl (hd_ar km))), (x0, .inr (0, [.ref xr, .ref xh, .ref xk])), (xr, .inl (cxr, 1024, .inl (hd_ar (hd_lay r (hd_m (xs (6 * j + 1))) (hd_m (xs (6 * j + 2))) (hd_i (xs (6 * j + 3))) 128)))), (xh, .inl (cxh, 1024, .inl (hd_ar h))), (xk, .inl (cxk, 32, .inl (hd_bt kx)))] H := hP
        have hD : va_D (fun q : Nat => s.heap.size ≤ q) [(m0, .inr (1, [.ref mr, .ref mh, .ref mk])), (mr, .inl (cmr, 1024, .inl (hd_ar r))), (mh, .inl (cmh, 1024, .inl (hd_ar h))), (mk, .inl (cmk, 32, .inl (hd_ar km))), (x0, .inr (0, [.ref xr, .ref xh, .ref xk])), (xr, .inl (cxr, 1024, .inl (hd_ar (hd_lay r (hd_m (xs (6 * j + 1))) (hd_m (xs (6 * j + 2))) (hd_i (xs (6 * j + 3))) 128)))), (xh, .inl (cxh, 1024, .inl (hd_ar h))), (xk, .inl (cxk, 32, .inl (hd_bt kx)))] := hD
        have hK : va_K (dC, dI) vwCl [(cmr, .int), (cmh, .int), (cmk, .int), (cxr, .short), (cxh, .short), (cxk, .byte)] s := hK
        refine lv_aload_n hx hb dL_law_95 rfl (lv_at hl 3 rfl) ?_
        refine lv_aload_n hx hb dL_law_96 rfl (lv_at hl 1 rfl) ?_
        refine lv_iload_n hx hb dL_law_97 rfl (lv_at hl 0 rfl) ?_
        refine lv_iconst (v := nI 1) hx hb dL_law_98 (by decide +kernel) ?_
        refine lv_iadd hx hb dL_law_99 ?_
        refine hd_top (nI (6 * j + 1)) (nI_add _ _) ?_
        refine va_sld hx hb hX hbl hbA hS (vp_in_nI (show 6 * j + 1 < L from by omega) (by omega)) dL_law_100 ?_
        refine hd_top (xs (6 * j + 1)) (congrArg xs (nI_clamp (by omega))) ?_
        refine lv_aload_n hx hb dL_law_101 rfl (lv_at hl 1 rfl) ?_
        refine lv_iload_n hx hb dL_law_102 rfl (lv_at hl 0 rfl) ?_
        refine lv_iconst (v := nI 2) hx hb dL_law_103 (by decide +kernel) ?_
        refine lv_iadd hx hb dL_law_104 ?_
        refine hd_top (nI (6 * j + 2)) (nI_add _ _) ?_
        refine va_sld hx hb hX hbl hbA hS (vp_in_nI (show 6 * j + 2 < L from by omega) (by omega)) dL_law_105 ?_
        refine hd_top (xs (6 * j + 2)) (congrArg xs (nI_clamp (by omega))) ?_
        refine lv_aload_n hx hb dL_law_106 rfl (lv_at hl 1 rfl) ?_
        refine lv_iload_n hx hb dL_law_107 rfl (lv_at hl 0 rfl) ?_
        refine lv_iconst (v := nI 3) hx hb dL_law_108 (by decide +kernel) ?_
        refine lv_iadd hx hb dL_law_109 ?_
        refine hd_top (nI (6 * j + 3)) (nI_add _ _) ?_
        refine va_sld hx hb hX hbl hbA hS (vp_in_nI (show 6 * j + 3 < L from by omega) (by omega)) dL_law_110 ?_
        refine hd_top (xs (6 * j + 3)) (congrArg xs (nI_clamp (by omega))) ?_
        have hPc := hP.sub (ws' := [(m0, .inr (1, [.ref mr, .ref mh, .ref mk])), (mr, .inl (cmr, 1024, .inl (hd_ar r))), (mh, .inl (cmh, 1024, .inl (hd_ar h))), (mk, .inl (cmk, 32, .inl (hd_ar km)))]) [0, 1, 2, 3] rfl
        have hDc := hD.sub (ws' := [(m0, .inr (1, [.ref mr, .ref mh, .ref mk])), (mr, .inl (cmr, 1024, .inl (hd_ar r))), (mh, .inl (cmh, 1024, .inl (hd_ar h))), (mk, .inl (cmk, 32, .inl (hd_ar km)))]) [0, 1, 2, 3] (by decide) rfl
        have hKc := hK.sub (tys' := [(cmr, .int), (cmh, .int), (cmk, .int)]) [0, 1, 2] rfl
        have hFc := va_free (wc := [(m0, .inr (1, [.ref mr, .ref mh, .ref mk])), (mr, .inl (cmr, 1024, .inl (hd_ar r))), (mh, .inl (cmh, 1024, .inl (hd_ar h))), (mk, .inl (cmk, 32, .inl (hd_ar km)))]) hD hS hA [0, 1, 2, 3] rfl
        refine va_callv (va_runV (As := [.int (xs (6 * j + 1)), .int (xs (6 * j + 2)), .int (xs (6 * j + 3))]) (rest := []) ⟨hx, hb, hml, hown, hts⟩ (metX1_lay l dC dI m0 mr mh mk cmr cmh cmk H.size r h km (xs (6 * j + 1)) (xs (6 * j + 2)) (xs (6 * j + 3))) (cwV 3 hts (lw_V q95 q96 q97 q3 q98) rfl rfl rfl (by decide +kernel) ⟨Nat.le_of_ble_eq_true rfl, Nat.le_of_ble_eq_true rfl⟩) ⟨fun a U g mk q => by obtain ⟨q0, q1, qP, qK, qD⟩ := q; exact ⟨q0, q1, qP, va_K.moved (u := U) (U := U.calling g mk a) (Vm.Alike.refl U.vm) qK, qD⟩, va_recv hKc hPc (ci := 1) (q0 := 0) rfl rfl, fun U hU hW => ⟨rfl, by rw [hU], by rw [hU]; exact hPc, va_K.moved hW.alike hKc, hDc.weaken (fun _ _ _ _ => trivial)⟩⟩ rfl rfl hl.1 rfl (lv_room (Nat.le_of_ble_eq_true rfl)) dL_law_111 ⟨Nat.le_trans (show 8 + 2 * j + 0 + 0 ≤ 1000 from by omega) (Nat.le_of_ble_eq_true rfl), Nat.le_trans (show 4166 + 36 * j + 0 + 0 ≤ 10000 from by omega) (Nat.le_of_ble_eq_true rfl)⟩) hS (fun q _ h => hFc q h) hFc (fun u t H1 locs ht hvm hw hB hz1 hk1 hS => ?_)
        obtain ⟨hP1, hK1, hD1⟩ := hB
        rw [ht] at hP1
        have hK1 := va_K.moved hvm.symm hK1
        obtain ⟨hP, hD⟩ := va_join (wr := [(x0, .inr (0, [.ref xr, .ref xh, .ref xk])), (xr, .inl (cxr, 1024, .inl (hd_ar (hd_lay r (hd_m (xs (6 * j + 1))) (hd_m (xs (6 * j + 2))) (hd_i (xs (6 * j + 3))) 128)))), (xh, .inl (cxh, 1024, .inl (hd_ar h))), (xk, .inl (cxk, 32, .inl (hd_bt kx)))]) (w1 := [(m0, .inr (1, [.ref mr, .ref mh, .ref mk])), (mr, .inl (cmr, 1024, .inl (hd_ar (hd_lay r (hd_m (xs (6 * j + 1))) (hd_m (xs (6 * j + 2))) (hd_i (xs (6 * j + 3))) 128)))), (mh, .inl (cmh, 1024, .inl (hd_ar h))), (mk, .inl (cmk, 32, .inl (hd_ar km)))]) hP hD [0, 1, 2, 3] [4, 5, 6, 7] rfl rfl (by decide) (by decide) hk1 hFc hP1 hD1
        have hK := (hK.sub (tys' := [(cxr, .short), (cxh, .short), (cxk, .byte)]) [3, 4, 5] rfl).app hK1
        generalize H1 = H at hP hS ⊢
        have hP : va_P (dC, dI) vwCl [(x0, .inr (0, [.ref xr, .ref xh, .ref xk])), (xr, .inl (cxr, 1024, .inl (hd_ar (hd_lay r (hd_m (xs (6 * j + 1))) (hd_m (xs (6 * j + 2))) (hd_i (xs (6 * j + 3))) 128)))), (xh, .inl (cxh, 1024, .inl (hd_ar h))), (xk, .inl (cxk, 32, .inl (hd_bt kx))), (m0, .inr (1, [.ref mr, .ref mh, .ref mk])), (mr, .inl (cmr, 1024, .inl (hd_ar (hd_lay r (hd_m (xs (6 * j + 1))) (hd_m (xs (6 * j + 2))) (hd_i (xs (6 * j + 3))) 128)))), (mh, .inl (cmh, 1024, .inl (hd_ar h))), (mk, .inl (cmk, 32, .inl (hd_ar km)))] H := hP
        have hD : va_D (fun q : Nat => s.heap.size ≤ q) [(x0, .inr (0, [.ref xr, .ref xh, .ref xk])), (xr, .inl (cxr, 1024, .inl (hd_ar (hd_lay r (hd_m (xs (6 * j + 1))) (hd_m (xs (6 * j + 2))) (hd_i (xs (6 * j + 3))) 128)))), (xh, .inl (cxh, 1024, .inl (hd_ar h))), (xk, .inl (cxk, 32, .inl (hd_bt kx))), (m0, .inr (1, [.ref mr, .ref mh, .ref mk])), (mr, .inl (cmr, 1024, .inl (hd_ar (hd_lay r (hd_m (xs (6 * j + 1))) (hd_m (xs (6 * j + 2))) (hd_i (xs (6 * j + 3))) 128)))), (mh, .inl (cmh, 1024, .inl (hd_ar h))), (mk, .inl (cmk, 32, .inl (hd_ar km)))] := hD
        have hK : va_K (dC, dI) vwCl [(cxr, .short), (cxh, .short), (cxk, .byte), (cmr, .int), (cmh, .int), (cmk, .int)] s := hK
        refine lv_goto (tgt := 267) hx hb dL_law_114 (by decide) ?_
        refine lv_iinc (v := (nI (6 * (j + 1)))) (lv' := [(3, .int (nI (6 * (j + 1)))), (0, .ref b), (1, .ref x0), (2, .ref m0)]) hx hb dL_law_267 hl (k := 0) rfl ((nI_add (6 * j) 6).trans (congrArg nI (show 6 * j + 6 = 6 * (j + 1) from by omega))) (by decide) rfl (fun ls hl => ?_)
        refine lv_goto (tgt := 18) hx hb dL_law_270 (by decide) ?_
        refine W.widen (k := 8 + 2 * (j + 1)) (n := 4166 + 36 * (j + 1)) (by omega) (by omega) ?_
        exact ih (j + 1) (by omega) (by omega) (hd_lay r (hd_m (xs (6 * j + 1))) (hd_m (xs (6 * j + 2))) (hd_i (xs (6 * j + 3))) 128) h kx km (hd_lay_lt _ _ _ hrb 128) hhb hkk x0 xr xh xk m0 mr mh mk cxr cxh cxk cmr cmh cmk H locs hK hP hD hS ls (lv_sub hl [0, 1, 2, 3] rfl)
      · refine lv_tableIn (off := 84) (tgt := 117) hx hb dL_law_33 (by decide +kernel) (by decide +kernel) (by decide +kernel) (by decide) ?_
        have hS0 := hS
        refine lv_aload_n hx hb dL_law_117 rfl (lv_at hl 2 rfl) ?_
        refine lv_aload_n hx hb dL_law_118 rfl (lv_at hl 1 rfl) ?_
        refine lv_iload_n hx hb dL_law_119 rfl (lv_at hl 0 rfl) ?_
        refine lv_iconst (v := nI 1) hx hb dL_law_120 (by decide +kernel) ?_
        refine lv_iadd hx hb dL_law_121 ?_
        refine hd_top (nI (6 * j + 1)) (nI_add _ _) ?_
        refine va_sld hx hb hX hbl hbA hS (vp_in_nI (show 6 * j + 1 < L from by omega) (by omega)) dL_law_122 ?_
        refine hd_top (xs (6 * j + 1)) (congrArg xs (nI_clamp (by omega))) ?_
        refine lv_aload_n hx hb dL_law_123 rfl (lv_at hl 1 rfl) ?_
        refine lv_iload_n hx hb dL_law_124 rfl (lv_at hl 0 rfl) ?_
        refine lv_iconst (v := nI 2) hx hb dL_law_125 (by decide +kernel) ?_
        refine lv_iadd hx hb dL_law_126 ?_
        refine hd_top (nI (6 * j + 2)) (nI_add _ _) ?_
        refine va_sld hx hb hX hbl hbA hS (vp_in_nI (show 6 * j + 2 < L from by omega) (by omega)) dL_law_127 ?_
        refine hd_top (xs (6 * j + 2)) (congrArg xs (nI_clamp (by omega))) ?_
        have hPc := hP.sub (ws' := [(x0, .inr (0, [.ref xr, .ref xh, .ref xk])), (xr, .inl (cxr, 1024, .inl (hd_ar r))), (xh, .inl (cxh, 1024, .inl (hd_ar h))), (xk, .inl (cxk, 32, .inl (hd_bt kx)))]) [0, 1, 2, 3] rfl
        have hDc := hD.sub (ws' := [(x0, .inr (0, [.ref xr, .ref xh, .ref xk])), (xr, .inl (cxr, 1024, .inl (hd_ar r))), (xh, .inl (cxh, 1024, .inl (hd_ar h))), (xk, .inl (cxk, 32, .inl (hd_bt kx)))]) [0, 1, 2, 3] (by decide) rfl
        have hKc := hK.sub (tys' := [(cxr, .short), (cxh, .short), (cxk, .byte)]) [0, 1, 2] rfl
        have hFc := va_free (wc := [(x0, .inr (0, [.ref xr, .ref xh, .ref xk])), (xr, .inl (cxr, 1024, .inl (hd_ar r))), (xh, .inl (cxh, 1024, .inl (hd_ar h))), (xk, .inl (cxk, 32, .inl (hd_bt kx)))]) hD hS hA [0, 1, 2, 3] rfl
        refine va_callv (va_runV (As := [.int (xs (6 * j + 1)), .int (xs (6 * j + 2))]) (rest := []) ⟨hx, hb, hml, hown, hts⟩ (metX0_set l dC dI x0 xr xh xk cxr cxh cxk H.size r h kx (xs (6 * j + 1)) (xs (6 * j + 2))) (cwV 2 hts (lw_V q32 q33 q34 q2 q35) rfl rfl rfl (by decide +kernel) ⟨Nat.le_of_ble_eq_true rfl, Nat.le_of_ble_eq_true rfl⟩) ⟨fun a U g mk q => by obtain ⟨q0, q1, qP, qK, qD⟩ := q; exact ⟨q0, q1, qP, va_K.moved (u := U) (U := U.calling g mk a) (Vm.Alike.refl U.vm) qK, qD⟩, va_recv hKc hPc (ci := 0) (q0 := 0) rfl rfl, fun U hU hW => ⟨rfl, by rw [hU], by rw [hU]; exact hPc, va_K.moved hW.alike hKc, hDc.weaken (fun _ _ _ _ => trivial)⟩⟩ rfl rfl hl.1 rfl (lv_room (Nat.le_of_ble_eq_true rfl)) dL_law_128 ⟨Nat.le_trans (show 8 + 2 * j + 0 ≤ 1000 from by omega) (Nat.le_of_ble_eq_true rfl), Nat.le_trans (show 4166 + 36 * j + 0 ≤ 10000 from by omega) (Nat.le_of_ble_eq_true rfl)⟩) hS (fun q _ h => hFc q h) hFc (fun u t H1 locs ht hvm hw hB hz1 hk1 hS => ?_)
        obtain ⟨hP1, hK1, hD1⟩ := hB
        rw [ht] at hP1
        have hK1 := va_K.moved hvm.symm hK1
        obtain ⟨hP, hD⟩ := va_join (wr := [(m0, .inr (1, [.ref mr, .ref mh, .ref mk])), (mr, .inl (cmr, 1024, .inl (hd_ar r))), (mh, .inl (cmh, 1024, .inl (hd_ar h))), (mk, .inl (cmk, 32, .inl (hd_ar km)))]) (w1 := [(x0, .inr (0, [.ref xr, .ref xh, .ref xk])), (xr, .inl (cxr, 1024, .inl (hd_ar (hd_up r (hd_i (xs (6 * j + 1))) (hd_m (xs (6 * j + 2))))))), (xh, .inl (cxh, 1024, .inl (hd_ar h))), (xk, .inl (cxk, 32, .inl (hd_bt kx)))]) hP hD [0, 1, 2, 3] [4, 5, 6, 7] rfl rfl (by decide) (by decide) hk1 hFc hP1 hD1
        have hK := (hK.sub (tys' := [(cmr, .int), (cmh, .int), (cmk, .int)]) [3, 4, 5] rfl).app hK1
        generalize H1 = H at hP hS ⊢
        have hP : va_P (dC, dI) vwCl [(m0, .inr (1, [.ref mr, .ref mh, .ref mk])), (mr, .inl (cmr, 1024, .inl (hd_ar r))), (mh, .inl (cmh, 1024, .inl (hd_ar h))), (mk, .inl (cmk, 32, .inl (hd_ar km))), (x0, .inr (0, [.ref xr, .ref xh, .ref xk])), (xr, .inl (cxr, 1024, .inl (hd_ar (hd_up r (hd_i (xs (6 * j + 1))) (hd_m (xs (6 * j + 2))))))), (xh, .inl (cxh, 1024, .inl (hd_ar h))), (xk, .inl (cxk, 32, .inl (hd_bt kx)))] H := hP
        have hD : va_D (fun q : Nat => s.heap.size ≤ q) [(m0, .inr (1, [.ref mr, .ref mh, .ref mk])), (mr, .inl (cmr, 1024, .inl (hd_ar r))), (mh, .inl (cmh, 1024, .inl (hd_ar h))), (mk, .inl (cmk, 32, .inl (hd_ar km))), (x0, .inr (0, [.ref xr, .ref xh, .ref xk])), (xr, .inl (cxr, 1024, .inl (hd_ar (hd_up r (hd_i (xs (6 * j + 1))) (hd_m (xs (6 * j + 2))))))), (xh, .inl (cxh, 1024, .inl (hd_ar h))), (xk, .inl (cxk, 32, .inl (hd_bt kx)))] := hD
        have hK : va_K (dC, dI) vwCl [(cmr, .int), (cmh, .int), (cmk, .int), (cxr, .short), (cxh, .short), (cxk, .byte)] s := hK
        refine lv_aload_n hx hb dL_law_131 rfl (lv_at hl 3 rfl) ?_
        refine lv_aload_n hx hb dL_law_132 rfl (lv_at hl 1 rfl) ?_
        refine lv_iload_n hx hb dL_law_133 rfl (lv_at hl 0 rfl) ?_
        refine lv_iconst (v := nI 1) hx hb dL_law_134 (by decide +kernel) ?_
        refine lv_iadd hx hb dL_law_135 ?_
        refine hd_top (nI (6 * j + 1)) (nI_add _ _) ?_
        refine va_sld hx hb hX hbl hbA hS (vp_in_nI (show 6 * j + 1 < L from by omega) (by omega)) dL_law_136 ?_
        refine hd_top (xs (6 * j + 1)) (congrArg xs (nI_clamp (by omega))) ?_
        refine lv_aload_n hx hb dL_law_137 rfl (lv_at hl 1 rfl) ?_
        refine lv_iload_n hx hb dL_law_138 rfl (lv_at hl 0 rfl) ?_
        refine lv_iconst (v := nI 2) hx hb dL_law_139 (by decide +kernel) ?_
        refine lv_iadd hx hb dL_law_140 ?_
        refine hd_top (nI (6 * j + 2)) (nI_add _ _) ?_
        refine va_sld hx hb hX hbl hbA hS (vp_in_nI (show 6 * j + 2 < L from by omega) (by omega)) dL_law_141 ?_
        refine hd_top (xs (6 * j + 2)) (congrArg xs (nI_clamp (by omega))) ?_
        have hPc := hP.sub (ws' := [(m0, .inr (1, [.ref mr, .ref mh, .ref mk])), (mr, .inl (cmr, 1024, .inl (hd_ar r))), (mh, .inl (cmh, 1024, .inl (hd_ar h))), (mk, .inl (cmk, 32, .inl (hd_ar km)))]) [0, 1, 2, 3] rfl
        have hDc := hD.sub (ws' := [(m0, .inr (1, [.ref mr, .ref mh, .ref mk])), (mr, .inl (cmr, 1024, .inl (hd_ar r))), (mh, .inl (cmh, 1024, .inl (hd_ar h))), (mk, .inl (cmk, 32, .inl (hd_ar km)))]) [0, 1, 2, 3] (by decide) rfl
        have hKc := hK.sub (tys' := [(cmr, .int), (cmh, .int), (cmk, .int)]) [0, 1, 2] rfl
        have hFc := va_free (wc := [(m0, .inr (1, [.ref mr, .ref mh, .ref mk])), (mr, .inl (cmr, 1024, .inl (hd_ar r))), (mh, .inl (cmh, 1024, .inl (hd_ar h))), (mk, .inl (cmk, 32, .inl (hd_ar km)))]) hD hS hA [0, 1, 2, 3] rfl
        refine va_callv (va_runV (As := [.int (xs (6 * j + 1)), .int (xs (6 * j + 2))]) (rest := []) ⟨hx, hb, hml, hown, hts⟩ (metX1_set l dC dI m0 mr mh mk cmr cmh cmk H.size r h km (xs (6 * j + 1)) (xs (6 * j + 2))) (cwV 2 hts (lw_V q100 q101 q102 q3 q103) rfl rfl rfl (by decide +kernel) ⟨Nat.le_of_ble_eq_true rfl, Nat.le_of_ble_eq_true rfl⟩) ⟨fun a U g mk q => by obtain ⟨q0, q1, qP, qK, qD⟩ := q; exact ⟨q0, q1, qP, va_K.moved (u := U) (U := U.calling g mk a) (Vm.Alike.refl U.vm) qK, qD⟩, va_recv hKc hPc (ci := 1) (q0 := 0) rfl rfl, fun U hU hW => ⟨rfl, by rw [hU], by rw [hU]; exact hPc, va_K.moved hW.alike hKc, hDc.weaken (fun _ _ _ _ => trivial)⟩⟩ rfl rfl hl.1 rfl (lv_room (Nat.le_of_ble_eq_true rfl)) dL_law_142 ⟨Nat.le_trans (show 8 + 2 * j + 0 + 0 ≤ 1000 from by omega) (Nat.le_of_ble_eq_true rfl), Nat.le_trans (show 4166 + 36 * j + 0 + 0 ≤ 10000 from by omega) (Nat.le_of_ble_eq_true rfl)⟩) hS (fun q _ h => hFc q h) hFc (fun u t H1 locs ht hvm hw hB hz1 hk1 hS => ?_)
        obtain ⟨hP1, hK1, hD1⟩ := hB
        rw [ht] at hP1
        have hK1 := va_K.moved hvm.symm hK1
        obtain ⟨hP, hD⟩ := va_join (wr := [(x0, .inr (0, [.ref xr, .ref xh, .ref xk])), (xr, .inl (cxr, 1024, .inl (hd_ar (hd_up r (hd_i (xs (6 * j + 1))) (hd_m (xs (6 * j + 2))))))), (xh, .inl (cxh, 1024, .inl (hd_ar h))), (xk, .inl (cxk, 32, .inl (hd_bt kx)))]) (w1 := [(m0, .inr (1, [.ref mr, .ref mh, .ref mk])), (mr, .inl (cmr, 1024, .inl (hd_ar (hd_up r (hd_i (xs (6 * j + 1))) (hd_m (xs (6 * j + 2))))))), (mh, .inl (cmh, 1024, .inl (hd_ar h))), (mk, .inl (cmk, 32, .inl (hd_ar km)))]) hP hD [0, 1, 2, 3] [4, 5, 6, 7] rfl rfl (by decide) (by decide) hk1 hFc hP1 hD1
        have hK := (hK.sub (tys' := [(cxr, .short), (cxh, .short), (cxk, .byte)]) [3, 4, 5] rfl).app hK1
        generalize H1 = H at hP hS ⊢
        have hP : va_P (dC, dI) vwCl [(x0, .inr (0, [.ref xr, .ref xh, .ref xk])), (xr, .inl (cxr, 1024, .inl (hd_ar (hd_up r (hd_i (xs (6 * j + 1))) (hd_m (xs (6 * j + 2))))))), (xh, .inl (cxh, 1024, .inl (hd_ar h))), (xk, .inl (cxk, 32, .inl (hd_bt kx))), (m0, .inr (1, [.ref mr, .ref mh, .ref mk])), (mr, .inl (cmr, 1024, .inl (hd_ar (hd_up r (hd_i (xs (6 * j + 1))) (hd_m (xs (6 * j + 2))))))), (mh, .inl (cmh, 1024, .inl (hd_ar h))), (mk, .inl (cmk, 32, .inl (hd_ar km)))] H := hP
        have hD : va_D (fun q : Nat => s.heap.size ≤ q) [(x0, .inr (0, [.ref xr, .ref xh, .ref xk])), (xr, .inl (cxr, 1024, .inl (hd_ar (hd_up r (hd_i (xs (6 * j + 1))) (hd_m (xs (6 * j + 2))))))), (xh, .inl (cxh, 1024, .inl (hd_ar h))), (xk, .inl (cxk, 32, .inl (hd_bt kx))), (m0, .inr (1, [.ref mr, .ref mh, .ref mk])), (mr, .inl (cmr, 1024, .inl (hd_ar (hd_up r (hd_i (xs (6 * j + 1))) (hd_m (xs (6 * j + 2))))))), (mh, .inl (cmh, 1024, .inl (hd_ar h))), (mk, .inl (cmk, 32, .inl (hd_ar km)))] := hD
        have hK : va_K (dC, dI) vwCl [(cxr, .short), (cxh, .short), (cxk, .byte), (cmr, .int), (cmh, .int), (cmk, .int)] s := hK
        refine lv_goto (tgt := 267) hx hb dL_law_145 (by decide) ?_
        refine lv_iinc (v := (nI (6 * (j + 1)))) (lv' := [(3, .int (nI (6 * (j + 1)))), (0, .ref b), (1, .ref x0), (2, .ref m0)]) hx hb dL_law_267 hl (k := 0) rfl ((nI_add (6 * j) 6).trans (congrArg nI (show 6 * j + 6 = 6 * (j + 1) from by omega))) (by decide) rfl (fun ls hl => ?_)
        refine lv_goto (tgt := 18) hx hb dL_law_270 (by decide) ?_
        refine W.widen (k := 8 + 2 * (j + 1)) (n := 4166 + 36 * (j + 1)) (by omega) (by omega) ?_
        exact ih (j + 1) (by omega) (by omega) (hd_up r (hd_i (xs (6 * j + 1))) (hd_m (xs (6 * j + 2)))) h kx km (hd_up_lt hrb (hd_m_lt _)) hhb hkk x0 xr xh xk m0 mr mh mk cxr cxh cxk cmr cmh cmk H locs hK hP hD hS ls (lv_sub hl [0, 1, 2, 3] rfl)
      · refine lv_tableIn (off := 115) (tgt := 148) hx hb dL_law_33 (by decide +kernel) (by decide +kernel) (by decide +kernel) (by decide) ?_
        have hS0 := hS
        refine lv_aload_n hx hb dL_law_148 rfl (lv_at hl 2 rfl) ?_
        refine lv_aload_n hx hb dL_law_149 rfl (lv_at hl 1 rfl) ?_
        refine lv_iload_n hx hb dL_law_150 rfl (lv_at hl 0 rfl) ?_
        refine lv_iconst (v := nI 1) hx hb dL_law_151 (by decide +kernel) ?_
        refine lv_iadd hx hb dL_law_152 ?_
        refine hd_top (nI (6 * j + 1)) (nI_add _ _) ?_
        refine va_sld hx hb hX hbl hbA hS (vp_in_nI (show 6 * j + 1 < L from by omega) (by omega)) dL_law_153 ?_
        refine hd_top (xs (6 * j + 1)) (congrArg xs (nI_clamp (by omega))) ?_
        refine lv_aload_n hx hb dL_law_154 rfl (lv_at hl 1 rfl) ?_
        refine lv_iload_n hx hb dL_law_155 rfl (lv_at hl 0 rfl) ?_
        refine lv_iconst (v := nI 2) hx hb dL_law_156 (by decide +kernel) ?_
        refine lv_iadd hx hb dL_law_157 ?_
        refine hd_top (nI (6 * j + 2)) (nI_add _ _) ?_
        refine va_sld hx hb hX hbl hbA hS (vp_in_nI (show 6 * j + 2 < L from by omega) (by omega)) dL_law_158 ?_
        refine hd_top (xs (6 * j + 2)) (congrArg xs (nI_clamp (by omega))) ?_
        have hPc := hP.sub (ws' := [(x0, .inr (0, [.ref xr, .ref xh, .ref xk])), (xr, .inl (cxr, 1024, .inl (hd_ar r))), (xh, .inl (cxh, 1024, .inl (hd_ar h))), (xk, .inl (cxk, 32, .inl (hd_bt kx)))]) [0, 1, 2, 3] rfl
        have hDc := hD.sub (ws' := [(x0, .inr (0, [.ref xr, .ref xh, .ref xk])), (xr, .inl (cxr, 1024, .inl (hd_ar r))), (xh, .inl (cxh, 1024, .inl (hd_ar h))), (xk, .inl (cxk, 32, .inl (hd_bt kx)))]) [0, 1, 2, 3] (by decide) rfl
        have hKc := hK.sub (tys' := [(cxr, .short), (cxh, .short), (cxk, .byte)]) [0, 1, 2] rfl
        have hFc := va_free (wc := [(x0, .inr (0, [.ref xr, .ref xh, .ref xk])), (xr, .inl (cxr, 1024, .inl (hd_ar r))), (xh, .inl (cxh, 1024, .inl (hd_ar h))), (xk, .inl (cxk, 32, .inl (hd_bt kx)))]) hD hS hA [0, 1, 2, 3] rfl
        refine va_callv (va_runV (As := [.int (xs (6 * j + 1)), .int (xs (6 * j + 2))]) (rest := []) ⟨hx, hb, hml, hown, hts⟩ (metX0_help l dC dI x0 xr xh xk cxr cxh cxk H.size r h kx (xs (6 * j + 1)) (xs (6 * j + 2))) (cwV 2 hts (lw_V q36 q37 q38 q2 q39) rfl rfl rfl (by decide +kernel) ⟨Nat.le_of_ble_eq_true rfl, Nat.le_of_ble_eq_true rfl⟩) ⟨fun a U g mk q => by obtain ⟨q0, q1, qP, qK, qD⟩ := q; exact ⟨q0, q1, qP, va_K.moved (u := U) (U := U.calling g mk a) (Vm.Alike.refl U.vm) qK, qD⟩, va_recv hKc hPc (ci := 0) (q0 := 0) rfl rfl, fun U hU hW => ⟨rfl, by rw [hU], by rw [hU]; exact hPc, va_K.moved hW.alike hKc, hDc.weaken (fun _ _ _ _ => trivial)⟩⟩ rfl rfl hl.1 rfl (lv_room (Nat.le_of_ble_eq_true rfl)) dL_law_159 ⟨Nat.le_trans (show 8 + 2 * j + 0 ≤ 1000 from by omega) (Nat.le_of_ble_eq_true rfl), Nat.le_trans (show 4166 + 36 * j + 0 ≤ 10000 from by omega) (Nat.le_of_ble_eq_true rfl)⟩) hS (fun q _ h => hFc q h) hFc (fun u t H1 locs ht hvm hw hB hz1 hk1 hS => ?_)
        obtain ⟨hP1, hK1, hD1⟩ := hB
        rw [ht] at hP1
        have hK1 := va_K.moved hvm.symm hK1
        obtain ⟨hP, hD⟩ := va_join (wr := [(m0, .inr (1, [.ref mr, .ref mh, .ref mk])), (mr, .inl (cmr, 1024, .inl (hd_ar r))), (mh, .inl (cmh, 1024, .inl (hd_ar h))), (mk, .inl (cmk, 32, .inl (hd_ar km)))]) (w1 := [(x0, .inr (0, [.ref xr, .ref xh, .ref xk])), (xr, .inl (cxr, 1024, .inl (hd_ar r))), (xh, .inl (cxh, 1024, .inl (hd_ar (hd_help h (hd_i (xs (6 * j + 1))) (xs (6 * j + 2)).toBitVec.toNat 16)))), (xk, .inl (cxk, 32, .inl (hd_bt kx)))]) hP hD [0, 1, 2, 3] [4, 5, 6, 7] rfl rfl (by decide) (by decide) hk1 hFc hP1 hD1
        have hK := (hK.sub (tys' := [(cmr, .int), (cmh, .int), (cmk, .int)]) [3, 4, 5] rfl).app hK1
        generalize H1 = H at hP hS ⊢
        have hP : va_P (dC, dI) vwCl [(m0, .inr (1, [.ref mr, .ref mh, .ref mk])), (mr, .inl (cmr, 1024, .inl (hd_ar r))), (mh, .inl (cmh, 1024, .inl (hd_ar h))), (mk, .inl (cmk, 32, .inl (hd_ar km))), (x0, .inr (0, [.ref xr, .ref xh, .ref xk])), (xr, .inl (cxr, 1024, .inl (hd_ar r))), (xh, .inl (cxh, 1024, .inl (hd_ar (hd_help h (hd_i (xs (6 * j + 1))) (xs (6 * j + 2)).toBitVec.toNat 16)))), (xk, .inl (cxk, 32, .inl (hd_bt kx)))] H := hP
        have hD : va_D (fun q : Nat => s.heap.size ≤ q) [(m0, .inr (1, [.ref mr, .ref mh, .ref mk])), (mr, .inl (cmr, 1024, .inl (hd_ar r))), (mh, .inl (cmh, 1024, .inl (hd_ar h))), (mk, .inl (cmk, 32, .inl (hd_ar km))), (x0, .inr (0, [.ref xr, .ref xh, .ref xk])), (xr, .inl (cxr, 1024, .inl (hd_ar r))), (xh, .inl (cxh, 1024, .inl (hd_ar (hd_help h (hd_i (xs (6 * j + 1))) (xs (6 * j + 2)).toBitVec.toNat 16)))), (xk, .inl (cxk, 32, .inl (hd_bt kx)))] := hD
        have hK : va_K (dC, dI) vwCl [(cmr, .int), (cmh, .int), (cmk, .int), (cxr, .short), (cxh, .short), (cxk, .byte)] s := hK
        refine lv_aload_n hx hb dL_law_162 rfl (lv_at hl 3 rfl) ?_
        refine lv_aload_n hx hb dL_law_163 rfl (lv_at hl 1 rfl) ?_
        refine lv_iload_n hx hb dL_law_164 rfl (lv_at hl 0 rfl) ?_
        refine lv_iconst (v := nI 1) hx hb dL_law_165 (by decide +kernel) ?_
        refine lv_iadd hx hb dL_law_166 ?_
        refine hd_top (nI (6 * j + 1)) (nI_add _ _) ?_
        refine va_sld hx hb hX hbl hbA hS (vp_in_nI (show 6 * j + 1 < L from by omega) (by omega)) dL_law_167 ?_
        refine hd_top (xs (6 * j + 1)) (congrArg xs (nI_clamp (by omega))) ?_
        refine lv_aload_n hx hb dL_law_168 rfl (lv_at hl 1 rfl) ?_
        refine lv_iload_n hx hb dL_law_169 rfl (lv_at hl 0 rfl) ?_
        refine lv_iconst (v := nI 2) hx hb dL_law_170 (by decide +kernel) ?_
        refine lv_iadd hx hb dL_law_171 ?_
        refine hd_top (nI (6 * j + 2)) (nI_add _ _) ?_
        refine va_sld hx hb hX hbl hbA hS (vp_in_nI (show 6 * j + 2 < L from by omega) (by omega)) dL_law_172 ?_
        refine hd_top (xs (6 * j + 2)) (congrArg xs (nI_clamp (by omega))) ?_
        have hPc := hP.sub (ws' := [(m0, .inr (1, [.ref mr, .ref mh, .ref mk])), (mr, .inl (cmr, 1024, .inl (hd_ar r))), (mh, .inl (cmh, 1024, .inl (hd_ar h))), (mk, .inl (cmk, 32, .inl (hd_ar km)))]) [0, 1, 2, 3] rfl
        have hDc := hD.sub (ws' := [(m0, .inr (1, [.ref mr, .ref mh, .ref mk])), (mr, .inl (cmr, 1024, .inl (hd_ar r))), (mh, .inl (cmh, 1024, .inl (hd_ar h))), (mk, .inl (cmk, 32, .inl (hd_ar km)))]) [0, 1, 2, 3] (by decide) rfl
        have hKc := hK.sub (tys' := [(cmr, .int), (cmh, .int), (cmk, .int)]) [0, 1, 2] rfl
        have hFc := va_free (wc := [(m0, .inr (1, [.ref mr, .ref mh, .ref mk])), (mr, .inl (cmr, 1024, .inl (hd_ar r))), (mh, .inl (cmh, 1024, .inl (hd_ar h))), (mk, .inl (cmk, 32, .inl (hd_ar km)))]) hD hS hA [0, 1, 2, 3] rfl
        refine va_callv (va_runV (As := [.int (xs (6 * j + 1)), .int (xs (6 * j + 2))]) (rest := []) ⟨hx, hb, hml, hown, hts⟩ (metX1_help l dC dI m0 mr mh mk cmr cmh cmk H.size r h km (xs (6 * j + 1)) (xs (6 * j + 2))) (cwV 2 hts (lw_V q104 q105 q106 q3 q107) rfl rfl rfl (by decide +kernel) ⟨Nat.le_of_ble_eq_true rfl, Nat.le_of_ble_eq_true rfl⟩) ⟨fun a U g mk q => by obtain ⟨q0, q1, qP, qK, qD⟩ := q; exact ⟨q0, q1, qP, va_K.moved (u := U) (U := U.calling g mk a) (Vm.Alike.refl U.vm) qK, qD⟩, va_recv hKc hPc (ci := 1) (q0 := 0) rfl rfl, fun U hU hW => ⟨rfl, by rw [hU], by rw [hU]; exact hPc, va_K.moved hW.alike hKc, hDc.weaken (fun _ _ _ _ => trivial)⟩⟩ rfl rfl hl.1 rfl (lv_room (Nat.le_of_ble_eq_true rfl)) dL_law_173 ⟨Nat.le_trans (show 8 + 2 * j + 0 + 0 ≤ 1000 from by omega) (Nat.le_of_ble_eq_true rfl), Nat.le_trans (show 4166 + 36 * j + 0 + 0 ≤ 10000 from by omega) (Nat.le_of_ble_eq_true rfl)⟩) hS (fun q _ h => hFc q h) hFc (fun u t H1 locs ht hvm hw hB hz1 hk1 hS => ?_)
        obtain ⟨hP1, hK1, hD1⟩ := hB
        rw [ht] at hP1
        have hK1 := va_K.moved hvm.symm hK1
        obtain ⟨hP, hD⟩ := va_join (wr := [(x0, .inr (0, [.ref xr, .ref xh, .ref xk])), (xr, .inl (cxr, 1024, .inl (hd_ar r))), (xh, .inl (cxh, 1024, .inl (hd_ar (hd_help h (hd_i (xs (6 * j + 1))) (xs (6 * j + 2)).toBitVec.toNat 16)))), (xk, .inl (cxk, 32, .inl (hd_bt kx)))]) (w1 := [(m0, .inr (1, [.ref mr, .ref mh, .ref mk])), (mr, .inl (cmr, 1024, .inl (hd_ar r))), (mh, .inl (cmh, 1024, .inl (hd_ar (hd_help h (hd_i (xs (6 * j + 1))) (xs (6 * j + 2)).toBitVec.toNat 16)))), (mk, .inl (cmk, 32, .inl (hd_ar km)))]) hP hD [0, 1, 2, 3] [4, 5, 6, 7] rfl rfl (by decide) (by decide) hk1 hFc hP1 hD1
        have hK := (hK.sub (tys' := [(cxr, .short), (cxh, .short), (cxk, .byte)]) [3, 4, 5] rfl).app hK1
        generalize H1 = H at hP hS ⊢
        have hP : va_P (dC, dI) vwCl [(x0, .inr (0, [.ref xr, .ref xh, .ref xk])), (xr, .inl (cxr, 1024, .inl (hd_ar r))), (xh, .inl (cxh, 1024, .inl (hd_ar (hd_help h (hd_i (xs (6 * j + 1))) (xs (6 * j + 2)).toBitVec.toNat 16)))), (xk, .inl (cxk, 32, .inl (hd_bt kx))), (m0, .inr (1, [.ref mr, .ref mh, .ref mk])), (mr, .inl (cmr, 1024, .inl (hd_ar r))), (mh, .inl (cmh, 1024, .inl (hd_ar (hd_help h (hd_i (xs (6 * j + 1))) (xs (6 * j + 2)).toBitVec.toNat 16)))), (mk, .inl (cmk, 32, .inl (hd_ar km)))] H := hP
        have hD : va_D (fun q : Nat => s.heap.size ≤ q) [(x0, .inr (0, [.ref xr, .ref xh, .ref xk])), (xr, .inl (cxr, 1024, .inl (hd_ar r))), (xh, .inl (cxh, 1024, .inl (hd_ar (hd_help h (hd_i (xs (6 * j + 1))) (xs (6 * j + 2)).toBitVec.toNat 16)))), (xk, .inl (cxk, 32, .inl (hd_bt kx))), (m0, .inr (1, [.ref mr, .ref mh, .ref mk])), (mr, .inl (cmr, 1024, .inl (hd_ar r))), (mh, .inl (cmh, 1024, .inl (hd_ar (hd_help h (hd_i (xs (6 * j + 1))) (xs (6 * j + 2)).toBitVec.toNat 16)))), (mk, .inl (cmk, 32, .inl (hd_ar km)))] := hD
        have hK : va_K (dC, dI) vwCl [(cxr, .short), (cxh, .short), (cxk, .byte), (cmr, .int), (cmh, .int), (cmk, .int)] s := hK
        refine lv_goto (tgt := 267) hx hb dL_law_176 (by decide) ?_
        refine lv_iinc (v := (nI (6 * (j + 1)))) (lv' := [(3, .int (nI (6 * (j + 1)))), (0, .ref b), (1, .ref x0), (2, .ref m0)]) hx hb dL_law_267 hl (k := 0) rfl ((nI_add (6 * j) 6).trans (congrArg nI (show 6 * j + 6 = 6 * (j + 1) from by omega))) (by decide) rfl (fun ls hl => ?_)
        refine lv_goto (tgt := 18) hx hb dL_law_270 (by decide) ?_
        refine W.widen (k := 8 + 2 * (j + 1)) (n := 4166 + 36 * (j + 1)) (by omega) (by omega) ?_
        exact ih (j + 1) (by omega) (by omega) r (hd_help h (hd_i (xs (6 * j + 1))) (xs (6 * j + 2)).toBitVec.toNat 16) kx km hrb (hd_help_lt _ _ hhb 16) hkk x0 xr xh xk m0 mr mh mk cxr cxh cxk cmr cmh cmk H locs hK hP hD hS ls (lv_sub hl [0, 1, 2, 3] rfl)
      · refine lv_tableIn (off := 146) (tgt := 179) hx hb dL_law_33 (by decide +kernel) (by decide +kernel) (by decide +kernel) (by decide) ?_
        have hS0 := hS
        refine lv_aload_n hx hb dL_law_179 rfl (lv_at hl 2 rfl) ?_
        refine lv_aload_n hx hb dL_law_180 rfl (lv_at hl 1 rfl) ?_
        refine lv_iload_n hx hb dL_law_181 rfl (lv_at hl 0 rfl) ?_
        refine lv_iconst (v := nI 1) hx hb dL_law_182 (by decide +kernel) ?_
        refine lv_iadd hx hb dL_law_183 ?_
        refine hd_top (nI (6 * j + 1)) (nI_add _ _) ?_
        refine va_sld hx hb hX hbl hbA hS (vp_in_nI (show 6 * j + 1 < L from by omega) (by omega)) dL_law_184 ?_
        refine hd_top (xs (6 * j + 1)) (congrArg xs (nI_clamp (by omega))) ?_
        refine lv_aload_n hx hb dL_law_185 rfl (lv_at hl 1 rfl) ?_
        refine lv_iload_n hx hb dL_law_186 rfl (lv_at hl 0 rfl) ?_
        refine lv_iconst (v := nI 2) hx hb dL_law_187 (by decide +kernel) ?_
        refine lv_iadd hx hb dL_law_188 ?_
        refine hd_top (nI (6 * j + 2)) (nI_add _ _) ?_
        refine va_sld hx hb hX hbl hbA hS (vp_in_nI (show 6 * j + 2 < L from by omega) (by omega)) dL_law_189 ?_
        refine hd_top (xs (6 * j + 2)) (congrArg xs (nI_clamp (by omega))) ?_
        have hPc := hP.sub (ws' := [(x0, .inr (0, [.ref xr, .ref xh, .ref xk])), (xr, .inl (cxr, 1024, .inl (hd_ar r))), (xh, .inl (cxh, 1024, .inl (hd_ar h))), (xk, .inl (cxk, 32, .inl (hd_bt kx)))]) [0, 1, 2, 3] rfl
        have hDc := hD.sub (ws' := [(x0, .inr (0, [.ref xr, .ref xh, .ref xk])), (xr, .inl (cxr, 1024, .inl (hd_ar r))), (xh, .inl (cxh, 1024, .inl (hd_ar h))), (xk, .inl (cxk, 32, .inl (hd_bt kx)))]) [0, 1, 2, 3] (by decide) rfl
        have hKc := hK.sub (tys' := [(cxr, .short), (cxh, .short), (cxk, .byte)]) [0, 1, 2] rfl
        have hFc := va_free (wc := [(x0, .inr (0, [.ref xr, .ref xh, .ref xk])), (xr, .inl (cxr, 1024, .inl (hd_ar r))), (xh, .inl (cxh, 1024, .inl (hd_ar h))), (xk, .inl (cxk, 32, .inl (hd_bt kx)))]) hD hS hA [0, 1, 2, 3] rfl
        refine va_callv (va_runV (As := [.int (xs (6 * j + 1)), .int (xs (6 * j + 2))]) (rest := []) ⟨hx, hb, hml, hown, hts⟩ (metX0_helps l dC dI x0 xr xh xk cxr cxh cxk H.size r h kx (xs (6 * j + 1)) (xs (6 * j + 2))) (cwV 2 hts (lw_V q40 q41 q42 q2 q43) rfl rfl rfl (by decide +kernel) ⟨Nat.le_of_ble_eq_true rfl, Nat.le_of_ble_eq_true rfl⟩) ⟨fun a U g mk q => by obtain ⟨q0, q1, qP, qK, qD⟩ := q; exact ⟨q0, q1, qP, va_K.moved (u := U) (U := U.calling g mk a) (Vm.Alike.refl U.vm) qK, qD⟩, va_recv hKc hPc (ci := 0) (q0 := 0) rfl rfl, fun U hU hW => ⟨rfl, by rw [hU], by rw [hU]; exact hPc, va_K.moved hW.alike hKc, hDc.weaken (fun _ _ _ _ => trivial)⟩⟩ rfl rfl hl.1 rfl (lv_room (Nat.le_of_ble_eq_true rfl)) dL_law_190 ⟨Nat.le_trans (show 8 + 2 * j + 0 ≤ 1000 from by omega) (Nat.le_of_ble_eq_true rfl), Nat.le_trans (show 4166 + 36 * j + 0 ≤ 10000 from by omega) (Nat.le_of_ble_eq_true rfl)⟩) hS (fun q _ h => hFc q h) hFc (fun u t H1 locs ht hvm hw hB hz1 hk1 hS => ?_)
        obtain ⟨hP1, hK1, hD1⟩ := hB
        rw [ht] at hP1
        have hK1 := va_K.moved hvm.symm hK1
        obtain ⟨hP, hD⟩ := va_join (wr := [(m0, .inr (1, [.ref mr, .ref mh, .ref mk])), (mr, .inl (cmr, 1024, .inl (hd_ar r))), (mh, .inl (cmh, 1024, .inl (hd_ar h))), (mk, .inl (cmk, 32, .inl (hd_ar km)))]) (w1 := [(x0, .inr (0, [.ref xr, .ref xh, .ref xk])), (xr, .inl (cxr, 1024, .inl (hd_ar r))), (xh, .inl (cxh, 1024, .inl (hd_ar (hd_helps h (xs (6 * j + 1)) (xs (6 * j + 2)) 1024)))), (xk, .inl (cxk, 32, .inl (hd_bt kx)))]) hP hD [0, 1, 2, 3] [4, 5, 6, 7] rfl rfl (by decide) (by decide) hk1 hFc hP1 hD1
        have hK := (hK.sub (tys' := [(cmr, .int), (cmh, .int), (cmk, .int)]) [3, 4, 5] rfl).app hK1
        generalize H1 = H at hP hS ⊢
        have hP : va_P (dC, dI) vwCl [(m0, .inr (1, [.ref mr, .ref mh, .ref mk])), (mr, .inl (cmr, 1024, .inl (hd_ar r))), (mh, .inl (cmh, 1024, .inl (hd_ar h))), (mk, .inl (cmk, 32, .inl (hd_ar km))), (x0, .inr (0, [.ref xr, .ref xh, .ref xk])), (xr, .inl (cxr, 1024, .inl (hd_ar r))), (xh, .inl (cxh, 1024, .inl (hd_ar (hd_helps h (xs (6 * j + 1)) (xs (6 * j + 2)) 1024)))), (xk, .inl (cxk, 32, .inl (hd_bt kx)))] H := hP
        have hD : va_D (fun q : Nat => s.heap.size ≤ q) [(m0, .inr (1, [.ref mr, .ref mh, .ref mk])), (mr, .inl (cmr, 1024, .inl (hd_ar r))), (mh, .inl (cmh, 1024, .inl (hd_ar h))), (mk, .inl (cmk, 32, .inl (hd_ar km))), (x0, .inr (0, [.ref xr, .ref xh, .ref xk])), (xr, .inl (cxr, 1024, .inl (hd_ar r))), (xh, .inl (cxh, 1024, .inl (hd_ar (hd_helps h (xs (6 * j + 1)) (xs (6 * j + 2)) 1024)))), (xk, .inl (cxk, 32, .inl (hd_bt kx)))] := hD
        have hK : va_K (dC, dI) vwCl [(cmr, .int), (cmh, .int), (cmk, .int), (cxr, .short), (cxh, .short), (cxk, .byte)] s := hK
        refine lv_aload_n hx hb dL_law_193 rfl (lv_at hl 3 rfl) ?_
        refine lv_aload_n hx hb dL_law_194 rfl (lv_at hl 1 rfl) ?_
        refine lv_iload_n hx hb dL_law_195 rfl (lv_at hl 0 rfl) ?_
        refine lv_iconst (v := nI 1) hx hb dL_law_196 (by decide +kernel) ?_
        refine lv_iadd hx hb dL_law_197 ?_
        refine hd_top (nI (6 * j + 1)) (nI_add _ _) ?_
        refine va_sld hx hb hX hbl hbA hS (vp_in_nI (show 6 * j + 1 < L from by omega) (by omega)) dL_law_198 ?_
        refine hd_top (xs (6 * j + 1)) (congrArg xs (nI_clamp (by omega))) ?_
        refine lv_aload_n hx hb dL_law_199 rfl (lv_at hl 1 rfl) ?_
        refine lv_iload_n hx hb dL_law_200 rfl (lv_at hl 0 rfl) ?_
        refine lv_iconst (v := nI 2) hx hb dL_law_201 (by decide +kernel) ?_
        refine lv_iadd hx hb dL_law_202 ?_
        refine hd_top (nI (6 * j + 2)) (nI_add _ _) ?_
        refine va_sld hx hb hX hbl hbA hS (vp_in_nI (show 6 * j + 2 < L from by omega) (by omega)) dL_law_203 ?_
        refine hd_top (xs (6 * j + 2)) (congrArg xs (nI_clamp (by omega))) ?_
        have hPc := hP.sub (ws' := [(m0, .inr (1, [.ref mr, .ref mh, .ref mk])), (mr, .inl (cmr, 1024, .inl (hd_ar r))), (mh, .inl (cmh, 1024, .inl (hd_ar h))), (mk, .inl (cmk, 32, .inl (hd_ar km)))]) [0, 1, 2, 3] rfl
        have hDc := hD.sub (ws' := [(m0, .inr (1, [.ref mr, .ref mh, .ref mk])), (mr, .inl (cmr, 1024, .inl (hd_ar r))), (mh, .inl (cmh, 1024, .inl (hd_ar h))), (mk, .inl (cmk, 32, .inl (hd_ar km)))]) [0, 1, 2, 3] (by decide) rfl
        have hKc := hK.sub (tys' := [(cmr, .int), (cmh, .int), (cmk, .int)]) [0, 1, 2] rfl
        have hFc := va_free (wc := [(m0, .inr (1, [.ref mr, .ref mh, .ref mk])), (mr, .inl (cmr, 1024, .inl (hd_ar r))), (mh, .inl (cmh, 1024, .inl (hd_ar h))), (mk, .inl (cmk, 32, .inl (hd_ar km)))]) hD hS hA [0, 1, 2, 3] rfl
        refine va_callv (va_runV (As := [.int (xs (6 * j + 1)), .int (xs (6 * j + 2))]) (rest := []) ⟨hx, hb, hml, hown, hts⟩ (metX1_helps l dC dI m0 mr mh mk cmr cmh cmk H.size r h km (xs (6 * j + 1)) (xs (6 * j + 2))) (cwV 2 hts (lw_V q108 q109 q110 q3 q111) rfl rfl rfl (by decide +kernel) ⟨Nat.le_of_ble_eq_true rfl, Nat.le_of_ble_eq_true rfl⟩) ⟨fun a U g mk q => by obtain ⟨q0, q1, qP, qK, qD⟩ := q; exact ⟨q0, q1, qP, va_K.moved (u := U) (U := U.calling g mk a) (Vm.Alike.refl U.vm) qK, qD⟩, va_recv hKc hPc (ci := 1) (q0 := 0) rfl rfl, fun U hU hW => ⟨rfl, by rw [hU], by rw [hU]; exact hPc, va_K.moved hW.alike hKc, hDc.weaken (fun _ _ _ _ => trivial)⟩⟩ rfl rfl hl.1 rfl (lv_room (Nat.le_of_ble_eq_true rfl)) dL_law_204 ⟨Nat.le_trans (show 8 + 2 * j + 0 + 0 ≤ 1000 from by omega) (Nat.le_of_ble_eq_true rfl), Nat.le_trans (show 4166 + 36 * j + 0 + 0 ≤ 10000 from by omega) (Nat.le_of_ble_eq_true rfl)⟩) hS (fun q _ h => hFc q h) hFc (fun u t H1 locs ht hvm hw hB hz1 hk1 hS => ?_)
        obtain ⟨hP1, hK1, hD1⟩ := hB
        rw [ht] at hP1
        have hK1 := va_K.moved hvm.symm hK1
        obtain ⟨hP, hD⟩ := va_join (wr := [(x0, .inr (0, [.ref xr, .ref xh, .ref xk])), (xr, .inl (cxr, 1024, .inl (hd_ar r))), (xh, .inl (cxh, 1024, .inl (hd_ar (hd_helps h (xs (6 * j + 1)) (xs (6 * j + 2)) 1024)))), (xk, .inl (cxk, 32, .inl (hd_bt kx)))]) (w1 := [(m0, .inr (1, [.ref mr, .ref mh, .ref mk])), (mr, .inl (cmr, 1024, .inl (hd_ar r))), (mh, .inl (cmh, 1024, .inl (hd_ar (hd_helps h (xs (6 * j + 1)) (xs (6 * j + 2)) 1024)))), (mk, .inl (cmk, 32, .inl (hd_ar km)))]) hP hD [0, 1, 2, 3] [4, 5, 6, 7] rfl rfl (by decide) (by decide) hk1 hFc hP1 hD1
        have hK := (hK.sub (tys' := [(cxr, .short), (cxh, .short), (cxk, .byte)]) [3, 4, 5] rfl).app hK1
        generalize H1 = H at hP hS ⊢
        have hP : va_P (dC, dI) vwCl [(x0, .inr (0, [.ref xr, .ref xh, .ref xk])), (xr, .inl (cxr, 1024, .inl (hd_ar r))), (xh, .inl (cxh, 1024, .inl (hd_ar (hd_helps h (xs (6 * j + 1)) (xs (6 * j + 2)) 1024)))), (xk, .inl (cxk, 32, .inl (hd_bt kx))), (m0, .inr (1, [.ref mr, .ref mh, .ref mk])), (mr, .inl (cmr, 1024, .inl (hd_ar r))), (mh, .inl (cmh, 1024, .inl (hd_ar (hd_helps h (xs (6 * j + 1)) (xs (6 * j + 2)) 1024)))), (mk, .inl (cmk, 32, .inl (hd_ar km)))] H := hP
        have hD : va_D (fun q : Nat => s.heap.size ≤ q) [(x0, .inr (0, [.ref xr, .ref xh, .ref xk])), (xr, .inl (cxr, 1024, .inl (hd_ar r))), (xh, .inl (cxh, 1024, .inl (hd_ar (hd_helps h (xs (6 * j + 1)) (xs (6 * j + 2)) 1024)))), (xk, .inl (cxk, 32, .inl (hd_bt kx))), (m0, .inr (1, [.ref mr, .ref mh, .ref mk])), (mr, .inl (cmr, 1024, .inl (hd_ar r))), (mh, .inl (cmh, 1024, .inl (hd_ar (hd_helps h (xs (6 * j + 1)) (xs (6 * j + 2)) 1024)))), (mk, .inl (cmk, 32, .inl (hd_ar km)))] := hD
        have hK : va_K (dC, dI) vwCl [(cxr, .short), (cxh, .short), (cxk, .byte), (cmr, .int), (cmh, .int), (cmk, .int)] s := hK
        refine lv_goto (tgt := 267) hx hb dL_law_207 (by decide) ?_
        refine lv_iinc (v := (nI (6 * (j + 1)))) (lv' := [(3, .int (nI (6 * (j + 1)))), (0, .ref b), (1, .ref x0), (2, .ref m0)]) hx hb dL_law_267 hl (k := 0) rfl ((nI_add (6 * j) 6).trans (congrArg nI (show 6 * j + 6 = 6 * (j + 1) from by omega))) (by decide) rfl (fun ls hl => ?_)
        refine lv_goto (tgt := 18) hx hb dL_law_270 (by decide) ?_
        refine W.widen (k := 8 + 2 * (j + 1)) (n := 4166 + 36 * (j + 1)) (by omega) (by omega) ?_
        exact ih (j + 1) (by omega) (by omega) r (hd_helps h (xs (6 * j + 1)) (xs (6 * j + 2)) 1024) kx km hrb (hd_helps_lt _ _ hhb 1024) hkk x0 xr xh xk m0 mr mh mk cxr cxh cxk cmr cmh cmk H locs hK hP hD hS ls (lv_sub hl [0, 1, 2, 3] rfl)
      · refine lv_tableIn (off := 177) (tgt := 210) hx hb dL_law_33 (by decide +kernel) (by decide +kernel) (by decide +kernel) (by decide) ?_
        have hS0 := hS
        refine lv_aload_n hx hb dL_law_210 rfl (lv_at hl 2 rfl) ?_
        have hPc := hP.sub (ws' := [(x0, .inr (0, [.ref xr, .ref xh, .ref xk])), (xr, .inl (cxr, 1024, .inl (hd_ar r))), (xh, .inl (cxh, 1024, .inl (hd_ar h))), (xk, .inl (cxk, 32, .inl (hd_bt kx)))]) [0, 1, 2, 3] rfl
        have hDc := hD.sub (ws' := [(x0, .inr (0, [.ref xr, .ref xh, .ref xk])), (xr, .inl (cxr, 1024, .inl (hd_ar r))), (xh, .inl (cxh, 1024, .inl (hd_ar h))), (xk, .inl (cxk, 32, .inl (hd_bt kx)))]) [0, 1, 2, 3] (by decide) rfl
        have hKc := hK.sub (tys' := [(cxr, .short), (cxh, .short), (cxk, .byte)]) [0, 1, 2] rfl
        have hFc := va_free (wc := [(x0, .inr (0, [.ref xr, .ref xh, .ref xk])), (xr, .inl (cxr, 1024, .inl (hd_ar r))), (xh, .inl (cxh, 1024, .inl (hd_ar h))), (xk, .inl (cxk, 32, .inl (hd_bt kx)))]) hD hS hA [0, 1, 2, 3] rfl
        refine va_callv (va_runV (As := []) (rest := []) ⟨hx, hb, hml, hown, hts⟩ (metX0_mend l dC dI x0 xr xh xk cxr cxh cxk H.size r h kx hrb hhb) (cwV 0 hts (lw_V q44 q45 q46 q2 q47) rfl rfl rfl (by decide +kernel) ⟨Nat.le_of_ble_eq_true rfl, Nat.le_of_ble_eq_true rfl⟩) ⟨fun a U g mk q => by obtain ⟨q0, q1, qP, qK, qD⟩ := q; exact ⟨q0, q1, qP, va_K.moved (u := U) (U := U.calling g mk a) (Vm.Alike.refl U.vm) qK, qD⟩, va_recv hKc hPc (ci := 0) (q0 := 0) rfl rfl, fun U hU hW => ⟨rfl, by rw [hU], by rw [hU]; exact hPc, va_K.moved hW.alike hKc, hDc.weaken (fun _ _ _ _ => trivial)⟩⟩ rfl rfl hl.1 rfl (lv_room (Nat.le_of_ble_eq_true rfl)) dL_law_211 ⟨Nat.le_trans (show 8 + 2 * j + 2 ≤ 1000 from by omega) (Nat.le_of_ble_eq_true rfl), Nat.le_trans (show 4166 + 36 * j + 36 ≤ 10000 from by omega) (Nat.le_of_ble_eq_true rfl)⟩) hS (fun q _ h => hFc q h) hFc (fun u t H1 locs ht hvm hw hB hz1 hk1 hS => ?_)
        obtain ⟨yk, cyk, hP1, hK1, hD1⟩ := hB
        rw [ht] at hP1
        have hK1 := va_K.moved hvm.symm hK1
        obtain ⟨hP, hD⟩ := va_join (wr := [(m0, .inr (1, [.ref mr, .ref mh, .ref mk])), (mr, .inl (cmr, 1024, .inl (hd_ar r))), (mh, .inl (cmh, 1024, .inl (hd_ar h))), (mk, .inl (cmk, 32, .inl (hd_ar km)))]) (w1 := [(x0, .inr (0, [.ref xr, .ref xh, .ref yk])), (xr, .inl (cxr, 1024, .inl (hd_ar r))), (xh, .inl (cxh, 1024, .inl (hd_ar h))), (yk, .inl (cyk, 32, .inl (hd_bt (hd_K (hd_b r h) 256))))]) hP hD [0, 1, 2, 3] [4, 5, 6, 7] rfl rfl (by decide) (by decide) hk1 hFc hP1 hD1
        have hK := (hK.sub (tys' := [(cmr, .int), (cmh, .int), (cmk, .int)]) [3, 4, 5] rfl).app hK1
        generalize H1 = H at hP hS ⊢
        have hP : va_P (dC, dI) vwCl [(m0, .inr (1, [.ref mr, .ref mh, .ref mk])), (mr, .inl (cmr, 1024, .inl (hd_ar r))), (mh, .inl (cmh, 1024, .inl (hd_ar h))), (mk, .inl (cmk, 32, .inl (hd_ar km))), (x0, .inr (0, [.ref xr, .ref xh, .ref yk])), (xr, .inl (cxr, 1024, .inl (hd_ar r))), (xh, .inl (cxh, 1024, .inl (hd_ar h))), (yk, .inl (cyk, 32, .inl (hd_bt (hd_K (hd_b r h) 256))))] H := hP
        have hD : va_D (fun q : Nat => s.heap.size ≤ q) [(m0, .inr (1, [.ref mr, .ref mh, .ref mk])), (mr, .inl (cmr, 1024, .inl (hd_ar r))), (mh, .inl (cmh, 1024, .inl (hd_ar h))), (mk, .inl (cmk, 32, .inl (hd_ar km))), (x0, .inr (0, [.ref xr, .ref xh, .ref yk])), (xr, .inl (cxr, 1024, .inl (hd_ar r))), (xh, .inl (cxh, 1024, .inl (hd_ar h))), (yk, .inl (cyk, 32, .inl (hd_bt (hd_K (hd_b r h) 256))))] := hD
        have hK : va_K (dC, dI) vwCl [(cmr, .int), (cmh, .int), (cmk, .int), (cxr, .short), (cxh, .short), (cyk, .byte)] s := hK
        refine lv_aload_n hx hb dL_law_214 rfl (lv_at hl 3 rfl) ?_
        have hPc := hP.sub (ws' := [(m0, .inr (1, [.ref mr, .ref mh, .ref mk])), (mr, .inl (cmr, 1024, .inl (hd_ar r))), (mh, .inl (cmh, 1024, .inl (hd_ar h))), (mk, .inl (cmk, 32, .inl (hd_ar km)))]) [0, 1, 2, 3] rfl
        have hDc := hD.sub (ws' := [(m0, .inr (1, [.ref mr, .ref mh, .ref mk])), (mr, .inl (cmr, 1024, .inl (hd_ar r))), (mh, .inl (cmh, 1024, .inl (hd_ar h))), (mk, .inl (cmk, 32, .inl (hd_ar km)))]) [0, 1, 2, 3] (by decide) rfl
        have hKc := hK.sub (tys' := [(cmr, .int), (cmh, .int), (cmk, .int)]) [0, 1, 2] rfl
        have hFc := va_free (wc := [(m0, .inr (1, [.ref mr, .ref mh, .ref mk])), (mr, .inl (cmr, 1024, .inl (hd_ar r))), (mh, .inl (cmh, 1024, .inl (hd_ar h))), (mk, .inl (cmk, 32, .inl (hd_ar km)))]) hD hS hA [0, 1, 2, 3] rfl
        refine va_callv (va_runV (As := []) (rest := []) ⟨hx, hb, hml, hown, hts⟩ (metX1_mend l dC dI m0 mr mh mk cmr cmh cmk H.size r h km hrb hhb) (cwV 0 hts (lw_V q112 q113 q114 q3 q115) rfl rfl rfl (by decide +kernel) ⟨Nat.le_of_ble_eq_true rfl, Nat.le_of_ble_eq_true rfl⟩) ⟨fun a U g mk q => by obtain ⟨q0, q1, qP, qK, qD⟩ := q; exact ⟨q0, q1, qP, va_K.moved (u := U) (U := U.calling g mk a) (Vm.Alike.refl U.vm) qK, qD⟩, va_recv hKc hPc (ci := 1) (q0 := 0) rfl rfl, fun U hU hW => ⟨rfl, by rw [hU], by rw [hU]; exact hPc, va_K.moved hW.alike hKc, hDc.weaken (fun _ _ _ _ => trivial)⟩⟩ rfl rfl hl.1 rfl (lv_room (Nat.le_of_ble_eq_true rfl)) dL_law_215 ⟨Nat.le_trans (show 8 + 2 * j + 2 + 0 ≤ 1000 from by omega) (Nat.le_of_ble_eq_true rfl), Nat.le_trans (show 4166 + 36 * j + 36 + 0 ≤ 10000 from by omega) (Nat.le_of_ble_eq_true rfl)⟩) hS (fun q _ h => hFc q h) hFc (fun u t H1 locs ht hvm hw hB hz1 hk1 hS => ?_)
        obtain ⟨kn, hkn, hP1, hK1, hD1⟩ := hB
        rw [ht] at hP1
        have hK1 := va_K.moved hvm.symm hK1
        obtain ⟨hP, hD⟩ := va_join (wr := [(x0, .inr (0, [.ref xr, .ref xh, .ref yk])), (xr, .inl (cxr, 1024, .inl (hd_ar r))), (xh, .inl (cxh, 1024, .inl (hd_ar h))), (yk, .inl (cyk, 32, .inl (hd_bt (hd_K (hd_b r h) 256))))]) (w1 := [(m0, .inr (1, [.ref mr, .ref mh, .ref mk])), (mr, .inl (cmr, 1024, .inl (hd_ar r))), (mh, .inl (cmh, 1024, .inl (hd_ar h))), (mk, .inl (cmk, 32, .inl (hd_ar kn)))]) hP hD [0, 1, 2, 3] [4, 5, 6, 7] rfl rfl (by decide) (by decide) hk1 hFc hP1 hD1
        have hK := (hK.sub (tys' := [(cxr, .short), (cxh, .short), (cyk, .byte)]) [3, 4, 5] rfl).app hK1
        generalize H1 = H at hP hS ⊢
        have hP : va_P (dC, dI) vwCl [(x0, .inr (0, [.ref xr, .ref xh, .ref yk])), (xr, .inl (cxr, 1024, .inl (hd_ar r))), (xh, .inl (cxh, 1024, .inl (hd_ar h))), (yk, .inl (cyk, 32, .inl (hd_bt (hd_K (hd_b r h) 256)))), (m0, .inr (1, [.ref mr, .ref mh, .ref mk])), (mr, .inl (cmr, 1024, .inl (hd_ar r))), (mh, .inl (cmh, 1024, .inl (hd_ar h))), (mk, .inl (cmk, 32, .inl (hd_ar kn)))] H := hP
        have hD : va_D (fun q : Nat => s.heap.size ≤ q) [(x0, .inr (0, [.ref xr, .ref xh, .ref yk])), (xr, .inl (cxr, 1024, .inl (hd_ar r))), (xh, .inl (cxh, 1024, .inl (hd_ar h))), (yk, .inl (cyk, 32, .inl (hd_bt (hd_K (hd_b r h) 256)))), (m0, .inr (1, [.ref mr, .ref mh, .ref mk])), (mr, .inl (cmr, 1024, .inl (hd_ar r))), (mh, .inl (cmh, 1024, .inl (hd_ar h))), (mk, .inl (cmk, 32, .inl (hd_ar kn)))] := hD
        have hK : va_K (dC, dI) vwCl [(cxr, .short), (cxh, .short), (cyk, .byte), (cmr, .int), (cmh, .int), (cmk, .int)] s := hK
        refine lv_goto (tgt := 267) hx hb dL_law_218 (by decide) ?_
        have hkk2 : ∀ i, i < 32 → hd_K (hd_b r h) 256 i = kn i ∧ kn i < 256 := fun i hi => ⟨(hd_Kend (hd_b r h) hi).trans (hkn i hi).symm, by rw [hkn i hi]; exact hd_H_lt (hd_b_le r h) i 8⟩
        refine lv_iinc (v := (nI (6 * (j + 1)))) (lv' := [(3, .int (nI (6 * (j + 1)))), (0, .ref b), (1, .ref x0), (2, .ref m0)]) hx hb dL_law_267 hl (k := 0) rfl ((nI_add (6 * j) 6).trans (congrArg nI (show 6 * j + 6 = 6 * (j + 1) from by omega))) (by decide) rfl (fun ls hl => ?_)
        refine lv_goto (tgt := 18) hx hb dL_law_270 (by decide) ?_
        refine W.widen (k := 8 + 2 * (j + 1)) (n := 4166 + 36 * (j + 1)) (by omega) (by omega) ?_
        exact ih (j + 1) (by omega) (by omega) r h (hd_K (hd_b r h) 256) kn hrb hhb hkk2 x0 xr xh yk m0 mr mh mk cxr cxh cyk cmr cmh cmk H locs hK hP hD hS ls (lv_sub hl [0, 1, 2, 3] rfl)
      · refine lv_tableIn (off := 188) (tgt := 221) hx hb dL_law_33 (by decide +kernel) (by decide +kernel) (by decide +kernel) (by decide) ?_
        have hS0 := hS
        refine lv_aload_n hx hb dL_law_221 rfl (lv_at hl 2 rfl) ?_
        refine lv_aload_n hx hb dL_law_222 rfl (lv_at hl 1 rfl) ?_
        refine lv_iload_n hx hb dL_law_223 rfl (lv_at hl 0 rfl) ?_
        refine lv_iconst (v := nI 1) hx hb dL_law_224 (by decide +kernel) ?_
        refine lv_iadd hx hb dL_law_225 ?_
        refine hd_top (nI (6 * j + 1)) (nI_add _ _) ?_
        refine va_sld hx hb hX hbl hbA hS (vp_in_nI (show 6 * j + 1 < L from by omega) (by omega)) dL_law_226 ?_
        refine hd_top (xs (6 * j + 1)) (congrArg xs (nI_clamp (by omega))) ?_
        have hPc := hP.sub (ws' := [(x0, .inr (0, [.ref xr, .ref xh, .ref xk])), (xr, .inl (cxr, 1024, .inl (hd_ar r))), (xh, .inl (cxh, 1024, .inl (hd_ar h))), (xk, .inl (cxk, 32, .inl (hd_bt kx)))]) [0, 1, 2, 3] rfl
        have hKc := hK.sub (tys' := [(cxr, .short), (cxh, .short), (cxk, .byte)]) [0, 1, 2] rfl
        refine vp_callSi (W.runV (As := [.int (xs (6 * j + 1))]) (rest := []) ⟨hx, hb, hml, hown, hts⟩ (metX0_key l dC dI x0 xr xh xk cxr cxh cxk r h kx (fun i hi => by rw [(hkk i hi).1]; exact (hkk i hi).2) (xs (6 * j + 1))) (cwV 1 hts (lw_V q71 q72 q73 q2 q74) rfl rfl rfl (by decide +kernel) ⟨Nat.le_of_ble_eq_true rfl, Nat.le_of_ble_eq_true rfl⟩) ⟨fun a U g mk q => by obtain ⟨q0, qP, qK⟩ := q; exact ⟨q0, qP, va_K.moved (u := U) (U := U.calling g mk a) (Vm.Alike.refl U.vm) qK⟩, va_recv hKc hPc (ci := 0) (q0 := 0) rfl rfl, fun U hU hW => ⟨rfl, by rw [hU]; exact hPc, va_K.moved hW.alike hKc⟩⟩ rfl rfl hl.1 rfl (lv_room (Nat.le_of_ble_eq_true rfl)) dL_law_227 ⟨Nat.le_trans (show 8 + 2 * j + 0 ≤ 1000 from by omega) (Nat.le_of_ble_eq_true rfl), Nat.le_trans (show 4166 + 36 * j + 0 ≤ 10000 from by omega) (Nat.le_of_ble_eq_true rfl)⟩) (fun r_1 hr_1 => ?_)
        obtain rfl : r_1 = nI (kx (hd_j (xs (6 * j + 1)))) := hr_1
        refine lv_aload_n hx hb dL_law_230 rfl (lv_at hl 3 rfl) ?_
        refine lv_aload_n hx hb dL_law_231 rfl (lv_at hl 1 rfl) ?_
        refine lv_iload_n hx hb dL_law_232 rfl (lv_at hl 0 rfl) ?_
        refine lv_iconst (v := nI 1) hx hb dL_law_233 (by decide +kernel) ?_
        refine lv_iadd hx hb dL_law_234 ?_
        refine hd_top (nI (6 * j + 1)) (nI_add _ _) ?_
        refine va_sld hx hb hX hbl hbA hS (vp_in_nI (show 6 * j + 1 < L from by omega) (by omega)) dL_law_235 ?_
        refine hd_top (xs (6 * j + 1)) (congrArg xs (nI_clamp (by omega))) ?_
        have hPc := hP.sub (ws' := [(m0, .inr (1, [.ref mr, .ref mh, .ref mk])), (mr, .inl (cmr, 1024, .inl (hd_ar r))), (mh, .inl (cmh, 1024, .inl (hd_ar h))), (mk, .inl (cmk, 32, .inl (hd_ar km)))]) [4, 5, 6, 7] rfl
        have hKc := hK.sub (tys' := [(cmr, .int), (cmh, .int), (cmk, .int)]) [3, 4, 5] rfl
        refine vp_callSi (W.runV (As := [.int (xs (6 * j + 1))]) (rest := [.int (nI (kx (hd_j (xs (6 * j + 1)))))]) ⟨hx, hb, hml, hown, hts⟩ (metX1_key l dC dI m0 mr mh mk cmr cmh cmk r h km (xs (6 * j + 1))) (cwV 1 hts (lw_V q125 q126 q127 q3 q128) rfl rfl rfl (by decide +kernel) ⟨Nat.le_of_ble_eq_true rfl, Nat.le_of_ble_eq_true rfl⟩) ⟨fun a U g mk q => by obtain ⟨q0, qP, qK⟩ := q; exact ⟨q0, qP, va_K.moved (u := U) (U := U.calling g mk a) (Vm.Alike.refl U.vm) qK⟩, va_recv hKc hPc (ci := 1) (q0 := 0) rfl rfl, fun U hU hW => ⟨rfl, by rw [hU]; exact hPc, va_K.moved hW.alike hKc⟩⟩ rfl rfl hl.1 rfl (lv_room (Nat.le_of_ble_eq_true rfl)) dL_law_236 ⟨Nat.le_trans (show 8 + 2 * j + 0 ≤ 1000 from by omega) (Nat.le_of_ble_eq_true rfl), Nat.le_trans (show 4166 + 36 * j + 0 ≤ 10000 from by omega) (Nat.le_of_ble_eq_true rfl)⟩) (fun r_2 hr_2 => ?_)
        obtain rfl : r_2 = nI (km (hd_j (xs (6 * j + 1)))) := hr_2
        refine lv_icmp_eq (tgt := 267) hx hb dL_law_239 (by decide) (fun hc => ?_) (fun hc => absurd (congrArg nI (hkk _ (hd_j_lt _)).1) hc)
        refine lv_iinc (v := (nI (6 * (j + 1)))) (lv' := [(3, .int (nI (6 * (j + 1)))), (0, .ref b), (1, .ref x0), (2, .ref m0)]) hx hb dL_law_267 hl (k := 0) rfl ((nI_add (6 * j) 6).trans (congrArg nI (show 6 * j + 6 = 6 * (j + 1) from by omega))) (by decide) rfl (fun ls hl => ?_)
        refine lv_goto (tgt := 18) hx hb dL_law_270 (by decide) ?_
        refine W.widen (k := 8 + 2 * (j + 1)) (n := 4166 + 36 * (j + 1)) (by omega) (by omega) ?_
        exact ih (j + 1) (by omega) (by omega) r h kx km hrb hhb hkk x0 xr xh xk m0 mr mh mk cxr cxh cxk cmr cmh cmk H locs hK hP hD hS ls (lv_sub hl [0, 1, 2, 3] rfl)
      · refine lv_tableIn (off := 211) (tgt := 244) hx hb dL_law_33 (by decide +kernel) (by decide +kernel) (by decide +kernel) (by decide) ?_
        have hS0 := hS
        refine lv_aload_n hx hb dL_law_244 rfl (lv_at hl 2 rfl) ?_
        refine lv_aload_n hx hb dL_law_245 rfl (lv_at hl 1 rfl) ?_
        refine lv_iload_n hx hb dL_law_246 rfl (lv_at hl 0 rfl) ?_
        refine lv_iconst (v := nI 1) hx hb dL_law_247 (by decide +kernel) ?_
        refine lv_iadd hx hb dL_law_248 ?_
        refine hd_top (nI (6 * j + 1)) (nI_add _ _) ?_
        refine va_sld hx hb hX hbl hbA hS (vp_in_nI (show 6 * j + 1 < L from by omega) (by omega)) dL_law_249 ?_
        refine hd_top (xs (6 * j + 1)) (congrArg xs (nI_clamp (by omega))) ?_
        have hPc := hP.sub (ws' := [(x0, .inr (0, [.ref xr, .ref xh, .ref xk])), (xr, .inl (cxr, 1024, .inl (hd_ar r))), (xh, .inl (cxh, 1024, .inl (hd_ar h))), (xk, .inl (cxk, 32, .inl (hd_bt kx)))]) [0, 1, 2, 3] rfl
        have hKc := hK.sub (tys' := [(cxr, .short), (cxh, .short), (cxk, .byte)]) [0, 1, 2] rfl
        refine vp_callSi (W.runV (As := [.int (xs (6 * j + 1))]) (rest := []) ⟨hx, hb, hml, hown, hts⟩ (metX0_get l dC dI x0 xr xh xk cxr cxh cxk r h kx (xs (6 * j + 1))) (cwV 1 hts (lw_V q75 q76 q77 q2 q78) rfl rfl rfl (by decide +kernel) ⟨Nat.le_of_ble_eq_true rfl, Nat.le_of_ble_eq_true rfl⟩) ⟨fun a U g mk q => by obtain ⟨q0, qP, qK⟩ := q; exact ⟨q0, qP, va_K.moved (u := U) (U := U.calling g mk a) (Vm.Alike.refl U.vm) qK⟩, va_recv hKc hPc (ci := 0) (q0 := 0) rfl rfl, fun U hU hW => ⟨rfl, by rw [hU]; exact hPc, va_K.moved hW.alike hKc⟩⟩ rfl rfl hl.1 rfl (lv_room (Nat.le_of_ble_eq_true rfl)) dL_law_250 ⟨Nat.le_trans (show 8 + 2 * j + 0 ≤ 1000 from by omega) (Nat.le_of_ble_eq_true rfl), Nat.le_trans (show 4166 + 36 * j + 0 ≤ 10000 from by omega) (Nat.le_of_ble_eq_true rfl)⟩) (fun r_1 hr_1 => ?_)
        obtain rfl : r_1 = nI (r (hd_i (xs (6 * j + 1)))) := hr_1
        refine lv_aload_n hx hb dL_law_253 rfl (lv_at hl 3 rfl) ?_
        refine lv_aload_n hx hb dL_law_254 rfl (lv_at hl 1 rfl) ?_
        refine lv_iload_n hx hb dL_law_255 rfl (lv_at hl 0 rfl) ?_
        refine lv_iconst (v := nI 1) hx hb dL_law_256 (by decide +kernel) ?_
        refine lv_iadd hx hb dL_law_257 ?_
        refine hd_top (nI (6 * j + 1)) (nI_add _ _) ?_
        refine va_sld hx hb hX hbl hbA hS (vp_in_nI (show 6 * j + 1 < L from by omega) (by omega)) dL_law_258 ?_
        refine hd_top (xs (6 * j + 1)) (congrArg xs (nI_clamp (by omega))) ?_
        have hPc := hP.sub (ws' := [(m0, .inr (1, [.ref mr, .ref mh, .ref mk])), (mr, .inl (cmr, 1024, .inl (hd_ar r))), (mh, .inl (cmh, 1024, .inl (hd_ar h))), (mk, .inl (cmk, 32, .inl (hd_ar km)))]) [4, 5, 6, 7] rfl
        have hKc := hK.sub (tys' := [(cmr, .int), (cmh, .int), (cmk, .int)]) [3, 4, 5] rfl
        refine vp_callSi (W.runV (As := [.int (xs (6 * j + 1))]) (rest := [.int (nI (r (hd_i (xs (6 * j + 1)))))]) ⟨hx, hb, hml, hown, hts⟩ (metX1_get l dC dI m0 mr mh mk cmr cmh cmk r h km (xs (6 * j + 1))) (cwV 1 hts (lw_V q129 q130 q131 q3 q132) rfl rfl rfl (by decide +kernel) ⟨Nat.le_of_ble_eq_true rfl, Nat.le_of_ble_eq_true rfl⟩) ⟨fun a U g mk q => by obtain ⟨q0, qP, qK⟩ := q; exact ⟨q0, qP, va_K.moved (u := U) (U := U.calling g mk a) (Vm.Alike.refl U.vm) qK⟩, va_recv hKc hPc (ci := 1) (q0 := 0) rfl rfl, fun U hU hW => ⟨rfl, by rw [hU]; exact hPc, va_K.moved hW.alike hKc⟩⟩ rfl rfl hl.1 rfl (lv_room (Nat.le_of_ble_eq_true rfl)) dL_law_259 ⟨Nat.le_trans (show 8 + 2 * j + 0 ≤ 1000 from by omega) (Nat.le_of_ble_eq_true rfl), Nat.le_trans (show 4166 + 36 * j + 0 ≤ 10000 from by omega) (Nat.le_of_ble_eq_true rfl)⟩) (fun r_2 hr_2 => ?_)
        obtain rfl : r_2 = nI (r (hd_i (xs (6 * j + 1)))) := hr_2
        refine lv_icmp_eq (tgt := 267) hx hb dL_law_262 (by decide) (fun hc => ?_) (fun hc => absurd (rfl) hc)
        refine lv_iinc (v := (nI (6 * (j + 1)))) (lv' := [(3, .int (nI (6 * (j + 1)))), (0, .ref b), (1, .ref x0), (2, .ref m0)]) hx hb dL_law_267 hl (k := 0) rfl ((nI_add (6 * j) 6).trans (congrArg nI (show 6 * j + 6 = 6 * (j + 1) from by omega))) (by decide) rfl (fun ls hl => ?_)
        refine lv_goto (tgt := 18) hx hb dL_law_270 (by decide) ?_
        refine W.widen (k := 8 + 2 * (j + 1)) (n := 4166 + 36 * (j + 1)) (by omega) (by omega) ?_
        exact ih (j + 1) (by omega) (by omega) r h kx km hrb hhb hkk x0 xr xh xk m0 mr mh mk cxr cxh cxk cmr cmh cmk H locs hK hP hD hS ls (lv_sub hl [0, 1, 2, 3] rfl)
      · refine lv_tableOut (tgt := 267) hx hb dL_law_33 (Or.inr (by decide +kernel)) (by decide) ?_
        refine lv_iinc (v := (nI (6 * (j + 1)))) (lv' := [(3, .int (nI (6 * (j + 1)))), (0, .ref b), (1, .ref x0), (2, .ref m0)]) hx hb dL_law_267 hl (k := 0) rfl ((nI_add (6 * j) 6).trans (congrArg nI (show 6 * j + 6 = 6 * (j + 1) from by omega))) (by decide) rfl (fun ls hl => ?_)
        refine lv_goto (tgt := 18) hx hb dL_law_270 (by decide) ?_
        refine W.widen (k := 8 + 2 * (j + 1)) (n := 4166 + 36 * (j + 1)) (by omega) (by omega) ?_
        exact ih (j + 1) (by omega) (by omega) r h kx km hrb hhb hkk x0 xr xh xk m0 mr mh mk cxr cxh cxk cmr cmh cmk H locs hK hP hD hS ls (lv_sub hl [0, 1, 2, 3] rfl)
set_option maxHeartbeats 4000000 in
set_option maxRecDepth 100000 in
/-- the law from its entry: two desks are made -/
theorem whole_start {p : Program} {e : Env} {s : State} {m : MethodId} {below : List Frame} {meth : Method} {c : Code} (l : Launch) (hflags : l.flags = flags0) {b L : Nat} {xs : Nat → Int32} (hL : L ≤ 48) (C0 : lw_At p s m meth c b L xs) : W p l e room_1 s m #[Value.ref b] below meth c s.heap [] 0 0 (lw_Z below #[Value.ref b] s) (entryFrame m ([Value.ref b] : List Value).toArray 4) := by
  obtain ⟨hx, hb, hr, hml, hown, hts0, hX, hbl, hlocks, hgv⟩ := id C0
  have hts : ∀ w ∈ lw_all, w.before #[Value.ref b] s = true := fun w h => hts0 w (lw_all_tbl h)
  have hA : ∀ q : Nat, s.heap.size ≤ q → (fun q : Nat => s.heap.size ≤ q) q := fun _ h => h
  obtain ⟨c0, iS0, hKn0⟩ := u_known (C := RX0) (T := TX0) (N := 3) (n := 3) hts in_X0 (hts _ q8)
  obtain ⟨c1, iS1, hKn1⟩ := u_known (C := RX1) (T := TX1) (N := 3) (n := 3) hts in_X1 (hts _ q80)
  obtain ⟨dC, dI, hKc⟩ : ∃ (dC : Nat → ClassId) (dI : Nat → Nat → Nat), ∀ (k : Nat) (q : vw_C), vwCl[k]? = some q → u_Kn s q.1 q.2.1 q.2.2 (dC k) (dI k) := by
    refine ⟨fun k => if k = 0 then c0 else c1, fun k => if k = 0 then iS0 else iS1, ?_⟩
    intro k q hq
    match k, hq with
    | 0, hq => cases hq; exact hKn0
    | 1, hq => cases hq; exact hKn1
    | k + 2, hq => simp [vwCl] at hq
  have hS : va_S (fun q : Nat => s.heap.size ≤ q) s.heap s.heap [] := va_S.rf
  have hK : va_K (dC, dI) vwCl [] s := ⟨hKc, fun k q h => by simp at h⟩
  have hP : va_P (dC, dI) vwCl [] s.heap := fun k q h => by simp at h
  have hD : va_D (fun q : Nat => s.heap.size ≤ q) [] := ⟨fun i j p q h => by simp at h, fun k q h => by simp at h⟩
  have hl := lv_entry ([.ref b]) (n := 4) (Nat.le_of_ble_eq_true rfl)
  rw [lg_entry_eq]
  generalize (lg_sl ([.ref b]) ++ List.replicate (4 - (lg_sl ([.ref b])).length) Slot.unset).toArray = ls at hl ⊢
  have hl : lv_has ls 4 [(0, .ref b)] := hl
  refine va_new (ci := 0) (fs := [.null, .null, .null]) (C := RX0) (T := TX0) (N := 3) hx hb hts in_X0 tyX0 tyX0_ok hown (hts _ q7) (hts _ q8) (hts _ q2) hK hP hD hS hA rfl (fun j hj => by rcases (show j = 0 ∨ j = 1 ∨ j = 2 by omega) with rfl | rfl | rfl <;> rfl) (Nat.le_of_ble_eq_true rfl) (Nat.le_of_ble_eq_true rfl) dL_law_0 (fun x0 H hP hD hS => ?_)
  have hP : va_P (dC, dI) vwCl [(x0, .inr (0, [.null, .null, .null]))] H := hP
  have hD : va_D (fun q : Nat => s.heap.size ≤ q) [(x0, .inr (0, [.null, .null, .null]))] := hD
  refine W.widen (k := 1) (n := 3) (Nat.le_of_ble_eq_true rfl) (Nat.le_of_ble_eq_true rfl) ?_
  refine lv_dup hx hb dL_law_3 rfl ?_
  have hPc := hP.sub (ws' := [(x0, .inr (0, [.null, .null, .null]))]) [0] rfl
  have hDc := hD.sub (ws' := [(x0, .inr (0, [.null, .null, .null]))]) [0] (by decide) rfl
  have hKc := hK.sub (tys' := []) [] rfl
  have hFc := va_free (wc := [(x0, .inr (0, [.null, .null, .null]))]) hD hS hA [0] rfl
  refine va_callv (va_runI (As := []) (rest := [.ref x0]) ⟨hx, hb, hml, hown, hts⟩ (metX0_init l dC dI x0 H.size) (cwI 0 hts (lw_meth q11) rfl rfl rfl (hts _ q2) (hts _ q9) (hts _ q10) rfl (by decide +kernel) ⟨Nat.le_of_ble_eq_true rfl, Nat.le_of_ble_eq_true rfl⟩) ⟨fun a U g mk q => by obtain ⟨q0, q1, qP, qK, qD⟩ := q; exact ⟨q0, q1, qP, va_K.moved (u := U) (U := U.calling g mk a) (Vm.Alike.refl U.vm) qK, qD⟩, fun U hU hW => ⟨rfl, by rw [hU], by rw [hU]; exact hPc, va_K.moved hW.alike hKc, hDc.weaken (fun _ _ _ _ => trivial)⟩⟩ rfl rfl hl.1 rfl (lv_room (Nat.le_of_ble_eq_true rfl)) dL_law_4 ⟨Nat.le_of_ble_eq_true rfl, Nat.le_of_ble_eq_true rfl⟩) hS (fun q _ h => hFc q h) hFc (fun u t H1 locs ht hvm hw hB hz1 hk1 hS => ?_)
  obtain ⟨xr, xh, xk, cxr, cxh, cxk, hP1, hK1, hD1⟩ := hB
  rw [ht] at hP1
  have hK1 := va_K.moved hvm.symm hK1
  obtain ⟨hP, hD⟩ := va_join (wr := []) (w1 := [(x0, .inr (0, [.ref xr, .ref xh, .ref xk])), (xr, .inl (cxr, 1024, .inl (hd_ar hd_z))), (xh, .inl (cxh, 1024, .inl (hd_ar hd_z))), (xk, .inl (cxk, 32, .inl (hd_bt hd_z)))]) hP hD [0] [] rfl rfl (by decide) (by decide) hk1 hFc hP1 hD1
  have hK := (hK.sub (tys' := []) [] rfl).app hK1
  generalize H1 = H at hP hS ⊢
  have hP : va_P (dC, dI) vwCl [(x0, .inr (0, [.ref xr, .ref xh, .ref xk])), (xr, .inl (cxr, 1024, .inl (hd_ar hd_z))), (xh, .inl (cxh, 1024, .inl (hd_ar hd_z))), (xk, .inl (cxk, 32, .inl (hd_bt hd_z)))] H := hP
  have hD : va_D (fun q : Nat => s.heap.size ≤ q) [(x0, .inr (0, [.ref xr, .ref xh, .ref xk])), (xr, .inl (cxr, 1024, .inl (hd_ar hd_z))), (xh, .inl (cxh, 1024, .inl (hd_ar hd_z))), (xk, .inl (cxk, 32, .inl (hd_bt hd_z)))] := hD
  have hK : va_K (dC, dI) vwCl [(cxr, .short), (cxh, .short), (cxk, .byte)] s := hK
  refine W.widen (k := 4) (n := 2083) (Nat.le_of_ble_eq_true rfl) (Nat.le_of_ble_eq_true rfl) ?_
  refine lv_astore_n (lv' := [(1, .ref x0), (0, .ref b)]) hx hb dL_law_7 rfl hl (by decide) rfl (fun ls hl => ?_)
  refine va_new (ci := 1) (fs := [.null, .null, .null]) (C := RX1) (T := TX1) (N := 3) hx hb hts in_X1 tyX1 tyX1_ok hown (hts _ q79) (hts _ q80) (hts _ q3) hK hP hD hS hA rfl (fun j hj => by rcases (show j = 0 ∨ j = 1 ∨ j = 2 by omega) with rfl | rfl | rfl <;> rfl) (Nat.le_of_ble_eq_true rfl) (Nat.le_of_ble_eq_true rfl) dL_law_8 (fun m0 H hP hD hS => ?_)
  have hP : va_P (dC, dI) vwCl [(x0, .inr (0, [.ref xr, .ref xh, .ref xk])), (xr, .inl (cxr, 1024, .inl (hd_ar hd_z))), (xh, .inl (cxh, 1024, .inl (hd_ar hd_z))), (xk, .inl (cxk, 32, .inl (hd_bt hd_z))), (m0, .inr (1, [.null, .null, .null]))] H := hP
  have hD : va_D (fun q : Nat => s.heap.size ≤ q) [(x0, .inr (0, [.ref xr, .ref xh, .ref xk])), (xr, .inl (cxr, 1024, .inl (hd_ar hd_z))), (xh, .inl (cxh, 1024, .inl (hd_ar hd_z))), (xk, .inl (cxk, 32, .inl (hd_bt hd_z))), (m0, .inr (1, [.null, .null, .null]))] := hD
  refine W.widen (k := 5) (n := 2086) (Nat.le_of_ble_eq_true rfl) (Nat.le_of_ble_eq_true rfl) ?_
  refine lv_dup hx hb dL_law_11 rfl ?_
  have hPc := hP.sub (ws' := [(m0, .inr (1, [.null, .null, .null]))]) [4] rfl
  have hDc := hD.sub (ws' := [(m0, .inr (1, [.null, .null, .null]))]) [4] (by decide) rfl
  have hKc := hK.sub (tys' := []) [] rfl
  have hFc := va_free (wc := [(m0, .inr (1, [.null, .null, .null]))]) hD hS hA [4] rfl
  refine va_callv (va_runI (As := []) (rest := [.ref m0]) ⟨hx, hb, hml, hown, hts⟩ (metX1_init l dC dI m0 H.size) (cwI 0 hts (lw_meth q83) rfl rfl rfl (hts _ q3) (hts _ q81) (hts _ q82) rfl (by decide +kernel) ⟨Nat.le_of_ble_eq_true rfl, Nat.le_of_ble_eq_true rfl⟩) ⟨fun a U g mk q => by obtain ⟨q0, q1, qP, qK, qD⟩ := q; exact ⟨q0, q1, qP, va_K.moved (u := U) (U := U.calling g mk a) (Vm.Alike.refl U.vm) qK, qD⟩, fun U hU hW => ⟨rfl, by rw [hU], by rw [hU]; exact hPc, va_K.moved hW.alike hKc, hDc.weaken (fun _ _ _ _ => trivial)⟩⟩ rfl rfl hl.1 rfl (lv_room (Nat.le_of_ble_eq_true rfl)) dL_law_12 ⟨Nat.le_of_ble_eq_true rfl, Nat.le_of_ble_eq_true rfl⟩) hS (fun q _ h => hFc q h) hFc (fun u t H1 locs ht hvm hw hB hz1 hk1 hS => ?_)
  obtain ⟨mr, mh, mk, cmr, cmh, cmk, hP1, hK1, hD1⟩ := hB
  rw [ht] at hP1
  have hK1 := va_K.moved hvm.symm hK1
  obtain ⟨hP, hD⟩ := va_join (wr := [(x0, .inr (0, [.ref xr, .ref xh, .ref xk])), (xr, .inl (cxr, 1024, .inl (hd_ar hd_z))), (xh, .inl (cxh, 1024, .inl (hd_ar hd_z))), (xk, .inl (cxk, 32, .inl (hd_bt hd_z)))]) (w1 := [(m0, .inr (1, [.ref mr, .ref mh, .ref mk])), (mr, .inl (cmr, 1024, .inl (hd_ar hd_z))), (mh, .inl (cmh, 1024, .inl (hd_ar hd_z))), (mk, .inl (cmk, 32, .inl (hd_ar hd_z)))]) hP hD [4] [0, 1, 2, 3] rfl rfl (by decide) (by decide) hk1 hFc hP1 hD1
  have hK := (hK.sub (tys' := [(cxr, .short), (cxh, .short), (cxk, .byte)]) [0, 1, 2] rfl).app hK1
  generalize H1 = H at hP hS ⊢
  have hP : va_P (dC, dI) vwCl [(x0, .inr (0, [.ref xr, .ref xh, .ref xk])), (xr, .inl (cxr, 1024, .inl (hd_ar hd_z))), (xh, .inl (cxh, 1024, .inl (hd_ar hd_z))), (xk, .inl (cxk, 32, .inl (hd_bt hd_z))), (m0, .inr (1, [.ref mr, .ref mh, .ref mk])), (mr, .inl (cmr, 1024, .inl (hd_ar hd_z))), (mh, .inl (cmh, 1024, .inl (hd_ar hd_z))), (mk, .inl (cmk, 32, .inl (hd_ar hd_z)))] H := hP
  have hD : va_D (fun q : Nat => s.heap.size ≤ q) [(x0, .inr (0, [.ref xr, .ref xh, .ref xk])), (xr, .inl (cxr, 1024, .inl (hd_ar hd_z))), (xh, .inl (cxh, 1024, .inl (hd_ar hd_z))), (xk, .inl (cxk, 32, .inl (hd_bt hd_z))), (m0, .inr (1, [.ref mr, .ref mh, .ref mk])), (mr, .inl (cmr, 1024, .inl (hd_ar hd_z))), (mh, .inl (cmh, 1024, .inl (hd_ar hd_z))), (mk, .inl (cmk, 32, .inl (hd_ar hd_z)))] := hD
  have hK : va_K (dC, dI) vwCl [(cxr, .short), (cxh, .short), (cxk, .byte), (cmr, .int), (cmh, .int), (cmk, .int)] s := hK
  refine W.widen (k := 8) (n := 4166) (Nat.le_of_ble_eq_true rfl) (Nat.le_of_ble_eq_true rfl) ?_
  refine lv_astore_n (lv' := [(2, .ref m0), (1, .ref x0), (0, .ref b)]) hx hb dL_law_15 rfl hl (by decide) rfl (fun ls hl => ?_)
  refine lv_iconst (v := nI 0) hx hb dL_law_16 (by decide +kernel) ?_
  refine lv_istore_n (lv' := [(3, .int (nI 0)), (2, .ref m0), (1, .ref x0), (0, .ref b)]) hx hb dL_law_17 rfl hl (by decide) rfl (fun ls hl => ?_)
  exact hd_loop hL C0 9 0 (by omega) (by omega) hd_z hd_z hd_z hd_z (fun _ => show 0 < 12289 from by decide) (fun _ => show 0 < 4 from by decide) (fun _ _ => ⟨rfl, show 0 < 256 from by decide⟩) x0 xr xh xk m0 mr mh mk cxr cxh cxk cmr cmh cmk H locs hK hP hD hS ls (lv_sub hl [0, 3, 2, 1] rfl)
-- ===== YOUR PART ENDS =====
set_option maxHeartbeats 4000000 in
theorem lw_walk (l : Launch) (hflags : l.flags = flags0) (b : Addr) (xs : List Int32) : MetFree l x (headSpec (Jvm.Cond.code x code maxLocals ret :: tables_1) room_1) (lw_P b xs) (fun _ _ _ _ _ => True) lw_Q := by
  refine MetFree.of_bodyS (code := code) (maxLocals := maxLocals) (ret := ret) (by decide) ?_ ?_
  · intro args s m h hn
    obtain ⟨meth, c, h1, h2, h3, h4, h5, h6, -, -⟩ := Cond.code_spec hn (atoms_spec (ws := Jvm.Cond.code x code maxLocals ret :: tables_1) h _ List.mem_cons_self)
    exact ⟨meth, c, h1, h2, h3, h4, h5, h6⟩
  · intro p e s m args below meth c s₁ B hml0 hP _
    obtain ⟨rfl, hx, hbd, hgv⟩ := hP
    obtain ⟨scr, harrAt, hlist, hof, hsmall⟩ := hx
    obtain ⟨hcb, hkn, -, -⟩ := State.arrayAt?_spec harrAt
    have hown : s.vm.findClass R_law = some m.cls := findClass_of_methodNamed B.named
    have hts0 : ∀ c ∈ (Jvm.Cond.code x code maxLocals ret :: tables_1), c.before #[Value.ref b] s = true := atoms_spec (ws := Jvm.Cond.code x code maxLocals ret :: tables_1) B.pre
    have hts : ∀ w ∈ lw_tbl, w.before #[Value.ref b] s = true := k2_hts_sels lw_privs (fun w hw => hts0 w (List.mem_cons_of_mem _ hw)) lw_privs_ok
    have hml : c.maxLocals = 4 := B.maxLocals_eq (hts0 _ List.mem_cons_self)
    have X₀ : Stand p l e room_1 s m #[Value.ref b] below meth c s₁ [] 0 0 := Stand.of_body B
    have hh0 : s₁.heap = s.heap := by rw [B.state]; rfl
    have hsz : scr.slots.size = xs.length := by rw [← Array.length_toList, hlist, List.length_map]
    have hval : ∀ j : Nat, j < xs.length → scr.slots[j]? = some (.int (xs.getD j 0)) := fun j hj => by
      rw [← Array.getElem?_toList, hlist]
      simp [hj]
    have hbl : b < s.heap.size := (Array.getElem?_eq_some_iff.mp hcb).1
    have hX : va_X b xs.length (fun j => xs.getD j 0) s s.heap := ⟨scr, hcb, hof, hkn, hsz, hval⟩
    have K : W p l e room_1 s m #[Value.ref b] below meth c s₁.heap [] 0 0 (lw_Z below #[Value.ref b] s) (entryFrame m ([Value.ref b] : List Value).toArray 4) := by
      rw [hh0]
      exact whole_start l hflags hbd ⟨B.exec, B.bytes, B.returns, hml, hown, hts, hX, hbl, B.notSynchronized, hgv⟩
    obtain ⟨t, a1, o, b1, b2, b3⟩ := K s₁ rfl X₀
    exact ⟨t, o, a1, b1, b2, b3⟩
theorem lw_pre_spec {args : Array Value} {s : State} (h : (Jvm.Cond.and given_1 narrow_1).before args s = true) (hr : rest_1_c.before args s = true) : ∃ (b : Addr) (xs : List Int32), lw_P b xs args s := by
  have hs := flat_of_before _ h
  have hq := flat_of_before _ hr
  have hc : (Cond.count 1).before args s = true := hs _ (by decide +kernel)
  have harr : (Cond.arrayOf (.arg 0) .int).before args s = true := hs _ (by decide +kernel)
  have hle : (Cond.le (.length (.arg 0)) (.int 48)).before args s = true := hs _ (by decide +kernel)
  have hlen : (Cond.isInt (.length (.arg 0))).before args s = true := hq _ (by decide +kernel)
  have hall : (Cond.all (.arg 0) (.isInt (.elem (.arg 0) (.index 0)))).before args s = true := hq _ (by decide +kernel)
  obtain ⟨b, xs, hb, hx⟩ := State.ints_of_pre rfl harr hlen hall
  have hsm : xs.length < 2 ^ 31 := hx.choose_spec.2.2.2
  have hev : (Term.length (.arg 0)).eval args s none [] s = some (.int xs.length.toInt32) := hx.length_eval hb
  have hv := Cond.le_ints hev (show (Term.int 48).eval args s none [] s = some (.int 48) from rfl)
  have hd : xs.length.toInt32 ≤ 48 := by
    simpa [Cond.before, Cond.holds, hv] using hle
  have hN : xs.length ≤ 48 := (Int32.ofNat_le_ofNat hsm (by decide)).mp (show Int32.ofNat xs.length ≤ Int32.ofNat 48 from hd)
  exact ⟨b, xs, Cond.one_arg hc (show args[0]? = some (.ref b) from hb), hx, hN, h⟩
theorem lw_comes (l : Launch) (hflags : l.flags = flags0) : Comes l x (Jvm.Cond.code x code maxLocals ret :: tables_1) room_1 (fun tb e args s => Calls_1 tb e args s ∧ rest_1 tb e args s ∧ Pre_1 tb e args s)
    (fun _ _ args s o t => lw_Q args s o t) := by
  intro p e ha hc hk s m args below hf hfit hheap happ hpre
  obtain ⟨b, xs, hP⟩ := lw_pre_spec hpre.2.2 hpre.2.1
  obtain ⟨k, o, h1, h2, h3, hQ⟩ := lw_walk l hflags b xs p e ha hc hk s m args below hf ((Spec.applies_iff_loose hf).mp happ).1 hP trivial
  exact ⟨k, o, h1, h2, h3, hQ⟩
theorem lw_frame {s t : State} {o : Outcome} {args : Array Value} (h : Framed s o t [] 1200000 5502250) :
    Framed s o t (fieldLocs frame_1_writes args s ++ arrayLocs frame_1_arrays args s ++ staticLocs frame_1_statics s) 1200000 5502250 := h
theorem lw_limb (L : Cond) (hL : ∀ (args : Array Value) (s t : State), L.after args s (.returned (some (.int 1))) t = true) :
    ArmFor flags0 classFile x code maxLocals ret World_1 tables_1 room_1 Calls_1 rest_1 Pre_1
      (fun tb e a s o t => postC L tb e a s o t ∧ Framed s o t (fieldLocs frame_1_writes a s ++ arrayLocs frame_1_arrays a s ++ staticLocs frame_1_statics s) 1200000 5502250) := by
  intro l hflags _ _ p e ha hc hk s m args below hf hfit hheap happ hpre
  obtain ⟨k, o, h1, h2, h3, rfl, hF⟩ := lw_comes l hflags p e ha hc hk s m args below hf hfit hheap happ hpre
  exact ⟨k, _, h1, h2, h3, hL args s _, lw_frame hF⟩
theorem i_vc : Claimed_1_1 ∧ Claimed_1_2 := ⟨lw_limb limb_1_1 (fun args s t => by simp [limb_1_1, Cond.after, Cond.holds, Cond.value]), lw_limb limb_1_2 (fun args s t => Cond.after_iff.mpr (by
  first | (rw [show limb_1_2 = Cond.eq .result (.int 1) from rfl, Cond.eq_ints (x := 1) (y := 1) rfl rfl]; simp; done) | (simp [limb_1_2, Cond.value, Term.eval]; done)))⟩
end
