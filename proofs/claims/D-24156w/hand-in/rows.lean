section
-- ===== PART A: goes FIRST, ahead of the names: the tables' words, and 'selects' of the private methods out of them =====
/-- a private method of a class that the tables say can be made, by its rows of tables_1 -/
def lw_okq (q : MethodName × Nat) : Prop := (q.1.cls ≠ "java/lang/invoke/MethodHandle" ∧ q.1.cls ≠ "java/lang/invoke/VarHandle") ∧ Cond.instantiable q.1.cls q.2 ∈ tables_1 ∧ Cond.privateMethod q.1 ∈ tables_1 ∧ Cond.instanceMethod q.1 ∈ tables_1
set_option maxRecDepth 100000
theorem lw_p0 : lw_okq (⟨"java/lang/Throwable", "fillInStackTrace", "(I)Ljava/lang/Throwable;"⟩, 6) := ⟨⟨by decide +kernel, by decide +kernel⟩, List.mem_of_getElem? (i := 85) rfl, List.mem_of_getElem? (i := 83) rfl, List.mem_of_getElem? (i := 84) rfl⟩
def lw_privs_1 : List (MethodName × Nat) := [(⟨"java/lang/Throwable", "fillInStackTrace", "(I)Ljava/lang/Throwable;"⟩, 6)]
theorem lw_r1 : ∀ q ∈ lw_privs_1, lw_okq q := List.forall_mem_cons.mpr ⟨lw_p0, fun _ h => absurd h List.not_mem_nil⟩
def lw_privs : List (MethodName × Nat) := lw_privs_1
def lw_tbl : List Cond := k2_sels lw_privs ++ tables_1
theorem lw_privs_ok : ∀ q ∈ lw_privs, lw_okq q := lw_r1
-- ===== ONE list of words for every method: the tables' words that hold all through a run =====
def lw_all : List Cond := lw_tbl.filter goodWord
/-- a word of the tables by its place: claim/WORDS.tsv -/
theorem lw_w {w : Cond} (i : Nat) (h : lw_tbl[i]? = some w) (g : goodWord w = true) : w ∈ lw_all := List.mem_filter.mpr ⟨List.mem_of_getElem? h, g⟩
theorem lw_all_tbl {w : Cond} (h : w ∈ lw_all) : w ∈ lw_tbl := (List.mem_filter.mp h).1
theorem lw_self : GoodIn lw_all lw_all := fun w h => ⟨h, good_of_word (List.mem_filter.mp h).2⟩
/-- a class's field words, by their places -/
theorem lw_in (ws : List Cond) (ps : List Nat) (hp : ws = ps.filterMap (fun i => lw_tbl[i]?)) (hg : ws.all goodWord = true) : ∀ w ∈ ws, w ∈ lw_all := by
  intro w h
  have h1 := List.all_eq_true.mp hg w h
  rw [hp] at h
  obtain ⟨i, -, hi⟩ := List.mem_filterMap.mp h
  exact lw_w i hi h1
/-- the words of a contract for the method y with code b, L locals, answer r -/
abbrev ws_ (y : MethodName) (b : ByteArray) (L : Nat) (r : Option FieldType) : List Cond := Cond.code y b L r :: lw_all
theorem lw_meth {y : MethodName} {b : ByteArray} {L : Nat} {r : Option FieldType} (h : Cond.code y b L r ∈ lw_all) : GoodIn lw_all (ws_ y b L r) := by
  intro w hw
  rcases List.mem_cons.mp hw with e | e
  · rw [e]
    exact lw_self _ h
  · exact lw_self _ e
theorem lw_app {a c : List Cond} (ha : ∀ w ∈ a, w ∈ lw_all) (hc : GoodIn lw_all c) : GoodIn lw_all (a ++ c) := by
  intro w hw
  rcases List.mem_append.mp hw with e | e
  · exact lw_self w (ha w e)
  · exact hc w e
/-- what a call through an object asks: cwV n hts (lw_V ..) -/
theorem lw_V {own : String} {idx : Nat} {C : String} {y : MethodName} {b : ByteArray} {L : Nat} {r : Option FieldType} (h1 : Cond.methodLink own idx y ∈ lw_all) (h2 : Cond.instanceMethod y ∈ lw_all) (h3 : Cond.selects C y y ∈ lw_all) (h4 : Cond.initialized C ∈ lw_all) (h5 : Cond.code y b L r ∈ lw_all) : GoodIn lw_all (wsV own idx C y (ws_ y b L r)) := by
  refine lw_app ?_ (lw_meth h5)
  intro w hw
  simp only [List.mem_cons, List.not_mem_nil, or_false] at hw
  rcases hw with e | e | e | e
  · rw [e]; exact h1
  · rw [e]; exact h2
  · rw [e]; exact h3
  · rw [e]; exact h4
/-- what a static call asks: va_cwS n hts (lw_S ..) -/
theorem lw_S {own : String} {idx : Nat} {y : MethodName} {b : ByteArray} {L : Nat} {r : Option FieldType} (h1 : Cond.methodLink own idx y ∈ lw_all) (h2 : Cond.static y ∈ lw_all) (h3 : Cond.initialized y.cls ∈ lw_all) (h4 : Cond.code y b L r ∈ lw_all) : GoodIn lw_all (va_wsS own idx y (ws_ y b L r)) := by
  refine lw_app ?_ (lw_meth h4)
  intro w hw
  simp only [List.mem_cons, List.not_mem_nil, or_false] at hw
  rcases hw with e | e | e
  · rw [e]; exact h1
  · rw [e]; exact h2
  · rw [e]; exact h3
/-- the words of a contract for a method WITH HANDLERS (hh: its table) -/
abbrev wsW_ (y : MethodName) (b : ByteArray) (L : Nat) (r : Option FieldType) (hh : List (Nat × Nat × Nat × Nat)) : List Cond := Cond.codeWith y b L r hh :: lw_all
theorem lw_methW {y : MethodName} {b : ByteArray} {L : Nat} {r : Option FieldType} {hh : List (Nat × Nat × Nat × Nat)} (h : Cond.codeWith y b L r hh ∈ lw_all) : GoodIn lw_all (wsW_ y b L r hh) := by
  intro w hw
  rcases List.mem_cons.mp hw with e | e
  · rw [e]
    exact lw_self _ h
  · exact lw_self _ e
/-- any list of words by their places (lw_in), good -/
theorem lw_good {ws : List Cond} (h : ∀ w ∈ ws, w ∈ lw_all) : GoodIn lw_all ws := fun w hw => lw_self w (h w hw)
/-- what a call of a method with handlers asks: vx_cwVW n hts (lw_VW ..), vx_cwSW n hts (lw_SW ..) -/
theorem lw_VW {own : String} {idx : Nat} {C : String} {y : MethodName} {b : ByteArray} {L : Nat} {r : Option FieldType} {hh : List (Nat × Nat × Nat × Nat)} (h1 : Cond.methodLink own idx y ∈ lw_all) (h2 : Cond.instanceMethod y ∈ lw_all) (h3 : Cond.selects C y y ∈ lw_all) (h4 : Cond.initialized C ∈ lw_all) (h5 : Cond.codeWith y b L r hh ∈ lw_all) : GoodIn lw_all (wsV own idx C y (wsW_ y b L r hh)) := by
  refine lw_app ?_ (lw_methW h5)
  intro w hw
  simp only [List.mem_cons, List.not_mem_nil, or_false] at hw
  rcases hw with e | e | e | e
  · rw [e]; exact h1
  · rw [e]; exact h2
  · rw [e]; exact h3
  · rw [e]; exact h4
theorem lw_SW {own : String} {idx : Nat} {y : MethodName} {b : ByteArray} {L : Nat} {r : Option FieldType} {hh : List (Nat × Nat × Nat × Nat)} (h1 : Cond.methodLink own idx y ∈ lw_all) (h2 : Cond.static y ∈ lw_all) (h3 : Cond.initialized y.cls ∈ lw_all) (h4 : Cond.codeWith y b L r hh ∈ lw_all) : GoodIn lw_all (va_wsS own idx y (wsW_ y b L r hh)) := by
  refine lw_app ?_ (lw_methW h4)
  intro w hw
  simp only [List.mem_cons, List.not_mem_nil, or_false] at hw
  rcases hw with e | e | e
  · rw [e]; exact h1
  · rw [e]; exact h2
  · rw [e]; exact h3
/-- a word by its place in its run of the tables -/
theorem lw_at {r : List Cond} (hr : ∀ w ∈ r, w ∈ lw_tbl) {w : Cond} (i : Nat) (h : r[i]? = some w) : w ∈ lw_tbl := hr w (List.mem_of_getElem? h)
theorem lw_g {w : Cond} (h : w ∈ lw_tbl) (g : goodWord w = true) : w ∈ lw_all := List.mem_filter.mpr ⟨h, g⟩
theorem lw_ms : ∀ w ∈ k2_sels lw_privs, w ∈ lw_tbl := fun w h => show w ∈ k2_sels lw_privs ++ tables_1 from List.mem_append_left _ h
theorem lw_m0 : ∀ w ∈ tables_1, w ∈ lw_tbl := fun w h => show w ∈ k2_sels lw_privs ++ tables_1 from List.mem_append_right (k2_sels lw_privs) h
theorem qs0 : (Cond.selects "java/lang/Throwable" ⟨"java/lang/Throwable", "fillInStackTrace", "(I)Ljava/lang/Throwable;"⟩ ⟨"java/lang/Throwable", "fillInStackTrace", "(I)Ljava/lang/Throwable;"⟩) ∈ lw_all := lw_g (lw_at lw_ms 0 rfl) rfl
end
section
/-! DECODE ROWS BY BYTES: one lemma an opcode; a method's code is cut into short pieces once, and a row reads its own piece alone. -/
set_option maxRecDepth 100000
/-- the code has just these bytes from pc on -/
def DkAt (code : ByteArray) (pc : Nat) (bs : List UInt8) : Prop := ∀ (j : Nat) (b : UInt8), bs[j]? = some b → code.data.toList[pc + j]? = some b
/-- the piece W has the bytes bs from its place j on -/
def dkIn (W : List UInt8) (j : Nat) (bs : List UInt8) : Bool := decide ((W.drop j).take bs.length = bs)
theorem dk_seg {l W T : List UInt8} {o o2 : Nat} (h : l.drop o = W ++ T) (n : Nat) (hn : W.length = n) (ho : o + n = o2) : l.drop o2 = T := by
  subst ho
  rw [← List.drop_drop, h, List.drop_left' hn]
theorem dk_at {code : ByteArray} {W T bs : List UInt8} {o pc : Nat} (h : code.data.toList.drop o = W ++ T) (j : Nat) (hp : o + j = pc) (hw : dkIn W j bs = true) : DkAt code pc bs := by
  subst hp
  intro i b e
  have h1 := of_decide_eq_true hw
  have h2 : i < bs.length := (List.getElem?_eq_some_iff.mp e).1
  have h3 : W[j + i]? = some b := by
    rw [← h1, List.getElem?_take, if_pos h2, List.getElem?_drop] at e
    exact e
  have h4 : j + i < W.length := (List.getElem?_eq_some_iff.mp h3).1
  have h5 : (code.data.toList.drop o)[j + i]? = some b := by
    rw [h, List.getElem?_append_left h4]
    exact h3
  rw [List.getElem?_drop, ← Nat.add_assoc] at h5
  exact h5
theorem dk_u1 {A : ByteArray} {p : Nat} {b : UInt8} (h : A.data.toList[p]? = some b) : (Reader.u1 : Reader DecodeError Nat) A p = .ok (b.toNat, p + 1) := by
  obtain ⟨h1, h2⟩ := List.getElem?_eq_some_iff.mp h
  have h3 : p < A.size := by simpa using h1
  have h4 : A[p]'h3 = b := h2
  have e : (Reader.u1 : Reader DecodeError Nat) A p = (if h : p < A.size then .ok (A[p].toNat, p + 1) else .error (HasTruncated.truncated p)) := by
    show (do if h : p < A.size then do set (p + 1); Pure.pure A[p].toNat else MonadExcept.throw (HasTruncated.truncated p) : Reader DecodeError Nat) A p = _
    by_cases hi : p < A.size
    · rw [dif_pos hi, dif_pos hi]; rfl
    · rw [dif_neg hi, dif_neg hi]; rfl
  rw [e, dif_pos h3, h4]
theorem dk_bind {α β : Type} {r : Reader DecodeError α} {f : α → Reader DecodeError β} {A : ByteArray} {p s : Nat} {a : α} (h : r A p = .ok (a, s)) : (r >>= f) A p = f a A s := by
  show (do let (a, s) ← r A p; f a A s : Except DecodeError (β × Nat)) = _
  rw [h]
  rfl
theorem dk_map {α β : Type} {r : Reader DecodeError α} {g : α → β} {A : ByteArray} {p s : Nat} {a : α} (h : r A p = .ok (a, s)) : (g <$> r) A p = .ok (g a, s) := by
  show (do let (a, s) ← r A p; .ok (g a, s) : Except DecodeError (β × Nat)) = _
  rw [h]
  rfl
theorem dk_u2 {A : ByteArray} {p : Nat} {a b : UInt8} (h : A.data.toList[p]? = some a) (h2 : A.data.toList[p + 1]? = some b) : (Reader.u2 : Reader DecodeError Nat) A p = .ok (a.toNat * 256 + b.toNat, p + 2) := by
  show (Reader.u1 >>= fun hi => Reader.u1 >>= fun lo => Pure.pure (hi * 256 + lo) : Reader DecodeError Nat) A p = _
  rw [dk_bind (dk_u1 h), dk_bind (dk_u1 h2)]
  rfl
theorem dk_of {code : ByteArray} {pc n : Nat} {i : Instr} (h : Decoder.instr pc code pc = .ok (i, pc + n)) : decode code pc = .ok (i, n) := by
  have e : decode code pc = (match Decoder.instr pc code pc with | .error x => .error x | .ok (j, s) => .ok (j, s - pc)) := by
    show (do let (j, s) ← Decoder.instr pc code pc; Pure.pure (j, s - pc) : Except DecodeError (Instr × Nat)) = _
    cases Decoder.instr pc code pc <;> rfl
  rw [e, h]
  show Except.ok (i, pc + n - pc) = _
  rw [Nat.add_sub_cancel_left]
theorem dk_2 {code : ByteArray} {pc : Nat} (h : DkAt code pc [2]) : decode code pc = .ok (.iconst (-1), 1) := dk_of ((dk_bind (dk_u1 (h 0 _ rfl))).trans rfl)
theorem dk_3 {code : ByteArray} {pc : Nat} (h : DkAt code pc [3]) : decode code pc = .ok (.iconst 0, 1) := dk_of ((dk_bind (dk_u1 (h 0 _ rfl))).trans rfl)
theorem dk_4 {code : ByteArray} {pc : Nat} (h : DkAt code pc [4]) : decode code pc = .ok (.iconst 1, 1) := dk_of ((dk_bind (dk_u1 (h 0 _ rfl))).trans rfl)
theorem dk_5 {code : ByteArray} {pc : Nat} (h : DkAt code pc [5]) : decode code pc = .ok (.iconst 2, 1) := dk_of ((dk_bind (dk_u1 (h 0 _ rfl))).trans rfl)
theorem dk_6 {code : ByteArray} {pc : Nat} (h : DkAt code pc [6]) : decode code pc = .ok (.iconst 3, 1) := dk_of ((dk_bind (dk_u1 (h 0 _ rfl))).trans rfl)
theorem dk_7 {code : ByteArray} {pc : Nat} (h : DkAt code pc [7]) : decode code pc = .ok (.iconst 4, 1) := dk_of ((dk_bind (dk_u1 (h 0 _ rfl))).trans rfl)
theorem dk_9 {code : ByteArray} {pc : Nat} (h : DkAt code pc [9]) : decode code pc = .ok (.lconst 0, 1) := dk_of ((dk_bind (dk_u1 (h 0 _ rfl))).trans rfl)
theorem dk_10 {code : ByteArray} {pc : Nat} (h : DkAt code pc [10]) : decode code pc = .ok (.lconst 1, 1) := dk_of ((dk_bind (dk_u1 (h 0 _ rfl))).trans rfl)
theorem dk_16 {code : ByteArray} {pc : Nat} (a : UInt8) (h : DkAt code pc [16, a]) : decode code pc = .ok (.bipush (Reader.signed 8 a.toNat), 2) := dk_of ((dk_bind (dk_u1 (h 0 _ rfl))).trans ((dk_bind (dk_map (dk_u1 (h 1 _ rfl)))).trans rfl))
theorem dk_17 {code : ByteArray} {pc : Nat} (a b : UInt8) (h : DkAt code pc [17, a, b]) : decode code pc = .ok (.sipush (Reader.signed 16 (a.toNat * 256 + b.toNat)), 3) := dk_of ((dk_bind (dk_u1 (h 0 _ rfl))).trans ((dk_bind (dk_map (dk_u2 (h 1 _ rfl) (h 2 _ rfl)))).trans rfl))
theorem dk_18 {code : ByteArray} {pc : Nat} (a : UInt8) (h : DkAt code pc [18, a]) : decode code pc = .ok (.ldc a.toNat, 2) := dk_of ((dk_bind (dk_u1 (h 0 _ rfl))).trans ((dk_bind (dk_u1 (h 1 _ rfl))).trans rfl))
theorem dk_19 {code : ByteArray} {pc : Nat} (a b : UInt8) (h : DkAt code pc [19, a, b]) : decode code pc = .ok (.ldc_w (a.toNat * 256 + b.toNat), 3) := dk_of ((dk_bind (dk_u1 (h 0 _ rfl))).trans ((dk_bind (dk_u2 (h 1 _ rfl) (h 2 _ rfl))).trans rfl))
theorem dk_20 {code : ByteArray} {pc : Nat} (a b : UInt8) (h : DkAt code pc [20, a, b]) : decode code pc = .ok (.ldc2_w (a.toNat * 256 + b.toNat), 3) := dk_of ((dk_bind (dk_u1 (h 0 _ rfl))).trans ((dk_bind (dk_u2 (h 1 _ rfl) (h 2 _ rfl))).trans rfl))
theorem dk_21 {code : ByteArray} {pc : Nat} (a : UInt8) (h : DkAt code pc [21, a]) : decode code pc = .ok (.iload a.toNat, 2) := dk_of ((dk_bind (dk_u1 (h 0 _ rfl))).trans ((dk_bind (dk_u1 (h 1 _ rfl))).trans rfl))
theorem dk_22 {code : ByteArray} {pc : Nat} (a : UInt8) (h : DkAt code pc [22, a]) : decode code pc = .ok (.lload a.toNat, 2) := dk_of ((dk_bind (dk_u1 (h 0 _ rfl))).trans ((dk_bind (dk_u1 (h 1 _ rfl))).trans rfl))
theorem dk_26 {code : ByteArray} {pc : Nat} (h : DkAt code pc [26]) : decode code pc = .ok (.iload_n 0, 1) := dk_of ((dk_bind (dk_u1 (h 0 _ rfl))).trans rfl)
theorem dk_27 {code : ByteArray} {pc : Nat} (h : DkAt code pc [27]) : decode code pc = .ok (.iload_n 1, 1) := dk_of ((dk_bind (dk_u1 (h 0 _ rfl))).trans rfl)
theorem dk_28 {code : ByteArray} {pc : Nat} (h : DkAt code pc [28]) : decode code pc = .ok (.iload_n 2, 1) := dk_of ((dk_bind (dk_u1 (h 0 _ rfl))).trans rfl)
theorem dk_29 {code : ByteArray} {pc : Nat} (h : DkAt code pc [29]) : decode code pc = .ok (.iload_n 3, 1) := dk_of ((dk_bind (dk_u1 (h 0 _ rfl))).trans rfl)
theorem dk_30 {code : ByteArray} {pc : Nat} (h : DkAt code pc [30]) : decode code pc = .ok (.lload_n 0, 1) := dk_of ((dk_bind (dk_u1 (h 0 _ rfl))).trans rfl)
theorem dk_31 {code : ByteArray} {pc : Nat} (h : DkAt code pc [31]) : decode code pc = .ok (.lload_n 1, 1) := dk_of ((dk_bind (dk_u1 (h 0 _ rfl))).trans rfl)
theorem dk_32 {code : ByteArray} {pc : Nat} (h : DkAt code pc [32]) : decode code pc = .ok (.lload_n 2, 1) := dk_of ((dk_bind (dk_u1 (h 0 _ rfl))).trans rfl)
theorem dk_42 {code : ByteArray} {pc : Nat} (h : DkAt code pc [42]) : decode code pc = .ok (.aload_n 0, 1) := dk_of ((dk_bind (dk_u1 (h 0 _ rfl))).trans rfl)
theorem dk_43 {code : ByteArray} {pc : Nat} (h : DkAt code pc [43]) : decode code pc = .ok (.aload_n 1, 1) := dk_of ((dk_bind (dk_u1 (h 0 _ rfl))).trans rfl)
theorem dk_44 {code : ByteArray} {pc : Nat} (h : DkAt code pc [44]) : decode code pc = .ok (.aload_n 2, 1) := dk_of ((dk_bind (dk_u1 (h 0 _ rfl))).trans rfl)
theorem dk_46 {code : ByteArray} {pc : Nat} (h : DkAt code pc [46]) : decode code pc = .ok (.iaload, 1) := dk_of ((dk_bind (dk_u1 (h 0 _ rfl))).trans rfl)
theorem dk_47 {code : ByteArray} {pc : Nat} (h : DkAt code pc [47]) : decode code pc = .ok (.laload, 1) := dk_of ((dk_bind (dk_u1 (h 0 _ rfl))).trans rfl)
theorem dk_50 {code : ByteArray} {pc : Nat} (h : DkAt code pc [50]) : decode code pc = .ok (.aaload, 1) := dk_of ((dk_bind (dk_u1 (h 0 _ rfl))).trans rfl)
theorem dk_54 {code : ByteArray} {pc : Nat} (a : UInt8) (h : DkAt code pc [54, a]) : decode code pc = .ok (.istore a.toNat, 2) := dk_of ((dk_bind (dk_u1 (h 0 _ rfl))).trans ((dk_bind (dk_u1 (h 1 _ rfl))).trans rfl))
theorem dk_55 {code : ByteArray} {pc : Nat} (a : UInt8) (h : DkAt code pc [55, a]) : decode code pc = .ok (.lstore a.toNat, 2) := dk_of ((dk_bind (dk_u1 (h 0 _ rfl))).trans ((dk_bind (dk_u1 (h 1 _ rfl))).trans rfl))
theorem dk_59 {code : ByteArray} {pc : Nat} (h : DkAt code pc [59]) : decode code pc = .ok (.istore_n 0, 1) := dk_of ((dk_bind (dk_u1 (h 0 _ rfl))).trans rfl)
theorem dk_60 {code : ByteArray} {pc : Nat} (h : DkAt code pc [60]) : decode code pc = .ok (.istore_n 1, 1) := dk_of ((dk_bind (dk_u1 (h 0 _ rfl))).trans rfl)
theorem dk_61 {code : ByteArray} {pc : Nat} (h : DkAt code pc [61]) : decode code pc = .ok (.istore_n 2, 1) := dk_of ((dk_bind (dk_u1 (h 0 _ rfl))).trans rfl)
theorem dk_62 {code : ByteArray} {pc : Nat} (h : DkAt code pc [62]) : decode code pc = .ok (.istore_n 3, 1) := dk_of ((dk_bind (dk_u1 (h 0 _ rfl))).trans rfl)
theorem dk_63 {code : ByteArray} {pc : Nat} (h : DkAt code pc [63]) : decode code pc = .ok (.lstore_n 0, 1) := dk_of ((dk_bind (dk_u1 (h 0 _ rfl))).trans rfl)
theorem dk_64 {code : ByteArray} {pc : Nat} (h : DkAt code pc [64]) : decode code pc = .ok (.lstore_n 1, 1) := dk_of ((dk_bind (dk_u1 (h 0 _ rfl))).trans rfl)
theorem dk_76 {code : ByteArray} {pc : Nat} (h : DkAt code pc [76]) : decode code pc = .ok (.astore_n 1, 1) := dk_of ((dk_bind (dk_u1 (h 0 _ rfl))).trans rfl)
theorem dk_77 {code : ByteArray} {pc : Nat} (h : DkAt code pc [77]) : decode code pc = .ok (.astore_n 2, 1) := dk_of ((dk_bind (dk_u1 (h 0 _ rfl))).trans rfl)
theorem dk_80 {code : ByteArray} {pc : Nat} (h : DkAt code pc [80]) : decode code pc = .ok (.lastore, 1) := dk_of ((dk_bind (dk_u1 (h 0 _ rfl))).trans rfl)
theorem dk_87 {code : ByteArray} {pc : Nat} (h : DkAt code pc [87]) : decode code pc = .ok (.pop, 1) := dk_of ((dk_bind (dk_u1 (h 0 _ rfl))).trans rfl)
theorem dk_89 {code : ByteArray} {pc : Nat} (h : DkAt code pc [89]) : decode code pc = .ok (.dup, 1) := dk_of ((dk_bind (dk_u1 (h 0 _ rfl))).trans rfl)
theorem dk_90 {code : ByteArray} {pc : Nat} (h : DkAt code pc [90]) : decode code pc = .ok (.dup_x1, 1) := dk_of ((dk_bind (dk_u1 (h 0 _ rfl))).trans rfl)
theorem dk_92 {code : ByteArray} {pc : Nat} (h : DkAt code pc [92]) : decode code pc = .ok (.dup2, 1) := dk_of ((dk_bind (dk_u1 (h 0 _ rfl))).trans rfl)
theorem dk_96 {code : ByteArray} {pc : Nat} (h : DkAt code pc [96]) : decode code pc = .ok (.iadd, 1) := dk_of ((dk_bind (dk_u1 (h 0 _ rfl))).trans rfl)
theorem dk_97 {code : ByteArray} {pc : Nat} (h : DkAt code pc [97]) : decode code pc = .ok (.ladd, 1) := dk_of ((dk_bind (dk_u1 (h 0 _ rfl))).trans rfl)
theorem dk_100 {code : ByteArray} {pc : Nat} (h : DkAt code pc [100]) : decode code pc = .ok (.isub, 1) := dk_of ((dk_bind (dk_u1 (h 0 _ rfl))).trans rfl)
theorem dk_101 {code : ByteArray} {pc : Nat} (h : DkAt code pc [101]) : decode code pc = .ok (.lsub, 1) := dk_of ((dk_bind (dk_u1 (h 0 _ rfl))).trans rfl)
theorem dk_104 {code : ByteArray} {pc : Nat} (h : DkAt code pc [104]) : decode code pc = .ok (.imul, 1) := dk_of ((dk_bind (dk_u1 (h 0 _ rfl))).trans rfl)
theorem dk_105 {code : ByteArray} {pc : Nat} (h : DkAt code pc [105]) : decode code pc = .ok (.lmul, 1) := dk_of ((dk_bind (dk_u1 (h 0 _ rfl))).trans rfl)
theorem dk_112 {code : ByteArray} {pc : Nat} (h : DkAt code pc [112]) : decode code pc = .ok (.irem, 1) := dk_of ((dk_bind (dk_u1 (h 0 _ rfl))).trans rfl)
theorem dk_116 {code : ByteArray} {pc : Nat} (h : DkAt code pc [116]) : decode code pc = .ok (.ineg, 1) := dk_of ((dk_bind (dk_u1 (h 0 _ rfl))).trans rfl)
theorem dk_120 {code : ByteArray} {pc : Nat} (h : DkAt code pc [120]) : decode code pc = .ok (.ishl, 1) := dk_of ((dk_bind (dk_u1 (h 0 _ rfl))).trans rfl)
theorem dk_121 {code : ByteArray} {pc : Nat} (h : DkAt code pc [121]) : decode code pc = .ok (.lshl, 1) := dk_of ((dk_bind (dk_u1 (h 0 _ rfl))).trans rfl)
theorem dk_124 {code : ByteArray} {pc : Nat} (h : DkAt code pc [124]) : decode code pc = .ok (.iushr, 1) := dk_of ((dk_bind (dk_u1 (h 0 _ rfl))).trans rfl)
theorem dk_125 {code : ByteArray} {pc : Nat} (h : DkAt code pc [125]) : decode code pc = .ok (.lushr, 1) := dk_of ((dk_bind (dk_u1 (h 0 _ rfl))).trans rfl)
theorem dk_126 {code : ByteArray} {pc : Nat} (h : DkAt code pc [126]) : decode code pc = .ok (.iand, 1) := dk_of ((dk_bind (dk_u1 (h 0 _ rfl))).trans rfl)
theorem dk_127 {code : ByteArray} {pc : Nat} (h : DkAt code pc [127]) : decode code pc = .ok (.land, 1) := dk_of ((dk_bind (dk_u1 (h 0 _ rfl))).trans rfl)
theorem dk_128 {code : ByteArray} {pc : Nat} (h : DkAt code pc [128]) : decode code pc = .ok (.ior, 1) := dk_of ((dk_bind (dk_u1 (h 0 _ rfl))).trans rfl)
theorem dk_130 {code : ByteArray} {pc : Nat} (h : DkAt code pc [130]) : decode code pc = .ok (.ixor, 1) := dk_of ((dk_bind (dk_u1 (h 0 _ rfl))).trans rfl)
theorem dk_132 {code : ByteArray} {pc : Nat} (a b : UInt8) (h : DkAt code pc [132, a, b]) : decode code pc = .ok (.iinc a.toNat (Reader.signed 8 b.toNat), 3) := dk_of ((dk_bind (dk_u1 (h 0 _ rfl))).trans ((dk_bind (dk_u1 (h 1 _ rfl))).trans ((dk_bind (dk_map (dk_u1 (h 2 _ rfl)))).trans rfl)))
theorem dk_133 {code : ByteArray} {pc : Nat} (h : DkAt code pc [133]) : decode code pc = .ok (.i2l, 1) := dk_of ((dk_bind (dk_u1 (h 0 _ rfl))).trans rfl)
theorem dk_136 {code : ByteArray} {pc : Nat} (h : DkAt code pc [136]) : decode code pc = .ok (.l2i, 1) := dk_of ((dk_bind (dk_u1 (h 0 _ rfl))).trans rfl)
theorem dk_148 {code : ByteArray} {pc : Nat} (h : DkAt code pc [148]) : decode code pc = .ok (.lcmp, 1) := dk_of ((dk_bind (dk_u1 (h 0 _ rfl))).trans rfl)
theorem dk_153 {code : ByteArray} {pc : Nat} (a b : UInt8) (h : DkAt code pc [153, a, b]) : decode code pc = .ok (.ifCond .eq (Reader.signed 16 (a.toNat * 256 + b.toNat)), 3) := dk_of ((dk_bind (dk_u1 (h 0 _ rfl))).trans ((dk_bind (dk_map (dk_u2 (h 1 _ rfl) (h 2 _ rfl)))).trans rfl))
theorem dk_154 {code : ByteArray} {pc : Nat} (a b : UInt8) (h : DkAt code pc [154, a, b]) : decode code pc = .ok (.ifCond .ne (Reader.signed 16 (a.toNat * 256 + b.toNat)), 3) := dk_of ((dk_bind (dk_u1 (h 0 _ rfl))).trans ((dk_bind (dk_map (dk_u2 (h 1 _ rfl) (h 2 _ rfl)))).trans rfl))
theorem dk_155 {code : ByteArray} {pc : Nat} (a b : UInt8) (h : DkAt code pc [155, a, b]) : decode code pc = .ok (.ifCond .lt (Reader.signed 16 (a.toNat * 256 + b.toNat)), 3) := dk_of ((dk_bind (dk_u1 (h 0 _ rfl))).trans ((dk_bind (dk_map (dk_u2 (h 1 _ rfl) (h 2 _ rfl)))).trans rfl))
theorem dk_157 {code : ByteArray} {pc : Nat} (a b : UInt8) (h : DkAt code pc [157, a, b]) : decode code pc = .ok (.ifCond .gt (Reader.signed 16 (a.toNat * 256 + b.toNat)), 3) := dk_of ((dk_bind (dk_u1 (h 0 _ rfl))).trans ((dk_bind (dk_map (dk_u2 (h 1 _ rfl) (h 2 _ rfl)))).trans rfl))
theorem dk_158 {code : ByteArray} {pc : Nat} (a b : UInt8) (h : DkAt code pc [158, a, b]) : decode code pc = .ok (.ifCond .le (Reader.signed 16 (a.toNat * 256 + b.toNat)), 3) := dk_of ((dk_bind (dk_u1 (h 0 _ rfl))).trans ((dk_bind (dk_map (dk_u2 (h 1 _ rfl) (h 2 _ rfl)))).trans rfl))
theorem dk_159 {code : ByteArray} {pc : Nat} (a b : UInt8) (h : DkAt code pc [159, a, b]) : decode code pc = .ok (.if_icmp .eq (Reader.signed 16 (a.toNat * 256 + b.toNat)), 3) := dk_of ((dk_bind (dk_u1 (h 0 _ rfl))).trans ((dk_bind (dk_map (dk_u2 (h 1 _ rfl) (h 2 _ rfl)))).trans rfl))
theorem dk_160 {code : ByteArray} {pc : Nat} (a b : UInt8) (h : DkAt code pc [160, a, b]) : decode code pc = .ok (.if_icmp .ne (Reader.signed 16 (a.toNat * 256 + b.toNat)), 3) := dk_of ((dk_bind (dk_u1 (h 0 _ rfl))).trans ((dk_bind (dk_map (dk_u2 (h 1 _ rfl) (h 2 _ rfl)))).trans rfl))
theorem dk_161 {code : ByteArray} {pc : Nat} (a b : UInt8) (h : DkAt code pc [161, a, b]) : decode code pc = .ok (.if_icmp .lt (Reader.signed 16 (a.toNat * 256 + b.toNat)), 3) := dk_of ((dk_bind (dk_u1 (h 0 _ rfl))).trans ((dk_bind (dk_map (dk_u2 (h 1 _ rfl) (h 2 _ rfl)))).trans rfl))
theorem dk_162 {code : ByteArray} {pc : Nat} (a b : UInt8) (h : DkAt code pc [162, a, b]) : decode code pc = .ok (.if_icmp .ge (Reader.signed 16 (a.toNat * 256 + b.toNat)), 3) := dk_of ((dk_bind (dk_u1 (h 0 _ rfl))).trans ((dk_bind (dk_map (dk_u2 (h 1 _ rfl) (h 2 _ rfl)))).trans rfl))
theorem dk_163 {code : ByteArray} {pc : Nat} (a b : UInt8) (h : DkAt code pc [163, a, b]) : decode code pc = .ok (.if_icmp .gt (Reader.signed 16 (a.toNat * 256 + b.toNat)), 3) := dk_of ((dk_bind (dk_u1 (h 0 _ rfl))).trans ((dk_bind (dk_map (dk_u2 (h 1 _ rfl) (h 2 _ rfl)))).trans rfl))
theorem dk_164 {code : ByteArray} {pc : Nat} (a b : UInt8) (h : DkAt code pc [164, a, b]) : decode code pc = .ok (.if_icmp .le (Reader.signed 16 (a.toNat * 256 + b.toNat)), 3) := dk_of ((dk_bind (dk_u1 (h 0 _ rfl))).trans ((dk_bind (dk_map (dk_u2 (h 1 _ rfl) (h 2 _ rfl)))).trans rfl))
theorem dk_167 {code : ByteArray} {pc : Nat} (a b : UInt8) (h : DkAt code pc [167, a, b]) : decode code pc = .ok (.goto (Reader.signed 16 (a.toNat * 256 + b.toNat)), 3) := dk_of ((dk_bind (dk_u1 (h 0 _ rfl))).trans ((dk_bind (dk_map (dk_u2 (h 1 _ rfl) (h 2 _ rfl)))).trans rfl))
theorem dk_172 {code : ByteArray} {pc : Nat} (h : DkAt code pc [172]) : decode code pc = .ok (.ireturn, 1) := dk_of ((dk_bind (dk_u1 (h 0 _ rfl))).trans rfl)
theorem dk_173 {code : ByteArray} {pc : Nat} (h : DkAt code pc [173]) : decode code pc = .ok (.lreturn, 1) := dk_of ((dk_bind (dk_u1 (h 0 _ rfl))).trans rfl)
theorem dk_176 {code : ByteArray} {pc : Nat} (h : DkAt code pc [176]) : decode code pc = .ok (.areturn, 1) := dk_of ((dk_bind (dk_u1 (h 0 _ rfl))).trans rfl)
theorem dk_177 {code : ByteArray} {pc : Nat} (h : DkAt code pc [177]) : decode code pc = .ok (.return_, 1) := dk_of ((dk_bind (dk_u1 (h 0 _ rfl))).trans rfl)
theorem dk_178 {code : ByteArray} {pc : Nat} (a b : UInt8) (h : DkAt code pc [178, a, b]) : decode code pc = .ok (.getstatic (a.toNat * 256 + b.toNat), 3) := dk_of ((dk_bind (dk_u1 (h 0 _ rfl))).trans ((dk_bind (dk_u2 (h 1 _ rfl) (h 2 _ rfl))).trans rfl))
theorem dk_180 {code : ByteArray} {pc : Nat} (a b : UInt8) (h : DkAt code pc [180, a, b]) : decode code pc = .ok (.getfield (a.toNat * 256 + b.toNat), 3) := dk_of ((dk_bind (dk_u1 (h 0 _ rfl))).trans ((dk_bind (dk_u2 (h 1 _ rfl) (h 2 _ rfl))).trans rfl))
theorem dk_181 {code : ByteArray} {pc : Nat} (a b : UInt8) (h : DkAt code pc [181, a, b]) : decode code pc = .ok (.putfield (a.toNat * 256 + b.toNat), 3) := dk_of ((dk_bind (dk_u1 (h 0 _ rfl))).trans ((dk_bind (dk_u2 (h 1 _ rfl) (h 2 _ rfl))).trans rfl))
theorem dk_182 {code : ByteArray} {pc : Nat} (a b : UInt8) (h : DkAt code pc [182, a, b]) : decode code pc = .ok (.invokevirtual (a.toNat * 256 + b.toNat), 3) := dk_of ((dk_bind (dk_u1 (h 0 _ rfl))).trans ((dk_bind (dk_u2 (h 1 _ rfl) (h 2 _ rfl))).trans rfl))
theorem dk_183 {code : ByteArray} {pc : Nat} (a b : UInt8) (h : DkAt code pc [183, a, b]) : decode code pc = .ok (.invokespecial (a.toNat * 256 + b.toNat), 3) := dk_of ((dk_bind (dk_u1 (h 0 _ rfl))).trans ((dk_bind (dk_u2 (h 1 _ rfl) (h 2 _ rfl))).trans rfl))
theorem dk_184 {code : ByteArray} {pc : Nat} (a b : UInt8) (h : DkAt code pc [184, a, b]) : decode code pc = .ok (.invokestatic (a.toNat * 256 + b.toNat), 3) := dk_of ((dk_bind (dk_u1 (h 0 _ rfl))).trans ((dk_bind (dk_u2 (h 1 _ rfl) (h 2 _ rfl))).trans rfl))
theorem dk_187 {code : ByteArray} {pc : Nat} (a b : UInt8) (h : DkAt code pc [187, a, b]) : decode code pc = .ok (.new (a.toNat * 256 + b.toNat), 3) := dk_of ((dk_bind (dk_u1 (h 0 _ rfl))).trans ((dk_bind (dk_u2 (h 1 _ rfl) (h 2 _ rfl))).trans rfl))
theorem dk_188_11 {code : ByteArray} {pc : Nat} (h : DkAt code pc [188, 11]) : decode code pc = .ok (.newarray .long, 2) := dk_of ((dk_bind (dk_u1 (h 0 _ rfl))).trans ((dk_bind (dk_u1 (h 1 _ rfl))).trans rfl))
theorem dk_190 {code : ByteArray} {pc : Nat} (h : DkAt code pc [190]) : decode code pc = .ok (.arraylength, 1) := dk_of ((dk_bind (dk_u1 (h 0 _ rfl))).trans rfl)
theorem dk_191 {code : ByteArray} {pc : Nat} (h : DkAt code pc [191]) : decode code pc = .ok (.athrow, 1) := dk_of ((dk_bind (dk_u1 (h 0 _ rfl))).trans rfl)
theorem dk_198 {code : ByteArray} {pc : Nat} (a b : UInt8) (h : DkAt code pc [198, a, b]) : decode code pc = .ok (.ifnull (Reader.signed 16 (a.toNat * 256 + b.toNat)), 3) := dk_of ((dk_bind (dk_u1 (h 0 _ rfl))).trans ((dk_bind (dk_map (dk_u2 (h 1 _ rfl) (h 2 _ rfl)))).trans rfl))
theorem dk_199 {code : ByteArray} {pc : Nat} (a b : UInt8) (h : DkAt code pc [199, a, b]) : decode code pc = .ok (.ifnonnull (Reader.signed 16 (a.toNat * 256 + b.toNat)), 3) := dk_of ((dk_bind (dk_u1 (h 0 _ rfl))).trans ((dk_bind (dk_map (dk_u2 (h 1 _ rfl) (h 2 _ rfl)))).trans rfl))
/-! SketchDeskLaw -/
set_option maxRecDepth 100000
def RX0 : String := "SketchDeskLaw"
abbrev cX0_apart : ByteArray := method_4_code
def yX0_apart : MethodName := ⟨RX0, "apart", "([I)Z"⟩
def dkwX0_apart_3 : List UInt8 := [17, 1, 244, 163, 0, 17, 43, 28, 182, 0, 10, 16, 15, 160, 0, 7, 4, 167, 0, 4, 3, 172]
abbrev dktX0_apart_3 : List UInt8 := dkwX0_apart_3 ++ []
def dkwX0_apart_2 : List UInt8 := [163, 0, 23, 43, 28, 21, 4, 96, 182, 0, 10, 158, 0, 6, 132, 3, 1, 132, 4, 1, 167, 255, 231, 29]
abbrev dktX0_apart_2 : List UInt8 := dkwX0_apart_2 ++ dktX0_apart_3
def dkwX0_apart_1 : List UInt8 := [162, 0, 14, 43, 28, 182, 0, 14, 132, 4, 1, 167, 255, 241, 4, 54, 4, 21, 4, 17, 3, 232]
abbrev dktX0_apart_1 : List UInt8 := dkwX0_apart_1 ++ dktX0_apart_2
def dkwX0_apart_0 : List UInt8 := [187, 0, 7, 89, 183, 0, 9, 76, 42, 3, 184, 0, 27, 61, 3, 62, 3, 54, 4, 21, 4, 16, 15]
abbrev dktX0_apart_0 : List UInt8 := dkwX0_apart_0 ++ dktX0_apart_1
theorem dksX0_apart_0 : cX0_apart.data.toList.drop 0 = dktX0_apart_0 := by decide +kernel
theorem dksX0_apart_1 : cX0_apart.data.toList.drop 23 = dktX0_apart_1 := dk_seg dksX0_apart_0 23 rfl rfl
theorem dksX0_apart_2 : cX0_apart.data.toList.drop 45 = dktX0_apart_2 := dk_seg dksX0_apart_1 22 rfl rfl
theorem dksX0_apart_3 : cX0_apart.data.toList.drop 69 = dktX0_apart_3 := dk_seg dksX0_apart_2 24 rfl rfl
theorem dX0_apart_0 : decode cX0_apart 0 = .ok (.new 7, 3) := dk_187 0 7 (dk_at dksX0_apart_0 0 rfl rfl)
theorem dX0_apart_3 : decode cX0_apart 3 = .ok (.dup, 1) := dk_89 (dk_at dksX0_apart_0 3 rfl rfl)
theorem dX0_apart_4 : decode cX0_apart 4 = .ok (.invokespecial 9, 3) := dk_183 0 9 (dk_at dksX0_apart_0 4 rfl rfl)
theorem dX0_apart_7 : decode cX0_apart 7 = .ok (.astore_n 1, 1) := dk_76 (dk_at dksX0_apart_0 7 rfl rfl)
theorem dX0_apart_8 : decode cX0_apart 8 = .ok (.aload_n 0, 1) := dk_42 (dk_at dksX0_apart_0 8 rfl rfl)
theorem dX0_apart_9 : decode cX0_apart 9 = .ok (.iconst 0, 1) := dk_3 (dk_at dksX0_apart_0 9 rfl rfl)
theorem dX0_apart_10 : decode cX0_apart 10 = .ok (.invokestatic 27, 3) := dk_184 0 27 (dk_at dksX0_apart_0 10 rfl rfl)
theorem dX0_apart_13 : decode cX0_apart 13 = .ok (.istore_n 2, 1) := dk_61 (dk_at dksX0_apart_0 13 rfl rfl)
theorem dX0_apart_14 : decode cX0_apart 14 = .ok (.iconst 0, 1) := dk_3 (dk_at dksX0_apart_0 14 rfl rfl)
theorem dX0_apart_15 : decode cX0_apart 15 = .ok (.istore_n 3, 1) := dk_62 (dk_at dksX0_apart_0 15 rfl rfl)
theorem dX0_apart_16 : decode cX0_apart 16 = .ok (.iconst 0, 1) := dk_3 (dk_at dksX0_apart_0 16 rfl rfl)
theorem dX0_apart_17 : decode cX0_apart 17 = .ok (.istore 4, 2) := dk_54 4 (dk_at dksX0_apart_0 17 rfl rfl)
theorem dX0_apart_19 : decode cX0_apart 19 = .ok (.iload 4, 2) := dk_21 4 (dk_at dksX0_apart_0 19 rfl rfl)
theorem dX0_apart_21 : decode cX0_apart 21 = .ok (.bipush 15, 2) := dk_16 15 (dk_at dksX0_apart_0 21 rfl rfl)
theorem dX0_apart_23 : decode cX0_apart 23 = .ok (.if_icmp .ge 14, 3) := dk_162 0 14 (dk_at dksX0_apart_1 0 rfl rfl)
theorem dX0_apart_26 : decode cX0_apart 26 = .ok (.aload_n 1, 1) := dk_43 (dk_at dksX0_apart_1 3 rfl rfl)
theorem dX0_apart_27 : decode cX0_apart 27 = .ok (.iload_n 2, 1) := dk_28 (dk_at dksX0_apart_1 4 rfl rfl)
theorem dX0_apart_28 : decode cX0_apart 28 = .ok (.invokevirtual 14, 3) := dk_182 0 14 (dk_at dksX0_apart_1 5 rfl rfl)
theorem dX0_apart_31 : decode cX0_apart 31 = .ok (.iinc 4 1, 3) := dk_132 4 1 (dk_at dksX0_apart_1 8 rfl rfl)
theorem dX0_apart_34 : decode cX0_apart 34 = .ok (.goto (-15), 3) := dk_167 255 241 (dk_at dksX0_apart_1 11 rfl rfl)
theorem dX0_apart_37 : decode cX0_apart 37 = .ok (.iconst 1, 1) := dk_4 (dk_at dksX0_apart_1 14 rfl rfl)
theorem dX0_apart_38 : decode cX0_apart 38 = .ok (.istore 4, 2) := dk_54 4 (dk_at dksX0_apart_1 15 rfl rfl)
theorem dX0_apart_40 : decode cX0_apart 40 = .ok (.iload 4, 2) := dk_21 4 (dk_at dksX0_apart_1 17 rfl rfl)
theorem dX0_apart_42 : decode cX0_apart 42 = .ok (.sipush 1000, 3) := dk_17 3 232 (dk_at dksX0_apart_1 19 rfl rfl)
theorem dX0_apart_45 : decode cX0_apart 45 = .ok (.if_icmp .gt 23, 3) := dk_163 0 23 (dk_at dksX0_apart_2 0 rfl rfl)
theorem dX0_apart_48 : decode cX0_apart 48 = .ok (.aload_n 1, 1) := dk_43 (dk_at dksX0_apart_2 3 rfl rfl)
theorem dX0_apart_49 : decode cX0_apart 49 = .ok (.iload_n 2, 1) := dk_28 (dk_at dksX0_apart_2 4 rfl rfl)
theorem dX0_apart_50 : decode cX0_apart 50 = .ok (.iload 4, 2) := dk_21 4 (dk_at dksX0_apart_2 5 rfl rfl)
theorem dX0_apart_52 : decode cX0_apart 52 = .ok (.iadd, 1) := dk_96 (dk_at dksX0_apart_2 7 rfl rfl)
theorem dX0_apart_53 : decode cX0_apart 53 = .ok (.invokevirtual 10, 3) := dk_182 0 10 (dk_at dksX0_apart_2 8 rfl rfl)
theorem dX0_apart_56 : decode cX0_apart 56 = .ok (.ifCond .le 6, 3) := dk_158 0 6 (dk_at dksX0_apart_2 11 rfl rfl)
theorem dX0_apart_59 : decode cX0_apart 59 = .ok (.iinc 3 1, 3) := dk_132 3 1 (dk_at dksX0_apart_2 14 rfl rfl)
theorem dX0_apart_62 : decode cX0_apart 62 = .ok (.iinc 4 1, 3) := dk_132 4 1 (dk_at dksX0_apart_2 17 rfl rfl)
theorem dX0_apart_65 : decode cX0_apart 65 = .ok (.goto (-25), 3) := dk_167 255 231 (dk_at dksX0_apart_2 20 rfl rfl)
theorem dX0_apart_68 : decode cX0_apart 68 = .ok (.iload_n 3, 1) := dk_29 (dk_at dksX0_apart_2 23 rfl rfl)
theorem dX0_apart_69 : decode cX0_apart 69 = .ok (.sipush 500, 3) := dk_17 1 244 (dk_at dksX0_apart_3 0 rfl rfl)
theorem dX0_apart_72 : decode cX0_apart 72 = .ok (.if_icmp .gt 17, 3) := dk_163 0 17 (dk_at dksX0_apart_3 3 rfl rfl)
theorem dX0_apart_75 : decode cX0_apart 75 = .ok (.aload_n 1, 1) := dk_43 (dk_at dksX0_apart_3 6 rfl rfl)
theorem dX0_apart_76 : decode cX0_apart 76 = .ok (.iload_n 2, 1) := dk_28 (dk_at dksX0_apart_3 7 rfl rfl)
theorem dX0_apart_77 : decode cX0_apart 77 = .ok (.invokevirtual 10, 3) := dk_182 0 10 (dk_at dksX0_apart_3 8 rfl rfl)
theorem dX0_apart_80 : decode cX0_apart 80 = .ok (.bipush 15, 2) := dk_16 15 (dk_at dksX0_apart_3 11 rfl rfl)
theorem dX0_apart_82 : decode cX0_apart 82 = .ok (.if_icmp .ne 7, 3) := dk_160 0 7 (dk_at dksX0_apart_3 13 rfl rfl)
theorem dX0_apart_85 : decode cX0_apart 85 = .ok (.iconst 1, 1) := dk_4 (dk_at dksX0_apart_3 16 rfl rfl)
theorem dX0_apart_86 : decode cX0_apart 86 = .ok (.goto 4, 3) := dk_167 0 4 (dk_at dksX0_apart_3 17 rfl rfl)
theorem dX0_apart_89 : decode cX0_apart 89 = .ok (.iconst 0, 1) := dk_3 (dk_at dksX0_apart_3 20 rfl rfl)
theorem dX0_apart_90 : decode cX0_apart 90 = .ok (.ireturn, 1) := dk_172 (dk_at dksX0_apart_3 21 rfl rfl)
abbrev cX0_cell : ByteArray := method_3_code
def yX0_cell : MethodName := ⟨RX0, "cell", "([II)I"⟩
def dkwX0_cell_0 : List UInt8 := [27, 42, 190, 162, 0, 9, 42, 27, 46, 167, 0, 4, 3, 172]
abbrev dktX0_cell_0 : List UInt8 := dkwX0_cell_0 ++ []
theorem dksX0_cell_0 : cX0_cell.data.toList.drop 0 = dktX0_cell_0 := by decide +kernel
theorem dX0_cell_0 : decode cX0_cell 0 = .ok (.iload_n 1, 1) := dk_27 (dk_at dksX0_cell_0 0 rfl rfl)
theorem dX0_cell_1 : decode cX0_cell 1 = .ok (.aload_n 0, 1) := dk_42 (dk_at dksX0_cell_0 1 rfl rfl)
theorem dX0_cell_2 : decode cX0_cell 2 = .ok (.arraylength, 1) := dk_190 (dk_at dksX0_cell_0 2 rfl rfl)
theorem dX0_cell_3 : decode cX0_cell 3 = .ok (.if_icmp .ge 9, 3) := dk_162 0 9 (dk_at dksX0_cell_0 3 rfl rfl)
theorem dX0_cell_6 : decode cX0_cell 6 = .ok (.aload_n 0, 1) := dk_42 (dk_at dksX0_cell_0 6 rfl rfl)
theorem dX0_cell_7 : decode cX0_cell 7 = .ok (.iload_n 1, 1) := dk_27 (dk_at dksX0_cell_0 7 rfl rfl)
theorem dX0_cell_8 : decode cX0_cell 8 = .ok (.iaload, 1) := dk_46 (dk_at dksX0_cell_0 8 rfl rfl)
theorem dX0_cell_9 : decode cX0_cell 9 = .ok (.goto 4, 3) := dk_167 0 4 (dk_at dksX0_cell_0 9 rfl rfl)
theorem dX0_cell_12 : decode cX0_cell 12 = .ok (.iconst 0, 1) := dk_3 (dk_at dksX0_cell_0 12 rfl rfl)
theorem dX0_cell_13 : decode cX0_cell 13 = .ok (.ireturn, 1) := dk_172 (dk_at dksX0_cell_0 13 rfl rfl)
abbrev cX0_asked : ByteArray := method_5_code
def yX0_asked : MethodName := ⟨RX0, "asked", "([I)Z"⟩
def dkwX0_asked_8 : List UInt8 := [167, 0, 4, 3, 172]
abbrev dktX0_asked_8 : List UInt8 := dkwX0_asked_8 ++ []
def dkwX0_asked_7 : List UInt8 := [167, 255, 199, 187, 0, 7, 89, 183, 0, 9, 42, 3, 184, 0, 27, 182, 0, 10, 154, 0, 7, 4]
abbrev dktX0_asked_7 : List UInt8 := dkwX0_asked_7 ++ dktX0_asked_8
def dkwX0_asked_6 : List UInt8 := [2, 130, 182, 0, 10, 44, 42, 29, 184, 0, 27, 2, 130, 182, 0, 10, 159, 0, 5, 3, 172, 132, 3, 1]
abbrev dktX0_asked_6 : List UInt8 := dkwX0_asked_6 ++ dktX0_asked_7
def dkwX0_asked_5 : List UInt8 := [184, 0, 27, 182, 0, 10, 44, 42, 29, 184, 0, 27, 182, 0, 10, 160, 0, 28, 43, 42, 29, 184, 0, 27]
abbrev dktX0_asked_5 : List UInt8 := dkwX0_asked_5 ++ dktX0_asked_6
def dkwX0_asked_4 : List UInt8 := [29, 184, 0, 27, 182, 0, 14, 132, 3, 1, 167, 255, 169, 3, 62, 29, 16, 64, 162, 0, 57, 43, 42, 29]
abbrev dktX0_asked_4 : List UInt8 := dkwX0_asked_4 ++ dktX0_asked_5
def dkwX0_asked_3 : List UInt8 := [43, 42, 29, 184, 0, 27, 182, 0, 10, 21, 4, 159, 0, 5, 3, 172, 132, 5, 1, 167, 255, 213, 44, 42]
abbrev dktX0_asked_3 : List UInt8 := dkwX0_asked_3 ++ dktX0_asked_4
def dkwX0_asked_2 : List UInt8 := [21, 5, 6, 162, 0, 43, 43, 42, 29, 21, 5, 96, 16, 63, 126, 184, 0, 27, 182, 0, 10, 155, 0, 17]
abbrev dktX0_asked_2 : List UInt8 := dkwX0_asked_2 ++ dktX0_asked_3
def dkwX0_asked_1 : List UInt8 := [43, 42, 29, 184, 0, 27, 182, 0, 14, 43, 42, 29, 184, 0, 27, 182, 0, 10, 54, 4, 3, 54, 5]
abbrev dktX0_asked_1 : List UInt8 := dkwX0_asked_1 ++ dktX0_asked_2
def dkwX0_asked_0 : List UInt8 := [187, 0, 7, 89, 183, 0, 9, 76, 187, 0, 7, 89, 183, 0, 9, 77, 3, 62, 29, 16, 64, 162, 0, 87]
abbrev dktX0_asked_0 : List UInt8 := dkwX0_asked_0 ++ dktX0_asked_1
theorem dksX0_asked_0 : cX0_asked.data.toList.drop 0 = dktX0_asked_0 := by decide +kernel
theorem dksX0_asked_1 : cX0_asked.data.toList.drop 24 = dktX0_asked_1 := dk_seg dksX0_asked_0 24 rfl rfl
theorem dksX0_asked_2 : cX0_asked.data.toList.drop 47 = dktX0_asked_2 := dk_seg dksX0_asked_1 23 rfl rfl
theorem dksX0_asked_3 : cX0_asked.data.toList.drop 71 = dktX0_asked_3 := dk_seg dksX0_asked_2 24 rfl rfl
theorem dksX0_asked_4 : cX0_asked.data.toList.drop 95 = dktX0_asked_4 := dk_seg dksX0_asked_3 24 rfl rfl
theorem dksX0_asked_5 : cX0_asked.data.toList.drop 119 = dktX0_asked_5 := dk_seg dksX0_asked_4 24 rfl rfl
theorem dksX0_asked_6 : cX0_asked.data.toList.drop 143 = dktX0_asked_6 := dk_seg dksX0_asked_5 24 rfl rfl
theorem dksX0_asked_7 : cX0_asked.data.toList.drop 167 = dktX0_asked_7 := dk_seg dksX0_asked_6 24 rfl rfl
theorem dksX0_asked_8 : cX0_asked.data.toList.drop 189 = dktX0_asked_8 := dk_seg dksX0_asked_7 22 rfl rfl
theorem dX0_asked_0 : decode cX0_asked 0 = .ok (.new 7, 3) := dk_187 0 7 (dk_at dksX0_asked_0 0 rfl rfl)
theorem dX0_asked_3 : decode cX0_asked 3 = .ok (.dup, 1) := dk_89 (dk_at dksX0_asked_0 3 rfl rfl)
theorem dX0_asked_4 : decode cX0_asked 4 = .ok (.invokespecial 9, 3) := dk_183 0 9 (dk_at dksX0_asked_0 4 rfl rfl)
theorem dX0_asked_7 : decode cX0_asked 7 = .ok (.astore_n 1, 1) := dk_76 (dk_at dksX0_asked_0 7 rfl rfl)
theorem dX0_asked_8 : decode cX0_asked 8 = .ok (.new 7, 3) := dk_187 0 7 (dk_at dksX0_asked_0 8 rfl rfl)
theorem dX0_asked_11 : decode cX0_asked 11 = .ok (.dup, 1) := dk_89 (dk_at dksX0_asked_0 11 rfl rfl)
theorem dX0_asked_12 : decode cX0_asked 12 = .ok (.invokespecial 9, 3) := dk_183 0 9 (dk_at dksX0_asked_0 12 rfl rfl)
theorem dX0_asked_15 : decode cX0_asked 15 = .ok (.astore_n 2, 1) := dk_77 (dk_at dksX0_asked_0 15 rfl rfl)
theorem dX0_asked_16 : decode cX0_asked 16 = .ok (.iconst 0, 1) := dk_3 (dk_at dksX0_asked_0 16 rfl rfl)
theorem dX0_asked_17 : decode cX0_asked 17 = .ok (.istore_n 3, 1) := dk_62 (dk_at dksX0_asked_0 17 rfl rfl)
theorem dX0_asked_18 : decode cX0_asked 18 = .ok (.iload_n 3, 1) := dk_29 (dk_at dksX0_asked_0 18 rfl rfl)
theorem dX0_asked_19 : decode cX0_asked 19 = .ok (.bipush 64, 2) := dk_16 64 (dk_at dksX0_asked_0 19 rfl rfl)
theorem dX0_asked_21 : decode cX0_asked 21 = .ok (.if_icmp .ge 87, 3) := dk_162 0 87 (dk_at dksX0_asked_0 21 rfl rfl)
theorem dX0_asked_24 : decode cX0_asked 24 = .ok (.aload_n 1, 1) := dk_43 (dk_at dksX0_asked_1 0 rfl rfl)
theorem dX0_asked_25 : decode cX0_asked 25 = .ok (.aload_n 0, 1) := dk_42 (dk_at dksX0_asked_1 1 rfl rfl)
theorem dX0_asked_26 : decode cX0_asked 26 = .ok (.iload_n 3, 1) := dk_29 (dk_at dksX0_asked_1 2 rfl rfl)
theorem dX0_asked_27 : decode cX0_asked 27 = .ok (.invokestatic 27, 3) := dk_184 0 27 (dk_at dksX0_asked_1 3 rfl rfl)
theorem dX0_asked_30 : decode cX0_asked 30 = .ok (.invokevirtual 14, 3) := dk_182 0 14 (dk_at dksX0_asked_1 6 rfl rfl)
theorem dX0_asked_33 : decode cX0_asked 33 = .ok (.aload_n 1, 1) := dk_43 (dk_at dksX0_asked_1 9 rfl rfl)
theorem dX0_asked_34 : decode cX0_asked 34 = .ok (.aload_n 0, 1) := dk_42 (dk_at dksX0_asked_1 10 rfl rfl)
theorem dX0_asked_35 : decode cX0_asked 35 = .ok (.iload_n 3, 1) := dk_29 (dk_at dksX0_asked_1 11 rfl rfl)
theorem dX0_asked_36 : decode cX0_asked 36 = .ok (.invokestatic 27, 3) := dk_184 0 27 (dk_at dksX0_asked_1 12 rfl rfl)
theorem dX0_asked_39 : decode cX0_asked 39 = .ok (.invokevirtual 10, 3) := dk_182 0 10 (dk_at dksX0_asked_1 15 rfl rfl)
theorem dX0_asked_42 : decode cX0_asked 42 = .ok (.istore 4, 2) := dk_54 4 (dk_at dksX0_asked_1 18 rfl rfl)
theorem dX0_asked_44 : decode cX0_asked 44 = .ok (.iconst 0, 1) := dk_3 (dk_at dksX0_asked_1 20 rfl rfl)
theorem dX0_asked_45 : decode cX0_asked 45 = .ok (.istore 5, 2) := dk_54 5 (dk_at dksX0_asked_1 21 rfl rfl)
theorem dX0_asked_47 : decode cX0_asked 47 = .ok (.iload 5, 2) := dk_21 5 (dk_at dksX0_asked_2 0 rfl rfl)
theorem dX0_asked_49 : decode cX0_asked 49 = .ok (.iconst 3, 1) := dk_6 (dk_at dksX0_asked_2 2 rfl rfl)
theorem dX0_asked_50 : decode cX0_asked 50 = .ok (.if_icmp .ge 43, 3) := dk_162 0 43 (dk_at dksX0_asked_2 3 rfl rfl)
theorem dX0_asked_53 : decode cX0_asked 53 = .ok (.aload_n 1, 1) := dk_43 (dk_at dksX0_asked_2 6 rfl rfl)
theorem dX0_asked_54 : decode cX0_asked 54 = .ok (.aload_n 0, 1) := dk_42 (dk_at dksX0_asked_2 7 rfl rfl)
theorem dX0_asked_55 : decode cX0_asked 55 = .ok (.iload_n 3, 1) := dk_29 (dk_at dksX0_asked_2 8 rfl rfl)
theorem dX0_asked_56 : decode cX0_asked 56 = .ok (.iload 5, 2) := dk_21 5 (dk_at dksX0_asked_2 9 rfl rfl)
theorem dX0_asked_58 : decode cX0_asked 58 = .ok (.iadd, 1) := dk_96 (dk_at dksX0_asked_2 11 rfl rfl)
theorem dX0_asked_59 : decode cX0_asked 59 = .ok (.bipush 63, 2) := dk_16 63 (dk_at dksX0_asked_2 12 rfl rfl)
theorem dX0_asked_61 : decode cX0_asked 61 = .ok (.iand, 1) := dk_126 (dk_at dksX0_asked_2 14 rfl rfl)
theorem dX0_asked_62 : decode cX0_asked 62 = .ok (.invokestatic 27, 3) := dk_184 0 27 (dk_at dksX0_asked_2 15 rfl rfl)
theorem dX0_asked_65 : decode cX0_asked 65 = .ok (.invokevirtual 10, 3) := dk_182 0 10 (dk_at dksX0_asked_2 18 rfl rfl)
theorem dX0_asked_68 : decode cX0_asked 68 = .ok (.ifCond .lt 17, 3) := dk_155 0 17 (dk_at dksX0_asked_2 21 rfl rfl)
theorem dX0_asked_71 : decode cX0_asked 71 = .ok (.aload_n 1, 1) := dk_43 (dk_at dksX0_asked_3 0 rfl rfl)
theorem dX0_asked_72 : decode cX0_asked 72 = .ok (.aload_n 0, 1) := dk_42 (dk_at dksX0_asked_3 1 rfl rfl)
theorem dX0_asked_73 : decode cX0_asked 73 = .ok (.iload_n 3, 1) := dk_29 (dk_at dksX0_asked_3 2 rfl rfl)
theorem dX0_asked_74 : decode cX0_asked 74 = .ok (.invokestatic 27, 3) := dk_184 0 27 (dk_at dksX0_asked_3 3 rfl rfl)
theorem dX0_asked_77 : decode cX0_asked 77 = .ok (.invokevirtual 10, 3) := dk_182 0 10 (dk_at dksX0_asked_3 6 rfl rfl)
theorem dX0_asked_80 : decode cX0_asked 80 = .ok (.iload 4, 2) := dk_21 4 (dk_at dksX0_asked_3 9 rfl rfl)
theorem dX0_asked_82 : decode cX0_asked 82 = .ok (.if_icmp .eq 5, 3) := dk_159 0 5 (dk_at dksX0_asked_3 11 rfl rfl)
theorem dX0_asked_85 : decode cX0_asked 85 = .ok (.iconst 0, 1) := dk_3 (dk_at dksX0_asked_3 14 rfl rfl)
theorem dX0_asked_86 : decode cX0_asked 86 = .ok (.ireturn, 1) := dk_172 (dk_at dksX0_asked_3 15 rfl rfl)
theorem dX0_asked_87 : decode cX0_asked 87 = .ok (.iinc 5 1, 3) := dk_132 5 1 (dk_at dksX0_asked_3 16 rfl rfl)
theorem dX0_asked_90 : decode cX0_asked 90 = .ok (.goto (-43), 3) := dk_167 255 213 (dk_at dksX0_asked_3 19 rfl rfl)
theorem dX0_asked_93 : decode cX0_asked 93 = .ok (.aload_n 2, 1) := dk_44 (dk_at dksX0_asked_3 22 rfl rfl)
theorem dX0_asked_94 : decode cX0_asked 94 = .ok (.aload_n 0, 1) := dk_42 (dk_at dksX0_asked_3 23 rfl rfl)
theorem dX0_asked_95 : decode cX0_asked 95 = .ok (.iload_n 3, 1) := dk_29 (dk_at dksX0_asked_4 0 rfl rfl)
theorem dX0_asked_96 : decode cX0_asked 96 = .ok (.invokestatic 27, 3) := dk_184 0 27 (dk_at dksX0_asked_4 1 rfl rfl)
theorem dX0_asked_99 : decode cX0_asked 99 = .ok (.invokevirtual 14, 3) := dk_182 0 14 (dk_at dksX0_asked_4 4 rfl rfl)
theorem dX0_asked_102 : decode cX0_asked 102 = .ok (.iinc 3 1, 3) := dk_132 3 1 (dk_at dksX0_asked_4 7 rfl rfl)
theorem dX0_asked_105 : decode cX0_asked 105 = .ok (.goto (-87), 3) := dk_167 255 169 (dk_at dksX0_asked_4 10 rfl rfl)
theorem dX0_asked_108 : decode cX0_asked 108 = .ok (.iconst 0, 1) := dk_3 (dk_at dksX0_asked_4 13 rfl rfl)
theorem dX0_asked_109 : decode cX0_asked 109 = .ok (.istore_n 3, 1) := dk_62 (dk_at dksX0_asked_4 14 rfl rfl)
theorem dX0_asked_110 : decode cX0_asked 110 = .ok (.iload_n 3, 1) := dk_29 (dk_at dksX0_asked_4 15 rfl rfl)
theorem dX0_asked_111 : decode cX0_asked 111 = .ok (.bipush 64, 2) := dk_16 64 (dk_at dksX0_asked_4 16 rfl rfl)
theorem dX0_asked_113 : decode cX0_asked 113 = .ok (.if_icmp .ge 57, 3) := dk_162 0 57 (dk_at dksX0_asked_4 18 rfl rfl)
theorem dX0_asked_116 : decode cX0_asked 116 = .ok (.aload_n 1, 1) := dk_43 (dk_at dksX0_asked_4 21 rfl rfl)
theorem dX0_asked_117 : decode cX0_asked 117 = .ok (.aload_n 0, 1) := dk_42 (dk_at dksX0_asked_4 22 rfl rfl)
theorem dX0_asked_118 : decode cX0_asked 118 = .ok (.iload_n 3, 1) := dk_29 (dk_at dksX0_asked_4 23 rfl rfl)
theorem dX0_asked_119 : decode cX0_asked 119 = .ok (.invokestatic 27, 3) := dk_184 0 27 (dk_at dksX0_asked_5 0 rfl rfl)
theorem dX0_asked_122 : decode cX0_asked 122 = .ok (.invokevirtual 10, 3) := dk_182 0 10 (dk_at dksX0_asked_5 3 rfl rfl)
theorem dX0_asked_125 : decode cX0_asked 125 = .ok (.aload_n 2, 1) := dk_44 (dk_at dksX0_asked_5 6 rfl rfl)
theorem dX0_asked_126 : decode cX0_asked 126 = .ok (.aload_n 0, 1) := dk_42 (dk_at dksX0_asked_5 7 rfl rfl)
theorem dX0_asked_127 : decode cX0_asked 127 = .ok (.iload_n 3, 1) := dk_29 (dk_at dksX0_asked_5 8 rfl rfl)
theorem dX0_asked_128 : decode cX0_asked 128 = .ok (.invokestatic 27, 3) := dk_184 0 27 (dk_at dksX0_asked_5 9 rfl rfl)
theorem dX0_asked_131 : decode cX0_asked 131 = .ok (.invokevirtual 10, 3) := dk_182 0 10 (dk_at dksX0_asked_5 12 rfl rfl)
theorem dX0_asked_134 : decode cX0_asked 134 = .ok (.if_icmp .ne 28, 3) := dk_160 0 28 (dk_at dksX0_asked_5 15 rfl rfl)
theorem dX0_asked_137 : decode cX0_asked 137 = .ok (.aload_n 1, 1) := dk_43 (dk_at dksX0_asked_5 18 rfl rfl)
theorem dX0_asked_138 : decode cX0_asked 138 = .ok (.aload_n 0, 1) := dk_42 (dk_at dksX0_asked_5 19 rfl rfl)
theorem dX0_asked_139 : decode cX0_asked 139 = .ok (.iload_n 3, 1) := dk_29 (dk_at dksX0_asked_5 20 rfl rfl)
theorem dX0_asked_140 : decode cX0_asked 140 = .ok (.invokestatic 27, 3) := dk_184 0 27 (dk_at dksX0_asked_5 21 rfl rfl)
theorem dX0_asked_143 : decode cX0_asked 143 = .ok (.iconst (-1), 1) := dk_2 (dk_at dksX0_asked_6 0 rfl rfl)
theorem dX0_asked_144 : decode cX0_asked 144 = .ok (.ixor, 1) := dk_130 (dk_at dksX0_asked_6 1 rfl rfl)
theorem dX0_asked_145 : decode cX0_asked 145 = .ok (.invokevirtual 10, 3) := dk_182 0 10 (dk_at dksX0_asked_6 2 rfl rfl)
theorem dX0_asked_148 : decode cX0_asked 148 = .ok (.aload_n 2, 1) := dk_44 (dk_at dksX0_asked_6 5 rfl rfl)
theorem dX0_asked_149 : decode cX0_asked 149 = .ok (.aload_n 0, 1) := dk_42 (dk_at dksX0_asked_6 6 rfl rfl)
theorem dX0_asked_150 : decode cX0_asked 150 = .ok (.iload_n 3, 1) := dk_29 (dk_at dksX0_asked_6 7 rfl rfl)
theorem dX0_asked_151 : decode cX0_asked 151 = .ok (.invokestatic 27, 3) := dk_184 0 27 (dk_at dksX0_asked_6 8 rfl rfl)
theorem dX0_asked_154 : decode cX0_asked 154 = .ok (.iconst (-1), 1) := dk_2 (dk_at dksX0_asked_6 11 rfl rfl)
theorem dX0_asked_155 : decode cX0_asked 155 = .ok (.ixor, 1) := dk_130 (dk_at dksX0_asked_6 12 rfl rfl)
theorem dX0_asked_156 : decode cX0_asked 156 = .ok (.invokevirtual 10, 3) := dk_182 0 10 (dk_at dksX0_asked_6 13 rfl rfl)
theorem dX0_asked_159 : decode cX0_asked 159 = .ok (.if_icmp .eq 5, 3) := dk_159 0 5 (dk_at dksX0_asked_6 16 rfl rfl)
theorem dX0_asked_162 : decode cX0_asked 162 = .ok (.iconst 0, 1) := dk_3 (dk_at dksX0_asked_6 19 rfl rfl)
theorem dX0_asked_163 : decode cX0_asked 163 = .ok (.ireturn, 1) := dk_172 (dk_at dksX0_asked_6 20 rfl rfl)
theorem dX0_asked_164 : decode cX0_asked 164 = .ok (.iinc 3 1, 3) := dk_132 3 1 (dk_at dksX0_asked_6 21 rfl rfl)
theorem dX0_asked_167 : decode cX0_asked 167 = .ok (.goto (-57), 3) := dk_167 255 199 (dk_at dksX0_asked_7 0 rfl rfl)
theorem dX0_asked_170 : decode cX0_asked 170 = .ok (.new 7, 3) := dk_187 0 7 (dk_at dksX0_asked_7 3 rfl rfl)
theorem dX0_asked_173 : decode cX0_asked 173 = .ok (.dup, 1) := dk_89 (dk_at dksX0_asked_7 6 rfl rfl)
theorem dX0_asked_174 : decode cX0_asked 174 = .ok (.invokespecial 9, 3) := dk_183 0 9 (dk_at dksX0_asked_7 7 rfl rfl)
theorem dX0_asked_177 : decode cX0_asked 177 = .ok (.aload_n 0, 1) := dk_42 (dk_at dksX0_asked_7 10 rfl rfl)
theorem dX0_asked_178 : decode cX0_asked 178 = .ok (.iconst 0, 1) := dk_3 (dk_at dksX0_asked_7 11 rfl rfl)
theorem dX0_asked_179 : decode cX0_asked 179 = .ok (.invokestatic 27, 3) := dk_184 0 27 (dk_at dksX0_asked_7 12 rfl rfl)
theorem dX0_asked_182 : decode cX0_asked 182 = .ok (.invokevirtual 10, 3) := dk_182 0 10 (dk_at dksX0_asked_7 15 rfl rfl)
theorem dX0_asked_185 : decode cX0_asked 185 = .ok (.ifCond .ne 7, 3) := dk_154 0 7 (dk_at dksX0_asked_7 18 rfl rfl)
theorem dX0_asked_188 : decode cX0_asked 188 = .ok (.iconst 1, 1) := dk_4 (dk_at dksX0_asked_7 21 rfl rfl)
theorem dX0_asked_189 : decode cX0_asked 189 = .ok (.goto 4, 3) := dk_167 0 4 (dk_at dksX0_asked_8 0 rfl rfl)
theorem dX0_asked_192 : decode cX0_asked 192 = .ok (.iconst 0, 1) := dk_3 (dk_at dksX0_asked_8 3 rfl rfl)
theorem dX0_asked_193 : decode cX0_asked 193 = .ok (.ireturn, 1) := dk_172 (dk_at dksX0_asked_8 4 rfl rfl)
theorem q1 : (Jvm.Cond.initialized "SketchDeskLaw") ∈ lw_all := lw_g (lw_at lw_m0 0 rfl) rfl
theorem q14 : (Jvm.Cond.classLink "SketchDeskLaw" (7 : Nat) "SketchDesk") ∈ lw_all := lw_g (lw_at lw_m0 13 rfl) rfl
theorem q16 : (Jvm.Cond.methodLink "SketchDeskLaw" (9 : Nat) ({ cls := "SketchDesk", name := "<init>", desc := "()V" } : Jvm.MethodName)) ∈ lw_all := lw_g (lw_at lw_m0 15 rfl) rfl
theorem q135 : (Jvm.Cond.methodLink "SketchDeskLaw" (14 : Nat) ({ cls := "SketchDesk", name := "count", desc := "(I)V" } : Jvm.MethodName)) ∈ lw_all := lw_g (lw_at lw_m0 134 rfl) rfl
theorem q206 : (Jvm.Cond.methodLink "SketchDeskLaw" (10 : Nat) ({ cls := "SketchDesk", name := "told", desc := "(I)I" } : Jvm.MethodName)) ∈ lw_all := lw_g (lw_at lw_m0 205 rfl) rfl
theorem q215 : (Jvm.Cond.methodLink "SketchDeskLaw" (18 : Nat) ({ cls := "SketchDeskLaw", name := "apart", desc := "([I)Z" } : Jvm.MethodName)) ∈ lw_all := lw_g (lw_at lw_m0 214 rfl) rfl
theorem q216 : (Jvm.Cond.static ({ cls := "SketchDeskLaw", name := "apart", desc := "([I)Z" } : Jvm.MethodName)) ∈ lw_all := lw_g (lw_at lw_m0 215 rfl) rfl
theorem q217 : (Jvm.Cond.code ({ cls := "SketchDeskLaw", name := "apart", desc := "([I)Z" } : Jvm.MethodName) method_4_code (5 : Nat) (Option.some Jvm.ClassFile.FieldType.boolean)) ∈ lw_all := lw_g (lw_at lw_m0 216 rfl) rfl
theorem q218 : (Jvm.Cond.methodLink "SketchDeskLaw" (27 : Nat) ({ cls := "SketchDeskLaw", name := "cell", desc := "([II)I" } : Jvm.MethodName)) ∈ lw_all := lw_g (lw_at lw_m0 217 rfl) rfl
theorem q219 : (Jvm.Cond.static ({ cls := "SketchDeskLaw", name := "cell", desc := "([II)I" } : Jvm.MethodName)) ∈ lw_all := lw_g (lw_at lw_m0 218 rfl) rfl
theorem q220 : (Jvm.Cond.code ({ cls := "SketchDeskLaw", name := "cell", desc := "([II)I" } : Jvm.MethodName) method_3_code (2 : Nat) (Option.some Jvm.ClassFile.FieldType.int)) ∈ lw_all := lw_g (lw_at lw_m0 219 rfl) rfl
theorem q221 : (Jvm.Cond.methodLink "SketchDeskLaw" (24 : Nat) ({ cls := "SketchDeskLaw", name := "asked", desc := "([I)Z" } : Jvm.MethodName)) ∈ lw_all := lw_g (lw_at lw_m0 220 rfl) rfl
theorem q222 : (Jvm.Cond.static ({ cls := "SketchDeskLaw", name := "asked", desc := "([I)Z" } : Jvm.MethodName)) ∈ lw_all := lw_g (lw_at lw_m0 221 rfl) rfl
theorem q223 : (Jvm.Cond.code ({ cls := "SketchDeskLaw", name := "asked", desc := "([I)Z" } : Jvm.MethodName) method_5_code (6 : Nat) (Option.some Jvm.ClassFile.FieldType.boolean)) ∈ lw_all := lw_g (lw_at lw_m0 222 rfl) rfl
/-! SketchDesk -/
set_option maxRecDepth 100000
def RX1 : String := "SketchDesk"
def TX1 : u_T := fun k => match k with
  | _ => ("SketchDesk", "sketch", "LFrequencySketch;", true)
def tyX1 : Nat → FieldType := fun k => match k with
  | _ => .object "FrequencySketch"
abbrev wsX10 : List Cond := u_ws RX1 TX1 1
theorem nmX1 : ∀ a, a < 1 → ∀ b, b < 1 → a ≠ b → (TX1 a).2.1 ≠ (TX1 b).2.1 := by decide +kernel
theorem tyX1_ok : ∀ k, k < 1 → parseFieldDescriptor (TX1 k).2.2.1 = some (tyX1 k) := by decide +kernel
abbrev cX1_init : ByteArray := prog_3_method_1_code
def yX1_init : MethodName := ⟨RX1, "<init>", "()V"⟩
def dkwX1_init_1 : List UInt8 := [182, 0, 18, 177]
abbrev dktX1_init_1 : List UInt8 := dkwX1_init_1 ++ []
def dkwX1_init_0 : List UInt8 := [42, 183, 0, 1, 42, 187, 0, 7, 89, 183, 0, 9, 181, 0, 10, 42, 180, 0, 10, 20, 0, 16]
abbrev dktX1_init_0 : List UInt8 := dkwX1_init_0 ++ dktX1_init_1
theorem dksX1_init_0 : cX1_init.data.toList.drop 0 = dktX1_init_0 := by decide +kernel
theorem dksX1_init_1 : cX1_init.data.toList.drop 22 = dktX1_init_1 := dk_seg dksX1_init_0 22 rfl rfl
theorem dX1_init_0 : decode cX1_init 0 = .ok (.aload_n 0, 1) := dk_42 (dk_at dksX1_init_0 0 rfl rfl)
theorem dX1_init_1 : decode cX1_init 1 = .ok (.invokespecial 1, 3) := dk_183 0 1 (dk_at dksX1_init_0 1 rfl rfl)
theorem dX1_init_4 : decode cX1_init 4 = .ok (.aload_n 0, 1) := dk_42 (dk_at dksX1_init_0 4 rfl rfl)
theorem dX1_init_5 : decode cX1_init 5 = .ok (.new 7, 3) := dk_187 0 7 (dk_at dksX1_init_0 5 rfl rfl)
theorem dX1_init_8 : decode cX1_init 8 = .ok (.dup, 1) := dk_89 (dk_at dksX1_init_0 8 rfl rfl)
theorem dX1_init_9 : decode cX1_init 9 = .ok (.invokespecial 9, 3) := dk_183 0 9 (dk_at dksX1_init_0 9 rfl rfl)
theorem dX1_init_12 : decode cX1_init 12 = .ok (.putfield 10, 3) := dk_181 0 10 (dk_at dksX1_init_0 12 rfl rfl)
theorem dX1_init_15 : decode cX1_init 15 = .ok (.aload_n 0, 1) := dk_42 (dk_at dksX1_init_0 15 rfl rfl)
theorem dX1_init_16 : decode cX1_init 16 = .ok (.getfield 10, 3) := dk_180 0 10 (dk_at dksX1_init_0 16 rfl rfl)
theorem dX1_init_19 : decode cX1_init 19 = .ok (.ldc2_w 16, 3) := dk_20 0 16 (dk_at dksX1_init_0 19 rfl rfl)
theorem dX1_init_22 : decode cX1_init 22 = .ok (.invokevirtual 18, 3) := dk_182 0 18 (dk_at dksX1_init_1 0 rfl rfl)
theorem dX1_init_25 : decode cX1_init 25 = .ok (.return_, 1) := dk_177 (dk_at dksX1_init_1 3 rfl rfl)
abbrev cX1_count : ByteArray := prog_3_method_2_code
def yX1_count : MethodName := ⟨RX1, "count", "(I)V"⟩
def dkwX1_count_0 : List UInt8 := [42, 180, 0, 10, 27, 184, 0, 22, 182, 0, 28, 177]
abbrev dktX1_count_0 : List UInt8 := dkwX1_count_0 ++ []
theorem dksX1_count_0 : cX1_count.data.toList.drop 0 = dktX1_count_0 := by decide +kernel
theorem dX1_count_0 : decode cX1_count 0 = .ok (.aload_n 0, 1) := dk_42 (dk_at dksX1_count_0 0 rfl rfl)
theorem dX1_count_1 : decode cX1_count 1 = .ok (.getfield 10, 3) := dk_180 0 10 (dk_at dksX1_count_0 1 rfl rfl)
theorem dX1_count_4 : decode cX1_count 4 = .ok (.iload_n 1, 1) := dk_27 (dk_at dksX1_count_0 4 rfl rfl)
theorem dX1_count_5 : decode cX1_count 5 = .ok (.invokestatic 22, 3) := dk_184 0 22 (dk_at dksX1_count_0 5 rfl rfl)
theorem dX1_count_8 : decode cX1_count 8 = .ok (.invokevirtual 28, 3) := dk_182 0 28 (dk_at dksX1_count_0 8 rfl rfl)
theorem dX1_count_11 : decode cX1_count 11 = .ok (.return_, 1) := dk_177 (dk_at dksX1_count_0 11 rfl rfl)
abbrev cX1_told : ByteArray := prog_3_method_3_code
def yX1_told : MethodName := ⟨RX1, "told", "(I)I"⟩
def dkwX1_told_0 : List UInt8 := [42, 180, 0, 10, 27, 184, 0, 22, 182, 0, 32, 172]
abbrev dktX1_told_0 : List UInt8 := dkwX1_told_0 ++ []
theorem dksX1_told_0 : cX1_told.data.toList.drop 0 = dktX1_told_0 := by decide +kernel
theorem dX1_told_0 : decode cX1_told 0 = .ok (.aload_n 0, 1) := dk_42 (dk_at dksX1_told_0 0 rfl rfl)
theorem dX1_told_1 : decode cX1_told 1 = .ok (.getfield 10, 3) := dk_180 0 10 (dk_at dksX1_told_0 1 rfl rfl)
theorem dX1_told_4 : decode cX1_told 4 = .ok (.iload_n 1, 1) := dk_27 (dk_at dksX1_told_0 4 rfl rfl)
theorem dX1_told_5 : decode cX1_told 5 = .ok (.invokestatic 22, 3) := dk_184 0 22 (dk_at dksX1_told_0 5 rfl rfl)
theorem dX1_told_8 : decode cX1_told 8 = .ok (.invokevirtual 32, 3) := dk_182 0 32 (dk_at dksX1_told_0 8 rfl rfl)
theorem dX1_told_11 : decode cX1_told 11 = .ok (.ireturn, 1) := dk_172 (dk_at dksX1_told_0 11 rfl rfl)
theorem q2 : (Jvm.Cond.initialized "SketchDesk") ∈ lw_all := lw_g (lw_at lw_m0 1 rfl) rfl
theorem q15 : (Jvm.Cond.instantiable "SketchDesk" (1 : Nat)) ∈ lw_all := lw_g (lw_at lw_m0 14 rfl) rfl
theorem q17 : (Jvm.Cond.instanceMethod ({ cls := "SketchDesk", name := "<init>", desc := "()V" } : Jvm.MethodName)) ∈ lw_all := lw_g (lw_at lw_m0 16 rfl) rfl
theorem q18 : (Jvm.Cond.code ({ cls := "SketchDesk", name := "<init>", desc := "()V" } : Jvm.MethodName) prog_3_method_1_code (1 : Nat) (Option.none : Option Jvm.ClassFile.FieldType)) ∈ lw_all := lw_g (lw_at lw_m0 17 rfl) rfl
theorem q19 : (Jvm.Cond.methodLink "SketchDesk" (1 : Nat) ({ cls := "java/lang/Object", name := "<init>", desc := "()V" } : Jvm.MethodName)) ∈ lw_all := lw_g (lw_at lw_m0 18 rfl) rfl
theorem q22 : (Jvm.Cond.classLink "SketchDesk" (7 : Nat) "FrequencySketch") ∈ lw_all := lw_g (lw_at lw_m0 21 rfl) rfl
theorem q24 : (Jvm.Cond.methodLink "SketchDesk" (9 : Nat) ({ cls := "FrequencySketch", name := "<init>", desc := "()V" } : Jvm.MethodName)) ∈ lw_all := lw_g (lw_at lw_m0 23 rfl) rfl
theorem q41 : (Jvm.Cond.constantLong "SketchDesk" (16 : Nat) (64 : Int64)) ∈ lw_all := lw_g (lw_at lw_m0 40 rfl) rfl
theorem q42 : (Jvm.Cond.methodLink "SketchDesk" (18 : Nat) ({ cls := "FrequencySketch", name := "ensureCapacity", desc := "(J)V" } : Jvm.MethodName)) ∈ lw_all := lw_g (lw_at lw_m0 41 rfl) rfl
theorem q130 : (Jvm.Cond.fieldLink "SketchDesk" (10 : Nat) "SketchDesk" "sketch" "LFrequencySketch;") ∈ lw_all := lw_g (lw_at lw_m0 129 rfl) rfl
theorem q131 : (Jvm.Cond.laysFinal "SketchDesk" "SketchDesk" "sketch" "LFrequencySketch;") ∈ lw_all := lw_g (lw_at lw_m0 130 rfl) rfl
theorem q132 : (Jvm.Cond.soleField "SketchDesk" "sketch") ∈ lw_all := lw_g (lw_at lw_m0 131 rfl) rfl
theorem q133 : (Jvm.Cond.superclass "SketchDesk" "java/lang/Object") ∈ lw_all := lw_g (lw_at lw_m0 132 rfl) rfl
theorem q136 : (Jvm.Cond.instanceMethod ({ cls := "SketchDesk", name := "count", desc := "(I)V" } : Jvm.MethodName)) ∈ lw_all := lw_g (lw_at lw_m0 135 rfl) rfl
theorem q137 : (Jvm.Cond.selects "SketchDesk" ({ cls := "SketchDesk", name := "count", desc := "(I)V" } : Jvm.MethodName) ({ cls := "SketchDesk", name := "count", desc := "(I)V" } : Jvm.MethodName)) ∈ lw_all := lw_g (lw_at lw_m0 136 rfl) rfl
theorem q138 : (Jvm.Cond.code ({ cls := "SketchDesk", name := "count", desc := "(I)V" } : Jvm.MethodName) prog_3_method_2_code (2 : Nat) (Option.none : Option Jvm.ClassFile.FieldType)) ∈ lw_all := lw_g (lw_at lw_m0 137 rfl) rfl
theorem q139 : (Jvm.Cond.methodLink "SketchDesk" (22 : Nat) ({ cls := "java/lang/Integer", name := "valueOf", desc := "(I)Ljava/lang/Integer;" } : Jvm.MethodName)) ∈ lw_all := lw_g (lw_at lw_m0 138 rfl) rfl
theorem q159 : (Jvm.Cond.methodLink "SketchDesk" (28 : Nat) ({ cls := "FrequencySketch", name := "increment", desc := "(Ljava/lang/Object;)V" } : Jvm.MethodName)) ∈ lw_all := lw_g (lw_at lw_m0 158 rfl) rfl
theorem q171 : (Jvm.Cond.selects "SketchDesk" ({ cls := "java/lang/Object", name := "hashCode", desc := "()I" } : Jvm.MethodName) ({ cls := "java/lang/Object", name := "hashCode", desc := "()I" } : Jvm.MethodName)) ∈ lw_all := lw_g (lw_at lw_m0 170 rfl) rfl
theorem q207 : (Jvm.Cond.instanceMethod ({ cls := "SketchDesk", name := "told", desc := "(I)I" } : Jvm.MethodName)) ∈ lw_all := lw_g (lw_at lw_m0 206 rfl) rfl
theorem q208 : (Jvm.Cond.selects "SketchDesk" ({ cls := "SketchDesk", name := "told", desc := "(I)I" } : Jvm.MethodName) ({ cls := "SketchDesk", name := "told", desc := "(I)I" } : Jvm.MethodName)) ∈ lw_all := lw_g (lw_at lw_m0 207 rfl) rfl
theorem q209 : (Jvm.Cond.code ({ cls := "SketchDesk", name := "told", desc := "(I)I" } : Jvm.MethodName) prog_3_method_3_code (2 : Nat) (Option.some Jvm.ClassFile.FieldType.int)) ∈ lw_all := lw_g (lw_at lw_m0 208 rfl) rfl
theorem q210 : (Jvm.Cond.methodLink "SketchDesk" (32 : Nat) ({ cls := "FrequencySketch", name := "frequency", desc := "(Ljava/lang/Object;)I" } : Jvm.MethodName)) ∈ lw_all := lw_g (lw_at lw_m0 209 rfl) rfl
theorem in_X1 : ∀ w ∈ wsX10, w ∈ lw_all := lw_in wsX10 [131] (by decide +kernel) (by decide +kernel)
/-! FrequencySketch -/
set_option maxRecDepth 100000
def RX2 : String := "FrequencySketch"
def TX2 : u_T := fun k => match k with
  | 0 => ("FrequencySketch", "sampleSize", "I", false)
  | 1 => ("FrequencySketch", "blockMask", "I", false)
  | 2 => ("FrequencySketch", "table", "[J", false)
  | _ => ("FrequencySketch", "size", "I", false)
def tyX2 : Nat → FieldType := fun k => match k with
  | 0 => .int
  | 1 => .int
  | 2 => .array .long
  | _ => .int
abbrev wsX20 : List Cond := u_ws RX2 TX2 4
theorem nmX2 : ∀ a, a < 4 → ∀ b, b < 4 → a ≠ b → (TX2 a).2.1 ≠ (TX2 b).2.1 := by decide +kernel
theorem tyX2_ok : ∀ k, k < 4 → parseFieldDescriptor (TX2 k).2.2.1 = some (tyX2 k) := by decide +kernel
abbrev cX2_init : ByteArray := prog_2_method_1_code
def yX2_init : MethodName := ⟨RX2, "<init>", "()V"⟩
theorem dX2_init_0 : decode cX2_init 0 = .ok (.aload_n 0, 1) := by decide +kernel
theorem dX2_init_1 : decode cX2_init 1 = .ok (.invokespecial 1, 3) := by decide +kernel
theorem dX2_init_4 : decode cX2_init 4 = .ok (.return_, 1) := by decide +kernel
abbrev cX2_ensureCapacity : ByteArray := prog_2_method_2_code
def yX2_ensureCapacity : MethodName := ⟨RX2, "ensureCapacity", "(J)V"⟩
def dkwX2_ensureCapacity_5 : List UInt8 := [21, 4, 181, 0, 37, 42, 3, 181, 0, 41, 177]
abbrev dktX2_ensureCapacity_5 : List UInt8 := dkwX2_ensureCapacity_5 ++ []
def dkwX2_ensureCapacity_4 : List UInt8 := [42, 29, 184, 0, 46, 188, 11, 181, 0, 33, 42, 42, 180, 0, 33, 190, 6, 124, 4, 100, 181, 0, 50, 42]
abbrev dktX2_ensureCapacity_4 : List UInt8 := dkwX2_ensureCapacity_4 ++ dktX2_ensureCapacity_5
def dkwX2_ensureCapacity_3 : List UInt8 := [42, 21, 4, 181, 0, 37, 42, 42, 180, 0, 41, 42, 180, 0, 37, 4, 100, 184, 0, 44, 181, 0, 41, 177]
abbrev dktX2_ensureCapacity_3 : List UInt8 := dkwX2_ensureCapacity_3 ++ dktX2_ensureCapacity_4
def dkwX2_ensureCapacity_2 : List UInt8 := [180, 0, 33, 198, 0, 45, 42, 180, 0, 33, 190, 29, 161, 0, 36, 21, 4, 42, 180, 0, 37, 159, 0, 26]
abbrev dktX2_ensureCapacity_2 : List UInt8 := dkwX2_ensureCapacity_2 ++ dktX2_ensureCapacity_3
def dkwX2_ensureCapacity_1 : List UInt8 := [17, 1, 0, 184, 0, 25, 62, 20, 0, 29, 29, 133, 105, 20, 0, 31, 184, 0, 17, 136, 54, 4, 42]
abbrev dktX2_ensureCapacity_1 : List UInt8 := dkwX2_ensureCapacity_1 ++ dktX2_ensureCapacity_2
def dkwX2_ensureCapacity_0 : List UInt8 := [31, 9, 148, 155, 0, 7, 4, 167, 0, 4, 3, 184, 0, 7, 31, 20, 0, 15, 184, 0, 17, 136]
abbrev dktX2_ensureCapacity_0 : List UInt8 := dkwX2_ensureCapacity_0 ++ dktX2_ensureCapacity_1
theorem dksX2_ensureCapacity_0 : cX2_ensureCapacity.data.toList.drop 0 = dktX2_ensureCapacity_0 := by decide +kernel
theorem dksX2_ensureCapacity_1 : cX2_ensureCapacity.data.toList.drop 22 = dktX2_ensureCapacity_1 := dk_seg dksX2_ensureCapacity_0 22 rfl rfl
theorem dksX2_ensureCapacity_2 : cX2_ensureCapacity.data.toList.drop 45 = dktX2_ensureCapacity_2 := dk_seg dksX2_ensureCapacity_1 23 rfl rfl
theorem dksX2_ensureCapacity_3 : cX2_ensureCapacity.data.toList.drop 69 = dktX2_ensureCapacity_3 := dk_seg dksX2_ensureCapacity_2 24 rfl rfl
theorem dksX2_ensureCapacity_4 : cX2_ensureCapacity.data.toList.drop 93 = dktX2_ensureCapacity_4 := dk_seg dksX2_ensureCapacity_3 24 rfl rfl
theorem dksX2_ensureCapacity_5 : cX2_ensureCapacity.data.toList.drop 117 = dktX2_ensureCapacity_5 := dk_seg dksX2_ensureCapacity_4 24 rfl rfl
theorem dX2_ensureCapacity_0 : decode cX2_ensureCapacity 0 = .ok (.lload_n 1, 1) := dk_31 (dk_at dksX2_ensureCapacity_0 0 rfl rfl)
theorem dX2_ensureCapacity_1 : decode cX2_ensureCapacity 1 = .ok (.lconst 0, 1) := dk_9 (dk_at dksX2_ensureCapacity_0 1 rfl rfl)
theorem dX2_ensureCapacity_2 : decode cX2_ensureCapacity 2 = .ok (.lcmp, 1) := dk_148 (dk_at dksX2_ensureCapacity_0 2 rfl rfl)
theorem dX2_ensureCapacity_3 : decode cX2_ensureCapacity 3 = .ok (.ifCond .lt 7, 3) := dk_155 0 7 (dk_at dksX2_ensureCapacity_0 3 rfl rfl)
theorem dX2_ensureCapacity_6 : decode cX2_ensureCapacity 6 = .ok (.iconst 1, 1) := dk_4 (dk_at dksX2_ensureCapacity_0 6 rfl rfl)
theorem dX2_ensureCapacity_7 : decode cX2_ensureCapacity 7 = .ok (.goto 4, 3) := dk_167 0 4 (dk_at dksX2_ensureCapacity_0 7 rfl rfl)
theorem dX2_ensureCapacity_10 : decode cX2_ensureCapacity 10 = .ok (.iconst 0, 1) := dk_3 (dk_at dksX2_ensureCapacity_0 10 rfl rfl)
theorem dX2_ensureCapacity_11 : decode cX2_ensureCapacity 11 = .ok (.invokestatic 7, 3) := dk_184 0 7 (dk_at dksX2_ensureCapacity_0 11 rfl rfl)
theorem dX2_ensureCapacity_14 : decode cX2_ensureCapacity 14 = .ok (.lload_n 1, 1) := dk_31 (dk_at dksX2_ensureCapacity_0 14 rfl rfl)
theorem dX2_ensureCapacity_15 : decode cX2_ensureCapacity 15 = .ok (.ldc2_w 15, 3) := dk_20 0 15 (dk_at dksX2_ensureCapacity_0 15 rfl rfl)
theorem dX2_ensureCapacity_18 : decode cX2_ensureCapacity 18 = .ok (.invokestatic 17, 3) := dk_184 0 17 (dk_at dksX2_ensureCapacity_0 18 rfl rfl)
theorem dX2_ensureCapacity_21 : decode cX2_ensureCapacity 21 = .ok (.l2i, 1) := dk_136 (dk_at dksX2_ensureCapacity_0 21 rfl rfl)
theorem dX2_ensureCapacity_22 : decode cX2_ensureCapacity 22 = .ok (.sipush 256, 3) := dk_17 1 0 (dk_at dksX2_ensureCapacity_1 0 rfl rfl)
theorem dX2_ensureCapacity_25 : decode cX2_ensureCapacity 25 = .ok (.invokestatic 25, 3) := dk_184 0 25 (dk_at dksX2_ensureCapacity_1 3 rfl rfl)
theorem dX2_ensureCapacity_28 : decode cX2_ensureCapacity 28 = .ok (.istore_n 3, 1) := dk_62 (dk_at dksX2_ensureCapacity_1 6 rfl rfl)
theorem dX2_ensureCapacity_29 : decode cX2_ensureCapacity 29 = .ok (.ldc2_w 29, 3) := dk_20 0 29 (dk_at dksX2_ensureCapacity_1 7 rfl rfl)
theorem dX2_ensureCapacity_32 : decode cX2_ensureCapacity 32 = .ok (.iload_n 3, 1) := dk_29 (dk_at dksX2_ensureCapacity_1 10 rfl rfl)
theorem dX2_ensureCapacity_33 : decode cX2_ensureCapacity 33 = .ok (.i2l, 1) := dk_133 (dk_at dksX2_ensureCapacity_1 11 rfl rfl)
theorem dX2_ensureCapacity_34 : decode cX2_ensureCapacity 34 = .ok (.lmul, 1) := dk_105 (dk_at dksX2_ensureCapacity_1 12 rfl rfl)
theorem dX2_ensureCapacity_35 : decode cX2_ensureCapacity 35 = .ok (.ldc2_w 31, 3) := dk_20 0 31 (dk_at dksX2_ensureCapacity_1 13 rfl rfl)
theorem dX2_ensureCapacity_38 : decode cX2_ensureCapacity 38 = .ok (.invokestatic 17, 3) := dk_184 0 17 (dk_at dksX2_ensureCapacity_1 16 rfl rfl)
theorem dX2_ensureCapacity_41 : decode cX2_ensureCapacity 41 = .ok (.l2i, 1) := dk_136 (dk_at dksX2_ensureCapacity_1 19 rfl rfl)
theorem dX2_ensureCapacity_42 : decode cX2_ensureCapacity 42 = .ok (.istore 4, 2) := dk_54 4 (dk_at dksX2_ensureCapacity_1 20 rfl rfl)
theorem dX2_ensureCapacity_44 : decode cX2_ensureCapacity 44 = .ok (.aload_n 0, 1) := dk_42 (dk_at dksX2_ensureCapacity_1 22 rfl rfl)
theorem dX2_ensureCapacity_45 : decode cX2_ensureCapacity 45 = .ok (.getfield 33, 3) := dk_180 0 33 (dk_at dksX2_ensureCapacity_2 0 rfl rfl)
theorem dX2_ensureCapacity_48 : decode cX2_ensureCapacity 48 = .ok (.ifnull 45, 3) := dk_198 0 45 (dk_at dksX2_ensureCapacity_2 3 rfl rfl)
theorem dX2_ensureCapacity_51 : decode cX2_ensureCapacity 51 = .ok (.aload_n 0, 1) := dk_42 (dk_at dksX2_ensureCapacity_2 6 rfl rfl)
theorem dX2_ensureCapacity_52 : decode cX2_ensureCapacity 52 = .ok (.getfield 33, 3) := dk_180 0 33 (dk_at dksX2_ensureCapacity_2 7 rfl rfl)
theorem dX2_ensureCapacity_55 : decode cX2_ensureCapacity 55 = .ok (.arraylength, 1) := dk_190 (dk_at dksX2_ensureCapacity_2 10 rfl rfl)
theorem dX2_ensureCapacity_56 : decode cX2_ensureCapacity 56 = .ok (.iload_n 3, 1) := dk_29 (dk_at dksX2_ensureCapacity_2 11 rfl rfl)
theorem dX2_ensureCapacity_57 : decode cX2_ensureCapacity 57 = .ok (.if_icmp .lt 36, 3) := dk_161 0 36 (dk_at dksX2_ensureCapacity_2 12 rfl rfl)
theorem dX2_ensureCapacity_60 : decode cX2_ensureCapacity 60 = .ok (.iload 4, 2) := dk_21 4 (dk_at dksX2_ensureCapacity_2 15 rfl rfl)
theorem dX2_ensureCapacity_62 : decode cX2_ensureCapacity 62 = .ok (.aload_n 0, 1) := dk_42 (dk_at dksX2_ensureCapacity_2 17 rfl rfl)
theorem dX2_ensureCapacity_63 : decode cX2_ensureCapacity 63 = .ok (.getfield 37, 3) := dk_180 0 37 (dk_at dksX2_ensureCapacity_2 18 rfl rfl)
theorem dX2_ensureCapacity_66 : decode cX2_ensureCapacity 66 = .ok (.if_icmp .eq 26, 3) := dk_159 0 26 (dk_at dksX2_ensureCapacity_2 21 rfl rfl)
theorem dX2_ensureCapacity_69 : decode cX2_ensureCapacity 69 = .ok (.aload_n 0, 1) := dk_42 (dk_at dksX2_ensureCapacity_3 0 rfl rfl)
theorem dX2_ensureCapacity_70 : decode cX2_ensureCapacity 70 = .ok (.iload 4, 2) := dk_21 4 (dk_at dksX2_ensureCapacity_3 1 rfl rfl)
theorem dX2_ensureCapacity_72 : decode cX2_ensureCapacity 72 = .ok (.putfield 37, 3) := dk_181 0 37 (dk_at dksX2_ensureCapacity_3 3 rfl rfl)
theorem dX2_ensureCapacity_75 : decode cX2_ensureCapacity 75 = .ok (.aload_n 0, 1) := dk_42 (dk_at dksX2_ensureCapacity_3 6 rfl rfl)
theorem dX2_ensureCapacity_76 : decode cX2_ensureCapacity 76 = .ok (.aload_n 0, 1) := dk_42 (dk_at dksX2_ensureCapacity_3 7 rfl rfl)
theorem dX2_ensureCapacity_77 : decode cX2_ensureCapacity 77 = .ok (.getfield 41, 3) := dk_180 0 41 (dk_at dksX2_ensureCapacity_3 8 rfl rfl)
theorem dX2_ensureCapacity_80 : decode cX2_ensureCapacity 80 = .ok (.aload_n 0, 1) := dk_42 (dk_at dksX2_ensureCapacity_3 11 rfl rfl)
theorem dX2_ensureCapacity_81 : decode cX2_ensureCapacity 81 = .ok (.getfield 37, 3) := dk_180 0 37 (dk_at dksX2_ensureCapacity_3 12 rfl rfl)
theorem dX2_ensureCapacity_84 : decode cX2_ensureCapacity 84 = .ok (.iconst 1, 1) := dk_4 (dk_at dksX2_ensureCapacity_3 15 rfl rfl)
theorem dX2_ensureCapacity_85 : decode cX2_ensureCapacity 85 = .ok (.isub, 1) := dk_100 (dk_at dksX2_ensureCapacity_3 16 rfl rfl)
theorem dX2_ensureCapacity_86 : decode cX2_ensureCapacity 86 = .ok (.invokestatic 44, 3) := dk_184 0 44 (dk_at dksX2_ensureCapacity_3 17 rfl rfl)
theorem dX2_ensureCapacity_89 : decode cX2_ensureCapacity 89 = .ok (.putfield 41, 3) := dk_181 0 41 (dk_at dksX2_ensureCapacity_3 20 rfl rfl)
theorem dX2_ensureCapacity_92 : decode cX2_ensureCapacity 92 = .ok (.return_, 1) := dk_177 (dk_at dksX2_ensureCapacity_3 23 rfl rfl)
theorem dX2_ensureCapacity_93 : decode cX2_ensureCapacity 93 = .ok (.aload_n 0, 1) := dk_42 (dk_at dksX2_ensureCapacity_4 0 rfl rfl)
theorem dX2_ensureCapacity_94 : decode cX2_ensureCapacity 94 = .ok (.iload_n 3, 1) := dk_29 (dk_at dksX2_ensureCapacity_4 1 rfl rfl)
theorem dX2_ensureCapacity_95 : decode cX2_ensureCapacity 95 = .ok (.invokestatic 46, 3) := dk_184 0 46 (dk_at dksX2_ensureCapacity_4 2 rfl rfl)
theorem dX2_ensureCapacity_98 : decode cX2_ensureCapacity 98 = .ok (.newarray .long, 2) := dk_188_11 (dk_at dksX2_ensureCapacity_4 5 rfl rfl)
theorem dX2_ensureCapacity_100 : decode cX2_ensureCapacity 100 = .ok (.putfield 33, 3) := dk_181 0 33 (dk_at dksX2_ensureCapacity_4 7 rfl rfl)
theorem dX2_ensureCapacity_103 : decode cX2_ensureCapacity 103 = .ok (.aload_n 0, 1) := dk_42 (dk_at dksX2_ensureCapacity_4 10 rfl rfl)
theorem dX2_ensureCapacity_104 : decode cX2_ensureCapacity 104 = .ok (.aload_n 0, 1) := dk_42 (dk_at dksX2_ensureCapacity_4 11 rfl rfl)
theorem dX2_ensureCapacity_105 : decode cX2_ensureCapacity 105 = .ok (.getfield 33, 3) := dk_180 0 33 (dk_at dksX2_ensureCapacity_4 12 rfl rfl)
theorem dX2_ensureCapacity_108 : decode cX2_ensureCapacity 108 = .ok (.arraylength, 1) := dk_190 (dk_at dksX2_ensureCapacity_4 15 rfl rfl)
theorem dX2_ensureCapacity_109 : decode cX2_ensureCapacity 109 = .ok (.iconst 3, 1) := dk_6 (dk_at dksX2_ensureCapacity_4 16 rfl rfl)
theorem dX2_ensureCapacity_110 : decode cX2_ensureCapacity 110 = .ok (.iushr, 1) := dk_124 (dk_at dksX2_ensureCapacity_4 17 rfl rfl)
theorem dX2_ensureCapacity_111 : decode cX2_ensureCapacity 111 = .ok (.iconst 1, 1) := dk_4 (dk_at dksX2_ensureCapacity_4 18 rfl rfl)
theorem dX2_ensureCapacity_112 : decode cX2_ensureCapacity 112 = .ok (.isub, 1) := dk_100 (dk_at dksX2_ensureCapacity_4 19 rfl rfl)
theorem dX2_ensureCapacity_113 : decode cX2_ensureCapacity 113 = .ok (.putfield 50, 3) := dk_181 0 50 (dk_at dksX2_ensureCapacity_4 20 rfl rfl)
theorem dX2_ensureCapacity_116 : decode cX2_ensureCapacity 116 = .ok (.aload_n 0, 1) := dk_42 (dk_at dksX2_ensureCapacity_4 23 rfl rfl)
theorem dX2_ensureCapacity_117 : decode cX2_ensureCapacity 117 = .ok (.iload 4, 2) := dk_21 4 (dk_at dksX2_ensureCapacity_5 0 rfl rfl)
theorem dX2_ensureCapacity_119 : decode cX2_ensureCapacity 119 = .ok (.putfield 37, 3) := dk_181 0 37 (dk_at dksX2_ensureCapacity_5 2 rfl rfl)
theorem dX2_ensureCapacity_122 : decode cX2_ensureCapacity 122 = .ok (.aload_n 0, 1) := dk_42 (dk_at dksX2_ensureCapacity_5 5 rfl rfl)
theorem dX2_ensureCapacity_123 : decode cX2_ensureCapacity 123 = .ok (.iconst 0, 1) := dk_3 (dk_at dksX2_ensureCapacity_5 6 rfl rfl)
theorem dX2_ensureCapacity_124 : decode cX2_ensureCapacity 124 = .ok (.putfield 41, 3) := dk_181 0 41 (dk_at dksX2_ensureCapacity_5 7 rfl rfl)
theorem dX2_ensureCapacity_127 : decode cX2_ensureCapacity 127 = .ok (.return_, 1) := dk_177 (dk_at dksX2_ensureCapacity_5 10 rfl rfl)
abbrev cX2_increment : ByteArray := prog_2_method_5_code
def yX2_increment : MethodName := ⟨RX2, "increment", "(Ljava/lang/Object;)V"⟩
def dkwX2_increment_8 : List UInt8 := [180, 0, 37, 160, 0, 7, 42, 182, 0, 74, 177]
abbrev dktX2_increment_8 : List UInt8 := dkwX2_increment_8 ++ []
def dkwX2_increment_7 : List UInt8 := [182, 0, 70, 128, 54, 17, 21, 17, 153, 0, 25, 42, 89, 180, 0, 41, 4, 96, 90, 181, 0, 41, 42]
abbrev dktX2_increment_7 : List UInt8 := dkwX2_increment_7 ++ dktX2_increment_8
def dkwX2_increment_6 : List UInt8 := [21, 14, 21, 10, 182, 0, 70, 128, 42, 21, 15, 21, 11, 182, 0, 70, 128, 42, 21, 16, 21, 12]
abbrev dktX2_increment_6 : List UInt8 := dkwX2_increment_6 ++ dktX2_increment_7
def dkwX2_increment_5 : List UInt8 := [54, 15, 21, 4, 21, 8, 4, 126, 96, 16, 6, 96, 54, 16, 42, 21, 13, 21, 9, 182, 0, 70, 42]
abbrev dktX2_increment_5 : List UInt8 := dkwX2_increment_5 ++ dktX2_increment_6
def dkwX2_increment_4 : List UInt8 := [96, 54, 13, 21, 4, 21, 6, 4, 126, 96, 5, 96, 54, 14, 21, 4, 21, 7, 4, 126, 96, 7, 96]
abbrev dktX2_increment_4 : List UInt8 := dkwX2_increment_4 ++ dktX2_increment_5
def dkwX2_increment_3 : List UInt8 := [21, 7, 4, 124, 16, 15, 126, 54, 11, 21, 8, 4, 124, 16, 15, 126, 54, 12, 21, 4, 21, 5, 4, 126]
abbrev dktX2_increment_3 : List UInt8 := dkwX2_increment_3 ++ dktX2_increment_4
def dkwX2_increment_2 : List UInt8 := [16, 24, 124, 54, 8, 21, 5, 4, 124, 16, 15, 126, 54, 9, 21, 6, 4, 124, 16, 15, 126, 54, 10]
abbrev dktX2_increment_2 : List UInt8 := dkwX2_increment_2 ++ dktX2_increment_3
def dkwX2_increment_1 : List UInt8 := [180, 0, 50, 126, 6, 120, 54, 4, 29, 54, 5, 29, 16, 8, 124, 54, 6, 29, 16, 16, 124, 54, 7, 29]
abbrev dktX2_increment_1 : List UInt8 := dkwX2_increment_1 ++ dktX2_increment_2
def dkwX2_increment_0 : List UInt8 := [42, 182, 0, 53, 153, 0, 4, 177, 43, 182, 0, 58, 184, 0, 62, 61, 28, 184, 0, 65, 62, 28, 42]
abbrev dktX2_increment_0 : List UInt8 := dkwX2_increment_0 ++ dktX2_increment_1
theorem dksX2_increment_0 : cX2_increment.data.toList.drop 0 = dktX2_increment_0 := by decide +kernel
theorem dksX2_increment_1 : cX2_increment.data.toList.drop 23 = dktX2_increment_1 := dk_seg dksX2_increment_0 23 rfl rfl
theorem dksX2_increment_2 : cX2_increment.data.toList.drop 47 = dktX2_increment_2 := dk_seg dksX2_increment_1 24 rfl rfl
theorem dksX2_increment_3 : cX2_increment.data.toList.drop 70 = dktX2_increment_3 := dk_seg dksX2_increment_2 23 rfl rfl
theorem dksX2_increment_4 : cX2_increment.data.toList.drop 94 = dktX2_increment_4 := dk_seg dksX2_increment_3 24 rfl rfl
theorem dksX2_increment_5 : cX2_increment.data.toList.drop 117 = dktX2_increment_5 := dk_seg dksX2_increment_4 23 rfl rfl
theorem dksX2_increment_6 : cX2_increment.data.toList.drop 140 = dktX2_increment_6 := dk_seg dksX2_increment_5 23 rfl rfl
theorem dksX2_increment_7 : cX2_increment.data.toList.drop 162 = dktX2_increment_7 := dk_seg dksX2_increment_6 22 rfl rfl
theorem dksX2_increment_8 : cX2_increment.data.toList.drop 185 = dktX2_increment_8 := dk_seg dksX2_increment_7 23 rfl rfl
theorem dX2_increment_0 : decode cX2_increment 0 = .ok (.aload_n 0, 1) := dk_42 (dk_at dksX2_increment_0 0 rfl rfl)
theorem dX2_increment_1 : decode cX2_increment 1 = .ok (.invokevirtual 53, 3) := dk_182 0 53 (dk_at dksX2_increment_0 1 rfl rfl)
theorem dX2_increment_4 : decode cX2_increment 4 = .ok (.ifCond .eq 4, 3) := dk_153 0 4 (dk_at dksX2_increment_0 4 rfl rfl)
theorem dX2_increment_7 : decode cX2_increment 7 = .ok (.return_, 1) := dk_177 (dk_at dksX2_increment_0 7 rfl rfl)
theorem dX2_increment_8 : decode cX2_increment 8 = .ok (.aload_n 1, 1) := dk_43 (dk_at dksX2_increment_0 8 rfl rfl)
theorem dX2_increment_9 : decode cX2_increment 9 = .ok (.invokevirtual 58, 3) := dk_182 0 58 (dk_at dksX2_increment_0 9 rfl rfl)
theorem dX2_increment_12 : decode cX2_increment 12 = .ok (.invokestatic 62, 3) := dk_184 0 62 (dk_at dksX2_increment_0 12 rfl rfl)
theorem dX2_increment_15 : decode cX2_increment 15 = .ok (.istore_n 2, 1) := dk_61 (dk_at dksX2_increment_0 15 rfl rfl)
theorem dX2_increment_16 : decode cX2_increment 16 = .ok (.iload_n 2, 1) := dk_28 (dk_at dksX2_increment_0 16 rfl rfl)
theorem dX2_increment_17 : decode cX2_increment 17 = .ok (.invokestatic 65, 3) := dk_184 0 65 (dk_at dksX2_increment_0 17 rfl rfl)
theorem dX2_increment_20 : decode cX2_increment 20 = .ok (.istore_n 3, 1) := dk_62 (dk_at dksX2_increment_0 20 rfl rfl)
theorem dX2_increment_21 : decode cX2_increment 21 = .ok (.iload_n 2, 1) := dk_28 (dk_at dksX2_increment_0 21 rfl rfl)
theorem dX2_increment_22 : decode cX2_increment 22 = .ok (.aload_n 0, 1) := dk_42 (dk_at dksX2_increment_0 22 rfl rfl)
theorem dX2_increment_23 : decode cX2_increment 23 = .ok (.getfield 50, 3) := dk_180 0 50 (dk_at dksX2_increment_1 0 rfl rfl)
theorem dX2_increment_26 : decode cX2_increment 26 = .ok (.iand, 1) := dk_126 (dk_at dksX2_increment_1 3 rfl rfl)
theorem dX2_increment_27 : decode cX2_increment 27 = .ok (.iconst 3, 1) := dk_6 (dk_at dksX2_increment_1 4 rfl rfl)
theorem dX2_increment_28 : decode cX2_increment 28 = .ok (.ishl, 1) := dk_120 (dk_at dksX2_increment_1 5 rfl rfl)
theorem dX2_increment_29 : decode cX2_increment 29 = .ok (.istore 4, 2) := dk_54 4 (dk_at dksX2_increment_1 6 rfl rfl)
theorem dX2_increment_31 : decode cX2_increment 31 = .ok (.iload_n 3, 1) := dk_29 (dk_at dksX2_increment_1 8 rfl rfl)
theorem dX2_increment_32 : decode cX2_increment 32 = .ok (.istore 5, 2) := dk_54 5 (dk_at dksX2_increment_1 9 rfl rfl)
theorem dX2_increment_34 : decode cX2_increment 34 = .ok (.iload_n 3, 1) := dk_29 (dk_at dksX2_increment_1 11 rfl rfl)
theorem dX2_increment_35 : decode cX2_increment 35 = .ok (.bipush 8, 2) := dk_16 8 (dk_at dksX2_increment_1 12 rfl rfl)
theorem dX2_increment_37 : decode cX2_increment 37 = .ok (.iushr, 1) := dk_124 (dk_at dksX2_increment_1 14 rfl rfl)
theorem dX2_increment_38 : decode cX2_increment 38 = .ok (.istore 6, 2) := dk_54 6 (dk_at dksX2_increment_1 15 rfl rfl)
theorem dX2_increment_40 : decode cX2_increment 40 = .ok (.iload_n 3, 1) := dk_29 (dk_at dksX2_increment_1 17 rfl rfl)
theorem dX2_increment_41 : decode cX2_increment 41 = .ok (.bipush 16, 2) := dk_16 16 (dk_at dksX2_increment_1 18 rfl rfl)
theorem dX2_increment_43 : decode cX2_increment 43 = .ok (.iushr, 1) := dk_124 (dk_at dksX2_increment_1 20 rfl rfl)
theorem dX2_increment_44 : decode cX2_increment 44 = .ok (.istore 7, 2) := dk_54 7 (dk_at dksX2_increment_1 21 rfl rfl)
theorem dX2_increment_46 : decode cX2_increment 46 = .ok (.iload_n 3, 1) := dk_29 (dk_at dksX2_increment_1 23 rfl rfl)
theorem dX2_increment_47 : decode cX2_increment 47 = .ok (.bipush 24, 2) := dk_16 24 (dk_at dksX2_increment_2 0 rfl rfl)
theorem dX2_increment_49 : decode cX2_increment 49 = .ok (.iushr, 1) := dk_124 (dk_at dksX2_increment_2 2 rfl rfl)
theorem dX2_increment_50 : decode cX2_increment 50 = .ok (.istore 8, 2) := dk_54 8 (dk_at dksX2_increment_2 3 rfl rfl)
theorem dX2_increment_52 : decode cX2_increment 52 = .ok (.iload 5, 2) := dk_21 5 (dk_at dksX2_increment_2 5 rfl rfl)
theorem dX2_increment_54 : decode cX2_increment 54 = .ok (.iconst 1, 1) := dk_4 (dk_at dksX2_increment_2 7 rfl rfl)
theorem dX2_increment_55 : decode cX2_increment 55 = .ok (.iushr, 1) := dk_124 (dk_at dksX2_increment_2 8 rfl rfl)
theorem dX2_increment_56 : decode cX2_increment 56 = .ok (.bipush 15, 2) := dk_16 15 (dk_at dksX2_increment_2 9 rfl rfl)
theorem dX2_increment_58 : decode cX2_increment 58 = .ok (.iand, 1) := dk_126 (dk_at dksX2_increment_2 11 rfl rfl)
theorem dX2_increment_59 : decode cX2_increment 59 = .ok (.istore 9, 2) := dk_54 9 (dk_at dksX2_increment_2 12 rfl rfl)
theorem dX2_increment_61 : decode cX2_increment 61 = .ok (.iload 6, 2) := dk_21 6 (dk_at dksX2_increment_2 14 rfl rfl)
theorem dX2_increment_63 : decode cX2_increment 63 = .ok (.iconst 1, 1) := dk_4 (dk_at dksX2_increment_2 16 rfl rfl)
theorem dX2_increment_64 : decode cX2_increment 64 = .ok (.iushr, 1) := dk_124 (dk_at dksX2_increment_2 17 rfl rfl)
theorem dX2_increment_65 : decode cX2_increment 65 = .ok (.bipush 15, 2) := dk_16 15 (dk_at dksX2_increment_2 18 rfl rfl)
theorem dX2_increment_67 : decode cX2_increment 67 = .ok (.iand, 1) := dk_126 (dk_at dksX2_increment_2 20 rfl rfl)
theorem dX2_increment_68 : decode cX2_increment 68 = .ok (.istore 10, 2) := dk_54 10 (dk_at dksX2_increment_2 21 rfl rfl)
theorem dX2_increment_70 : decode cX2_increment 70 = .ok (.iload 7, 2) := dk_21 7 (dk_at dksX2_increment_3 0 rfl rfl)
theorem dX2_increment_72 : decode cX2_increment 72 = .ok (.iconst 1, 1) := dk_4 (dk_at dksX2_increment_3 2 rfl rfl)
theorem dX2_increment_73 : decode cX2_increment 73 = .ok (.iushr, 1) := dk_124 (dk_at dksX2_increment_3 3 rfl rfl)
theorem dX2_increment_74 : decode cX2_increment 74 = .ok (.bipush 15, 2) := dk_16 15 (dk_at dksX2_increment_3 4 rfl rfl)
theorem dX2_increment_76 : decode cX2_increment 76 = .ok (.iand, 1) := dk_126 (dk_at dksX2_increment_3 6 rfl rfl)
theorem dX2_increment_77 : decode cX2_increment 77 = .ok (.istore 11, 2) := dk_54 11 (dk_at dksX2_increment_3 7 rfl rfl)
theorem dX2_increment_79 : decode cX2_increment 79 = .ok (.iload 8, 2) := dk_21 8 (dk_at dksX2_increment_3 9 rfl rfl)
theorem dX2_increment_81 : decode cX2_increment 81 = .ok (.iconst 1, 1) := dk_4 (dk_at dksX2_increment_3 11 rfl rfl)
theorem dX2_increment_82 : decode cX2_increment 82 = .ok (.iushr, 1) := dk_124 (dk_at dksX2_increment_3 12 rfl rfl)
theorem dX2_increment_83 : decode cX2_increment 83 = .ok (.bipush 15, 2) := dk_16 15 (dk_at dksX2_increment_3 13 rfl rfl)
theorem dX2_increment_85 : decode cX2_increment 85 = .ok (.iand, 1) := dk_126 (dk_at dksX2_increment_3 15 rfl rfl)
theorem dX2_increment_86 : decode cX2_increment 86 = .ok (.istore 12, 2) := dk_54 12 (dk_at dksX2_increment_3 16 rfl rfl)
theorem dX2_increment_88 : decode cX2_increment 88 = .ok (.iload 4, 2) := dk_21 4 (dk_at dksX2_increment_3 18 rfl rfl)
theorem dX2_increment_90 : decode cX2_increment 90 = .ok (.iload 5, 2) := dk_21 5 (dk_at dksX2_increment_3 20 rfl rfl)
theorem dX2_increment_92 : decode cX2_increment 92 = .ok (.iconst 1, 1) := dk_4 (dk_at dksX2_increment_3 22 rfl rfl)
theorem dX2_increment_93 : decode cX2_increment 93 = .ok (.iand, 1) := dk_126 (dk_at dksX2_increment_3 23 rfl rfl)
theorem dX2_increment_94 : decode cX2_increment 94 = .ok (.iadd, 1) := dk_96 (dk_at dksX2_increment_4 0 rfl rfl)
theorem dX2_increment_95 : decode cX2_increment 95 = .ok (.istore 13, 2) := dk_54 13 (dk_at dksX2_increment_4 1 rfl rfl)
theorem dX2_increment_97 : decode cX2_increment 97 = .ok (.iload 4, 2) := dk_21 4 (dk_at dksX2_increment_4 3 rfl rfl)
theorem dX2_increment_99 : decode cX2_increment 99 = .ok (.iload 6, 2) := dk_21 6 (dk_at dksX2_increment_4 5 rfl rfl)
theorem dX2_increment_101 : decode cX2_increment 101 = .ok (.iconst 1, 1) := dk_4 (dk_at dksX2_increment_4 7 rfl rfl)
theorem dX2_increment_102 : decode cX2_increment 102 = .ok (.iand, 1) := dk_126 (dk_at dksX2_increment_4 8 rfl rfl)
theorem dX2_increment_103 : decode cX2_increment 103 = .ok (.iadd, 1) := dk_96 (dk_at dksX2_increment_4 9 rfl rfl)
theorem dX2_increment_104 : decode cX2_increment 104 = .ok (.iconst 2, 1) := dk_5 (dk_at dksX2_increment_4 10 rfl rfl)
theorem dX2_increment_105 : decode cX2_increment 105 = .ok (.iadd, 1) := dk_96 (dk_at dksX2_increment_4 11 rfl rfl)
theorem dX2_increment_106 : decode cX2_increment 106 = .ok (.istore 14, 2) := dk_54 14 (dk_at dksX2_increment_4 12 rfl rfl)
theorem dX2_increment_108 : decode cX2_increment 108 = .ok (.iload 4, 2) := dk_21 4 (dk_at dksX2_increment_4 14 rfl rfl)
theorem dX2_increment_110 : decode cX2_increment 110 = .ok (.iload 7, 2) := dk_21 7 (dk_at dksX2_increment_4 16 rfl rfl)
theorem dX2_increment_112 : decode cX2_increment 112 = .ok (.iconst 1, 1) := dk_4 (dk_at dksX2_increment_4 18 rfl rfl)
theorem dX2_increment_113 : decode cX2_increment 113 = .ok (.iand, 1) := dk_126 (dk_at dksX2_increment_4 19 rfl rfl)
theorem dX2_increment_114 : decode cX2_increment 114 = .ok (.iadd, 1) := dk_96 (dk_at dksX2_increment_4 20 rfl rfl)
theorem dX2_increment_115 : decode cX2_increment 115 = .ok (.iconst 4, 1) := dk_7 (dk_at dksX2_increment_4 21 rfl rfl)
theorem dX2_increment_116 : decode cX2_increment 116 = .ok (.iadd, 1) := dk_96 (dk_at dksX2_increment_4 22 rfl rfl)
theorem dX2_increment_117 : decode cX2_increment 117 = .ok (.istore 15, 2) := dk_54 15 (dk_at dksX2_increment_5 0 rfl rfl)
theorem dX2_increment_119 : decode cX2_increment 119 = .ok (.iload 4, 2) := dk_21 4 (dk_at dksX2_increment_5 2 rfl rfl)
theorem dX2_increment_121 : decode cX2_increment 121 = .ok (.iload 8, 2) := dk_21 8 (dk_at dksX2_increment_5 4 rfl rfl)
theorem dX2_increment_123 : decode cX2_increment 123 = .ok (.iconst 1, 1) := dk_4 (dk_at dksX2_increment_5 6 rfl rfl)
theorem dX2_increment_124 : decode cX2_increment 124 = .ok (.iand, 1) := dk_126 (dk_at dksX2_increment_5 7 rfl rfl)
theorem dX2_increment_125 : decode cX2_increment 125 = .ok (.iadd, 1) := dk_96 (dk_at dksX2_increment_5 8 rfl rfl)
theorem dX2_increment_126 : decode cX2_increment 126 = .ok (.bipush 6, 2) := dk_16 6 (dk_at dksX2_increment_5 9 rfl rfl)
theorem dX2_increment_128 : decode cX2_increment 128 = .ok (.iadd, 1) := dk_96 (dk_at dksX2_increment_5 11 rfl rfl)
theorem dX2_increment_129 : decode cX2_increment 129 = .ok (.istore 16, 2) := dk_54 16 (dk_at dksX2_increment_5 12 rfl rfl)
theorem dX2_increment_131 : decode cX2_increment 131 = .ok (.aload_n 0, 1) := dk_42 (dk_at dksX2_increment_5 14 rfl rfl)
theorem dX2_increment_132 : decode cX2_increment 132 = .ok (.iload 13, 2) := dk_21 13 (dk_at dksX2_increment_5 15 rfl rfl)
theorem dX2_increment_134 : decode cX2_increment 134 = .ok (.iload 9, 2) := dk_21 9 (dk_at dksX2_increment_5 17 rfl rfl)
theorem dX2_increment_136 : decode cX2_increment 136 = .ok (.invokevirtual 70, 3) := dk_182 0 70 (dk_at dksX2_increment_5 19 rfl rfl)
theorem dX2_increment_139 : decode cX2_increment 139 = .ok (.aload_n 0, 1) := dk_42 (dk_at dksX2_increment_5 22 rfl rfl)
theorem dX2_increment_140 : decode cX2_increment 140 = .ok (.iload 14, 2) := dk_21 14 (dk_at dksX2_increment_6 0 rfl rfl)
theorem dX2_increment_142 : decode cX2_increment 142 = .ok (.iload 10, 2) := dk_21 10 (dk_at dksX2_increment_6 2 rfl rfl)
theorem dX2_increment_144 : decode cX2_increment 144 = .ok (.invokevirtual 70, 3) := dk_182 0 70 (dk_at dksX2_increment_6 4 rfl rfl)
theorem dX2_increment_147 : decode cX2_increment 147 = .ok (.ior, 1) := dk_128 (dk_at dksX2_increment_6 7 rfl rfl)
theorem dX2_increment_148 : decode cX2_increment 148 = .ok (.aload_n 0, 1) := dk_42 (dk_at dksX2_increment_6 8 rfl rfl)
theorem dX2_increment_149 : decode cX2_increment 149 = .ok (.iload 15, 2) := dk_21 15 (dk_at dksX2_increment_6 9 rfl rfl)
theorem dX2_increment_151 : decode cX2_increment 151 = .ok (.iload 11, 2) := dk_21 11 (dk_at dksX2_increment_6 11 rfl rfl)
theorem dX2_increment_153 : decode cX2_increment 153 = .ok (.invokevirtual 70, 3) := dk_182 0 70 (dk_at dksX2_increment_6 13 rfl rfl)
theorem dX2_increment_156 : decode cX2_increment 156 = .ok (.ior, 1) := dk_128 (dk_at dksX2_increment_6 16 rfl rfl)
theorem dX2_increment_157 : decode cX2_increment 157 = .ok (.aload_n 0, 1) := dk_42 (dk_at dksX2_increment_6 17 rfl rfl)
theorem dX2_increment_158 : decode cX2_increment 158 = .ok (.iload 16, 2) := dk_21 16 (dk_at dksX2_increment_6 18 rfl rfl)
theorem dX2_increment_160 : decode cX2_increment 160 = .ok (.iload 12, 2) := dk_21 12 (dk_at dksX2_increment_6 20 rfl rfl)
theorem dX2_increment_162 : decode cX2_increment 162 = .ok (.invokevirtual 70, 3) := dk_182 0 70 (dk_at dksX2_increment_7 0 rfl rfl)
theorem dX2_increment_165 : decode cX2_increment 165 = .ok (.ior, 1) := dk_128 (dk_at dksX2_increment_7 3 rfl rfl)
theorem dX2_increment_166 : decode cX2_increment 166 = .ok (.istore 17, 2) := dk_54 17 (dk_at dksX2_increment_7 4 rfl rfl)
theorem dX2_increment_168 : decode cX2_increment 168 = .ok (.iload 17, 2) := dk_21 17 (dk_at dksX2_increment_7 6 rfl rfl)
theorem dX2_increment_170 : decode cX2_increment 170 = .ok (.ifCond .eq 25, 3) := dk_153 0 25 (dk_at dksX2_increment_7 8 rfl rfl)
theorem dX2_increment_173 : decode cX2_increment 173 = .ok (.aload_n 0, 1) := dk_42 (dk_at dksX2_increment_7 11 rfl rfl)
theorem dX2_increment_174 : decode cX2_increment 174 = .ok (.dup, 1) := dk_89 (dk_at dksX2_increment_7 12 rfl rfl)
theorem dX2_increment_175 : decode cX2_increment 175 = .ok (.getfield 41, 3) := dk_180 0 41 (dk_at dksX2_increment_7 13 rfl rfl)
theorem dX2_increment_178 : decode cX2_increment 178 = .ok (.iconst 1, 1) := dk_4 (dk_at dksX2_increment_7 16 rfl rfl)
theorem dX2_increment_179 : decode cX2_increment 179 = .ok (.iadd, 1) := dk_96 (dk_at dksX2_increment_7 17 rfl rfl)
theorem dX2_increment_180 : decode cX2_increment 180 = .ok (.dup_x1, 1) := dk_90 (dk_at dksX2_increment_7 18 rfl rfl)
theorem dX2_increment_181 : decode cX2_increment 181 = .ok (.putfield 41, 3) := dk_181 0 41 (dk_at dksX2_increment_7 19 rfl rfl)
theorem dX2_increment_184 : decode cX2_increment 184 = .ok (.aload_n 0, 1) := dk_42 (dk_at dksX2_increment_7 22 rfl rfl)
theorem dX2_increment_185 : decode cX2_increment 185 = .ok (.getfield 37, 3) := dk_180 0 37 (dk_at dksX2_increment_8 0 rfl rfl)
theorem dX2_increment_188 : decode cX2_increment 188 = .ok (.if_icmp .ne 7, 3) := dk_160 0 7 (dk_at dksX2_increment_8 3 rfl rfl)
theorem dX2_increment_191 : decode cX2_increment 191 = .ok (.aload_n 0, 1) := dk_42 (dk_at dksX2_increment_8 6 rfl rfl)
theorem dX2_increment_192 : decode cX2_increment 192 = .ok (.invokevirtual 74, 3) := dk_182 0 74 (dk_at dksX2_increment_8 7 rfl rfl)
theorem dX2_increment_195 : decode cX2_increment 195 = .ok (.return_, 1) := dk_177 (dk_at dksX2_increment_8 10 rfl rfl)
abbrev cX2_isNotInitialized : ByteArray := prog_2_method_3_code
def yX2_isNotInitialized : MethodName := ⟨RX2, "isNotInitialized", "()Z"⟩
def dkwX2_isNotInitialized_0 : List UInt8 := [42, 180, 0, 33, 199, 0, 7, 4, 167, 0, 4, 3, 172]
abbrev dktX2_isNotInitialized_0 : List UInt8 := dkwX2_isNotInitialized_0 ++ []
theorem dksX2_isNotInitialized_0 : cX2_isNotInitialized.data.toList.drop 0 = dktX2_isNotInitialized_0 := by decide +kernel
theorem dX2_isNotInitialized_0 : decode cX2_isNotInitialized 0 = .ok (.aload_n 0, 1) := dk_42 (dk_at dksX2_isNotInitialized_0 0 rfl rfl)
theorem dX2_isNotInitialized_1 : decode cX2_isNotInitialized 1 = .ok (.getfield 33, 3) := dk_180 0 33 (dk_at dksX2_isNotInitialized_0 1 rfl rfl)
theorem dX2_isNotInitialized_4 : decode cX2_isNotInitialized 4 = .ok (.ifnonnull 7, 3) := dk_199 0 7 (dk_at dksX2_isNotInitialized_0 4 rfl rfl)
theorem dX2_isNotInitialized_7 : decode cX2_isNotInitialized 7 = .ok (.iconst 1, 1) := dk_4 (dk_at dksX2_isNotInitialized_0 7 rfl rfl)
theorem dX2_isNotInitialized_8 : decode cX2_isNotInitialized 8 = .ok (.goto 4, 3) := dk_167 0 4 (dk_at dksX2_isNotInitialized_0 8 rfl rfl)
theorem dX2_isNotInitialized_11 : decode cX2_isNotInitialized 11 = .ok (.iconst 0, 1) := dk_3 (dk_at dksX2_isNotInitialized_0 11 rfl rfl)
theorem dX2_isNotInitialized_12 : decode cX2_isNotInitialized 12 = .ok (.ireturn, 1) := dk_172 (dk_at dksX2_isNotInitialized_0 12 rfl rfl)
abbrev cX2_spread : ByteArray := prog_2_method_6_code
def yX2_spread : MethodName := ⟨RX2, "spread", "(I)I"⟩
def dkwX2_spread_1 : List UInt8 := [26, 26, 16, 15, 124, 130, 59, 26, 172]
abbrev dktX2_spread_1 : List UInt8 := dkwX2_spread_1 ++ []
def dkwX2_spread_0 : List UInt8 := [26, 26, 16, 17, 124, 130, 59, 26, 18, 77, 104, 59, 26, 26, 16, 11, 124, 130, 59, 26, 18, 78, 104, 59]
abbrev dktX2_spread_0 : List UInt8 := dkwX2_spread_0 ++ dktX2_spread_1
theorem dksX2_spread_0 : cX2_spread.data.toList.drop 0 = dktX2_spread_0 := by decide +kernel
theorem dksX2_spread_1 : cX2_spread.data.toList.drop 24 = dktX2_spread_1 := dk_seg dksX2_spread_0 24 rfl rfl
theorem dX2_spread_0 : decode cX2_spread 0 = .ok (.iload_n 0, 1) := dk_26 (dk_at dksX2_spread_0 0 rfl rfl)
theorem dX2_spread_1 : decode cX2_spread 1 = .ok (.iload_n 0, 1) := dk_26 (dk_at dksX2_spread_0 1 rfl rfl)
theorem dX2_spread_2 : decode cX2_spread 2 = .ok (.bipush 17, 2) := dk_16 17 (dk_at dksX2_spread_0 2 rfl rfl)
theorem dX2_spread_4 : decode cX2_spread 4 = .ok (.iushr, 1) := dk_124 (dk_at dksX2_spread_0 4 rfl rfl)
theorem dX2_spread_5 : decode cX2_spread 5 = .ok (.ixor, 1) := dk_130 (dk_at dksX2_spread_0 5 rfl rfl)
theorem dX2_spread_6 : decode cX2_spread 6 = .ok (.istore_n 0, 1) := dk_59 (dk_at dksX2_spread_0 6 rfl rfl)
theorem dX2_spread_7 : decode cX2_spread 7 = .ok (.iload_n 0, 1) := dk_26 (dk_at dksX2_spread_0 7 rfl rfl)
theorem dX2_spread_8 : decode cX2_spread 8 = .ok (.ldc 77, 2) := dk_18 77 (dk_at dksX2_spread_0 8 rfl rfl)
theorem dX2_spread_10 : decode cX2_spread 10 = .ok (.imul, 1) := dk_104 (dk_at dksX2_spread_0 10 rfl rfl)
theorem dX2_spread_11 : decode cX2_spread 11 = .ok (.istore_n 0, 1) := dk_59 (dk_at dksX2_spread_0 11 rfl rfl)
theorem dX2_spread_12 : decode cX2_spread 12 = .ok (.iload_n 0, 1) := dk_26 (dk_at dksX2_spread_0 12 rfl rfl)
theorem dX2_spread_13 : decode cX2_spread 13 = .ok (.iload_n 0, 1) := dk_26 (dk_at dksX2_spread_0 13 rfl rfl)
theorem dX2_spread_14 : decode cX2_spread 14 = .ok (.bipush 11, 2) := dk_16 11 (dk_at dksX2_spread_0 14 rfl rfl)
theorem dX2_spread_16 : decode cX2_spread 16 = .ok (.iushr, 1) := dk_124 (dk_at dksX2_spread_0 16 rfl rfl)
theorem dX2_spread_17 : decode cX2_spread 17 = .ok (.ixor, 1) := dk_130 (dk_at dksX2_spread_0 17 rfl rfl)
theorem dX2_spread_18 : decode cX2_spread 18 = .ok (.istore_n 0, 1) := dk_59 (dk_at dksX2_spread_0 18 rfl rfl)
theorem dX2_spread_19 : decode cX2_spread 19 = .ok (.iload_n 0, 1) := dk_26 (dk_at dksX2_spread_0 19 rfl rfl)
theorem dX2_spread_20 : decode cX2_spread 20 = .ok (.ldc 78, 2) := dk_18 78 (dk_at dksX2_spread_0 20 rfl rfl)
theorem dX2_spread_22 : decode cX2_spread 22 = .ok (.imul, 1) := dk_104 (dk_at dksX2_spread_0 22 rfl rfl)
theorem dX2_spread_23 : decode cX2_spread 23 = .ok (.istore_n 0, 1) := dk_59 (dk_at dksX2_spread_0 23 rfl rfl)
theorem dX2_spread_24 : decode cX2_spread 24 = .ok (.iload_n 0, 1) := dk_26 (dk_at dksX2_spread_1 0 rfl rfl)
theorem dX2_spread_25 : decode cX2_spread 25 = .ok (.iload_n 0, 1) := dk_26 (dk_at dksX2_spread_1 1 rfl rfl)
theorem dX2_spread_26 : decode cX2_spread 26 = .ok (.bipush 15, 2) := dk_16 15 (dk_at dksX2_spread_1 2 rfl rfl)
theorem dX2_spread_28 : decode cX2_spread 28 = .ok (.iushr, 1) := dk_124 (dk_at dksX2_spread_1 4 rfl rfl)
theorem dX2_spread_29 : decode cX2_spread 29 = .ok (.ixor, 1) := dk_130 (dk_at dksX2_spread_1 5 rfl rfl)
theorem dX2_spread_30 : decode cX2_spread 30 = .ok (.istore_n 0, 1) := dk_59 (dk_at dksX2_spread_1 6 rfl rfl)
theorem dX2_spread_31 : decode cX2_spread 31 = .ok (.iload_n 0, 1) := dk_26 (dk_at dksX2_spread_1 7 rfl rfl)
theorem dX2_spread_32 : decode cX2_spread 32 = .ok (.ireturn, 1) := dk_172 (dk_at dksX2_spread_1 8 rfl rfl)
abbrev cX2_rehash : ByteArray := prog_2_method_7_code
def yX2_rehash : MethodName := ⟨RX2, "rehash", "(I)I"⟩
def dkwX2_rehash_0 : List UInt8 := [26, 18, 79, 104, 59, 26, 26, 16, 14, 124, 130, 59, 26, 172]
abbrev dktX2_rehash_0 : List UInt8 := dkwX2_rehash_0 ++ []
theorem dksX2_rehash_0 : cX2_rehash.data.toList.drop 0 = dktX2_rehash_0 := by decide +kernel
theorem dX2_rehash_0 : decode cX2_rehash 0 = .ok (.iload_n 0, 1) := dk_26 (dk_at dksX2_rehash_0 0 rfl rfl)
theorem dX2_rehash_1 : decode cX2_rehash 1 = .ok (.ldc 79, 2) := dk_18 79 (dk_at dksX2_rehash_0 1 rfl rfl)
theorem dX2_rehash_3 : decode cX2_rehash 3 = .ok (.imul, 1) := dk_104 (dk_at dksX2_rehash_0 3 rfl rfl)
theorem dX2_rehash_4 : decode cX2_rehash 4 = .ok (.istore_n 0, 1) := dk_59 (dk_at dksX2_rehash_0 4 rfl rfl)
theorem dX2_rehash_5 : decode cX2_rehash 5 = .ok (.iload_n 0, 1) := dk_26 (dk_at dksX2_rehash_0 5 rfl rfl)
theorem dX2_rehash_6 : decode cX2_rehash 6 = .ok (.iload_n 0, 1) := dk_26 (dk_at dksX2_rehash_0 6 rfl rfl)
theorem dX2_rehash_7 : decode cX2_rehash 7 = .ok (.bipush 14, 2) := dk_16 14 (dk_at dksX2_rehash_0 7 rfl rfl)
theorem dX2_rehash_9 : decode cX2_rehash 9 = .ok (.iushr, 1) := dk_124 (dk_at dksX2_rehash_0 9 rfl rfl)
theorem dX2_rehash_10 : decode cX2_rehash 10 = .ok (.ixor, 1) := dk_130 (dk_at dksX2_rehash_0 10 rfl rfl)
theorem dX2_rehash_11 : decode cX2_rehash 11 = .ok (.istore_n 0, 1) := dk_59 (dk_at dksX2_rehash_0 11 rfl rfl)
theorem dX2_rehash_12 : decode cX2_rehash 12 = .ok (.iload_n 0, 1) := dk_26 (dk_at dksX2_rehash_0 12 rfl rfl)
theorem dX2_rehash_13 : decode cX2_rehash 13 = .ok (.ireturn, 1) := dk_172 (dk_at dksX2_rehash_0 13 rfl rfl)
abbrev cX2_incrementAt : ByteArray := prog_2_method_8_code
def yX2_incrementAt : MethodName := ⟨RX2, "incrementAt", "(II)Z"⟩
def dkwX2_incrementAt_1 : List UInt8 := [153, 0, 17, 42, 180, 0, 33, 27, 92, 47, 10, 29, 121, 97, 80, 4, 172, 3, 172]
abbrev dktX2_incrementAt_1 : List UInt8 := dkwX2_incrementAt_1 ++ []
def dkwX2_incrementAt_0 : List UInt8 := [28, 5, 120, 62, 20, 0, 68, 29, 121, 55, 4, 42, 180, 0, 33, 27, 47, 22, 4, 127, 22, 4, 148]
abbrev dktX2_incrementAt_0 : List UInt8 := dkwX2_incrementAt_0 ++ dktX2_incrementAt_1
theorem dksX2_incrementAt_0 : cX2_incrementAt.data.toList.drop 0 = dktX2_incrementAt_0 := by decide +kernel
theorem dksX2_incrementAt_1 : cX2_incrementAt.data.toList.drop 23 = dktX2_incrementAt_1 := dk_seg dksX2_incrementAt_0 23 rfl rfl
theorem dX2_incrementAt_0 : decode cX2_incrementAt 0 = .ok (.iload_n 2, 1) := dk_28 (dk_at dksX2_incrementAt_0 0 rfl rfl)
theorem dX2_incrementAt_1 : decode cX2_incrementAt 1 = .ok (.iconst 2, 1) := dk_5 (dk_at dksX2_incrementAt_0 1 rfl rfl)
theorem dX2_incrementAt_2 : decode cX2_incrementAt 2 = .ok (.ishl, 1) := dk_120 (dk_at dksX2_incrementAt_0 2 rfl rfl)
theorem dX2_incrementAt_3 : decode cX2_incrementAt 3 = .ok (.istore_n 3, 1) := dk_62 (dk_at dksX2_incrementAt_0 3 rfl rfl)
theorem dX2_incrementAt_4 : decode cX2_incrementAt 4 = .ok (.ldc2_w 68, 3) := dk_20 0 68 (dk_at dksX2_incrementAt_0 4 rfl rfl)
theorem dX2_incrementAt_7 : decode cX2_incrementAt 7 = .ok (.iload_n 3, 1) := dk_29 (dk_at dksX2_incrementAt_0 7 rfl rfl)
theorem dX2_incrementAt_8 : decode cX2_incrementAt 8 = .ok (.lshl, 1) := dk_121 (dk_at dksX2_incrementAt_0 8 rfl rfl)
theorem dX2_incrementAt_9 : decode cX2_incrementAt 9 = .ok (.lstore 4, 2) := dk_55 4 (dk_at dksX2_incrementAt_0 9 rfl rfl)
theorem dX2_incrementAt_11 : decode cX2_incrementAt 11 = .ok (.aload_n 0, 1) := dk_42 (dk_at dksX2_incrementAt_0 11 rfl rfl)
theorem dX2_incrementAt_12 : decode cX2_incrementAt 12 = .ok (.getfield 33, 3) := dk_180 0 33 (dk_at dksX2_incrementAt_0 12 rfl rfl)
theorem dX2_incrementAt_15 : decode cX2_incrementAt 15 = .ok (.iload_n 1, 1) := dk_27 (dk_at dksX2_incrementAt_0 15 rfl rfl)
theorem dX2_incrementAt_16 : decode cX2_incrementAt 16 = .ok (.laload, 1) := dk_47 (dk_at dksX2_incrementAt_0 16 rfl rfl)
theorem dX2_incrementAt_17 : decode cX2_incrementAt 17 = .ok (.lload 4, 2) := dk_22 4 (dk_at dksX2_incrementAt_0 17 rfl rfl)
theorem dX2_incrementAt_19 : decode cX2_incrementAt 19 = .ok (.land, 1) := dk_127 (dk_at dksX2_incrementAt_0 19 rfl rfl)
theorem dX2_incrementAt_20 : decode cX2_incrementAt 20 = .ok (.lload 4, 2) := dk_22 4 (dk_at dksX2_incrementAt_0 20 rfl rfl)
theorem dX2_incrementAt_22 : decode cX2_incrementAt 22 = .ok (.lcmp, 1) := dk_148 (dk_at dksX2_incrementAt_0 22 rfl rfl)
theorem dX2_incrementAt_23 : decode cX2_incrementAt 23 = .ok (.ifCond .eq 17, 3) := dk_153 0 17 (dk_at dksX2_incrementAt_1 0 rfl rfl)
theorem dX2_incrementAt_26 : decode cX2_incrementAt 26 = .ok (.aload_n 0, 1) := dk_42 (dk_at dksX2_incrementAt_1 3 rfl rfl)
theorem dX2_incrementAt_27 : decode cX2_incrementAt 27 = .ok (.getfield 33, 3) := dk_180 0 33 (dk_at dksX2_incrementAt_1 4 rfl rfl)
theorem dX2_incrementAt_30 : decode cX2_incrementAt 30 = .ok (.iload_n 1, 1) := dk_27 (dk_at dksX2_incrementAt_1 7 rfl rfl)
theorem dX2_incrementAt_31 : decode cX2_incrementAt 31 = .ok (.dup2, 1) := dk_92 (dk_at dksX2_incrementAt_1 8 rfl rfl)
theorem dX2_incrementAt_32 : decode cX2_incrementAt 32 = .ok (.laload, 1) := dk_47 (dk_at dksX2_incrementAt_1 9 rfl rfl)
theorem dX2_incrementAt_33 : decode cX2_incrementAt 33 = .ok (.lconst 1, 1) := dk_10 (dk_at dksX2_incrementAt_1 10 rfl rfl)
theorem dX2_incrementAt_34 : decode cX2_incrementAt 34 = .ok (.iload_n 3, 1) := dk_29 (dk_at dksX2_incrementAt_1 11 rfl rfl)
theorem dX2_incrementAt_35 : decode cX2_incrementAt 35 = .ok (.lshl, 1) := dk_121 (dk_at dksX2_incrementAt_1 12 rfl rfl)
theorem dX2_incrementAt_36 : decode cX2_incrementAt 36 = .ok (.ladd, 1) := dk_97 (dk_at dksX2_incrementAt_1 13 rfl rfl)
theorem dX2_incrementAt_37 : decode cX2_incrementAt 37 = .ok (.lastore, 1) := dk_80 (dk_at dksX2_incrementAt_1 14 rfl rfl)
theorem dX2_incrementAt_38 : decode cX2_incrementAt 38 = .ok (.iconst 1, 1) := dk_4 (dk_at dksX2_incrementAt_1 15 rfl rfl)
theorem dX2_incrementAt_39 : decode cX2_incrementAt 39 = .ok (.ireturn, 1) := dk_172 (dk_at dksX2_incrementAt_1 16 rfl rfl)
theorem dX2_incrementAt_40 : decode cX2_incrementAt 40 = .ok (.iconst 0, 1) := dk_3 (dk_at dksX2_incrementAt_1 17 rfl rfl)
theorem dX2_incrementAt_41 : decode cX2_incrementAt 41 = .ok (.ireturn, 1) := dk_172 (dk_at dksX2_incrementAt_1 18 rfl rfl)
abbrev cX2_frequency : ByteArray := prog_2_method_4_code
def yX2_frequency : MethodName := ⟨RX2, "frequency", "(Ljava/lang/Object;)I"⟩
def dkwX2_frequency_4 : List UInt8 := [20, 0, 68, 127, 136, 54, 11, 28, 21, 11, 184, 0, 44, 61, 132, 6, 1, 167, 255, 185, 28, 172]
abbrev dktX2_frequency_4 : List UInt8 := dkwX2_frequency_4 ++ []
def dkwX2_frequency_3 : List UInt8 := [21, 9, 96, 21, 6, 4, 120, 96, 54, 10, 42, 180, 0, 33, 21, 10, 47, 21, 8, 5, 120, 125]
abbrev dktX2_frequency_3 : List UInt8 := dkwX2_frequency_3 ++ dktX2_frequency_4
def dkwX2_frequency_2 : List UInt8 := [21, 6, 6, 120, 124, 54, 7, 21, 7, 4, 124, 16, 15, 126, 54, 8, 21, 7, 4, 126, 54, 9, 21, 5]
abbrev dktX2_frequency_2 : List UInt8 := dkwX2_frequency_2 ++ dktX2_frequency_3
def dkwX2_frequency_1 : List UInt8 := [54, 4, 29, 42, 180, 0, 50, 126, 6, 120, 54, 5, 3, 54, 6, 21, 6, 7, 162, 0, 71, 21, 4]
abbrev dktX2_frequency_1 : List UInt8 := dkwX2_frequency_1 ++ dktX2_frequency_2
def dkwX2_frequency_0 : List UInt8 := [42, 182, 0, 53, 153, 0, 5, 3, 172, 18, 57, 61, 43, 182, 0, 58, 184, 0, 62, 62, 29, 184, 0, 65]
abbrev dktX2_frequency_0 : List UInt8 := dkwX2_frequency_0 ++ dktX2_frequency_1
theorem dksX2_frequency_0 : cX2_frequency.data.toList.drop 0 = dktX2_frequency_0 := by decide +kernel
theorem dksX2_frequency_1 : cX2_frequency.data.toList.drop 24 = dktX2_frequency_1 := dk_seg dksX2_frequency_0 24 rfl rfl
theorem dksX2_frequency_2 : cX2_frequency.data.toList.drop 47 = dktX2_frequency_2 := dk_seg dksX2_frequency_1 23 rfl rfl
theorem dksX2_frequency_3 : cX2_frequency.data.toList.drop 71 = dktX2_frequency_3 := dk_seg dksX2_frequency_2 24 rfl rfl
theorem dksX2_frequency_4 : cX2_frequency.data.toList.drop 93 = dktX2_frequency_4 := dk_seg dksX2_frequency_3 22 rfl rfl
theorem dX2_frequency_0 : decode cX2_frequency 0 = .ok (.aload_n 0, 1) := dk_42 (dk_at dksX2_frequency_0 0 rfl rfl)
theorem dX2_frequency_1 : decode cX2_frequency 1 = .ok (.invokevirtual 53, 3) := dk_182 0 53 (dk_at dksX2_frequency_0 1 rfl rfl)
theorem dX2_frequency_4 : decode cX2_frequency 4 = .ok (.ifCond .eq 5, 3) := dk_153 0 5 (dk_at dksX2_frequency_0 4 rfl rfl)
theorem dX2_frequency_7 : decode cX2_frequency 7 = .ok (.iconst 0, 1) := dk_3 (dk_at dksX2_frequency_0 7 rfl rfl)
theorem dX2_frequency_8 : decode cX2_frequency 8 = .ok (.ireturn, 1) := dk_172 (dk_at dksX2_frequency_0 8 rfl rfl)
theorem dX2_frequency_9 : decode cX2_frequency 9 = .ok (.ldc 57, 2) := dk_18 57 (dk_at dksX2_frequency_0 9 rfl rfl)
theorem dX2_frequency_11 : decode cX2_frequency 11 = .ok (.istore_n 2, 1) := dk_61 (dk_at dksX2_frequency_0 11 rfl rfl)
theorem dX2_frequency_12 : decode cX2_frequency 12 = .ok (.aload_n 1, 1) := dk_43 (dk_at dksX2_frequency_0 12 rfl rfl)
theorem dX2_frequency_13 : decode cX2_frequency 13 = .ok (.invokevirtual 58, 3) := dk_182 0 58 (dk_at dksX2_frequency_0 13 rfl rfl)
theorem dX2_frequency_16 : decode cX2_frequency 16 = .ok (.invokestatic 62, 3) := dk_184 0 62 (dk_at dksX2_frequency_0 16 rfl rfl)
theorem dX2_frequency_19 : decode cX2_frequency 19 = .ok (.istore_n 3, 1) := dk_62 (dk_at dksX2_frequency_0 19 rfl rfl)
theorem dX2_frequency_20 : decode cX2_frequency 20 = .ok (.iload_n 3, 1) := dk_29 (dk_at dksX2_frequency_0 20 rfl rfl)
theorem dX2_frequency_21 : decode cX2_frequency 21 = .ok (.invokestatic 65, 3) := dk_184 0 65 (dk_at dksX2_frequency_0 21 rfl rfl)
theorem dX2_frequency_24 : decode cX2_frequency 24 = .ok (.istore 4, 2) := dk_54 4 (dk_at dksX2_frequency_1 0 rfl rfl)
theorem dX2_frequency_26 : decode cX2_frequency 26 = .ok (.iload_n 3, 1) := dk_29 (dk_at dksX2_frequency_1 2 rfl rfl)
theorem dX2_frequency_27 : decode cX2_frequency 27 = .ok (.aload_n 0, 1) := dk_42 (dk_at dksX2_frequency_1 3 rfl rfl)
theorem dX2_frequency_28 : decode cX2_frequency 28 = .ok (.getfield 50, 3) := dk_180 0 50 (dk_at dksX2_frequency_1 4 rfl rfl)
theorem dX2_frequency_31 : decode cX2_frequency 31 = .ok (.iand, 1) := dk_126 (dk_at dksX2_frequency_1 7 rfl rfl)
theorem dX2_frequency_32 : decode cX2_frequency 32 = .ok (.iconst 3, 1) := dk_6 (dk_at dksX2_frequency_1 8 rfl rfl)
theorem dX2_frequency_33 : decode cX2_frequency 33 = .ok (.ishl, 1) := dk_120 (dk_at dksX2_frequency_1 9 rfl rfl)
theorem dX2_frequency_34 : decode cX2_frequency 34 = .ok (.istore 5, 2) := dk_54 5 (dk_at dksX2_frequency_1 10 rfl rfl)
theorem dX2_frequency_36 : decode cX2_frequency 36 = .ok (.iconst 0, 1) := dk_3 (dk_at dksX2_frequency_1 12 rfl rfl)
theorem dX2_frequency_37 : decode cX2_frequency 37 = .ok (.istore 6, 2) := dk_54 6 (dk_at dksX2_frequency_1 13 rfl rfl)
theorem dX2_frequency_39 : decode cX2_frequency 39 = .ok (.iload 6, 2) := dk_21 6 (dk_at dksX2_frequency_1 15 rfl rfl)
theorem dX2_frequency_41 : decode cX2_frequency 41 = .ok (.iconst 4, 1) := dk_7 (dk_at dksX2_frequency_1 17 rfl rfl)
theorem dX2_frequency_42 : decode cX2_frequency 42 = .ok (.if_icmp .ge 71, 3) := dk_162 0 71 (dk_at dksX2_frequency_1 18 rfl rfl)
theorem dX2_frequency_45 : decode cX2_frequency 45 = .ok (.iload 4, 2) := dk_21 4 (dk_at dksX2_frequency_1 21 rfl rfl)
theorem dX2_frequency_47 : decode cX2_frequency 47 = .ok (.iload 6, 2) := dk_21 6 (dk_at dksX2_frequency_2 0 rfl rfl)
theorem dX2_frequency_49 : decode cX2_frequency 49 = .ok (.iconst 3, 1) := dk_6 (dk_at dksX2_frequency_2 2 rfl rfl)
theorem dX2_frequency_50 : decode cX2_frequency 50 = .ok (.ishl, 1) := dk_120 (dk_at dksX2_frequency_2 3 rfl rfl)
theorem dX2_frequency_51 : decode cX2_frequency 51 = .ok (.iushr, 1) := dk_124 (dk_at dksX2_frequency_2 4 rfl rfl)
theorem dX2_frequency_52 : decode cX2_frequency 52 = .ok (.istore 7, 2) := dk_54 7 (dk_at dksX2_frequency_2 5 rfl rfl)
theorem dX2_frequency_54 : decode cX2_frequency 54 = .ok (.iload 7, 2) := dk_21 7 (dk_at dksX2_frequency_2 7 rfl rfl)
theorem dX2_frequency_56 : decode cX2_frequency 56 = .ok (.iconst 1, 1) := dk_4 (dk_at dksX2_frequency_2 9 rfl rfl)
theorem dX2_frequency_57 : decode cX2_frequency 57 = .ok (.iushr, 1) := dk_124 (dk_at dksX2_frequency_2 10 rfl rfl)
theorem dX2_frequency_58 : decode cX2_frequency 58 = .ok (.bipush 15, 2) := dk_16 15 (dk_at dksX2_frequency_2 11 rfl rfl)
theorem dX2_frequency_60 : decode cX2_frequency 60 = .ok (.iand, 1) := dk_126 (dk_at dksX2_frequency_2 13 rfl rfl)
theorem dX2_frequency_61 : decode cX2_frequency 61 = .ok (.istore 8, 2) := dk_54 8 (dk_at dksX2_frequency_2 14 rfl rfl)
theorem dX2_frequency_63 : decode cX2_frequency 63 = .ok (.iload 7, 2) := dk_21 7 (dk_at dksX2_frequency_2 16 rfl rfl)
theorem dX2_frequency_65 : decode cX2_frequency 65 = .ok (.iconst 1, 1) := dk_4 (dk_at dksX2_frequency_2 18 rfl rfl)
theorem dX2_frequency_66 : decode cX2_frequency 66 = .ok (.iand, 1) := dk_126 (dk_at dksX2_frequency_2 19 rfl rfl)
theorem dX2_frequency_67 : decode cX2_frequency 67 = .ok (.istore 9, 2) := dk_54 9 (dk_at dksX2_frequency_2 20 rfl rfl)
theorem dX2_frequency_69 : decode cX2_frequency 69 = .ok (.iload 5, 2) := dk_21 5 (dk_at dksX2_frequency_2 22 rfl rfl)
theorem dX2_frequency_71 : decode cX2_frequency 71 = .ok (.iload 9, 2) := dk_21 9 (dk_at dksX2_frequency_3 0 rfl rfl)
theorem dX2_frequency_73 : decode cX2_frequency 73 = .ok (.iadd, 1) := dk_96 (dk_at dksX2_frequency_3 2 rfl rfl)
theorem dX2_frequency_74 : decode cX2_frequency 74 = .ok (.iload 6, 2) := dk_21 6 (dk_at dksX2_frequency_3 3 rfl rfl)
theorem dX2_frequency_76 : decode cX2_frequency 76 = .ok (.iconst 1, 1) := dk_4 (dk_at dksX2_frequency_3 5 rfl rfl)
theorem dX2_frequency_77 : decode cX2_frequency 77 = .ok (.ishl, 1) := dk_120 (dk_at dksX2_frequency_3 6 rfl rfl)
theorem dX2_frequency_78 : decode cX2_frequency 78 = .ok (.iadd, 1) := dk_96 (dk_at dksX2_frequency_3 7 rfl rfl)
theorem dX2_frequency_79 : decode cX2_frequency 79 = .ok (.istore 10, 2) := dk_54 10 (dk_at dksX2_frequency_3 8 rfl rfl)
theorem dX2_frequency_81 : decode cX2_frequency 81 = .ok (.aload_n 0, 1) := dk_42 (dk_at dksX2_frequency_3 10 rfl rfl)
theorem dX2_frequency_82 : decode cX2_frequency 82 = .ok (.getfield 33, 3) := dk_180 0 33 (dk_at dksX2_frequency_3 11 rfl rfl)
theorem dX2_frequency_85 : decode cX2_frequency 85 = .ok (.iload 10, 2) := dk_21 10 (dk_at dksX2_frequency_3 14 rfl rfl)
theorem dX2_frequency_87 : decode cX2_frequency 87 = .ok (.laload, 1) := dk_47 (dk_at dksX2_frequency_3 16 rfl rfl)
theorem dX2_frequency_88 : decode cX2_frequency 88 = .ok (.iload 8, 2) := dk_21 8 (dk_at dksX2_frequency_3 17 rfl rfl)
theorem dX2_frequency_90 : decode cX2_frequency 90 = .ok (.iconst 2, 1) := dk_5 (dk_at dksX2_frequency_3 19 rfl rfl)
theorem dX2_frequency_91 : decode cX2_frequency 91 = .ok (.ishl, 1) := dk_120 (dk_at dksX2_frequency_3 20 rfl rfl)
theorem dX2_frequency_92 : decode cX2_frequency 92 = .ok (.lushr, 1) := dk_125 (dk_at dksX2_frequency_3 21 rfl rfl)
theorem dX2_frequency_93 : decode cX2_frequency 93 = .ok (.ldc2_w 68, 3) := dk_20 0 68 (dk_at dksX2_frequency_4 0 rfl rfl)
theorem dX2_frequency_96 : decode cX2_frequency 96 = .ok (.land, 1) := dk_127 (dk_at dksX2_frequency_4 3 rfl rfl)
theorem dX2_frequency_97 : decode cX2_frequency 97 = .ok (.l2i, 1) := dk_136 (dk_at dksX2_frequency_4 4 rfl rfl)
theorem dX2_frequency_98 : decode cX2_frequency 98 = .ok (.istore 11, 2) := dk_54 11 (dk_at dksX2_frequency_4 5 rfl rfl)
theorem dX2_frequency_100 : decode cX2_frequency 100 = .ok (.iload_n 2, 1) := dk_28 (dk_at dksX2_frequency_4 7 rfl rfl)
theorem dX2_frequency_101 : decode cX2_frequency 101 = .ok (.iload 11, 2) := dk_21 11 (dk_at dksX2_frequency_4 8 rfl rfl)
theorem dX2_frequency_103 : decode cX2_frequency 103 = .ok (.invokestatic 44, 3) := dk_184 0 44 (dk_at dksX2_frequency_4 10 rfl rfl)
theorem dX2_frequency_106 : decode cX2_frequency 106 = .ok (.istore_n 2, 1) := dk_61 (dk_at dksX2_frequency_4 13 rfl rfl)
theorem dX2_frequency_107 : decode cX2_frequency 107 = .ok (.iinc 6 1, 3) := dk_132 6 1 (dk_at dksX2_frequency_4 14 rfl rfl)
theorem dX2_frequency_110 : decode cX2_frequency 110 = .ok (.goto (-71), 3) := dk_167 255 185 (dk_at dksX2_frequency_4 17 rfl rfl)
theorem dX2_frequency_113 : decode cX2_frequency 113 = .ok (.iload_n 2, 1) := dk_28 (dk_at dksX2_frequency_4 20 rfl rfl)
theorem dX2_frequency_114 : decode cX2_frequency 114 = .ok (.ireturn, 1) := dk_172 (dk_at dksX2_frequency_4 21 rfl rfl)
theorem q3 : (Jvm.Cond.initialized "FrequencySketch") ∈ lw_all := lw_g (lw_at lw_m0 2 rfl) rfl
theorem q23 : (Jvm.Cond.instantiable "FrequencySketch" (4 : Nat)) ∈ lw_all := lw_g (lw_at lw_m0 22 rfl) rfl
theorem q25 : (Jvm.Cond.instanceMethod ({ cls := "FrequencySketch", name := "<init>", desc := "()V" } : Jvm.MethodName)) ∈ lw_all := lw_g (lw_at lw_m0 24 rfl) rfl
theorem q26 : (Jvm.Cond.code ({ cls := "FrequencySketch", name := "<init>", desc := "()V" } : Jvm.MethodName) prog_2_method_1_code (1 : Nat) (Option.none : Option Jvm.ClassFile.FieldType)) ∈ lw_all := lw_g (lw_at lw_m0 25 rfl) rfl
theorem q27 : (Jvm.Cond.methodLink "FrequencySketch" (1 : Nat) ({ cls := "java/lang/Object", name := "<init>", desc := "()V" } : Jvm.MethodName)) ∈ lw_all := lw_g (lw_at lw_m0 26 rfl) rfl
theorem q28 : (Jvm.Cond.fieldLink "FrequencySketch" (37 : Nat) "FrequencySketch" "sampleSize" "I") ∈ lw_all := lw_g (lw_at lw_m0 27 rfl) rfl
theorem q29 : (Jvm.Cond.fieldLink "FrequencySketch" (50 : Nat) "FrequencySketch" "blockMask" "I") ∈ lw_all := lw_g (lw_at lw_m0 28 rfl) rfl
theorem q30 : (Jvm.Cond.fieldLink "FrequencySketch" (33 : Nat) "FrequencySketch" "table" "[J") ∈ lw_all := lw_g (lw_at lw_m0 29 rfl) rfl
theorem q31 : (Jvm.Cond.fieldLink "FrequencySketch" (41 : Nat) "FrequencySketch" "size" "I") ∈ lw_all := lw_g (lw_at lw_m0 30 rfl) rfl
theorem q32 : (Jvm.Cond.lays "FrequencySketch" "FrequencySketch" "sampleSize" "I") ∈ lw_all := lw_g (lw_at lw_m0 31 rfl) rfl
theorem q33 : (Jvm.Cond.soleField "FrequencySketch" "sampleSize") ∈ lw_all := lw_g (lw_at lw_m0 32 rfl) rfl
theorem q34 : (Jvm.Cond.lays "FrequencySketch" "FrequencySketch" "blockMask" "I") ∈ lw_all := lw_g (lw_at lw_m0 33 rfl) rfl
theorem q35 : (Jvm.Cond.soleField "FrequencySketch" "blockMask") ∈ lw_all := lw_g (lw_at lw_m0 34 rfl) rfl
theorem q36 : (Jvm.Cond.lays "FrequencySketch" "FrequencySketch" "table" "[J") ∈ lw_all := lw_g (lw_at lw_m0 35 rfl) rfl
theorem q37 : (Jvm.Cond.soleField "FrequencySketch" "table") ∈ lw_all := lw_g (lw_at lw_m0 36 rfl) rfl
theorem q38 : (Jvm.Cond.lays "FrequencySketch" "FrequencySketch" "size" "I") ∈ lw_all := lw_g (lw_at lw_m0 37 rfl) rfl
theorem q39 : (Jvm.Cond.soleField "FrequencySketch" "size") ∈ lw_all := lw_g (lw_at lw_m0 38 rfl) rfl
theorem q40 : (Jvm.Cond.superclass "FrequencySketch" "java/lang/Object") ∈ lw_all := lw_g (lw_at lw_m0 39 rfl) rfl
theorem q43 : (Jvm.Cond.instanceMethod ({ cls := "FrequencySketch", name := "ensureCapacity", desc := "(J)V" } : Jvm.MethodName)) ∈ lw_all := lw_g (lw_at lw_m0 42 rfl) rfl
theorem q44 : (Jvm.Cond.selects "FrequencySketch" ({ cls := "FrequencySketch", name := "ensureCapacity", desc := "(J)V" } : Jvm.MethodName) ({ cls := "FrequencySketch", name := "ensureCapacity", desc := "(J)V" } : Jvm.MethodName)) ∈ lw_all := lw_g (lw_at lw_m0 43 rfl) rfl
theorem q45 : (Jvm.Cond.code ({ cls := "FrequencySketch", name := "ensureCapacity", desc := "(J)V" } : Jvm.MethodName) prog_2_method_2_code (5 : Nat) (Option.none : Option Jvm.ClassFile.FieldType)) ∈ lw_all := lw_g (lw_at lw_m0 44 rfl) rfl
theorem q46 : (Jvm.Cond.methodLink "FrequencySketch" (7 : Nat) ({ cls := "Caffeine", name := "requireArgument", desc := "(Z)V" } : Jvm.MethodName)) ∈ lw_all := lw_g (lw_at lw_m0 45 rfl) rfl
theorem q110 : (Jvm.Cond.constantLong "FrequencySketch" (15 : Nat) (1073741823 : Int64)) ∈ lw_all := lw_g (lw_at lw_m0 109 rfl) rfl
theorem q111 : (Jvm.Cond.methodLink "FrequencySketch" (17 : Nat) ({ cls := "java/lang/Math", name := "min", desc := "(JJ)J" } : Jvm.MethodName)) ∈ lw_all := lw_g (lw_at lw_m0 110 rfl) rfl
theorem q114 : (Jvm.Cond.methodLink "FrequencySketch" (25 : Nat) ({ cls := "java/lang/Math", name := "max", desc := "(II)I" } : Jvm.MethodName)) ∈ lw_all := lw_g (lw_at lw_m0 113 rfl) rfl
theorem q117 : (Jvm.Cond.constantLong "FrequencySketch" (29 : Nat) (10 : Int64)) ∈ lw_all := lw_g (lw_at lw_m0 116 rfl) rfl
theorem q118 : (Jvm.Cond.constantLong "FrequencySketch" (31 : Nat) (2147483647 : Int64)) ∈ lw_all := lw_g (lw_at lw_m0 117 rfl) rfl
theorem q119 : (Jvm.Cond.methodLink "FrequencySketch" (44 : Nat) ({ cls := "java/lang/Math", name := "min", desc := "(II)I" } : Jvm.MethodName)) ∈ lw_all := lw_g (lw_at lw_m0 118 rfl) rfl
theorem q122 : (Jvm.Cond.methodLink "FrequencySketch" (46 : Nat) ({ cls := "Caffeine", name := "ceilingPowerOfTwo", desc := "(I)I" } : Jvm.MethodName)) ∈ lw_all := lw_g (lw_at lw_m0 121 rfl) rfl
theorem q160 : (Jvm.Cond.instanceMethod ({ cls := "FrequencySketch", name := "increment", desc := "(Ljava/lang/Object;)V" } : Jvm.MethodName)) ∈ lw_all := lw_g (lw_at lw_m0 159 rfl) rfl
theorem q161 : (Jvm.Cond.selects "FrequencySketch" ({ cls := "FrequencySketch", name := "increment", desc := "(Ljava/lang/Object;)V" } : Jvm.MethodName) ({ cls := "FrequencySketch", name := "increment", desc := "(Ljava/lang/Object;)V" } : Jvm.MethodName)) ∈ lw_all := lw_g (lw_at lw_m0 160 rfl) rfl
theorem q162 : (Jvm.Cond.code ({ cls := "FrequencySketch", name := "increment", desc := "(Ljava/lang/Object;)V" } : Jvm.MethodName) prog_2_method_5_code (18 : Nat) (Option.none : Option Jvm.ClassFile.FieldType)) ∈ lw_all := lw_g (lw_at lw_m0 161 rfl) rfl
theorem q163 : (Jvm.Cond.methodLink "FrequencySketch" (53 : Nat) ({ cls := "FrequencySketch", name := "isNotInitialized", desc := "()Z" } : Jvm.MethodName)) ∈ lw_all := lw_g (lw_at lw_m0 162 rfl) rfl
theorem q164 : (Jvm.Cond.instanceMethod ({ cls := "FrequencySketch", name := "isNotInitialized", desc := "()Z" } : Jvm.MethodName)) ∈ lw_all := lw_g (lw_at lw_m0 163 rfl) rfl
theorem q165 : (Jvm.Cond.selects "FrequencySketch" ({ cls := "FrequencySketch", name := "isNotInitialized", desc := "()Z" } : Jvm.MethodName) ({ cls := "FrequencySketch", name := "isNotInitialized", desc := "()Z" } : Jvm.MethodName)) ∈ lw_all := lw_g (lw_at lw_m0 164 rfl) rfl
theorem q166 : (Jvm.Cond.code ({ cls := "FrequencySketch", name := "isNotInitialized", desc := "()Z" } : Jvm.MethodName) prog_2_method_3_code (1 : Nat) (Option.some Jvm.ClassFile.FieldType.boolean)) ∈ lw_all := lw_g (lw_at lw_m0 165 rfl) rfl
theorem q167 : (Jvm.Cond.methodLink "FrequencySketch" (58 : Nat) ({ cls := "java/lang/Object", name := "hashCode", desc := "()I" } : Jvm.MethodName)) ∈ lw_all := lw_g (lw_at lw_m0 166 rfl) rfl
theorem q170 : (Jvm.Cond.selects "FrequencySketch" ({ cls := "java/lang/Object", name := "hashCode", desc := "()I" } : Jvm.MethodName) ({ cls := "java/lang/Object", name := "hashCode", desc := "()I" } : Jvm.MethodName)) ∈ lw_all := lw_g (lw_at lw_m0 169 rfl) rfl
theorem q180 : (Jvm.Cond.methodLink "FrequencySketch" (62 : Nat) ({ cls := "FrequencySketch", name := "spread", desc := "(I)I" } : Jvm.MethodName)) ∈ lw_all := lw_g (lw_at lw_m0 179 rfl) rfl
theorem q181 : (Jvm.Cond.static ({ cls := "FrequencySketch", name := "spread", desc := "(I)I" } : Jvm.MethodName)) ∈ lw_all := lw_g (lw_at lw_m0 180 rfl) rfl
theorem q182 : (Jvm.Cond.code ({ cls := "FrequencySketch", name := "spread", desc := "(I)I" } : Jvm.MethodName) prog_2_method_6_code (1 : Nat) (Option.some Jvm.ClassFile.FieldType.int)) ∈ lw_all := lw_g (lw_at lw_m0 181 rfl) rfl
theorem q183 : (Jvm.Cond.constant "FrequencySketch" (77 : Nat) (-312814405 : Int32)) ∈ lw_all := lw_g (lw_at lw_m0 182 rfl) rfl
theorem q184 : (Jvm.Cond.constant "FrequencySketch" (78 : Nat) (-1404298415 : Int32)) ∈ lw_all := lw_g (lw_at lw_m0 183 rfl) rfl
theorem q185 : (Jvm.Cond.methodLink "FrequencySketch" (65 : Nat) ({ cls := "FrequencySketch", name := "rehash", desc := "(I)I" } : Jvm.MethodName)) ∈ lw_all := lw_g (lw_at lw_m0 184 rfl) rfl
theorem q186 : (Jvm.Cond.static ({ cls := "FrequencySketch", name := "rehash", desc := "(I)I" } : Jvm.MethodName)) ∈ lw_all := lw_g (lw_at lw_m0 185 rfl) rfl
theorem q187 : (Jvm.Cond.code ({ cls := "FrequencySketch", name := "rehash", desc := "(I)I" } : Jvm.MethodName) prog_2_method_7_code (1 : Nat) (Option.some Jvm.ClassFile.FieldType.int)) ∈ lw_all := lw_g (lw_at lw_m0 186 rfl) rfl
theorem q188 : (Jvm.Cond.constant "FrequencySketch" (79 : Nat) (830770091 : Int32)) ∈ lw_all := lw_g (lw_at lw_m0 187 rfl) rfl
theorem q189 : (Jvm.Cond.methodLink "FrequencySketch" (70 : Nat) ({ cls := "FrequencySketch", name := "incrementAt", desc := "(II)Z" } : Jvm.MethodName)) ∈ lw_all := lw_g (lw_at lw_m0 188 rfl) rfl
theorem q190 : (Jvm.Cond.instanceMethod ({ cls := "FrequencySketch", name := "incrementAt", desc := "(II)Z" } : Jvm.MethodName)) ∈ lw_all := lw_g (lw_at lw_m0 189 rfl) rfl
theorem q191 : (Jvm.Cond.selects "FrequencySketch" ({ cls := "FrequencySketch", name := "incrementAt", desc := "(II)Z" } : Jvm.MethodName) ({ cls := "FrequencySketch", name := "incrementAt", desc := "(II)Z" } : Jvm.MethodName)) ∈ lw_all := lw_g (lw_at lw_m0 190 rfl) rfl
theorem q192 : (Jvm.Cond.code ({ cls := "FrequencySketch", name := "incrementAt", desc := "(II)Z" } : Jvm.MethodName) prog_2_method_8_code (6 : Nat) (Option.some Jvm.ClassFile.FieldType.boolean)) ∈ lw_all := lw_g (lw_at lw_m0 191 rfl) rfl
theorem q193 : (Jvm.Cond.constantLong "FrequencySketch" (68 : Nat) (15 : Int64)) ∈ lw_all := lw_g (lw_at lw_m0 192 rfl) rfl
theorem q194 : (Jvm.Cond.methodLink "FrequencySketch" (74 : Nat) ({ cls := "FrequencySketch", name := "reset", desc := "()V" } : Jvm.MethodName)) ∈ lw_all := lw_g (lw_at lw_m0 193 rfl) rfl
theorem q195 : (Jvm.Cond.instanceMethod ({ cls := "FrequencySketch", name := "reset", desc := "()V" } : Jvm.MethodName)) ∈ lw_all := lw_g (lw_at lw_m0 194 rfl) rfl
theorem q196 : (Jvm.Cond.selects "FrequencySketch" ({ cls := "FrequencySketch", name := "reset", desc := "()V" } : Jvm.MethodName) ({ cls := "FrequencySketch", name := "reset", desc := "()V" } : Jvm.MethodName)) ∈ lw_all := lw_g (lw_at lw_m0 195 rfl) rfl
theorem q197 : (Jvm.Cond.code ({ cls := "FrequencySketch", name := "reset", desc := "()V" } : Jvm.MethodName) prog_2_method_9_code (4 : Nat) (Option.none : Option Jvm.ClassFile.FieldType)) ∈ lw_all := lw_g (lw_at lw_m0 196 rfl) rfl
theorem q198 : (Jvm.Cond.constantLong "FrequencySketch" (80 : Nat) (1229782938247303441 : Int64)) ∈ lw_all := lw_g (lw_at lw_m0 197 rfl) rfl
theorem q199 : (Jvm.Cond.methodLink "FrequencySketch" (82 : Nat) ({ cls := "java/lang/Long", name := "bitCount", desc := "(J)I" } : Jvm.MethodName)) ∈ lw_all := lw_g (lw_at lw_m0 198 rfl) rfl
theorem q205 : (Jvm.Cond.constantLong "FrequencySketch" (88 : Nat) (8608480567731124087 : Int64)) ∈ lw_all := lw_g (lw_at lw_m0 204 rfl) rfl
theorem q211 : (Jvm.Cond.instanceMethod ({ cls := "FrequencySketch", name := "frequency", desc := "(Ljava/lang/Object;)I" } : Jvm.MethodName)) ∈ lw_all := lw_g (lw_at lw_m0 210 rfl) rfl
theorem q212 : (Jvm.Cond.selects "FrequencySketch" ({ cls := "FrequencySketch", name := "frequency", desc := "(Ljava/lang/Object;)I" } : Jvm.MethodName) ({ cls := "FrequencySketch", name := "frequency", desc := "(Ljava/lang/Object;)I" } : Jvm.MethodName)) ∈ lw_all := lw_g (lw_at lw_m0 211 rfl) rfl
theorem q213 : (Jvm.Cond.code ({ cls := "FrequencySketch", name := "frequency", desc := "(Ljava/lang/Object;)I" } : Jvm.MethodName) prog_2_method_4_code (12 : Nat) (Option.some Jvm.ClassFile.FieldType.int)) ∈ lw_all := lw_g (lw_at lw_m0 212 rfl) rfl
theorem q214 : (Jvm.Cond.constant "FrequencySketch" (57 : Nat) (2147483647 : Int32)) ∈ lw_all := lw_g (lw_at lw_m0 213 rfl) rfl
theorem in_X2 : ∀ w ∈ wsX20, w ∈ lw_all := lw_in wsX20 [32, 34, 36, 38] (by decide +kernel) (by decide +kernel)
/-! Caffeine -/
set_option maxRecDepth 100000
def RX3 : String := "Caffeine"
abbrev cX3_requireArgument : ByteArray := prog_1_method_1_code
def yX3_requireArgument : MethodName := ⟨RX3, "requireArgument", "(Z)V"⟩
def dkwX3_requireArgument_0 : List UInt8 := [26, 154, 0, 11, 187, 0, 1, 89, 183, 0, 3, 191, 177]
abbrev dktX3_requireArgument_0 : List UInt8 := dkwX3_requireArgument_0 ++ []
theorem dksX3_requireArgument_0 : cX3_requireArgument.data.toList.drop 0 = dktX3_requireArgument_0 := by decide +kernel
theorem dX3_requireArgument_0 : decode cX3_requireArgument 0 = .ok (.iload_n 0, 1) := dk_26 (dk_at dksX3_requireArgument_0 0 rfl rfl)
theorem dX3_requireArgument_1 : decode cX3_requireArgument 1 = .ok (.ifCond .ne 11, 3) := dk_154 0 11 (dk_at dksX3_requireArgument_0 1 rfl rfl)
theorem dX3_requireArgument_4 : decode cX3_requireArgument 4 = .ok (.new 1, 3) := dk_187 0 1 (dk_at dksX3_requireArgument_0 4 rfl rfl)
theorem dX3_requireArgument_7 : decode cX3_requireArgument 7 = .ok (.dup, 1) := dk_89 (dk_at dksX3_requireArgument_0 7 rfl rfl)
theorem dX3_requireArgument_8 : decode cX3_requireArgument 8 = .ok (.invokespecial 3, 3) := dk_183 0 3 (dk_at dksX3_requireArgument_0 8 rfl rfl)
theorem dX3_requireArgument_11 : decode cX3_requireArgument 11 = .ok (.athrow, 1) := dk_191 (dk_at dksX3_requireArgument_0 11 rfl rfl)
theorem dX3_requireArgument_12 : decode cX3_requireArgument 12 = .ok (.return_, 1) := dk_177 (dk_at dksX3_requireArgument_0 12 rfl rfl)
abbrev cX3_ceilingPowerOfTwo : ByteArray := prog_1_method_2_code
def yX3_ceilingPowerOfTwo : MethodName := ⟨RX3, "ceilingPowerOfTwo", "(I)I"⟩
def dkwX3_ceilingPowerOfTwo_0 : List UInt8 := [26, 18, 7, 164, 0, 6, 18, 7, 172, 4, 26, 4, 100, 184, 0, 8, 116, 120, 172]
abbrev dktX3_ceilingPowerOfTwo_0 : List UInt8 := dkwX3_ceilingPowerOfTwo_0 ++ []
theorem dksX3_ceilingPowerOfTwo_0 : cX3_ceilingPowerOfTwo.data.toList.drop 0 = dktX3_ceilingPowerOfTwo_0 := by decide +kernel
theorem dX3_ceilingPowerOfTwo_0 : decode cX3_ceilingPowerOfTwo 0 = .ok (.iload_n 0, 1) := dk_26 (dk_at dksX3_ceilingPowerOfTwo_0 0 rfl rfl)
theorem dX3_ceilingPowerOfTwo_1 : decode cX3_ceilingPowerOfTwo 1 = .ok (.ldc 7, 2) := dk_18 7 (dk_at dksX3_ceilingPowerOfTwo_0 1 rfl rfl)
theorem dX3_ceilingPowerOfTwo_3 : decode cX3_ceilingPowerOfTwo 3 = .ok (.if_icmp .le 6, 3) := dk_164 0 6 (dk_at dksX3_ceilingPowerOfTwo_0 3 rfl rfl)
theorem dX3_ceilingPowerOfTwo_6 : decode cX3_ceilingPowerOfTwo 6 = .ok (.ldc 7, 2) := dk_18 7 (dk_at dksX3_ceilingPowerOfTwo_0 6 rfl rfl)
theorem dX3_ceilingPowerOfTwo_8 : decode cX3_ceilingPowerOfTwo 8 = .ok (.ireturn, 1) := dk_172 (dk_at dksX3_ceilingPowerOfTwo_0 8 rfl rfl)
theorem dX3_ceilingPowerOfTwo_9 : decode cX3_ceilingPowerOfTwo 9 = .ok (.iconst 1, 1) := dk_4 (dk_at dksX3_ceilingPowerOfTwo_0 9 rfl rfl)
theorem dX3_ceilingPowerOfTwo_10 : decode cX3_ceilingPowerOfTwo 10 = .ok (.iload_n 0, 1) := dk_26 (dk_at dksX3_ceilingPowerOfTwo_0 10 rfl rfl)
theorem dX3_ceilingPowerOfTwo_11 : decode cX3_ceilingPowerOfTwo 11 = .ok (.iconst 1, 1) := dk_4 (dk_at dksX3_ceilingPowerOfTwo_0 11 rfl rfl)
theorem dX3_ceilingPowerOfTwo_12 : decode cX3_ceilingPowerOfTwo 12 = .ok (.isub, 1) := dk_100 (dk_at dksX3_ceilingPowerOfTwo_0 12 rfl rfl)
theorem dX3_ceilingPowerOfTwo_13 : decode cX3_ceilingPowerOfTwo 13 = .ok (.invokestatic 8, 3) := dk_184 0 8 (dk_at dksX3_ceilingPowerOfTwo_0 13 rfl rfl)
theorem dX3_ceilingPowerOfTwo_16 : decode cX3_ceilingPowerOfTwo 16 = .ok (.ineg, 1) := dk_116 (dk_at dksX3_ceilingPowerOfTwo_0 16 rfl rfl)
theorem dX3_ceilingPowerOfTwo_17 : decode cX3_ceilingPowerOfTwo 17 = .ok (.ishl, 1) := dk_120 (dk_at dksX3_ceilingPowerOfTwo_0 17 rfl rfl)
theorem dX3_ceilingPowerOfTwo_18 : decode cX3_ceilingPowerOfTwo 18 = .ok (.ireturn, 1) := dk_172 (dk_at dksX3_ceilingPowerOfTwo_0 18 rfl rfl)
theorem q4 : (Jvm.Cond.initialized "Caffeine") ∈ lw_all := lw_g (lw_at lw_m0 3 rfl) rfl
theorem q47 : (Jvm.Cond.static ({ cls := "Caffeine", name := "requireArgument", desc := "(Z)V" } : Jvm.MethodName)) ∈ lw_all := lw_g (lw_at lw_m0 46 rfl) rfl
theorem q48 : (Jvm.Cond.code ({ cls := "Caffeine", name := "requireArgument", desc := "(Z)V" } : Jvm.MethodName) prog_1_method_1_code (1 : Nat) (Option.none : Option Jvm.ClassFile.FieldType)) ∈ lw_all := lw_g (lw_at lw_m0 47 rfl) rfl
theorem q49 : (Jvm.Cond.classLink "Caffeine" (1 : Nat) "java/lang/IllegalArgumentException") ∈ lw_all := lw_g (lw_at lw_m0 48 rfl) rfl
theorem q88 : (Jvm.Cond.methodLink "Caffeine" (3 : Nat) ({ cls := "java/lang/IllegalArgumentException", name := "<init>", desc := "()V" } : Jvm.MethodName)) ∈ lw_all := lw_g (lw_at lw_m0 87 rfl) rfl
theorem q123 : (Jvm.Cond.static ({ cls := "Caffeine", name := "ceilingPowerOfTwo", desc := "(I)I" } : Jvm.MethodName)) ∈ lw_all := lw_g (lw_at lw_m0 122 rfl) rfl
theorem q124 : (Jvm.Cond.code ({ cls := "Caffeine", name := "ceilingPowerOfTwo", desc := "(I)I" } : Jvm.MethodName) prog_1_method_2_code (1 : Nat) (Option.some Jvm.ClassFile.FieldType.int)) ∈ lw_all := lw_g (lw_at lw_m0 123 rfl) rfl
theorem q125 : (Jvm.Cond.constant "Caffeine" (7 : Nat) (1073741824 : Int32)) ∈ lw_all := lw_g (lw_at lw_m0 124 rfl) rfl
theorem q126 : (Jvm.Cond.methodLink "Caffeine" (8 : Nat) ({ cls := "java/lang/Integer", name := "numberOfLeadingZeros", desc := "(I)I" } : Jvm.MethodName)) ∈ lw_all := lw_g (lw_at lw_m0 125 rfl) rfl
/-! java/lang/Math -/
set_option maxRecDepth 100000
def RJ4 : String := "java/lang/Math"
abbrev cJ4_min : ByteArray := prog_10_method_70_code
def yJ4_min : MethodName := ⟨RJ4, "min", "(JJ)J"⟩
def dkwJ4_min_0 : List UInt8 := [30, 32, 148, 157, 0, 7, 30, 167, 0, 4, 32, 173]
abbrev dktJ4_min_0 : List UInt8 := dkwJ4_min_0 ++ []
theorem dksJ4_min_0 : cJ4_min.data.toList.drop 0 = dktJ4_min_0 := by decide +kernel
theorem dJ4_min_0 : decode cJ4_min 0 = .ok (.lload_n 0, 1) := dk_30 (dk_at dksJ4_min_0 0 rfl rfl)
theorem dJ4_min_1 : decode cJ4_min 1 = .ok (.lload_n 2, 1) := dk_32 (dk_at dksJ4_min_0 1 rfl rfl)
theorem dJ4_min_2 : decode cJ4_min 2 = .ok (.lcmp, 1) := dk_148 (dk_at dksJ4_min_0 2 rfl rfl)
theorem dJ4_min_3 : decode cJ4_min 3 = .ok (.ifCond .gt 7, 3) := dk_157 0 7 (dk_at dksJ4_min_0 3 rfl rfl)
theorem dJ4_min_6 : decode cJ4_min 6 = .ok (.lload_n 0, 1) := dk_30 (dk_at dksJ4_min_0 6 rfl rfl)
theorem dJ4_min_7 : decode cJ4_min 7 = .ok (.goto 4, 3) := dk_167 0 4 (dk_at dksJ4_min_0 7 rfl rfl)
theorem dJ4_min_10 : decode cJ4_min 10 = .ok (.lload_n 2, 1) := dk_32 (dk_at dksJ4_min_0 10 rfl rfl)
theorem dJ4_min_11 : decode cJ4_min 11 = .ok (.lreturn, 1) := dk_173 (dk_at dksJ4_min_0 11 rfl rfl)
abbrev cJ4_max : ByteArray := prog_10_method_65_code
def yJ4_max : MethodName := ⟨RJ4, "max", "(II)I"⟩
def dkwJ4_max_0 : List UInt8 := [26, 27, 161, 0, 7, 26, 167, 0, 4, 27, 172]
abbrev dktJ4_max_0 : List UInt8 := dkwJ4_max_0 ++ []
theorem dksJ4_max_0 : cJ4_max.data.toList.drop 0 = dktJ4_max_0 := by decide +kernel
theorem dJ4_max_0 : decode cJ4_max 0 = .ok (.iload_n 0, 1) := dk_26 (dk_at dksJ4_max_0 0 rfl rfl)
theorem dJ4_max_1 : decode cJ4_max 1 = .ok (.iload_n 1, 1) := dk_27 (dk_at dksJ4_max_0 1 rfl rfl)
theorem dJ4_max_2 : decode cJ4_max 2 = .ok (.if_icmp .lt 7, 3) := dk_161 0 7 (dk_at dksJ4_max_0 2 rfl rfl)
theorem dJ4_max_5 : decode cJ4_max 5 = .ok (.iload_n 0, 1) := dk_26 (dk_at dksJ4_max_0 5 rfl rfl)
theorem dJ4_max_6 : decode cJ4_max 6 = .ok (.goto 4, 3) := dk_167 0 4 (dk_at dksJ4_max_0 6 rfl rfl)
theorem dJ4_max_9 : decode cJ4_max 9 = .ok (.iload_n 1, 1) := dk_27 (dk_at dksJ4_max_0 9 rfl rfl)
theorem dJ4_max_10 : decode cJ4_max 10 = .ok (.ireturn, 1) := dk_172 (dk_at dksJ4_max_0 10 rfl rfl)
abbrev cJ4_min_2 : ByteArray := prog_10_method_69_code
def yJ4_min_2 : MethodName := ⟨RJ4, "min", "(II)I"⟩
def dkwJ4_min_2_0 : List UInt8 := [26, 27, 163, 0, 7, 26, 167, 0, 4, 27, 172]
abbrev dktJ4_min_2_0 : List UInt8 := dkwJ4_min_2_0 ++ []
theorem dksJ4_min_2_0 : cJ4_min_2.data.toList.drop 0 = dktJ4_min_2_0 := by decide +kernel
theorem dJ4_min_2_0 : decode cJ4_min_2 0 = .ok (.iload_n 0, 1) := dk_26 (dk_at dksJ4_min_2_0 0 rfl rfl)
theorem dJ4_min_2_1 : decode cJ4_min_2 1 = .ok (.iload_n 1, 1) := dk_27 (dk_at dksJ4_min_2_0 1 rfl rfl)
theorem dJ4_min_2_2 : decode cJ4_min_2 2 = .ok (.if_icmp .gt 7, 3) := dk_163 0 7 (dk_at dksJ4_min_2_0 2 rfl rfl)
theorem dJ4_min_2_5 : decode cJ4_min_2 5 = .ok (.iload_n 0, 1) := dk_26 (dk_at dksJ4_min_2_0 5 rfl rfl)
theorem dJ4_min_2_6 : decode cJ4_min_2 6 = .ok (.goto 4, 3) := dk_167 0 4 (dk_at dksJ4_min_2_0 6 rfl rfl)
theorem dJ4_min_2_9 : decode cJ4_min_2 9 = .ok (.iload_n 1, 1) := dk_27 (dk_at dksJ4_min_2_0 9 rfl rfl)
theorem dJ4_min_2_10 : decode cJ4_min_2 10 = .ok (.ireturn, 1) := dk_172 (dk_at dksJ4_min_2_0 10 rfl rfl)
theorem q9 : (Jvm.Cond.initialized "java/lang/Math") ∈ lw_all := lw_g (lw_at lw_m0 8 rfl) rfl
theorem q112 : (Jvm.Cond.static ({ cls := "java/lang/Math", name := "min", desc := "(JJ)J" } : Jvm.MethodName)) ∈ lw_all := lw_g (lw_at lw_m0 111 rfl) rfl
theorem q113 : (Jvm.Cond.code ({ cls := "java/lang/Math", name := "min", desc := "(JJ)J" } : Jvm.MethodName) prog_10_method_70_code (4 : Nat) (Option.some Jvm.ClassFile.FieldType.long)) ∈ lw_all := lw_g (lw_at lw_m0 112 rfl) rfl
theorem q115 : (Jvm.Cond.static ({ cls := "java/lang/Math", name := "max", desc := "(II)I" } : Jvm.MethodName)) ∈ lw_all := lw_g (lw_at lw_m0 114 rfl) rfl
theorem q116 : (Jvm.Cond.code ({ cls := "java/lang/Math", name := "max", desc := "(II)I" } : Jvm.MethodName) prog_10_method_65_code (2 : Nat) (Option.some Jvm.ClassFile.FieldType.int)) ∈ lw_all := lw_g (lw_at lw_m0 115 rfl) rfl
theorem q120 : (Jvm.Cond.static ({ cls := "java/lang/Math", name := "min", desc := "(II)I" } : Jvm.MethodName)) ∈ lw_all := lw_g (lw_at lw_m0 119 rfl) rfl
theorem q121 : (Jvm.Cond.code ({ cls := "java/lang/Math", name := "min", desc := "(II)I" } : Jvm.MethodName) prog_10_method_69_code (2 : Nat) (Option.some Jvm.ClassFile.FieldType.int)) ∈ lw_all := lw_g (lw_at lw_m0 120 rfl) rfl
/-! java/lang/Number -/
set_option maxRecDepth 100000
def RJ5 : String := "java/lang/Number"
abbrev cJ5_init : ByteArray := prog_11_method_1_code
def yJ5_init : MethodName := ⟨RJ5, "<init>", "()V"⟩
theorem dJ5_init_0 : decode cJ5_init 0 = .ok (.aload_n 0, 1) := by decide +kernel
theorem dJ5_init_1 : decode cJ5_init 1 = .ok (.invokespecial 1, 3) := by decide +kernel
theorem dJ5_init_4 : decode cJ5_init 4 = .ok (.return_, 1) := by decide +kernel
theorem q10 : (Jvm.Cond.initialized "java/lang/Number") ∈ lw_all := lw_g (lw_at lw_m0 9 rfl) rfl
theorem q152 : (Jvm.Cond.instanceMethod ({ cls := "java/lang/Number", name := "<init>", desc := "()V" } : Jvm.MethodName)) ∈ lw_all := lw_g (lw_at lw_m0 151 rfl) rfl
theorem q153 : (Jvm.Cond.code ({ cls := "java/lang/Number", name := "<init>", desc := "()V" } : Jvm.MethodName) prog_11_method_1_code (1 : Nat) (Option.none : Option Jvm.ClassFile.FieldType)) ∈ lw_all := lw_g (lw_at lw_m0 152 rfl) rfl
theorem q154 : (Jvm.Cond.methodLink "java/lang/Number" (1 : Nat) ({ cls := "java/lang/Object", name := "<init>", desc := "()V" } : Jvm.MethodName)) ∈ lw_all := lw_g (lw_at lw_m0 153 rfl) rfl
/-! java/lang/Integer -/
set_option maxRecDepth 100000
def RJ6 : String := "java/lang/Integer"
def TJ6 : u_T := fun k => match k with
  | _ => ("java/lang/Integer", "value", "I", true)
def tyJ6 : Nat → FieldType := fun k => match k with
  | _ => .int
abbrev wsJ60 : List Cond := u_ws RJ6 TJ6 1
theorem nmJ6 : ∀ a, a < 1 → ∀ b, b < 1 → a ≠ b → (TJ6 a).2.1 ≠ (TJ6 b).2.1 := by decide +kernel
theorem tyJ6_ok : ∀ k, k < 1 → parseFieldDescriptor (TJ6 k).2.2.1 = some (tyJ6 k) := by decide +kernel
abbrev cJ6_numberOfLeadingZeros : ByteArray := prog_7_method_47_code
def yJ6_numberOfLeadingZeros : MethodName := ⟨RJ6, "numberOfLeadingZeros", "(I)I"⟩
def dkwJ6_numberOfLeadingZeros_3 : List UInt8 := [5, 124, 59, 27, 26, 4, 124, 100, 172]
abbrev dktJ6_numberOfLeadingZeros_3 : List UInt8 := dkwJ6_numberOfLeadingZeros_3 ++ []
def dkwJ6_numberOfLeadingZeros_2 : List UInt8 := [124, 59, 26, 16, 16, 161, 0, 10, 132, 1, 252, 26, 7, 124, 59, 26, 7, 161, 0, 10, 132, 1, 254, 26]
abbrev dktJ6_numberOfLeadingZeros_2 : List UInt8 := dkwJ6_numberOfLeadingZeros_2 ++ dktJ6_numberOfLeadingZeros_3
def dkwJ6_numberOfLeadingZeros_1 : List UInt8 := [161, 0, 11, 132, 1, 240, 26, 16, 16, 124, 59, 26, 17, 1, 0, 161, 0, 11, 132, 1, 248, 26, 16, 8]
abbrev dktJ6_numberOfLeadingZeros_1 : List UInt8 := dkwJ6_numberOfLeadingZeros_1 ++ dktJ6_numberOfLeadingZeros_2
def dkwJ6_numberOfLeadingZeros_0 : List UInt8 := [26, 157, 0, 14, 26, 154, 0, 8, 16, 32, 167, 0, 4, 3, 172, 16, 31, 60, 26, 19, 1, 8]
abbrev dktJ6_numberOfLeadingZeros_0 : List UInt8 := dkwJ6_numberOfLeadingZeros_0 ++ dktJ6_numberOfLeadingZeros_1
theorem dksJ6_numberOfLeadingZeros_0 : cJ6_numberOfLeadingZeros.data.toList.drop 0 = dktJ6_numberOfLeadingZeros_0 := by decide +kernel
theorem dksJ6_numberOfLeadingZeros_1 : cJ6_numberOfLeadingZeros.data.toList.drop 22 = dktJ6_numberOfLeadingZeros_1 := dk_seg dksJ6_numberOfLeadingZeros_0 22 rfl rfl
theorem dksJ6_numberOfLeadingZeros_2 : cJ6_numberOfLeadingZeros.data.toList.drop 46 = dktJ6_numberOfLeadingZeros_2 := dk_seg dksJ6_numberOfLeadingZeros_1 24 rfl rfl
theorem dksJ6_numberOfLeadingZeros_3 : cJ6_numberOfLeadingZeros.data.toList.drop 70 = dktJ6_numberOfLeadingZeros_3 := dk_seg dksJ6_numberOfLeadingZeros_2 24 rfl rfl
theorem dJ6_numberOfLeadingZeros_0 : decode cJ6_numberOfLeadingZeros 0 = .ok (.iload_n 0, 1) := dk_26 (dk_at dksJ6_numberOfLeadingZeros_0 0 rfl rfl)
theorem dJ6_numberOfLeadingZeros_1 : decode cJ6_numberOfLeadingZeros 1 = .ok (.ifCond .gt 14, 3) := dk_157 0 14 (dk_at dksJ6_numberOfLeadingZeros_0 1 rfl rfl)
theorem dJ6_numberOfLeadingZeros_4 : decode cJ6_numberOfLeadingZeros 4 = .ok (.iload_n 0, 1) := dk_26 (dk_at dksJ6_numberOfLeadingZeros_0 4 rfl rfl)
theorem dJ6_numberOfLeadingZeros_5 : decode cJ6_numberOfLeadingZeros 5 = .ok (.ifCond .ne 8, 3) := dk_154 0 8 (dk_at dksJ6_numberOfLeadingZeros_0 5 rfl rfl)
theorem dJ6_numberOfLeadingZeros_8 : decode cJ6_numberOfLeadingZeros 8 = .ok (.bipush 32, 2) := dk_16 32 (dk_at dksJ6_numberOfLeadingZeros_0 8 rfl rfl)
theorem dJ6_numberOfLeadingZeros_10 : decode cJ6_numberOfLeadingZeros 10 = .ok (.goto 4, 3) := dk_167 0 4 (dk_at dksJ6_numberOfLeadingZeros_0 10 rfl rfl)
theorem dJ6_numberOfLeadingZeros_13 : decode cJ6_numberOfLeadingZeros 13 = .ok (.iconst 0, 1) := dk_3 (dk_at dksJ6_numberOfLeadingZeros_0 13 rfl rfl)
theorem dJ6_numberOfLeadingZeros_14 : decode cJ6_numberOfLeadingZeros 14 = .ok (.ireturn, 1) := dk_172 (dk_at dksJ6_numberOfLeadingZeros_0 14 rfl rfl)
theorem dJ6_numberOfLeadingZeros_15 : decode cJ6_numberOfLeadingZeros 15 = .ok (.bipush 31, 2) := dk_16 31 (dk_at dksJ6_numberOfLeadingZeros_0 15 rfl rfl)
theorem dJ6_numberOfLeadingZeros_17 : decode cJ6_numberOfLeadingZeros 17 = .ok (.istore_n 1, 1) := dk_60 (dk_at dksJ6_numberOfLeadingZeros_0 17 rfl rfl)
theorem dJ6_numberOfLeadingZeros_18 : decode cJ6_numberOfLeadingZeros 18 = .ok (.iload_n 0, 1) := dk_26 (dk_at dksJ6_numberOfLeadingZeros_0 18 rfl rfl)
theorem dJ6_numberOfLeadingZeros_19 : decode cJ6_numberOfLeadingZeros 19 = .ok (.ldc_w 264, 3) := dk_19 1 8 (dk_at dksJ6_numberOfLeadingZeros_0 19 rfl rfl)
theorem dJ6_numberOfLeadingZeros_22 : decode cJ6_numberOfLeadingZeros 22 = .ok (.if_icmp .lt 11, 3) := dk_161 0 11 (dk_at dksJ6_numberOfLeadingZeros_1 0 rfl rfl)
theorem dJ6_numberOfLeadingZeros_25 : decode cJ6_numberOfLeadingZeros 25 = .ok (.iinc 1 (-16), 3) := dk_132 1 240 (dk_at dksJ6_numberOfLeadingZeros_1 3 rfl rfl)
theorem dJ6_numberOfLeadingZeros_28 : decode cJ6_numberOfLeadingZeros 28 = .ok (.iload_n 0, 1) := dk_26 (dk_at dksJ6_numberOfLeadingZeros_1 6 rfl rfl)
theorem dJ6_numberOfLeadingZeros_29 : decode cJ6_numberOfLeadingZeros 29 = .ok (.bipush 16, 2) := dk_16 16 (dk_at dksJ6_numberOfLeadingZeros_1 7 rfl rfl)
theorem dJ6_numberOfLeadingZeros_31 : decode cJ6_numberOfLeadingZeros 31 = .ok (.iushr, 1) := dk_124 (dk_at dksJ6_numberOfLeadingZeros_1 9 rfl rfl)
theorem dJ6_numberOfLeadingZeros_32 : decode cJ6_numberOfLeadingZeros 32 = .ok (.istore_n 0, 1) := dk_59 (dk_at dksJ6_numberOfLeadingZeros_1 10 rfl rfl)
theorem dJ6_numberOfLeadingZeros_33 : decode cJ6_numberOfLeadingZeros 33 = .ok (.iload_n 0, 1) := dk_26 (dk_at dksJ6_numberOfLeadingZeros_1 11 rfl rfl)
theorem dJ6_numberOfLeadingZeros_34 : decode cJ6_numberOfLeadingZeros 34 = .ok (.sipush 256, 3) := dk_17 1 0 (dk_at dksJ6_numberOfLeadingZeros_1 12 rfl rfl)
theorem dJ6_numberOfLeadingZeros_37 : decode cJ6_numberOfLeadingZeros 37 = .ok (.if_icmp .lt 11, 3) := dk_161 0 11 (dk_at dksJ6_numberOfLeadingZeros_1 15 rfl rfl)
theorem dJ6_numberOfLeadingZeros_40 : decode cJ6_numberOfLeadingZeros 40 = .ok (.iinc 1 (-8), 3) := dk_132 1 248 (dk_at dksJ6_numberOfLeadingZeros_1 18 rfl rfl)
theorem dJ6_numberOfLeadingZeros_43 : decode cJ6_numberOfLeadingZeros 43 = .ok (.iload_n 0, 1) := dk_26 (dk_at dksJ6_numberOfLeadingZeros_1 21 rfl rfl)
theorem dJ6_numberOfLeadingZeros_44 : decode cJ6_numberOfLeadingZeros 44 = .ok (.bipush 8, 2) := dk_16 8 (dk_at dksJ6_numberOfLeadingZeros_1 22 rfl rfl)
theorem dJ6_numberOfLeadingZeros_46 : decode cJ6_numberOfLeadingZeros 46 = .ok (.iushr, 1) := dk_124 (dk_at dksJ6_numberOfLeadingZeros_2 0 rfl rfl)
theorem dJ6_numberOfLeadingZeros_47 : decode cJ6_numberOfLeadingZeros 47 = .ok (.istore_n 0, 1) := dk_59 (dk_at dksJ6_numberOfLeadingZeros_2 1 rfl rfl)
theorem dJ6_numberOfLeadingZeros_48 : decode cJ6_numberOfLeadingZeros 48 = .ok (.iload_n 0, 1) := dk_26 (dk_at dksJ6_numberOfLeadingZeros_2 2 rfl rfl)
theorem dJ6_numberOfLeadingZeros_49 : decode cJ6_numberOfLeadingZeros 49 = .ok (.bipush 16, 2) := dk_16 16 (dk_at dksJ6_numberOfLeadingZeros_2 3 rfl rfl)
theorem dJ6_numberOfLeadingZeros_51 : decode cJ6_numberOfLeadingZeros 51 = .ok (.if_icmp .lt 10, 3) := dk_161 0 10 (dk_at dksJ6_numberOfLeadingZeros_2 5 rfl rfl)
theorem dJ6_numberOfLeadingZeros_54 : decode cJ6_numberOfLeadingZeros 54 = .ok (.iinc 1 (-4), 3) := dk_132 1 252 (dk_at dksJ6_numberOfLeadingZeros_2 8 rfl rfl)
theorem dJ6_numberOfLeadingZeros_57 : decode cJ6_numberOfLeadingZeros 57 = .ok (.iload_n 0, 1) := dk_26 (dk_at dksJ6_numberOfLeadingZeros_2 11 rfl rfl)
theorem dJ6_numberOfLeadingZeros_58 : decode cJ6_numberOfLeadingZeros 58 = .ok (.iconst 4, 1) := dk_7 (dk_at dksJ6_numberOfLeadingZeros_2 12 rfl rfl)
theorem dJ6_numberOfLeadingZeros_59 : decode cJ6_numberOfLeadingZeros 59 = .ok (.iushr, 1) := dk_124 (dk_at dksJ6_numberOfLeadingZeros_2 13 rfl rfl)
theorem dJ6_numberOfLeadingZeros_60 : decode cJ6_numberOfLeadingZeros 60 = .ok (.istore_n 0, 1) := dk_59 (dk_at dksJ6_numberOfLeadingZeros_2 14 rfl rfl)
theorem dJ6_numberOfLeadingZeros_61 : decode cJ6_numberOfLeadingZeros 61 = .ok (.iload_n 0, 1) := dk_26 (dk_at dksJ6_numberOfLeadingZeros_2 15 rfl rfl)
theorem dJ6_numberOfLeadingZeros_62 : decode cJ6_numberOfLeadingZeros 62 = .ok (.iconst 4, 1) := dk_7 (dk_at dksJ6_numberOfLeadingZeros_2 16 rfl rfl)
theorem dJ6_numberOfLeadingZeros_63 : decode cJ6_numberOfLeadingZeros 63 = .ok (.if_icmp .lt 10, 3) := dk_161 0 10 (dk_at dksJ6_numberOfLeadingZeros_2 17 rfl rfl)
theorem dJ6_numberOfLeadingZeros_66 : decode cJ6_numberOfLeadingZeros 66 = .ok (.iinc 1 (-2), 3) := dk_132 1 254 (dk_at dksJ6_numberOfLeadingZeros_2 20 rfl rfl)
theorem dJ6_numberOfLeadingZeros_69 : decode cJ6_numberOfLeadingZeros 69 = .ok (.iload_n 0, 1) := dk_26 (dk_at dksJ6_numberOfLeadingZeros_2 23 rfl rfl)
theorem dJ6_numberOfLeadingZeros_70 : decode cJ6_numberOfLeadingZeros 70 = .ok (.iconst 2, 1) := dk_5 (dk_at dksJ6_numberOfLeadingZeros_3 0 rfl rfl)
theorem dJ6_numberOfLeadingZeros_71 : decode cJ6_numberOfLeadingZeros 71 = .ok (.iushr, 1) := dk_124 (dk_at dksJ6_numberOfLeadingZeros_3 1 rfl rfl)
theorem dJ6_numberOfLeadingZeros_72 : decode cJ6_numberOfLeadingZeros 72 = .ok (.istore_n 0, 1) := dk_59 (dk_at dksJ6_numberOfLeadingZeros_3 2 rfl rfl)
theorem dJ6_numberOfLeadingZeros_73 : decode cJ6_numberOfLeadingZeros 73 = .ok (.iload_n 1, 1) := dk_27 (dk_at dksJ6_numberOfLeadingZeros_3 3 rfl rfl)
theorem dJ6_numberOfLeadingZeros_74 : decode cJ6_numberOfLeadingZeros 74 = .ok (.iload_n 0, 1) := dk_26 (dk_at dksJ6_numberOfLeadingZeros_3 4 rfl rfl)
theorem dJ6_numberOfLeadingZeros_75 : decode cJ6_numberOfLeadingZeros 75 = .ok (.iconst 1, 1) := dk_4 (dk_at dksJ6_numberOfLeadingZeros_3 5 rfl rfl)
theorem dJ6_numberOfLeadingZeros_76 : decode cJ6_numberOfLeadingZeros 76 = .ok (.iushr, 1) := dk_124 (dk_at dksJ6_numberOfLeadingZeros_3 6 rfl rfl)
theorem dJ6_numberOfLeadingZeros_77 : decode cJ6_numberOfLeadingZeros 77 = .ok (.isub, 1) := dk_100 (dk_at dksJ6_numberOfLeadingZeros_3 7 rfl rfl)
theorem dJ6_numberOfLeadingZeros_78 : decode cJ6_numberOfLeadingZeros 78 = .ok (.ireturn, 1) := dk_172 (dk_at dksJ6_numberOfLeadingZeros_3 8 rfl rfl)
abbrev cJ6_valueOf : ByteArray := prog_7_method_22_code
def yJ6_valueOf : MethodName := ⟨RJ6, "valueOf", "(I)Ljava/lang/Integer;"⟩
def dkwJ6_valueOf_1 : List UInt8 := [187, 0, 1, 89, 26, 183, 0, 199, 176]
abbrev dktJ6_valueOf_1 : List UInt8 := dkwJ6_valueOf_1 ++ []
def dkwJ6_valueOf_0 : List UInt8 := [26, 16, 128, 161, 0, 20, 26, 178, 0, 191, 163, 0, 13, 178, 0, 195, 26, 17, 0, 128, 96, 50, 176]
abbrev dktJ6_valueOf_0 : List UInt8 := dkwJ6_valueOf_0 ++ dktJ6_valueOf_1
theorem dksJ6_valueOf_0 : cJ6_valueOf.data.toList.drop 0 = dktJ6_valueOf_0 := by decide +kernel
theorem dksJ6_valueOf_1 : cJ6_valueOf.data.toList.drop 23 = dktJ6_valueOf_1 := dk_seg dksJ6_valueOf_0 23 rfl rfl
theorem dJ6_valueOf_0 : decode cJ6_valueOf 0 = .ok (.iload_n 0, 1) := dk_26 (dk_at dksJ6_valueOf_0 0 rfl rfl)
theorem dJ6_valueOf_1 : decode cJ6_valueOf 1 = .ok (.bipush (-128), 2) := dk_16 128 (dk_at dksJ6_valueOf_0 1 rfl rfl)
theorem dJ6_valueOf_3 : decode cJ6_valueOf 3 = .ok (.if_icmp .lt 20, 3) := dk_161 0 20 (dk_at dksJ6_valueOf_0 3 rfl rfl)
theorem dJ6_valueOf_6 : decode cJ6_valueOf 6 = .ok (.iload_n 0, 1) := dk_26 (dk_at dksJ6_valueOf_0 6 rfl rfl)
theorem dJ6_valueOf_7 : decode cJ6_valueOf 7 = .ok (.getstatic 191, 3) := dk_178 0 191 (dk_at dksJ6_valueOf_0 7 rfl rfl)
theorem dJ6_valueOf_10 : decode cJ6_valueOf 10 = .ok (.if_icmp .gt 13, 3) := dk_163 0 13 (dk_at dksJ6_valueOf_0 10 rfl rfl)
theorem dJ6_valueOf_13 : decode cJ6_valueOf 13 = .ok (.getstatic 195, 3) := dk_178 0 195 (dk_at dksJ6_valueOf_0 13 rfl rfl)
theorem dJ6_valueOf_16 : decode cJ6_valueOf 16 = .ok (.iload_n 0, 1) := dk_26 (dk_at dksJ6_valueOf_0 16 rfl rfl)
theorem dJ6_valueOf_17 : decode cJ6_valueOf 17 = .ok (.sipush 128, 3) := dk_17 0 128 (dk_at dksJ6_valueOf_0 17 rfl rfl)
theorem dJ6_valueOf_20 : decode cJ6_valueOf 20 = .ok (.iadd, 1) := dk_96 (dk_at dksJ6_valueOf_0 20 rfl rfl)
theorem dJ6_valueOf_21 : decode cJ6_valueOf 21 = .ok (.aaload, 1) := dk_50 (dk_at dksJ6_valueOf_0 21 rfl rfl)
theorem dJ6_valueOf_22 : decode cJ6_valueOf 22 = .ok (.areturn, 1) := dk_176 (dk_at dksJ6_valueOf_0 22 rfl rfl)
theorem dJ6_valueOf_23 : decode cJ6_valueOf 23 = .ok (.new 1, 3) := dk_187 0 1 (dk_at dksJ6_valueOf_1 0 rfl rfl)
theorem dJ6_valueOf_26 : decode cJ6_valueOf 26 = .ok (.dup, 1) := dk_89 (dk_at dksJ6_valueOf_1 3 rfl rfl)
theorem dJ6_valueOf_27 : decode cJ6_valueOf 27 = .ok (.iload_n 0, 1) := dk_26 (dk_at dksJ6_valueOf_1 4 rfl rfl)
theorem dJ6_valueOf_28 : decode cJ6_valueOf 28 = .ok (.invokespecial 199, 3) := dk_183 0 199 (dk_at dksJ6_valueOf_1 5 rfl rfl)
theorem dJ6_valueOf_31 : decode cJ6_valueOf 31 = .ok (.areturn, 1) := dk_176 (dk_at dksJ6_valueOf_1 8 rfl rfl)
abbrev cJ6_init : ByteArray := prog_7_method_23_code
def yJ6_init : MethodName := ⟨RJ6, "<init>", "(I)V"⟩
def dkwJ6_init_0 : List UInt8 := [42, 183, 0, 202, 42, 27, 181, 0, 205, 177]
abbrev dktJ6_init_0 : List UInt8 := dkwJ6_init_0 ++ []
theorem dksJ6_init_0 : cJ6_init.data.toList.drop 0 = dktJ6_init_0 := by decide +kernel
theorem dJ6_init_0 : decode cJ6_init 0 = .ok (.aload_n 0, 1) := dk_42 (dk_at dksJ6_init_0 0 rfl rfl)
theorem dJ6_init_1 : decode cJ6_init 1 = .ok (.invokespecial 202, 3) := dk_183 0 202 (dk_at dksJ6_init_0 1 rfl rfl)
theorem dJ6_init_4 : decode cJ6_init 4 = .ok (.aload_n 0, 1) := dk_42 (dk_at dksJ6_init_0 4 rfl rfl)
theorem dJ6_init_5 : decode cJ6_init 5 = .ok (.iload_n 1, 1) := dk_27 (dk_at dksJ6_init_0 5 rfl rfl)
theorem dJ6_init_6 : decode cJ6_init 6 = .ok (.putfield 205, 3) := dk_181 0 205 (dk_at dksJ6_init_0 6 rfl rfl)
theorem dJ6_init_9 : decode cJ6_init 9 = .ok (.return_, 1) := dk_177 (dk_at dksJ6_init_0 9 rfl rfl)
abbrev cJ6_hashCode : ByteArray := prog_7_method_32_code
def yJ6_hashCode : MethodName := ⟨RJ6, "hashCode", "()I"⟩
def dkwJ6_hashCode_0 : List UInt8 := [42, 180, 0, 205, 184, 0, 208, 172]
abbrev dktJ6_hashCode_0 : List UInt8 := dkwJ6_hashCode_0 ++ []
theorem dksJ6_hashCode_0 : cJ6_hashCode.data.toList.drop 0 = dktJ6_hashCode_0 := by decide +kernel
theorem dJ6_hashCode_0 : decode cJ6_hashCode 0 = .ok (.aload_n 0, 1) := dk_42 (dk_at dksJ6_hashCode_0 0 rfl rfl)
theorem dJ6_hashCode_1 : decode cJ6_hashCode 1 = .ok (.getfield 205, 3) := dk_180 0 205 (dk_at dksJ6_hashCode_0 1 rfl rfl)
theorem dJ6_hashCode_4 : decode cJ6_hashCode 4 = .ok (.invokestatic 208, 3) := dk_184 0 208 (dk_at dksJ6_hashCode_0 4 rfl rfl)
theorem dJ6_hashCode_7 : decode cJ6_hashCode 7 = .ok (.ireturn, 1) := dk_172 (dk_at dksJ6_hashCode_0 7 rfl rfl)
abbrev cJ6_hashCode_2 : ByteArray := prog_7_method_33_code
def yJ6_hashCode_2 : MethodName := ⟨RJ6, "hashCode", "(I)I"⟩
theorem dJ6_hashCode_2_0 : decode cJ6_hashCode_2 0 = .ok (.iload_n 0, 1) := by decide +kernel
theorem dJ6_hashCode_2_1 : decode cJ6_hashCode_2 1 = .ok (.ireturn, 1) := by decide +kernel
theorem q11 : (Jvm.Cond.initialized "java/lang/Integer") ∈ lw_all := lw_g (lw_at lw_m0 10 rfl) rfl
theorem q127 : (Jvm.Cond.static ({ cls := "java/lang/Integer", name := "numberOfLeadingZeros", desc := "(I)I" } : Jvm.MethodName)) ∈ lw_all := lw_g (lw_at lw_m0 126 rfl) rfl
theorem q128 : (Jvm.Cond.code ({ cls := "java/lang/Integer", name := "numberOfLeadingZeros", desc := "(I)I" } : Jvm.MethodName) prog_7_method_47_code (2 : Nat) (Option.some Jvm.ClassFile.FieldType.int)) ∈ lw_all := lw_g (lw_at lw_m0 127 rfl) rfl
theorem q129 : (Jvm.Cond.constant "java/lang/Integer" (264 : Nat) (65536 : Int32)) ∈ lw_all := lw_g (lw_at lw_m0 128 rfl) rfl
theorem q140 : (Jvm.Cond.static ({ cls := "java/lang/Integer", name := "valueOf", desc := "(I)Ljava/lang/Integer;" } : Jvm.MethodName)) ∈ lw_all := lw_g (lw_at lw_m0 139 rfl) rfl
theorem q141 : (Jvm.Cond.code ({ cls := "java/lang/Integer", name := "valueOf", desc := "(I)Ljava/lang/Integer;" } : Jvm.MethodName) prog_7_method_22_code (1 : Nat) (Option.some (Jvm.ClassFile.FieldType.object "java/lang/Integer"))) ∈ lw_all := lw_g (lw_at lw_m0 140 rfl) rfl
theorem q142 : (Jvm.Cond.fieldLink "java/lang/Integer" (191 : Nat) "java/lang/Integer$IntegerCache" "high" "I") ∈ lw_all := lw_g (lw_at lw_m0 141 rfl) rfl
theorem q144 : (Jvm.Cond.fieldLink "java/lang/Integer" (195 : Nat) "java/lang/Integer$IntegerCache" "cache" "[Ljava/lang/Integer;") ∈ lw_all := lw_g (lw_at lw_m0 143 rfl) rfl
theorem q146 : (Jvm.Cond.classLink "java/lang/Integer" (1 : Nat) "java/lang/Integer") ∈ lw_all := lw_g (lw_at lw_m0 145 rfl) rfl
theorem q147 : (Jvm.Cond.instantiable "java/lang/Integer" (1 : Nat)) ∈ lw_all := lw_g (lw_at lw_m0 146 rfl) rfl
theorem q148 : (Jvm.Cond.methodLink "java/lang/Integer" (199 : Nat) ({ cls := "java/lang/Integer", name := "<init>", desc := "(I)V" } : Jvm.MethodName)) ∈ lw_all := lw_g (lw_at lw_m0 147 rfl) rfl
theorem q149 : (Jvm.Cond.instanceMethod ({ cls := "java/lang/Integer", name := "<init>", desc := "(I)V" } : Jvm.MethodName)) ∈ lw_all := lw_g (lw_at lw_m0 148 rfl) rfl
theorem q150 : (Jvm.Cond.code ({ cls := "java/lang/Integer", name := "<init>", desc := "(I)V" } : Jvm.MethodName) prog_7_method_23_code (2 : Nat) (Option.none : Option Jvm.ClassFile.FieldType)) ∈ lw_all := lw_g (lw_at lw_m0 149 rfl) rfl
theorem q151 : (Jvm.Cond.methodLink "java/lang/Integer" (202 : Nat) ({ cls := "java/lang/Number", name := "<init>", desc := "()V" } : Jvm.MethodName)) ∈ lw_all := lw_g (lw_at lw_m0 150 rfl) rfl
theorem q155 : (Jvm.Cond.fieldLink "java/lang/Integer" (205 : Nat) "java/lang/Integer" "value" "I") ∈ lw_all := lw_g (lw_at lw_m0 154 rfl) rfl
theorem q156 : (Jvm.Cond.laysFinal "java/lang/Integer" "java/lang/Integer" "value" "I") ∈ lw_all := lw_g (lw_at lw_m0 155 rfl) rfl
theorem q157 : (Jvm.Cond.soleField "java/lang/Integer" "value") ∈ lw_all := lw_g (lw_at lw_m0 156 rfl) rfl
theorem q158 : (Jvm.Cond.superclass "java/lang/Integer" "java/lang/Number") ∈ lw_all := lw_g (lw_at lw_m0 157 rfl) rfl
theorem q173 : (Jvm.Cond.selects "java/lang/Integer" ({ cls := "java/lang/Object", name := "hashCode", desc := "()I" } : Jvm.MethodName) ({ cls := "java/lang/Integer", name := "hashCode", desc := "()I" } : Jvm.MethodName)) ∈ lw_all := lw_g (lw_at lw_m0 172 rfl) rfl
theorem q174 : (Jvm.Cond.instanceMethod ({ cls := "java/lang/Integer", name := "hashCode", desc := "()I" } : Jvm.MethodName)) ∈ lw_all := lw_g (lw_at lw_m0 173 rfl) rfl
theorem q175 : (Jvm.Cond.code ({ cls := "java/lang/Integer", name := "hashCode", desc := "()I" } : Jvm.MethodName) prog_7_method_32_code (1 : Nat) (Option.some Jvm.ClassFile.FieldType.int)) ∈ lw_all := lw_g (lw_at lw_m0 174 rfl) rfl
theorem q176 : (Jvm.Cond.methodLink "java/lang/Integer" (208 : Nat) ({ cls := "java/lang/Integer", name := "hashCode", desc := "(I)I" } : Jvm.MethodName)) ∈ lw_all := lw_g (lw_at lw_m0 175 rfl) rfl
theorem q177 : (Jvm.Cond.static ({ cls := "java/lang/Integer", name := "hashCode", desc := "(I)I" } : Jvm.MethodName)) ∈ lw_all := lw_g (lw_at lw_m0 176 rfl) rfl
theorem q178 : (Jvm.Cond.code ({ cls := "java/lang/Integer", name := "hashCode", desc := "(I)I" } : Jvm.MethodName) prog_7_method_33_code (1 : Nat) (Option.some Jvm.ClassFile.FieldType.int)) ∈ lw_all := lw_g (lw_at lw_m0 177 rfl) rfl
theorem in_J6 : ∀ w ∈ wsJ60, w ∈ lw_all := lw_in wsJ60 [156] (by decide +kernel) (by decide +kernel)
/-! java/lang/Object -/
set_option maxRecDepth 100000
def RJ8 : String := "java/lang/Object"
abbrev cJ8_init : ByteArray := object_method_1_code
def yJ8_init : MethodName := ⟨RJ8, "<init>", "()V"⟩
theorem dJ8_init_0 : decode cJ8_init 0 = .ok (.return_, 1) := by decide +kernel
theorem q20 : (Jvm.Cond.instanceMethod ({ cls := "java/lang/Object", name := "<init>", desc := "()V" } : Jvm.MethodName)) ∈ lw_all := lw_g (lw_at lw_m0 19 rfl) rfl
theorem q21 : (Jvm.Cond.code ({ cls := "java/lang/Object", name := "<init>", desc := "()V" } : Jvm.MethodName) object_method_1_code (1 : Nat) (Option.none : Option Jvm.ClassFile.FieldType)) ∈ lw_all := lw_g (lw_at lw_m0 20 rfl) rfl
theorem q168 : (Jvm.Cond.instanceMethod ({ cls := "java/lang/Object", name := "hashCode", desc := "()I" } : Jvm.MethodName)) ∈ lw_all := lw_g (lw_at lw_m0 167 rfl) rfl
theorem q169 : (Jvm.Cond.sameMethod "java/lang/Object" "java/lang/Object" "hashCode" "()I") ∈ lw_all := lw_g (lw_at lw_m0 168 rfl) rfl
theorem q179 : (Jvm.Cond.native ({ cls := "java/lang/Object", name := "hashCode", desc := "()I" } : Jvm.MethodName)) ∈ lw_all := lw_g (lw_at lw_m0 178 rfl) rfl
theorem q225 : (Jvm.Cond.initialized "java/lang/Object") ∈ lw_all := lw_g (lw_at lw_m0 224 rfl) rfl
theorem q12 : (Jvm.Cond.initialized "java/lang/Integer$IntegerCache") ∈ lw_all := lw_g (lw_at lw_m0 11 rfl) rfl
set_option maxRecDepth 100000
theorem q143 : (Jvm.Cond.laysStatic "java/lang/Integer$IntegerCache" "high" "I") ∈ lw_tbl := lw_at lw_m0 142 rfl
theorem q145 : (Jvm.Cond.laysStatic "java/lang/Integer$IntegerCache" "cache" "[Ljava/lang/Integer;") ∈ lw_tbl := lw_at lw_m0 144 rfl
theorem q134 : (Jvm.Cond.arrayClass Jvm.ClassFile.FieldType.long) ∈ lw_all := lw_g (lw_at lw_m0 133 rfl) rfl
set_option maxRecDepth 100000
/-! the law's own entry -/
set_option maxRecDepth 100000
abbrev cL_law : ByteArray := code
def dkwL_law_14 : List UInt8 := [3, 172]
abbrev dktL_law_14 : List UInt8 := dkwL_law_14 ++ []
def dkwL_law_13 : List UInt8 := [132, 5, 1, 167, 255, 145, 42, 184, 0, 18, 153, 0, 14, 42, 184, 0, 24, 153, 0, 7, 4, 167, 0, 4]
abbrev dktL_law_13 : List UInt8 := dkwL_law_13 ++ dktL_law_14
def dkwL_law_12 : List UInt8 := [182, 0, 10, 155, 0, 18, 43, 42, 21, 5, 46, 2, 130, 182, 0, 10, 16, 15, 164, 0, 5, 3, 172]
abbrev dktL_law_12 : List UInt8 := dkwL_law_12 ++ dktL_law_13
def dkwL_law_11 : List UInt8 := [16, 15, 162, 0, 8, 21, 6, 167, 0, 5, 16, 15, 162, 0, 5, 3, 172, 43, 42, 21, 5, 46, 2, 130]
abbrev dktL_law_11 : List UInt8 := dkwL_law_11 ++ dktL_law_12
def dkwL_law_10 : List UInt8 := [160, 0, 6, 132, 6, 1, 132, 8, 1, 167, 255, 232, 21, 7, 16, 15, 163, 0, 22, 21, 7, 21, 6]
abbrev dktL_law_10 : List UInt8 := dkwL_law_10 ++ dktL_law_11
def dkwL_law_9 : List UInt8 := [182, 0, 10, 54, 7, 3, 54, 8, 21, 8, 21, 4, 162, 0, 23, 42, 21, 8, 46, 42, 21, 5, 46]
abbrev dktL_law_9 : List UInt8 := dkwL_law_9 ++ dktL_law_10
def dkwL_law_8 : List UInt8 := [132, 5, 1, 167, 255, 180, 3, 54, 5, 21, 5, 21, 4, 162, 0, 110, 3, 54, 6, 43, 42, 21, 5, 46]
abbrev dktL_law_8 : List UInt8 := dkwL_law_8 ++ dktL_law_9
def dkwL_law_7 : List UInt8 := [182, 0, 10, 21, 7, 161, 0, 16, 43, 42, 21, 5, 46, 182, 0, 10, 21, 8, 162, 0, 5, 3, 172]
abbrev dktL_law_7 : List UInt8 := dkwL_law_7 ++ dktL_law_8
def dkwL_law_6 : List UInt8 := [54, 7, 43, 42, 21, 5, 46, 182, 0, 10, 54, 8, 43, 42, 21, 5, 46, 182, 0, 14, 43, 21, 6]
abbrev dktL_law_6 : List UInt8 := dkwL_law_6 ++ dktL_law_7
def dkwL_law_5 : List UInt8 := [162, 0, 75, 42, 21, 5, 16, 7, 104, 6, 96, 21, 4, 112, 46, 54, 6, 43, 21, 6, 182, 0, 10]
abbrev dktL_law_5 : List UInt8 := dkwL_law_5 ++ dktL_law_6
def dkwL_law_4 : List UInt8 := [190, 16, 64, 162, 0, 8, 42, 190, 167, 0, 5, 16, 64, 54, 4, 3, 54, 5, 21, 5, 21, 4]
abbrev dktL_law_4 : List UInt8 := dkwL_law_4 ++ dktL_law_5
def dkwL_law_3 : List UInt8 := [16, 15, 162, 0, 8, 21, 4, 167, 0, 5, 16, 15, 159, 0, 5, 3, 172, 132, 4, 1, 167, 255, 217, 42]
abbrev dktL_law_3 : List UInt8 := dkwL_law_3 ++ dktL_law_4
def dkwL_law_2 : List UInt8 := [172, 4, 54, 4, 21, 4, 16, 16, 163, 0, 38, 44, 29, 182, 0, 14, 44, 29, 182, 0, 10, 21, 4]
abbrev dktL_law_2 : List UInt8 := dkwL_law_2 ++ dktL_law_3
def dkwL_law_1 : List UInt8 := [167, 0, 4, 3, 62, 44, 29, 182, 0, 10, 154, 0, 13, 44, 29, 2, 130, 182, 0, 10, 153, 0, 5, 3]
abbrev dktL_law_1 : List UInt8 := dkwL_law_1 ++ dktL_law_2
def dkwL_law_0 : List UInt8 := [187, 0, 7, 89, 183, 0, 9, 76, 187, 0, 7, 89, 183, 0, 9, 77, 42, 190, 158, 0, 9, 42, 3, 46]
abbrev dktL_law_0 : List UInt8 := dkwL_law_0 ++ dktL_law_1
theorem dksL_law_0 : cL_law.data.toList.drop 0 = dktL_law_0 := by decide +kernel
theorem dksL_law_1 : cL_law.data.toList.drop 24 = dktL_law_1 := dk_seg dksL_law_0 24 rfl rfl
theorem dksL_law_2 : cL_law.data.toList.drop 48 = dktL_law_2 := dk_seg dksL_law_1 24 rfl rfl
theorem dksL_law_3 : cL_law.data.toList.drop 71 = dktL_law_3 := dk_seg dksL_law_2 23 rfl rfl
theorem dksL_law_4 : cL_law.data.toList.drop 95 = dktL_law_4 := dk_seg dksL_law_3 24 rfl rfl
theorem dksL_law_5 : cL_law.data.toList.drop 117 = dktL_law_5 := dk_seg dksL_law_4 22 rfl rfl
theorem dksL_law_6 : cL_law.data.toList.drop 140 = dktL_law_6 := dk_seg dksL_law_5 23 rfl rfl
theorem dksL_law_7 : cL_law.data.toList.drop 163 = dktL_law_7 := dk_seg dksL_law_6 23 rfl rfl
theorem dksL_law_8 : cL_law.data.toList.drop 186 = dktL_law_8 := dk_seg dksL_law_7 23 rfl rfl
theorem dksL_law_9 : cL_law.data.toList.drop 210 = dktL_law_9 := dk_seg dksL_law_8 24 rfl rfl
theorem dksL_law_10 : cL_law.data.toList.drop 233 = dktL_law_10 := dk_seg dksL_law_9 23 rfl rfl
theorem dksL_law_11 : cL_law.data.toList.drop 256 = dktL_law_11 := dk_seg dksL_law_10 23 rfl rfl
theorem dksL_law_12 : cL_law.data.toList.drop 280 = dktL_law_12 := dk_seg dksL_law_11 24 rfl rfl
theorem dksL_law_13 : cL_law.data.toList.drop 303 = dktL_law_13 := dk_seg dksL_law_12 23 rfl rfl
theorem dksL_law_14 : cL_law.data.toList.drop 327 = dktL_law_14 := dk_seg dksL_law_13 24 rfl rfl
theorem dL_law_0 : decode cL_law 0 = .ok (.new 7, 3) := dk_187 0 7 (dk_at dksL_law_0 0 rfl rfl)
theorem dL_law_3 : decode cL_law 3 = .ok (.dup, 1) := dk_89 (dk_at dksL_law_0 3 rfl rfl)
theorem dL_law_4 : decode cL_law 4 = .ok (.invokespecial 9, 3) := dk_183 0 9 (dk_at dksL_law_0 4 rfl rfl)
theorem dL_law_7 : decode cL_law 7 = .ok (.astore_n 1, 1) := dk_76 (dk_at dksL_law_0 7 rfl rfl)
theorem dL_law_8 : decode cL_law 8 = .ok (.new 7, 3) := dk_187 0 7 (dk_at dksL_law_0 8 rfl rfl)
theorem dL_law_11 : decode cL_law 11 = .ok (.dup, 1) := dk_89 (dk_at dksL_law_0 11 rfl rfl)
theorem dL_law_12 : decode cL_law 12 = .ok (.invokespecial 9, 3) := dk_183 0 9 (dk_at dksL_law_0 12 rfl rfl)
theorem dL_law_15 : decode cL_law 15 = .ok (.astore_n 2, 1) := dk_77 (dk_at dksL_law_0 15 rfl rfl)
theorem dL_law_16 : decode cL_law 16 = .ok (.aload_n 0, 1) := dk_42 (dk_at dksL_law_0 16 rfl rfl)
theorem dL_law_17 : decode cL_law 17 = .ok (.arraylength, 1) := dk_190 (dk_at dksL_law_0 17 rfl rfl)
theorem dL_law_18 : decode cL_law 18 = .ok (.ifCond .le 9, 3) := dk_158 0 9 (dk_at dksL_law_0 18 rfl rfl)
theorem dL_law_21 : decode cL_law 21 = .ok (.aload_n 0, 1) := dk_42 (dk_at dksL_law_0 21 rfl rfl)
theorem dL_law_22 : decode cL_law 22 = .ok (.iconst 0, 1) := dk_3 (dk_at dksL_law_0 22 rfl rfl)
theorem dL_law_23 : decode cL_law 23 = .ok (.iaload, 1) := dk_46 (dk_at dksL_law_0 23 rfl rfl)
theorem dL_law_24 : decode cL_law 24 = .ok (.goto 4, 3) := dk_167 0 4 (dk_at dksL_law_1 0 rfl rfl)
theorem dL_law_27 : decode cL_law 27 = .ok (.iconst 0, 1) := dk_3 (dk_at dksL_law_1 3 rfl rfl)
theorem dL_law_28 : decode cL_law 28 = .ok (.istore_n 3, 1) := dk_62 (dk_at dksL_law_1 4 rfl rfl)
theorem dL_law_29 : decode cL_law 29 = .ok (.aload_n 2, 1) := dk_44 (dk_at dksL_law_1 5 rfl rfl)
theorem dL_law_30 : decode cL_law 30 = .ok (.iload_n 3, 1) := dk_29 (dk_at dksL_law_1 6 rfl rfl)
theorem dL_law_31 : decode cL_law 31 = .ok (.invokevirtual 10, 3) := dk_182 0 10 (dk_at dksL_law_1 7 rfl rfl)
theorem dL_law_34 : decode cL_law 34 = .ok (.ifCond .ne 13, 3) := dk_154 0 13 (dk_at dksL_law_1 10 rfl rfl)
theorem dL_law_37 : decode cL_law 37 = .ok (.aload_n 2, 1) := dk_44 (dk_at dksL_law_1 13 rfl rfl)
theorem dL_law_38 : decode cL_law 38 = .ok (.iload_n 3, 1) := dk_29 (dk_at dksL_law_1 14 rfl rfl)
theorem dL_law_39 : decode cL_law 39 = .ok (.iconst (-1), 1) := dk_2 (dk_at dksL_law_1 15 rfl rfl)
theorem dL_law_40 : decode cL_law 40 = .ok (.ixor, 1) := dk_130 (dk_at dksL_law_1 16 rfl rfl)
theorem dL_law_41 : decode cL_law 41 = .ok (.invokevirtual 10, 3) := dk_182 0 10 (dk_at dksL_law_1 17 rfl rfl)
theorem dL_law_44 : decode cL_law 44 = .ok (.ifCond .eq 5, 3) := dk_153 0 5 (dk_at dksL_law_1 20 rfl rfl)
theorem dL_law_47 : decode cL_law 47 = .ok (.iconst 0, 1) := dk_3 (dk_at dksL_law_1 23 rfl rfl)
theorem dL_law_48 : decode cL_law 48 = .ok (.ireturn, 1) := dk_172 (dk_at dksL_law_2 0 rfl rfl)
theorem dL_law_49 : decode cL_law 49 = .ok (.iconst 1, 1) := dk_4 (dk_at dksL_law_2 1 rfl rfl)
theorem dL_law_50 : decode cL_law 50 = .ok (.istore 4, 2) := dk_54 4 (dk_at dksL_law_2 2 rfl rfl)
theorem dL_law_52 : decode cL_law 52 = .ok (.iload 4, 2) := dk_21 4 (dk_at dksL_law_2 4 rfl rfl)
theorem dL_law_54 : decode cL_law 54 = .ok (.bipush 16, 2) := dk_16 16 (dk_at dksL_law_2 6 rfl rfl)
theorem dL_law_56 : decode cL_law 56 = .ok (.if_icmp .gt 38, 3) := dk_163 0 38 (dk_at dksL_law_2 8 rfl rfl)
theorem dL_law_59 : decode cL_law 59 = .ok (.aload_n 2, 1) := dk_44 (dk_at dksL_law_2 11 rfl rfl)
theorem dL_law_60 : decode cL_law 60 = .ok (.iload_n 3, 1) := dk_29 (dk_at dksL_law_2 12 rfl rfl)
theorem dL_law_61 : decode cL_law 61 = .ok (.invokevirtual 14, 3) := dk_182 0 14 (dk_at dksL_law_2 13 rfl rfl)
theorem dL_law_64 : decode cL_law 64 = .ok (.aload_n 2, 1) := dk_44 (dk_at dksL_law_2 16 rfl rfl)
theorem dL_law_65 : decode cL_law 65 = .ok (.iload_n 3, 1) := dk_29 (dk_at dksL_law_2 17 rfl rfl)
theorem dL_law_66 : decode cL_law 66 = .ok (.invokevirtual 10, 3) := dk_182 0 10 (dk_at dksL_law_2 18 rfl rfl)
theorem dL_law_69 : decode cL_law 69 = .ok (.iload 4, 2) := dk_21 4 (dk_at dksL_law_2 21 rfl rfl)
theorem dL_law_71 : decode cL_law 71 = .ok (.bipush 15, 2) := dk_16 15 (dk_at dksL_law_3 0 rfl rfl)
theorem dL_law_73 : decode cL_law 73 = .ok (.if_icmp .ge 8, 3) := dk_162 0 8 (dk_at dksL_law_3 2 rfl rfl)
theorem dL_law_76 : decode cL_law 76 = .ok (.iload 4, 2) := dk_21 4 (dk_at dksL_law_3 5 rfl rfl)
theorem dL_law_78 : decode cL_law 78 = .ok (.goto 5, 3) := dk_167 0 5 (dk_at dksL_law_3 7 rfl rfl)
theorem dL_law_81 : decode cL_law 81 = .ok (.bipush 15, 2) := dk_16 15 (dk_at dksL_law_3 10 rfl rfl)
theorem dL_law_83 : decode cL_law 83 = .ok (.if_icmp .eq 5, 3) := dk_159 0 5 (dk_at dksL_law_3 12 rfl rfl)
theorem dL_law_86 : decode cL_law 86 = .ok (.iconst 0, 1) := dk_3 (dk_at dksL_law_3 15 rfl rfl)
theorem dL_law_87 : decode cL_law 87 = .ok (.ireturn, 1) := dk_172 (dk_at dksL_law_3 16 rfl rfl)
theorem dL_law_88 : decode cL_law 88 = .ok (.iinc 4 1, 3) := dk_132 4 1 (dk_at dksL_law_3 17 rfl rfl)
theorem dL_law_91 : decode cL_law 91 = .ok (.goto (-39), 3) := dk_167 255 217 (dk_at dksL_law_3 20 rfl rfl)
theorem dL_law_94 : decode cL_law 94 = .ok (.aload_n 0, 1) := dk_42 (dk_at dksL_law_3 23 rfl rfl)
theorem dL_law_95 : decode cL_law 95 = .ok (.arraylength, 1) := dk_190 (dk_at dksL_law_4 0 rfl rfl)
theorem dL_law_96 : decode cL_law 96 = .ok (.bipush 64, 2) := dk_16 64 (dk_at dksL_law_4 1 rfl rfl)
theorem dL_law_98 : decode cL_law 98 = .ok (.if_icmp .ge 8, 3) := dk_162 0 8 (dk_at dksL_law_4 3 rfl rfl)
theorem dL_law_101 : decode cL_law 101 = .ok (.aload_n 0, 1) := dk_42 (dk_at dksL_law_4 6 rfl rfl)
theorem dL_law_102 : decode cL_law 102 = .ok (.arraylength, 1) := dk_190 (dk_at dksL_law_4 7 rfl rfl)
theorem dL_law_103 : decode cL_law 103 = .ok (.goto 5, 3) := dk_167 0 5 (dk_at dksL_law_4 8 rfl rfl)
theorem dL_law_106 : decode cL_law 106 = .ok (.bipush 64, 2) := dk_16 64 (dk_at dksL_law_4 11 rfl rfl)
theorem dL_law_108 : decode cL_law 108 = .ok (.istore 4, 2) := dk_54 4 (dk_at dksL_law_4 13 rfl rfl)
theorem dL_law_110 : decode cL_law 110 = .ok (.iconst 0, 1) := dk_3 (dk_at dksL_law_4 15 rfl rfl)
theorem dL_law_111 : decode cL_law 111 = .ok (.istore 5, 2) := dk_54 5 (dk_at dksL_law_4 16 rfl rfl)
theorem dL_law_113 : decode cL_law 113 = .ok (.iload 5, 2) := dk_21 5 (dk_at dksL_law_4 18 rfl rfl)
theorem dL_law_115 : decode cL_law 115 = .ok (.iload 4, 2) := dk_21 4 (dk_at dksL_law_4 20 rfl rfl)
theorem dL_law_117 : decode cL_law 117 = .ok (.if_icmp .ge 75, 3) := dk_162 0 75 (dk_at dksL_law_5 0 rfl rfl)
theorem dL_law_120 : decode cL_law 120 = .ok (.aload_n 0, 1) := dk_42 (dk_at dksL_law_5 3 rfl rfl)
theorem dL_law_121 : decode cL_law 121 = .ok (.iload 5, 2) := dk_21 5 (dk_at dksL_law_5 4 rfl rfl)
theorem dL_law_123 : decode cL_law 123 = .ok (.bipush 7, 2) := dk_16 7 (dk_at dksL_law_5 6 rfl rfl)
theorem dL_law_125 : decode cL_law 125 = .ok (.imul, 1) := dk_104 (dk_at dksL_law_5 8 rfl rfl)
theorem dL_law_126 : decode cL_law 126 = .ok (.iconst 3, 1) := dk_6 (dk_at dksL_law_5 9 rfl rfl)
theorem dL_law_127 : decode cL_law 127 = .ok (.iadd, 1) := dk_96 (dk_at dksL_law_5 10 rfl rfl)
theorem dL_law_128 : decode cL_law 128 = .ok (.iload 4, 2) := dk_21 4 (dk_at dksL_law_5 11 rfl rfl)
theorem dL_law_130 : decode cL_law 130 = .ok (.irem, 1) := dk_112 (dk_at dksL_law_5 13 rfl rfl)
theorem dL_law_131 : decode cL_law 131 = .ok (.iaload, 1) := dk_46 (dk_at dksL_law_5 14 rfl rfl)
theorem dL_law_132 : decode cL_law 132 = .ok (.istore 6, 2) := dk_54 6 (dk_at dksL_law_5 15 rfl rfl)
theorem dL_law_134 : decode cL_law 134 = .ok (.aload_n 1, 1) := dk_43 (dk_at dksL_law_5 17 rfl rfl)
theorem dL_law_135 : decode cL_law 135 = .ok (.iload 6, 2) := dk_21 6 (dk_at dksL_law_5 18 rfl rfl)
theorem dL_law_137 : decode cL_law 137 = .ok (.invokevirtual 10, 3) := dk_182 0 10 (dk_at dksL_law_5 20 rfl rfl)
theorem dL_law_140 : decode cL_law 140 = .ok (.istore 7, 2) := dk_54 7 (dk_at dksL_law_6 0 rfl rfl)
theorem dL_law_142 : decode cL_law 142 = .ok (.aload_n 1, 1) := dk_43 (dk_at dksL_law_6 2 rfl rfl)
theorem dL_law_143 : decode cL_law 143 = .ok (.aload_n 0, 1) := dk_42 (dk_at dksL_law_6 3 rfl rfl)
theorem dL_law_144 : decode cL_law 144 = .ok (.iload 5, 2) := dk_21 5 (dk_at dksL_law_6 4 rfl rfl)
theorem dL_law_146 : decode cL_law 146 = .ok (.iaload, 1) := dk_46 (dk_at dksL_law_6 6 rfl rfl)
theorem dL_law_147 : decode cL_law 147 = .ok (.invokevirtual 10, 3) := dk_182 0 10 (dk_at dksL_law_6 7 rfl rfl)
theorem dL_law_150 : decode cL_law 150 = .ok (.istore 8, 2) := dk_54 8 (dk_at dksL_law_6 10 rfl rfl)
theorem dL_law_152 : decode cL_law 152 = .ok (.aload_n 1, 1) := dk_43 (dk_at dksL_law_6 12 rfl rfl)
theorem dL_law_153 : decode cL_law 153 = .ok (.aload_n 0, 1) := dk_42 (dk_at dksL_law_6 13 rfl rfl)
theorem dL_law_154 : decode cL_law 154 = .ok (.iload 5, 2) := dk_21 5 (dk_at dksL_law_6 14 rfl rfl)
theorem dL_law_156 : decode cL_law 156 = .ok (.iaload, 1) := dk_46 (dk_at dksL_law_6 16 rfl rfl)
theorem dL_law_157 : decode cL_law 157 = .ok (.invokevirtual 14, 3) := dk_182 0 14 (dk_at dksL_law_6 17 rfl rfl)
theorem dL_law_160 : decode cL_law 160 = .ok (.aload_n 1, 1) := dk_43 (dk_at dksL_law_6 20 rfl rfl)
theorem dL_law_161 : decode cL_law 161 = .ok (.iload 6, 2) := dk_21 6 (dk_at dksL_law_6 21 rfl rfl)
theorem dL_law_163 : decode cL_law 163 = .ok (.invokevirtual 10, 3) := dk_182 0 10 (dk_at dksL_law_7 0 rfl rfl)
theorem dL_law_166 : decode cL_law 166 = .ok (.iload 7, 2) := dk_21 7 (dk_at dksL_law_7 3 rfl rfl)
theorem dL_law_168 : decode cL_law 168 = .ok (.if_icmp .lt 16, 3) := dk_161 0 16 (dk_at dksL_law_7 5 rfl rfl)
theorem dL_law_171 : decode cL_law 171 = .ok (.aload_n 1, 1) := dk_43 (dk_at dksL_law_7 8 rfl rfl)
theorem dL_law_172 : decode cL_law 172 = .ok (.aload_n 0, 1) := dk_42 (dk_at dksL_law_7 9 rfl rfl)
theorem dL_law_173 : decode cL_law 173 = .ok (.iload 5, 2) := dk_21 5 (dk_at dksL_law_7 10 rfl rfl)
theorem dL_law_175 : decode cL_law 175 = .ok (.iaload, 1) := dk_46 (dk_at dksL_law_7 12 rfl rfl)
theorem dL_law_176 : decode cL_law 176 = .ok (.invokevirtual 10, 3) := dk_182 0 10 (dk_at dksL_law_7 13 rfl rfl)
theorem dL_law_179 : decode cL_law 179 = .ok (.iload 8, 2) := dk_21 8 (dk_at dksL_law_7 16 rfl rfl)
theorem dL_law_181 : decode cL_law 181 = .ok (.if_icmp .ge 5, 3) := dk_162 0 5 (dk_at dksL_law_7 18 rfl rfl)
theorem dL_law_184 : decode cL_law 184 = .ok (.iconst 0, 1) := dk_3 (dk_at dksL_law_7 21 rfl rfl)
theorem dL_law_185 : decode cL_law 185 = .ok (.ireturn, 1) := dk_172 (dk_at dksL_law_7 22 rfl rfl)
theorem dL_law_186 : decode cL_law 186 = .ok (.iinc 5 1, 3) := dk_132 5 1 (dk_at dksL_law_8 0 rfl rfl)
theorem dL_law_189 : decode cL_law 189 = .ok (.goto (-76), 3) := dk_167 255 180 (dk_at dksL_law_8 3 rfl rfl)
theorem dL_law_192 : decode cL_law 192 = .ok (.iconst 0, 1) := dk_3 (dk_at dksL_law_8 6 rfl rfl)
theorem dL_law_193 : decode cL_law 193 = .ok (.istore 5, 2) := dk_54 5 (dk_at dksL_law_8 7 rfl rfl)
theorem dL_law_195 : decode cL_law 195 = .ok (.iload 5, 2) := dk_21 5 (dk_at dksL_law_8 9 rfl rfl)
theorem dL_law_197 : decode cL_law 197 = .ok (.iload 4, 2) := dk_21 4 (dk_at dksL_law_8 11 rfl rfl)
theorem dL_law_199 : decode cL_law 199 = .ok (.if_icmp .ge 110, 3) := dk_162 0 110 (dk_at dksL_law_8 13 rfl rfl)
theorem dL_law_202 : decode cL_law 202 = .ok (.iconst 0, 1) := dk_3 (dk_at dksL_law_8 16 rfl rfl)
theorem dL_law_203 : decode cL_law 203 = .ok (.istore 6, 2) := dk_54 6 (dk_at dksL_law_8 17 rfl rfl)
theorem dL_law_205 : decode cL_law 205 = .ok (.aload_n 1, 1) := dk_43 (dk_at dksL_law_8 19 rfl rfl)
theorem dL_law_206 : decode cL_law 206 = .ok (.aload_n 0, 1) := dk_42 (dk_at dksL_law_8 20 rfl rfl)
theorem dL_law_207 : decode cL_law 207 = .ok (.iload 5, 2) := dk_21 5 (dk_at dksL_law_8 21 rfl rfl)
theorem dL_law_209 : decode cL_law 209 = .ok (.iaload, 1) := dk_46 (dk_at dksL_law_8 23 rfl rfl)
theorem dL_law_210 : decode cL_law 210 = .ok (.invokevirtual 10, 3) := dk_182 0 10 (dk_at dksL_law_9 0 rfl rfl)
theorem dL_law_213 : decode cL_law 213 = .ok (.istore 7, 2) := dk_54 7 (dk_at dksL_law_9 3 rfl rfl)
theorem dL_law_215 : decode cL_law 215 = .ok (.iconst 0, 1) := dk_3 (dk_at dksL_law_9 5 rfl rfl)
theorem dL_law_216 : decode cL_law 216 = .ok (.istore 8, 2) := dk_54 8 (dk_at dksL_law_9 6 rfl rfl)
theorem dL_law_218 : decode cL_law 218 = .ok (.iload 8, 2) := dk_21 8 (dk_at dksL_law_9 8 rfl rfl)
theorem dL_law_220 : decode cL_law 220 = .ok (.iload 4, 2) := dk_21 4 (dk_at dksL_law_9 10 rfl rfl)
theorem dL_law_222 : decode cL_law 222 = .ok (.if_icmp .ge 23, 3) := dk_162 0 23 (dk_at dksL_law_9 12 rfl rfl)
theorem dL_law_225 : decode cL_law 225 = .ok (.aload_n 0, 1) := dk_42 (dk_at dksL_law_9 15 rfl rfl)
theorem dL_law_226 : decode cL_law 226 = .ok (.iload 8, 2) := dk_21 8 (dk_at dksL_law_9 16 rfl rfl)
theorem dL_law_228 : decode cL_law 228 = .ok (.iaload, 1) := dk_46 (dk_at dksL_law_9 18 rfl rfl)
theorem dL_law_229 : decode cL_law 229 = .ok (.aload_n 0, 1) := dk_42 (dk_at dksL_law_9 19 rfl rfl)
theorem dL_law_230 : decode cL_law 230 = .ok (.iload 5, 2) := dk_21 5 (dk_at dksL_law_9 20 rfl rfl)
theorem dL_law_232 : decode cL_law 232 = .ok (.iaload, 1) := dk_46 (dk_at dksL_law_9 22 rfl rfl)
theorem dL_law_233 : decode cL_law 233 = .ok (.if_icmp .ne 6, 3) := dk_160 0 6 (dk_at dksL_law_10 0 rfl rfl)
theorem dL_law_236 : decode cL_law 236 = .ok (.iinc 6 1, 3) := dk_132 6 1 (dk_at dksL_law_10 3 rfl rfl)
theorem dL_law_239 : decode cL_law 239 = .ok (.iinc 8 1, 3) := dk_132 8 1 (dk_at dksL_law_10 6 rfl rfl)
theorem dL_law_242 : decode cL_law 242 = .ok (.goto (-24), 3) := dk_167 255 232 (dk_at dksL_law_10 9 rfl rfl)
theorem dL_law_245 : decode cL_law 245 = .ok (.iload 7, 2) := dk_21 7 (dk_at dksL_law_10 12 rfl rfl)
theorem dL_law_247 : decode cL_law 247 = .ok (.bipush 15, 2) := dk_16 15 (dk_at dksL_law_10 14 rfl rfl)
theorem dL_law_249 : decode cL_law 249 = .ok (.if_icmp .gt 22, 3) := dk_163 0 22 (dk_at dksL_law_10 16 rfl rfl)
theorem dL_law_252 : decode cL_law 252 = .ok (.iload 7, 2) := dk_21 7 (dk_at dksL_law_10 19 rfl rfl)
theorem dL_law_254 : decode cL_law 254 = .ok (.iload 6, 2) := dk_21 6 (dk_at dksL_law_10 21 rfl rfl)
theorem dL_law_256 : decode cL_law 256 = .ok (.bipush 15, 2) := dk_16 15 (dk_at dksL_law_11 0 rfl rfl)
theorem dL_law_258 : decode cL_law 258 = .ok (.if_icmp .ge 8, 3) := dk_162 0 8 (dk_at dksL_law_11 2 rfl rfl)
theorem dL_law_261 : decode cL_law 261 = .ok (.iload 6, 2) := dk_21 6 (dk_at dksL_law_11 5 rfl rfl)
theorem dL_law_263 : decode cL_law 263 = .ok (.goto 5, 3) := dk_167 0 5 (dk_at dksL_law_11 7 rfl rfl)
theorem dL_law_266 : decode cL_law 266 = .ok (.bipush 15, 2) := dk_16 15 (dk_at dksL_law_11 10 rfl rfl)
theorem dL_law_268 : decode cL_law 268 = .ok (.if_icmp .ge 5, 3) := dk_162 0 5 (dk_at dksL_law_11 12 rfl rfl)
theorem dL_law_271 : decode cL_law 271 = .ok (.iconst 0, 1) := dk_3 (dk_at dksL_law_11 15 rfl rfl)
theorem dL_law_272 : decode cL_law 272 = .ok (.ireturn, 1) := dk_172 (dk_at dksL_law_11 16 rfl rfl)
theorem dL_law_273 : decode cL_law 273 = .ok (.aload_n 1, 1) := dk_43 (dk_at dksL_law_11 17 rfl rfl)
theorem dL_law_274 : decode cL_law 274 = .ok (.aload_n 0, 1) := dk_42 (dk_at dksL_law_11 18 rfl rfl)
theorem dL_law_275 : decode cL_law 275 = .ok (.iload 5, 2) := dk_21 5 (dk_at dksL_law_11 19 rfl rfl)
theorem dL_law_277 : decode cL_law 277 = .ok (.iaload, 1) := dk_46 (dk_at dksL_law_11 21 rfl rfl)
theorem dL_law_278 : decode cL_law 278 = .ok (.iconst (-1), 1) := dk_2 (dk_at dksL_law_11 22 rfl rfl)
theorem dL_law_279 : decode cL_law 279 = .ok (.ixor, 1) := dk_130 (dk_at dksL_law_11 23 rfl rfl)
theorem dL_law_280 : decode cL_law 280 = .ok (.invokevirtual 10, 3) := dk_182 0 10 (dk_at dksL_law_12 0 rfl rfl)
theorem dL_law_283 : decode cL_law 283 = .ok (.ifCond .lt 18, 3) := dk_155 0 18 (dk_at dksL_law_12 3 rfl rfl)
theorem dL_law_286 : decode cL_law 286 = .ok (.aload_n 1, 1) := dk_43 (dk_at dksL_law_12 6 rfl rfl)
theorem dL_law_287 : decode cL_law 287 = .ok (.aload_n 0, 1) := dk_42 (dk_at dksL_law_12 7 rfl rfl)
theorem dL_law_288 : decode cL_law 288 = .ok (.iload 5, 2) := dk_21 5 (dk_at dksL_law_12 8 rfl rfl)
theorem dL_law_290 : decode cL_law 290 = .ok (.iaload, 1) := dk_46 (dk_at dksL_law_12 10 rfl rfl)
theorem dL_law_291 : decode cL_law 291 = .ok (.iconst (-1), 1) := dk_2 (dk_at dksL_law_12 11 rfl rfl)
theorem dL_law_292 : decode cL_law 292 = .ok (.ixor, 1) := dk_130 (dk_at dksL_law_12 12 rfl rfl)
theorem dL_law_293 : decode cL_law 293 = .ok (.invokevirtual 10, 3) := dk_182 0 10 (dk_at dksL_law_12 13 rfl rfl)
theorem dL_law_296 : decode cL_law 296 = .ok (.bipush 15, 2) := dk_16 15 (dk_at dksL_law_12 16 rfl rfl)
theorem dL_law_298 : decode cL_law 298 = .ok (.if_icmp .le 5, 3) := dk_164 0 5 (dk_at dksL_law_12 18 rfl rfl)
theorem dL_law_301 : decode cL_law 301 = .ok (.iconst 0, 1) := dk_3 (dk_at dksL_law_12 21 rfl rfl)
theorem dL_law_302 : decode cL_law 302 = .ok (.ireturn, 1) := dk_172 (dk_at dksL_law_12 22 rfl rfl)
theorem dL_law_303 : decode cL_law 303 = .ok (.iinc 5 1, 3) := dk_132 5 1 (dk_at dksL_law_13 0 rfl rfl)
theorem dL_law_306 : decode cL_law 306 = .ok (.goto (-111), 3) := dk_167 255 145 (dk_at dksL_law_13 3 rfl rfl)
theorem dL_law_309 : decode cL_law 309 = .ok (.aload_n 0, 1) := dk_42 (dk_at dksL_law_13 6 rfl rfl)
theorem dL_law_310 : decode cL_law 310 = .ok (.invokestatic 18, 3) := dk_184 0 18 (dk_at dksL_law_13 7 rfl rfl)
theorem dL_law_313 : decode cL_law 313 = .ok (.ifCond .eq 14, 3) := dk_153 0 14 (dk_at dksL_law_13 10 rfl rfl)
theorem dL_law_316 : decode cL_law 316 = .ok (.aload_n 0, 1) := dk_42 (dk_at dksL_law_13 13 rfl rfl)
theorem dL_law_317 : decode cL_law 317 = .ok (.invokestatic 24, 3) := dk_184 0 24 (dk_at dksL_law_13 14 rfl rfl)
theorem dL_law_320 : decode cL_law 320 = .ok (.ifCond .eq 7, 3) := dk_153 0 7 (dk_at dksL_law_13 17 rfl rfl)
theorem dL_law_323 : decode cL_law 323 = .ok (.iconst 1, 1) := dk_4 (dk_at dksL_law_13 20 rfl rfl)
theorem dL_law_324 : decode cL_law 324 = .ok (.goto 4, 3) := dk_167 0 4 (dk_at dksL_law_13 21 rfl rfl)
theorem dL_law_327 : decode cL_law 327 = .ok (.iconst 0, 1) := dk_3 (dk_at dksL_law_14 0 rfl rfl)
theorem dL_law_328 : decode cL_law 328 = .ok (.ireturn, 1) := dk_172 (dk_at dksL_law_14 1 rfl rfl)
end
section
/-! FAMILIES PASTED: longs by their bits (wb), drawers and counts (fb) -/
theorem wb_tb (n : Nat) : (lN n).toBitVec = BitVec.ofNat 64 n := rfl
theorem wb_inj {a b : Int64} (h : a.toBitVec = b.toBitVec) : a = b := Int64.toBitVec_inj.mp h
theorem wb_tn {n : Nat} (h : n < 2 ^ 64) : (lN n).toBitVec.toNat = n := by rw [wb_tb, BitVec.toNat_ofNat, Nat.mod_eq_of_lt h]
theorem wb_of (x : Int64) : ∃ n, n < 2 ^ 64 ∧ x = lN n := ⟨x.toBitVec.toNat, x.toBitVec.isLt, wb_inj (by rw [wb_tb]; simp)⟩
theorem wb_of32 (x : Int32) : ∃ n, n < 2 ^ 32 ∧ x = nI n := ⟨x.toBitVec.toNat, x.toBitVec.isLt, Int32.toBitVec_inj.mp (by show _ = BitVec.ofNat 32 _; simp)⟩
theorem wb_c : ∀ k, k < 64 → ((nI k).toInt64 &&& 63) = lN k := by decide +kernel
theorem wb_cu : ∀ k, k < 64 → ((nI k).toInt64.toUInt64 &&& Int64.toUInt64 63) = UInt64.ofNat k := by decide +kernel
theorem wb_sm : ∀ k, k < 64 → (BitVec.ofNat 64 k).smod 64 = BitVec.ofNat 64 k := by decide +kernel
theorem wb_pw {a b : Nat} (h : a ≤ b) : 2 ^ b = 2 ^ a * 2 ^ (b - a) := by rw [← Nat.pow_add]; congr 1; omega
theorem wb_lt2 {a b : Nat} (h : a < b) : 2 ^ a < 2 ^ b := Nat.pow_lt_pow_right (by decide) h
theorem wb_mod (n : Nat) : lN n = lN (n % 2 ^ 64) := wb_inj (by rw [wb_tb, wb_tb]; apply BitVec.eq_of_toNat_eq; rw [BitVec.toNat_ofNat, BitVec.toNat_ofNat, Nat.mod_mod])
theorem wb_shr {n k : Nat} (hn : n < 2 ^ 64) (hk : k < 64) : ((lN n).toUInt64 >>> ((nI k).toInt64.toUInt64 &&& Int64.toUInt64 63)).toInt64 = lN (n / 2 ^ k) := by
  rw [wb_cu k hk]
  apply wb_inj
  apply BitVec.eq_of_toNat_eq
  show ((lN n).toUInt64 >>> UInt64.ofNat k).toNat = (BitVec.ofNat 64 _).toNat
  have h1 : (UInt64.ofNat k).toNat = k := by
    show (BitVec.ofNat 64 k).toNat = k
    rw [BitVec.toNat_ofNat, Nat.mod_eq_of_lt (by omega)]
  have h2 : (lN n).toUInt64.toNat = n := wb_tn hn
  rw [UInt64.toNat_shiftRight, h1, h2, Nat.mod_eq_of_lt hk, Nat.shiftRight_eq_div_pow, BitVec.toNat_ofNat, Nat.mod_eq_of_lt (Nat.lt_of_le_of_lt (Nat.div_le_self _ _) hn)]
theorem wb_shl (n : Nat) {k : Nat} (hk : k < 64) : lN n <<< ((nI k).toInt64 &&& 63) = lN (n * 2 ^ k) := by
  rw [wb_c k hk]
  apply wb_inj
  rw [Int64.toBitVec_shiftLeft, wb_tb, wb_tb, wb_tb, wb_sm k hk]
  apply BitVec.eq_of_toNat_eq
  rw [BitVec.shiftLeft_eq', BitVec.toNat_shiftLeft, BitVec.toNat_ofNat, BitVec.toNat_ofNat, BitVec.toNat_ofNat, Nat.mod_eq_of_lt (show k < 2 ^ 64 by omega), Nat.shiftLeft_eq, Nat.mul_mod, Nat.mod_mod, ← Nat.mul_mod]
theorem wb_and {a b : Nat} (ha : a < 2 ^ 64) (hb : b < 2 ^ 64) : lN a &&& lN b = lN (a &&& b) := by
  apply wb_inj
  rw [Int64.toBitVec_and, wb_tb, wb_tb, wb_tb]
  apply BitVec.eq_of_toNat_eq
  rw [BitVec.toNat_and, BitVec.toNat_ofNat, BitVec.toNat_ofNat, BitVec.toNat_ofNat, Nat.mod_eq_of_lt ha, Nat.mod_eq_of_lt hb, Nat.mod_eq_of_lt (Nat.and_lt_two_pow _ hb)]
theorem wb_or {a b : Nat} (ha : a < 2 ^ 64) (hb : b < 2 ^ 64) : lN a ||| lN b = lN (a ||| b) := by
  apply wb_inj
  rw [Int64.toBitVec_or, wb_tb, wb_tb, wb_tb]
  apply BitVec.eq_of_toNat_eq
  rw [BitVec.toNat_or, BitVec.toNat_ofNat, BitVec.toNat_ofNat, BitVec.toNat_ofNat, Nat.mod_eq_of_lt ha, Nat.mod_eq_of_lt hb, Nat.mod_eq_of_lt (Nat.or_lt_two_pow ha hb)]
theorem wb_mask {n k : Nat} (hn : n < 2 ^ 64) (hk : k < 64) : lN n &&& lN (2 ^ k - 1) = lN (n % 2 ^ k) := by
  rw [wb_and hn (by have := wb_lt2 hk; omega), Nat.and_two_pow_sub_one_eq_mod]
theorem wb_a1 {n : Nat} (hn : n < 2 ^ 64) : lN n &&& 1 = lN (n % 2) := wb_mask (k := 1) hn (by decide)
theorem fb_holes : ∀ (m n : Nat) (f : Nat → Nat), (∀ i, i < n → f i < m) → (∀ i j, i < j → j < n → f i ≠ f j) → n ≤ m := by
  intro m
  induction m with
  | zero =>
    intro n f h1 _
    rcases Nat.eq_zero_or_pos n with h | h
    · omega
    · exact absurd (h1 0 h) (Nat.not_lt_zero _)
  | succ m ih =>
    intro n f h1 h2
    by_cases hx : ∃ i, i < n ∧ f i = m
    · obtain ⟨a, ha, hfa⟩ := hx
      have hg := ih (n - 1) (fun i => if i < a then f i else f (i + 1)) (by
        intro i hi
        by_cases q : i < a
        · simp only [if_pos q]
          have b1 := h1 i (by omega)
          have b2 := h2 i a q ha
          omega
        · simp only [if_neg q]
          have b1 := h1 (i + 1) (by omega)
          have b2 := h2 a (i + 1) (by omega) (by omega)
          omega) (by
        intro i j hij hj
        by_cases q : i < a
        · by_cases r : j < a
          · simp only [if_pos q, if_pos r]
            exact h2 i j hij (by omega)
          · simp only [if_pos q, if_neg r]
            exact h2 i (j + 1) (by omega) (by omega)
        · have r : ¬ j < a := by omega
          simp only [if_neg q, if_neg r]
          exact h2 (i + 1) (j + 1) (by omega) (by omega))
      omega
    · have hg := ih n f (fun i hi => by
        have b1 := h1 i hi
        have b2 : f i ≠ m := fun e => hx ⟨i, hi, e⟩
        omega) h2
      omega
def fb_ct (p : Nat → Bool) : Nat → Nat
  | 0 => 0
  | n + 1 => fb_ct p n + (if p n then 1 else 0)
theorem fb_ct_succ (p : Nat → Bool) (n : Nat) : fb_ct p (n + 1) = fb_ct p n + (if p n then 1 else 0) := rfl
theorem fb_ct_step (p : Nat → Bool) (m : Nat) : ∀ n, fb_ct p m ≤ fb_ct p (m + n)
  | 0 => Nat.le_refl _
  | n + 1 => by
    have h := fb_ct_step p m n
    show fb_ct p m ≤ fb_ct p (m + n + 1)
    rw [fb_ct_succ]
    omega
theorem fb_ct_mono (p : Nat → Bool) {m n : Nat} (h : m ≤ n) : fb_ct p m ≤ fb_ct p n := by
  have := fb_ct_step p m (n - m)
  rwa [Nat.add_sub_cancel' h] at this
theorem fb_ct_cong {p q : Nat → Bool} : ∀ {n : Nat}, (∀ k, k < n → p k = q k) → fb_ct p n = fb_ct q n
  | 0, _ => rfl
  | n + 1, h => by
    rw [fb_ct_succ, fb_ct_succ, fb_ct_cong (fun k hk => h k (by omega)), h n (by omega)]
theorem fb_ct_kth {p : Nat → Bool} {k : Nat} : ∀ {n : Nat}, k < fb_ct p n → ∃ i, i < n ∧ p i = true ∧ fb_ct p i = k
  | 0, h => absurd h (Nat.not_lt_zero k)
  | n + 1, h => by
    rcases Nat.lt_or_ge k (fb_ct p n) with q | q
    · obtain ⟨i, h1, h2⟩ := fb_ct_kth q
      exact ⟨i, by omega, h2⟩
    · rw [fb_ct_succ] at h
      cases hp : p n
      · simp [hp] at h; omega
      · simp [hp] at h
        exact ⟨n, by omega, hp, by omega⟩
theorem fb_ct_kth_one {p : Nat → Bool} {i j : Nat} (hi : p i = true) (hj : p j = true) (e : fb_ct p i = fb_ct p j) : i = j := by
  have key : ∀ a b : Nat, a < b → p a = true → fb_ct p a < fb_ct p b := by
    intro a b hab ha
    have h := fb_ct_mono p (show a + 1 ≤ b from hab)
    rw [fb_ct_succ, ha] at h
    simp at h
    omega
  rcases Nat.lt_trichotomy i j with q | q | q
  · have := key i j q hi; omega
  · exact q
  · have := key j i q hj; omega
/-! THE PLAIN LAW: a table of 256 longs, sixteen counters of four bits each; the hash -/
def usI (x n : Int32) : Int32 := (x.toUInt32 >>> (n.toUInt32 &&& Int32.toUInt32 31)).toInt32
def usL (x : Int64) (n : Int32) : Int64 := (x.toUInt64 >>> (n.toInt64.toUInt64 &&& Int64.toUInt64 63)).toInt64
def slL (x : Int64) (n : Int32) : Int64 := x <<< (n.toInt64 &&& 63)
def slI (x n : Int32) : Int32 := x <<< (n &&& 31)
def xsI (x n : Int32) : Int32 := x ^^^ usI x n
def hSpread (x : Int32) : Int32 := xsI (xsI (xsI x 17 * (-312814405)) 11 * (-1404298415)) 15
def hRehash (x : Int32) : Int32 := xsI (x * 830770091) 14
/-- an int, unsigned -/
def uI (x : Int32) : Nat := x.toBitVec.toNat
theorem uI_lt (x : Int32) : uI x < 2 ^ 32 := x.toBitVec.isLt
theorem uI_inj {x y : Int32} (h : uI x = uI y) : x = y := Int32.toBitVec_inj.mp (BitVec.eq_of_toNat_eq h)
theorem uI_us (x s : Int32) (k : Nat) (hs : ((s.toUInt32 &&& Int32.toUInt32 31).toBitVec % 32).toNat = k) : uI (usI x s) = uI x / 2 ^ k := pk_ushr x s k hs
theorem uI_xor (x y : Int32) : uI (x ^^^ y) = uI x ^^^ uI y := BitVec.toNat_xor x.toBitVec y.toBitVec
theorem uI_mul (x y : Int32) : uI (x * y) = uI x * uI y % 2 ^ 32 := BitVec.toNat_mul x.toBitVec y.toBitVec
/-! ===== the hash loses nothing ===== -/
theorem fz_bits {a b c d : Bool} (h : (a ^^ b) = (c ^^ d)) : (a ^^ c) = (b ^^ d) := by
  revert h; cases a <;> cases b <;> cases c <;> cases d <;> decide
theorem fz_l {a b c d : Bool} (h : (a ^^ b) = (c ^^ d)) (e : b = d) : a = c := by
  revert h e; cases a <;> cases b <;> cases c <;> cases d <;> decide
theorem fz_r {a b c d : Bool} (h : (a ^^ b) = (c ^^ d)) (e : a = c) : b = d := by
  revert h e; cases a <;> cases b <;> cases c <;> cases d <;> decide
theorem fz_zero {a b : Nat} (h : a ^^^ b = 0) : a = b := by
  apply Nat.eq_of_testBit_eq
  intro i
  have e := congrArg (fun t => Nat.testBit t i) h
  simp only [Nat.testBit_xor, Nat.zero_testBit] at e
  revert e
  cases a.testBit i <;> cases b.testBit i <;> decide
theorem fz_inj {a b n : Nat} (hn : 0 < n) (h : a ^^^ (a / 2 ^ n) = b ^^^ (b / 2 ^ n)) : a = b := by
  have h1 : a ^^^ b = (a ^^^ b) / 2 ^ n := by
    apply Nat.eq_of_testBit_eq
    intro i
    have e := congrArg (fun t => Nat.testBit t i) h
    simp only [Nat.testBit_xor, Nat.testBit_div_two_pow] at e ⊢
    exact fz_bits e
  apply fz_zero
  rcases Nat.eq_zero_or_pos (a ^^^ b) with z | z
  · exact z
  · have h2 : (a ^^^ b) / 2 ^ n < a ^^^ b := Nat.div_lt_self z (Nat.one_lt_two_pow (by omega))
    rw [← h1] at h2
    exact absurd h2 (Nat.lt_irrefl _)
theorem fz_xs (s : Int32) (k : Nat) (hk : 0 < k) (hs : ((s.toUInt32 &&& Int32.toUInt32 31).toBitVec % 32).toNat = k) {x y : Int32} (h : xsI x s = xsI y s) : x = y := by
  have e := congrArg uI h
  unfold xsI at e
  rw [uI_xor, uI_xor, uI_us x s k hs, uI_us y s k hs] at e
  exact uI_inj (fz_inj hk e)
theorem fz_mul (m i : Int32) (hm : m * i = 1) {x y : Int32} (h : x * m = y * m) : x = y := by
  have e := congrArg (fun t => t * i) h
  simp only [Int32.mul_assoc, hm, Int32.mul_one] at e
  exact e
theorem fz_spread {x y : Int32} (h : hSpread x = hSpread y) : x = y := by
  unfold hSpread at h
  have h1 := fz_xs 15 15 (by decide) (by decide +kernel) h
  have h2 := fz_mul (-1404298415) 1184763313 (by decide +kernel) h1
  have h3 := fz_xs 11 11 (by decide) (by decide +kernel) h2
  have h4 := fz_mul (-312814405) 2041073779 (by decide +kernel) h3
  exact fz_xs 17 17 (by decide) (by decide +kernel) h4
/-- the 32 bits out of which the counters' places are read -/
def cN (k : Int32) : Nat := uI (hSpread k * 830770091)
theorem cN_lt (k : Int32) : cN k < 2 ^ 32 := uI_lt _
theorem cN_inj {x y : Int32} (h : cN x = cN y) : x = y := fz_spread (fz_mul 830770091 850532099 (by decide +kernel) (uI_inj h))
def hN (k : Int32) : Nat := uI (hRehash (hSpread k))
theorem hN_eq (k : Int32) : hN k = cN k ^^^ cN k / 2 ^ 14 := by
  show uI (xsI (hSpread k * 830770091) 14) = _
  unfold xsI
  rw [uI_xor, uI_us _ 14 14 (by decide +kernel)]
  rfl
def kB (k : Int32) : Nat := uI (hSpread k) % 32
def kO (k : Int32) (j : Nat) : Nat := hN k / 2 ^ (8 * j) % 2
def kI (k : Int32) (j : Nat) : Nat := hN k / 2 ^ (8 * j) / 2 % 16
def kS (k : Int32) (j : Nat) : Nat := 8 * kB k + kO k j + 2 * j
theorem kB_lt (k : Int32) : kB k < 32 := Nat.mod_lt _ (by decide)
theorem kO_lt (k : Int32) (j : Nat) : kO k j < 2 := Nat.mod_lt _ (by decide)
theorem kI_lt (k : Int32) (j : Nat) : kI k j < 16 := Nat.mod_lt _ (by decide)
theorem kS_lt (k : Int32) {j : Nat} (hj : j < 4) : kS k j < 256 := by
  have h1 := kB_lt k
  have h2 := kO_lt k j
  unfold kS
  omega
theorem kS_ne (k : Int32) {a b : Nat} (h : a ≠ b) : kS k a ≠ kS k b := by
  have h1 := kO_lt k a
  have h2 := kO_lt k b
  unfold kS
  omega
end
section
/-! ===== two ints with the same places differ in one of eight bits ===== -/
def kSame (k d : Int32) : Prop := kB d = kB k ∧ ∀ j, j < 4 → kO d j = kO k j ∧ kI d j = kI k j
theorem kSame.symm {a b : Int32} (h : kSame a b) : kSame b a := ⟨h.1.symm, fun j hj => ⟨(h.2 j hj).1.symm, (h.2 j hj).2.symm⟩⟩
theorem kSame.trans {a b c : Int32} (h : kSame a b) (g : kSame b c) : kSame a c := ⟨g.1.trans h.1, fun j hj => ⟨(g.2 j hj).1.trans (h.2 j hj).1, (g.2 j hj).2.trans (h.2 j hj).2⟩⟩
theorem fz_fld {x y p w t : Nat} (h : x / 2 ^ p % 2 ^ w = y / 2 ^ p % 2 ^ w) (ht : t < w) : x.testBit (t + p) = y.testBit (t + p) := by
  have e := congrArg (fun z => Nat.testBit z t) h
  simp only [Nat.testBit_mod_two_pow, Nat.testBit_div_two_pow, ht, decide_true, Bool.true_and] at e
  exact e
theorem fz_high {c : Nat} (hc : c < 2 ^ 32) {i : Nat} (h : 32 ≤ i) : c.testBit i = false :=
  Nat.testBit_lt_two_pow (Nat.lt_of_lt_of_le hc (Nat.pow_le_pow_right (by decide) h))
theorem fz_32 {P : Nat → Prop} (e0 : P 0) (e1 : P 1) (e2 : P 2) (e3 : P 3) (e4 : P 4) (e5 : P 5) (e6 : P 6) (e7 : P 7) (e8 : P 8) (e9 : P 9) (e10 : P 10) (e11 : P 11) (e12 : P 12) (e13 : P 13) (e14 : P 14) (e15 : P 15) (e16 : P 16) (e17 : P 17) (e18 : P 18) (e19 : P 19) (e20 : P 20) (e21 : P 21) (e22 : P 22) (e23 : P 23) (e24 : P 24) (e25 : P 25) (e26 : P 26) (e27 : P 27) (e28 : P 28) (e29 : P 29) (e30 : P 30) (e31 : P 31) {i : Nat} (h : i < 32) : P i := by
  rcases Nat.lt_or_ge i 16 with h16 | h16
  · rcases Nat.lt_or_ge i 8 with h8 | h8
    · rcases Nat.lt_or_ge i 4 with h4 | h4
      · rcases Nat.lt_or_ge i 2 with h2 | h2
        · rcases Nat.lt_or_ge i 1 with h1 | h1
          · obtain rfl : i = 0 := by omega
            exact e0
          · obtain rfl : i = 1 := by omega
            exact e1
        · rcases Nat.lt_or_ge i 3 with h3 | h3
          · obtain rfl : i = 2 := by omega
            exact e2
          · obtain rfl : i = 3 := by omega
            exact e3
      · rcases Nat.lt_or_ge i 6 with h6 | h6
        · rcases Nat.lt_or_ge i 5 with h5 | h5
          · obtain rfl : i = 4 := by omega
            exact e4
          · obtain rfl : i = 5 := by omega
            exact e5
        · rcases Nat.lt_or_ge i 7 with h7 | h7
          · obtain rfl : i = 6 := by omega
            exact e6
          · obtain rfl : i = 7 := by omega
            exact e7
    · rcases Nat.lt_or_ge i 12 with h12 | h12
      · rcases Nat.lt_or_ge i 10 with h10 | h10
        · rcases Nat.lt_or_ge i 9 with h9 | h9
          · obtain rfl : i = 8 := by omega
            exact e8
          · obtain rfl : i = 9 := by omega
            exact e9
        · rcases Nat.lt_or_ge i 11 with h11 | h11
          · obtain rfl : i = 10 := by omega
            exact e10
          · obtain rfl : i = 11 := by omega
            exact e11
      · rcases Nat.lt_or_ge i 14 with h14 | h14
        · rcases Nat.lt_or_ge i 13 with h13 | h13
          · obtain rfl : i = 12 := by omega
            exact e12
          · obtain rfl : i = 13 := by omega
            exact e13
        · rcases Nat.lt_or_ge i 15 with h15 | h15
          · obtain rfl : i = 14 := by omega
            exact e14
          · obtain rfl : i = 15 := by omega
            exact e15
  · rcases Nat.lt_or_ge i 24 with h24 | h24
    · rcases Nat.lt_or_ge i 20 with h20 | h20
      · rcases Nat.lt_or_ge i 18 with h18 | h18
        · rcases Nat.lt_or_ge i 17 with h17 | h17
          · obtain rfl : i = 16 := by omega
            exact e16
          · obtain rfl : i = 17 := by omega
            exact e17
        · rcases Nat.lt_or_ge i 19 with h19 | h19
          · obtain rfl : i = 18 := by omega
            exact e18
          · obtain rfl : i = 19 := by omega
            exact e19
      · rcases Nat.lt_or_ge i 22 with h22 | h22
        · rcases Nat.lt_or_ge i 21 with h21 | h21
          · obtain rfl : i = 20 := by omega
            exact e20
          · obtain rfl : i = 21 := by omega
            exact e21
        · rcases Nat.lt_or_ge i 23 with h23 | h23
          · obtain rfl : i = 22 := by omega
            exact e22
          · obtain rfl : i = 23 := by omega
            exact e23
    · rcases Nat.lt_or_ge i 28 with h28 | h28
      · rcases Nat.lt_or_ge i 26 with h26 | h26
        · rcases Nat.lt_or_ge i 25 with h25 | h25
          · obtain rfl : i = 24 := by omega
            exact e24
          · obtain rfl : i = 25 := by omega
            exact e25
        · rcases Nat.lt_or_ge i 27 with h27 | h27
          · obtain rfl : i = 26 := by omega
            exact e26
          · obtain rfl : i = 27 := by omega
            exact e27
      · rcases Nat.lt_or_ge i 30 with h30 | h30
        · rcases Nat.lt_or_ge i 29 with h29 | h29
          · obtain rfl : i = 28 := by omega
            exact e28
          · obtain rfl : i = 29 := by omega
            exact e29
        · rcases Nat.lt_or_ge i 31 with h31 | h31
          · obtain rfl : i = 30 := by omega
            exact e30
          · obtain rfl : i = 31 := by omega
            exact e31
theorem fz_mod5 {x y : Nat} (e1 : x % 2 = y % 2) (e2 : x / 2 % 16 = y / 2 % 16) : x % 2 ^ 5 = y % 2 ^ 5 := by omega
theorem fz_mul5 (z : Nat) : z * 830770091 % 2 ^ 32 / 2 ^ 0 % 2 ^ 5 = z % 32 * 830770091 % 32 := by
  rw [show (2 : Nat) ^ 0 = 1 from rfl, Nat.div_one, Nat.mod_mod_of_dvd _ (Nat.pow_dvd_pow 2 (show 5 ≤ 32 by decide))]
  show z * 830770091 % 32 = z % 32 * 830770091 % 32
  rw [Nat.mul_mod, Nat.mul_mod (z % 32) 830770091, Nat.mod_mod]
theorem fz_digits (a1 a2 a3 a4 b1 b2 b3 b4 : Nat) (h1 : a1 < 2 ^ 3) (h2 : a2 < 2 ^ 1) (h3 : a3 < 2 ^ 3) (h4 : a4 < 2 ^ 1) (g1 : b1 < 2 ^ 3) (g2 : b2 < 2 ^ 1) (g3 : b3 < 2 ^ 3) (g4 : b4 < 2 ^ 1) (e : a1 + 8 * a2 + 16 * a3 + 128 * a4 = b1 + 8 * b2 + 16 * b3 + 128 * b4) : a1 = b1 ∧ a2 = b2 ∧ a3 = b3 ∧ a4 = b4 := by omega
theorem fz_key {c d : Nat} (hc : c < 2 ^ 32) (hd : d < 2 ^ 32) (h0 : c / 2 ^ 0 % 2 ^ 5 = d / 2 ^ 0 % 2 ^ 5)
    (hr : ∀ j, j < 4 → (c ^^^ c / 2 ^ 14) / 2 ^ (8 * j) % 2 ^ 5 = (d ^^^ d / 2 ^ 14) / 2 ^ (8 * j) % 2 ^ 5)
    (g5 : c / 2 ^ 5 % 2 ^ 3 = d / 2 ^ 5 % 2 ^ 3) (g13 : c / 2 ^ 13 % 2 ^ 1 = d / 2 ^ 13 % 2 ^ 1) (g21 : c / 2 ^ 21 % 2 ^ 3 = d / 2 ^ 21 % 2 ^ 3) (g29 : c / 2 ^ 29 % 2 ^ 1 = d / 2 ^ 29 % 2 ^ 1) : c = d := by
  have hi : ∀ i, 32 ≤ i → c.testBit i = d.testBit i := fun i h => by rw [fz_high hc h, fz_high hd h]
  have br : ∀ j t, j < 4 → t < 5 → (c.testBit (t + 8 * j) ^^ c.testBit (t + 8 * j + 14)) = (d.testBit (t + 8 * j) ^^ d.testBit (t + 8 * j + 14)) := by
    intro j t hj ht
    have e := fz_fld (hr j hj) ht
    simp only [Nat.testBit_xor, Nat.testBit_div_two_pow] at e
    exact e
  have e0 : c.testBit 0 = d.testBit 0 := fz_fld h0 (t := 0) (by decide)
  have e1 : c.testBit 1 = d.testBit 1 := fz_fld h0 (t := 1) (by decide)
  have e2 : c.testBit 2 = d.testBit 2 := fz_fld h0 (t := 2) (by decide)
  have e3 : c.testBit 3 = d.testBit 3 := fz_fld h0 (t := 3) (by decide)
  have e4 : c.testBit 4 = d.testBit 4 := fz_fld h0 (t := 4) (by decide)
  have e5 : c.testBit 5 = d.testBit 5 := fz_fld g5 (t := 0) (by decide)
  have e6 : c.testBit 6 = d.testBit 6 := fz_fld g5 (t := 1) (by decide)
  have e7 : c.testBit 7 = d.testBit 7 := fz_fld g5 (t := 2) (by decide)
  have e13 : c.testBit 13 = d.testBit 13 := fz_fld g13 (t := 0) (by decide)
  have e21 : c.testBit 21 = d.testBit 21 := fz_fld g21 (t := 0) (by decide)
  have e22 : c.testBit 22 = d.testBit 22 := fz_fld g21 (t := 1) (by decide)
  have e23 : c.testBit 23 = d.testBit 23 := fz_fld g21 (t := 2) (by decide)
  have e29 : c.testBit 29 = d.testBit 29 := fz_fld g29 (t := 0) (by decide)
  have e24 : c.testBit 24 = d.testBit 24 := fz_l (br 3 0 (by decide) (by decide)) (hi _ (by decide))
  have e25 : c.testBit 25 = d.testBit 25 := fz_l (br 3 1 (by decide) (by decide)) (hi _ (by decide))
  have e26 : c.testBit 26 = d.testBit 26 := fz_l (br 3 2 (by decide) (by decide)) (hi _ (by decide))
  have e27 : c.testBit 27 = d.testBit 27 := fz_l (br 3 3 (by decide) (by decide)) (hi _ (by decide))
  have e28 : c.testBit 28 = d.testBit 28 := fz_l (br 3 4 (by decide) (by decide)) (hi _ (by decide))
  have e18 : c.testBit 18 = d.testBit 18 := fz_l (br 2 2 (by decide) (by decide)) (hi _ (by decide))
  have e19 : c.testBit 19 = d.testBit 19 := fz_l (br 2 3 (by decide) (by decide)) (hi _ (by decide))
  have e20 : c.testBit 20 = d.testBit 20 := fz_l (br 2 4 (by decide) (by decide)) (hi _ (by decide))
  have e14 : c.testBit 14 = d.testBit 14 := fz_r (br 0 0 (by decide) (by decide)) e0
  have e15 : c.testBit 15 = d.testBit 15 := fz_r (br 0 1 (by decide) (by decide)) e1
  have e16 : c.testBit 16 = d.testBit 16 := fz_r (br 0 2 (by decide) (by decide)) e2
  have e17 : c.testBit 17 = d.testBit 17 := fz_r (br 0 3 (by decide) (by decide)) e3
  have e30 : c.testBit 30 = d.testBit 30 := fz_r (br 2 0 (by decide) (by decide)) e16
  have e31 : c.testBit 31 = d.testBit 31 := fz_r (br 2 1 (by decide) (by decide)) e17
  have e10 : c.testBit 10 = d.testBit 10 := fz_l (br 1 2 (by decide) (by decide)) e24
  have e11 : c.testBit 11 = d.testBit 11 := fz_l (br 1 3 (by decide) (by decide)) e25
  have e12 : c.testBit 12 = d.testBit 12 := fz_l (br 1 4 (by decide) (by decide)) e26
  have e8 : c.testBit 8 = d.testBit 8 := fz_l (br 1 0 (by decide) (by decide)) e22
  have e9 : c.testBit 9 = d.testBit 9 := fz_l (br 1 1 (by decide) (by decide)) e23
  apply Nat.eq_of_testBit_eq
  intro i
  rcases Nat.lt_or_ge i 32 with h | h
  · exact fz_32 (P := fun i => c.testBit i = d.testBit i) e0 e1 e2 e3 e4 e5 e6 e7 e8 e9 e10 e11 e12 e13 e14 e15 e16 e17 e18 e19 e20 e21 e22 e23 e24 e25 e26 e27 e28 e29 e30 e31 h
  · exact hi i h
def gK (c : Nat) : Nat := c / 2 ^ 5 % 2 ^ 3 + 8 * (c / 2 ^ 13 % 2 ^ 1) + 16 * (c / 2 ^ 21 % 2 ^ 3) + 128 * (c / 2 ^ 29 % 2 ^ 1)
theorem gK_lt (c : Nat) : gK c < 256 := by
  have h1 := Nat.mod_lt (c / 2 ^ 5) (show 0 < 2 ^ 3 by decide)
  have h2 := Nat.mod_lt (c / 2 ^ 13) (show 0 < 2 ^ 1 by decide)
  have h3 := Nat.mod_lt (c / 2 ^ 21) (show 0 < 2 ^ 3 by decide)
  have h4 := Nat.mod_lt (c / 2 ^ 29) (show 0 < 2 ^ 1 by decide)
  unfold gK
  generalize c / 2 ^ 5 % 2 ^ 3 = a1 at h1 ⊢
  generalize c / 2 ^ 13 % 2 ^ 1 = a2 at h2 ⊢
  generalize c / 2 ^ 21 % 2 ^ 3 = a3 at h3 ⊢
  generalize c / 2 ^ 29 % 2 ^ 1 = a4 at h4 ⊢
  omega
theorem fz_same {k d : Int32} (h : kSame k d) (hg : gK (cN d) = gK (cN k)) : d = k := by
  have hM : uI 830770091 = 830770091 := by decide +kernel
  have h0 : cN d / 2 ^ 0 % 2 ^ 5 = cN k / 2 ^ 0 % 2 ^ 5 := by
    have e := h.1
    unfold kB at e
    unfold cN
    rw [uI_mul, uI_mul, hM]
    generalize uI (hSpread d) = x at e ⊢
    generalize uI (hSpread k) = y at e ⊢
    rw [fz_mul5, fz_mul5, e]
  have hr : ∀ j, j < 4 → (cN d ^^^ cN d / 2 ^ 14) / 2 ^ (8 * j) % 2 ^ 5 = (cN k ^^^ cN k / 2 ^ 14) / 2 ^ (8 * j) % 2 ^ 5 := by
    intro j hj
    obtain ⟨e1, e2⟩ := h.2 j hj
    unfold kO at e1
    unfold kI at e2
    rw [← hN_eq, ← hN_eq]
    exact fz_mod5 e1 e2
  have c1 := Nat.mod_lt (cN d / 2 ^ 5) (show 0 < 2 ^ 3 by decide)
  have c2 := Nat.mod_lt (cN d / 2 ^ 13) (show 0 < 2 ^ 1 by decide)
  have c3 := Nat.mod_lt (cN d / 2 ^ 21) (show 0 < 2 ^ 3 by decide)
  have c4 := Nat.mod_lt (cN d / 2 ^ 29) (show 0 < 2 ^ 1 by decide)
  have d1 := Nat.mod_lt (cN k / 2 ^ 5) (show 0 < 2 ^ 3 by decide)
  have d2 := Nat.mod_lt (cN k / 2 ^ 13) (show 0 < 2 ^ 1 by decide)
  have d3 := Nat.mod_lt (cN k / 2 ^ 21) (show 0 < 2 ^ 3 by decide)
  have d4 := Nat.mod_lt (cN k / 2 ^ 29) (show 0 < 2 ^ 1 by decide)
  unfold gK at hg
  obtain ⟨k1, k2, k3, k4⟩ := fz_digits _ _ _ _ _ _ _ _ c1 c2 c3 c4 d1 d2 d3 d4 hg
  exact cN_inj (fz_key (cN_lt d) (cN_lt k) h0 hr k1 k2 k3 k4)
/-- of 1000 ints in a row at most 256 have the places of one -/
theorem fz_few (b : Int32) (p : Nat → Bool) (hp : ∀ i, i < 1000 → p i = true → kSame b (b + nI (i + 1))) : fb_ct p 1000 ≤ 256 := by
  have hch : ∀ k : Nat, ∃ i : Nat, k < fb_ct p 1000 → i < 1000 ∧ p i = true ∧ fb_ct p i = k := by
    intro k
    by_cases h : k < fb_ct p 1000
    · obtain ⟨i, h1⟩ := fb_ct_kth h
      exact ⟨i, fun _ => h1⟩
    · exact ⟨0, fun z => absurd z h⟩
  obtain ⟨ch, hc⟩ := Classical.axiomOfChoice hch
  refine fb_holes 256 (fb_ct p 1000) (fun k => gK (cN (b + nI (ch k + 1)))) (fun i _ => gK_lt _) ?_
  intro i j hij hj e
  have hi : i < fb_ct p 1000 := Nat.lt_trans hij hj
  obtain ⟨a1, a2, a3⟩ := hc i hi
  obtain ⟨b1, b2, b3⟩ := hc j hj
  have s1 := hp _ a1 a2
  have s2 := hp _ b1 b2
  have q := fz_same (s2.symm.trans s1) e
  have q2 := (Int32.add_right_inj b).mp q
  have q3 := (nI_eq (show ch i + 1 < 2 ^ 31 by omega) (show ch j + 1 < 2 ^ 31 by omega)).mp q2
  have q4 : ch i = ch j := by omega
  rw [q4] at a3
  omega
end
section
/-! ===== the counters ===== -/
def cnt (f : Nat → Int64) (s i : Nat) : Nat := (f s).toBitVec.toNat / 2 ^ (4 * i) % 16
theorem cnt_lt (f : Nat → Int64) (s i : Nat) : cnt f s i < 16 := Nat.mod_lt _ (by decide)
theorem fz_and (V n : Nat) : V &&& (15 * 2 ^ n) = (V / 2 ^ n % 2 ^ 4) * 2 ^ n := by
  apply Nat.eq_of_testBit_eq
  intro b
  have h15 : Nat.testBit 15 (b - n) = decide (b - n < 4) := Nat.testBit_two_pow_sub_one 4 (b - n)
  rw [← Nat.shiftLeft_eq, ← Nat.shiftLeft_eq, Nat.testBit_and, Nat.testBit_shiftLeft, Nat.testBit_shiftLeft, Nat.testBit_mod_two_pow, Nat.testBit_div_two_pow, h15]
  by_cases hb : n ≤ b
  · have e1 : decide (b ≥ n) = true := decide_eq_true hb
    rw [Nat.sub_add_cancel hb, e1]
    cases V.testBit b <;> cases decide (b - n < 4) <;> rfl
  · have e1 : decide (b ≥ n) = false := decide_eq_false hb
    rw [e1]
    cases V.testBit b <;> rfl
theorem fz_sl : ∀ i, i < 16 → slI (nI i) 2 = nI (4 * i) := by decide +kernel
theorem fz_p60 {i : Nat} (hi : i < 16) : 2 ^ (4 * i) ≤ 2 ^ 60 := Nat.pow_le_pow_right (by decide) (by omega)
theorem fz_mask {i : Nat} (hi : i < 16) : slL 15 (slI (nI i) 2) = lN (15 * 2 ^ (4 * i)) := by
  rw [fz_sl i hi]
  exact wb_shl 15 (show 4 * i < 64 by omega)
theorem fz_one {i : Nat} (hi : i < 16) : slL 1 (slI (nI i) 2) = lN (2 ^ (4 * i)) := by
  rw [fz_sl i hi]
  have e := wb_shl 1 (show 4 * i < 64 by omega)
  rw [Nat.one_mul] at e
  exact e
theorem fz_cond (f : Nat → Int64) (s : Nat) {i : Nat} (hi : i < 16) : ((f s) &&& slL 15 (slI (nI i) 2)) = slL 15 (slI (nI i) 2) ↔ cnt f s i = 15 := by
  obtain ⟨V, hV, e⟩ := wb_of (f s)
  have hc : cnt f s i = V / 2 ^ (4 * i) % 2 ^ 4 := by
    unfold cnt
    rw [e, wb_tn hV]
  have hp := fz_p60 hi
  have hlt : 15 * 2 ^ (4 * i) < 2 ^ 64 := by
    generalize 2 ^ (4 * i) = P at hp ⊢
    omega
  rw [fz_mask hi, e, wb_and hV hlt, hc, fz_and]
  constructor
  · intro h
    have h2 := congrArg (fun x : Int64 => x.toBitVec.toNat) h
    have hle : V / 2 ^ (4 * i) % 2 ^ 4 * 2 ^ (4 * i) < 2 ^ 64 := by
      rw [← fz_and]
      exact Nat.and_lt_two_pow _ hlt
    have h3 : V / 2 ^ (4 * i) % 2 ^ 4 * 2 ^ (4 * i) = 15 * 2 ^ (4 * i) := by
      have e1 := wb_tn hle
      have e2 := wb_tn hlt
      exact e1.symm.trans (h2.trans e2)
    exact Nat.eq_of_mul_eq_mul_right (Nat.two_pow_pos _) h3
  · intro h
    rw [h]
theorem fz_dig {V i : Nat} (hV : V < 2 ^ 64) (hi : i < 16) (h : V / 2 ^ (4 * i) % 16 ≠ 15) : V + 2 ^ (4 * i) < 2 ^ 64 ∧ ∀ j, j < 16 → (V + 2 ^ (4 * i)) / 2 ^ (4 * j) % 16 = if j = i then V / 2 ^ (4 * i) % 16 + 1 else V / 2 ^ (4 * j) % 16 := by
  have hp : ∀ n : Nat, 0 < 2 ^ n := fun n => Nat.two_pow_pos n
  have sp : ∀ a b : Nat, a < b → 2 ^ (4 * b) = 2 ^ (4 * a) * (16 * 2 ^ (4 * (b - a - 1))) := by
    intro a b hab
    have e1 : 16 * 2 ^ (4 * (b - a - 1)) = 2 ^ (4 + 4 * (b - a - 1)) := by rw [Nat.pow_add]
    rw [e1, ← Nat.pow_add]
    congr 1
    omega
  have up : ∀ j, i < j → (V + 2 ^ (4 * i)) / 2 ^ (4 * j) = V / 2 ^ (4 * j) := by
    intro j hj
    have d1 : ∀ x : Nat, x / 2 ^ (4 * j) = x / 2 ^ (4 * i) / 16 / 2 ^ (4 * (j - i - 1)) := by
      intro x
      rw [sp i j hj, Nat.div_div_eq_div_mul, Nat.div_div_eq_div_mul]
    have e16 : (V / 2 ^ (4 * i) + 1) / 16 = V / 2 ^ (4 * i) / 16 := by
      generalize V / 2 ^ (4 * i) = q at h ⊢
      omega
    rw [d1, d1, Nat.add_div_right _ (hp _), e16]
  constructor
  · have t : (V + 2 ^ (4 * i)) / 2 ^ 64 = V / 2 ^ 64 := up 16 hi
    generalize 2 ^ (4 * i) = P at t ⊢
    omega
  · intro j hj
    rcases Nat.lt_trichotomy j i with z | z | z
    · rw [if_neg (by omega), sp j i z, Nat.add_mul_div_left _ _ (hp _), Nat.add_mul_mod_self_left]
    · subst z
      rw [if_pos rfl, Nat.add_div_right _ (hp _)]
      generalize V / 2 ^ (4 * j) = q at h ⊢
      omega
    · rw [if_neg (by omega), up j z]
theorem fz_put (f : Nat → Int64) (s : Nat) {i : Nat} (hi : i < 16) (h : cnt f s i ≠ 15) {j : Nat} (hj : j < 16) : (f s + slL 1 (slI (nI i) 2)).toBitVec.toNat / 2 ^ (4 * j) % 16 = if j = i then cnt f s i + 1 else cnt f s j := by
  obtain ⟨V, hV, e⟩ := wb_of (f s)
  have hc : ∀ t, cnt f s t = V / 2 ^ (4 * t) % 16 := fun t => by
    unfold cnt
    rw [e, wb_tn hV]
  rw [hc] at h
  obtain ⟨d1, d2⟩ := fz_dig hV hi h
  rw [e, fz_one hi, lN_add, wb_tn d1, d2 j hj, hc, hc]
/-- one counter counts -/
def atF (f : Nat → Int64) (s i : Nat) : Nat → Int64 := if cnt f s i = 15 then f else vp_updL f s (f s + slL 1 (slI (nI i) 2))
theorem cnt_at (f : Nat → Int64) (s : Nat) {i : Nat} (hi : i < 16) (t : Nat) {j : Nat} (hj : j < 16) : cnt (atF f s i) t j = if t = s ∧ j = i then min 15 (cnt f s i + 1) else cnt f t j := by
  have hl := cnt_lt f s i
  unfold atF
  by_cases h : cnt f s i = 15
  · rw [if_pos h]
    by_cases e : t = s ∧ j = i
    · rw [if_pos e, e.1, e.2]
      omega
    · rw [if_neg e]
  · rw [if_neg h]
    by_cases e : t = s
    · subst e
      have e0 : cnt (vp_updL f t (f t + slL 1 (slI (nI i) 2))) t j = (f t + slL 1 (slI (nI i) 2)).toBitVec.toNat / 2 ^ (4 * j) % 16 := by
        show (vp_updL f t (f t + slL 1 (slI (nI i) 2)) t).toBitVec.toNat / 2 ^ (4 * j) % 16 = _
        rw [pk_uLs]
      rw [e0, fz_put f t hi h hj]
      by_cases e2 : j = i
      · rw [if_pos e2, if_pos ⟨rfl, e2⟩]
        omega
      · rw [if_neg e2, if_neg (fun q => e2 q.2)]
    · rw [if_neg (fun q => e q.1)]
      show (vp_updL f s (f s + slL 1 (slI (nI i) 2)) t).toBitVec.toNat / 2 ^ (4 * j) % 16 = (f t).toBitVec.toNat / 2 ^ (4 * j) % 16
      rw [pk_uLn e]
theorem at_mono (f : Nat → Int64) (s : Nat) {i : Nat} (hi : i < 16) (t : Nat) {j : Nat} (hj : j < 16) : cnt f t j ≤ cnt (atF f s i) t j := by
  rw [cnt_at f s hi t hj]
  by_cases e : t = s ∧ j = i
  · have := cnt_lt f s i
    rw [if_pos e, e.1, e.2]
    omega
  · rw [if_neg e]
    exact Nat.le_refl _
end
section
/-- an int is counted: its four counters -/
def at0 (f : Nat → Int64) (k : Int32) : Nat → Int64 := atF f (kS k 0) (kI k 0)
def at1 (f : Nat → Int64) (k : Int32) : Nat → Int64 := atF (at0 f k) (kS k 1) (kI k 1)
def at2 (f : Nat → Int64) (k : Int32) : Nat → Int64 := atF (at1 f k) (kS k 2) (kI k 2)
def incF (f : Nat → Int64) (k : Int32) : Nat → Int64 := atF (at2 f k) (kS k 3) (kI k 3)
/-- what is told of an int -/
def tN (f : Nat → Int64) (k : Int32) : Nat := min (min (min (cnt f (kS k 0) (kI k 0)) (cnt f (kS k 1) (kI k 1))) (cnt f (kS k 2) (kI k 2))) (cnt f (kS k 3) (kI k 3))
theorem tN_le (f : Nat → Int64) (k : Int32) : tN f k ≤ 15 := by
  have := cnt_lt f (kS k 0) (kI k 0)
  unfold tN
  omega
theorem inc_mono (f : Nat → Int64) (k : Int32) (t : Nat) {j : Nat} (hj : j < 16) : cnt f t j ≤ cnt (incF f k) t j :=
  Nat.le_trans (at_mono f (kS k 0) (kI_lt k 0) t hj) (Nat.le_trans (at_mono (at0 f k) (kS k 1) (kI_lt k 1) t hj) (Nat.le_trans (at_mono (at1 f k) (kS k 2) (kI_lt k 2) t hj) (at_mono (at2 f k) (kS k 3) (kI_lt k 3) t hj)))
theorem mn_le {a b c d : Nat} (h : a ≤ c) (g : b ≤ d) : min a b ≤ min c d := by omega
theorem tN_mono (f : Nat → Int64) (k d : Int32) : tN f d ≤ tN (incF f k) d := by
  have h0 := inc_mono f k (kS d 0) (kI_lt d 0)
  have h1 := inc_mono f k (kS d 1) (kI_lt d 1)
  have h2 := inc_mono f k (kS d 2) (kI_lt d 2)
  have h3 := inc_mono f k (kS d 3) (kI_lt d 3)
  unfold tN
  exact mn_le (mn_le (mn_le h0 h1) h2) h3
theorem at_own (f : Nat → Int64) (k : Int32) (a : Nat) : cnt (atF f (kS k a) (kI k a)) (kS k a) (kI k a) = min 15 (cnt f (kS k a) (kI k a) + 1) := by
  rw [cnt_at f _ (kI_lt k a) _ (kI_lt k a), if_pos ⟨rfl, rfl⟩]
theorem at_other (f : Nat → Int64) (k : Int32) {a b : Nat} (h : b ≠ a) : cnt (atF f (kS k a) (kI k a)) (kS k b) (kI k b) = cnt f (kS k b) (kI k b) := by
  rw [cnt_at f _ (kI_lt k a) _ (kI_lt k b), if_neg (fun q => kS_ne k h q.1)]
theorem inc_own0 (f : Nat → Int64) (k : Int32) : cnt (incF f k) (kS k 0) (kI k 0) = min 15 (cnt f (kS k 0) (kI k 0) + 1) := by
  unfold incF
  rw [at_other (a := 3) (b := 0) _ k (by decide)]
  unfold at2
  rw [at_other (a := 2) (b := 0) _ k (by decide)]
  unfold at1
  rw [at_other (a := 1) (b := 0) _ k (by decide)]
  unfold at0
  rw [at_own]
theorem inc_own1 (f : Nat → Int64) (k : Int32) : cnt (incF f k) (kS k 1) (kI k 1) = min 15 (cnt f (kS k 1) (kI k 1) + 1) := by
  unfold incF
  rw [at_other (a := 3) (b := 1) _ k (by decide)]
  unfold at2
  rw [at_other (a := 2) (b := 1) _ k (by decide)]
  unfold at1
  rw [at_own]
  unfold at0
  rw [at_other (a := 0) (b := 1) _ k (by decide)]
theorem inc_own2 (f : Nat → Int64) (k : Int32) : cnt (incF f k) (kS k 2) (kI k 2) = min 15 (cnt f (kS k 2) (kI k 2) + 1) := by
  unfold incF
  rw [at_other (a := 3) (b := 2) _ k (by decide)]
  unfold at2
  rw [at_own]
  unfold at1
  rw [at_other (a := 1) (b := 2) _ k (by decide)]
  unfold at0
  rw [at_other (a := 0) (b := 2) _ k (by decide)]
theorem inc_own3 (f : Nat → Int64) (k : Int32) : cnt (incF f k) (kS k 3) (kI k 3) = min 15 (cnt f (kS k 3) (kI k 3) + 1) := by
  unfold incF
  rw [at_own]
  unfold at2
  rw [at_other (a := 2) (b := 3) _ k (by decide)]
  unfold at1
  rw [at_other (a := 1) (b := 3) _ k (by decide)]
  unfold at0
  rw [at_other (a := 0) (b := 3) _ k (by decide)]
theorem mn_15 (a b : Nat) : min (min 15 (a + 1)) (min 15 (b + 1)) = min 15 (min a b + 1) := by omega
theorem tN_inc (f : Nat → Int64) (k : Int32) : tN (incF f k) k = min 15 (tN f k + 1) := by
  unfold tN
  rw [inc_own0, inc_own1, inc_own2, inc_own3, mn_15, mn_15, mn_15]
def fSup (f : Nat → Int64) (k : Int32) : Prop := ∀ s i, i < 16 → cnt f s i ≠ 0 → ∃ j, j < 4 ∧ s = kS k j ∧ i = kI k j
theorem fSup_at {f : Nat → Int64} {k : Int32} (h : fSup f k) {a : Nat} (ha : a < 4) : fSup (atF f (kS k a) (kI k a)) k := by
  intro s i hi hne
  rw [cnt_at f _ (kI_lt k a) s hi] at hne
  by_cases q : s = kS k a ∧ i = kI k a
  · exact ⟨a, ha, q.1, q.2⟩
  · rw [if_neg q] at hne
    exact h s i hi hne
theorem fSup_inc {f : Nat → Int64} {k : Int32} (h : fSup f k) : fSup (incF f k) k :=
  fSup_at (f := at2 f k) (fSup_at (f := at1 f k) (fSup_at (f := at0 f k) (fSup_at h (by decide)) (by decide)) (by decide)) (by decide)
theorem mn_pos {a b c d : Nat} (h : 0 < min (min (min a b) c) d) : a ≠ 0 ∧ b ≠ 0 ∧ c ≠ 0 ∧ d ≠ 0 := by omega
theorem fSup_same {f : Nat → Int64} {k d : Int32} (h : fSup f k) (hp : 0 < tN f d) : kSame k d := by
  have key : ∀ a, a < 4 → cnt f (kS d a) (kI d a) ≠ 0 → kB d = kB k ∧ kO d a = kO k a ∧ kI d a = kI k a := by
    intro a ha hne
    obtain ⟨j, hj, e1, e2⟩ := h _ _ (kI_lt d a) hne
    have o1 := kO_lt d a
    have o2 := kO_lt k j
    unfold kS at e1
    have hja : j = a := by omega
    subst hja
    exact ⟨by omega, by omega, e2⟩
  obtain ⟨z0, z1, z2, z3⟩ := mn_pos hp
  have k0 := key 0 (by decide) z0
  have k1 := key 1 (by decide) z1
  have k2 := key 2 (by decide) z2
  have k3 := key 3 (by decide) z3
  refine ⟨k0.1, ?_⟩
  intro j hj
  match j, hj with
  | 0, _ => exact k0.2
  | 1, _ => exact k1.2
  | 2, _ => exact k2.2
  | 3, _ => exact k3.2
  | n + 4, h => exact absurd h (by omega)
/-! ===== a script of ints, counted ===== -/
def fT (xs : Nat → Int32) : Nat → (Nat → Int64)
  | 0 => fun _ => 0
  | m + 1 => incF (fT xs m) (xs m)
theorem cnt_zero (s i : Nat) : cnt (fun _ => 0) s i = 0 := by
  show (0 : Int64).toBitVec.toNat / 2 ^ (4 * i) % 16 = 0
  rw [show (0 : Int64).toBitVec.toNat = 0 from rfl, Nat.zero_div]
theorem tN_zero (k : Int32) : tN (fun _ => 0) k = 0 := by
  unfold tN
  rw [cnt_zero, cnt_zero, cnt_zero, cnt_zero]
  rfl
theorem tN_alone (k : Int32) : ∀ m, tN (fT (fun _ => k) m) k = min 15 m
  | 0 => tN_zero k
  | m + 1 => by
    have h := tN_alone k m
    show tN (incF (fT (fun _ => k) m) k) k = _
    rw [tN_inc, h]
    omega
theorem fSup_alone (k : Int32) : ∀ m, fSup (fT (fun _ => k) m) k
  | 0 => fun s i _ h => absurd (cnt_zero s i) h
  | m + 1 => fSup_inc (fSup_alone k m)
theorem tN_times (xs : Nat → Int32) (v : Int32) : ∀ m, min 15 (fb_ct (fun j => decide (xs j = v)) m) ≤ tN (fT xs m) v
  | 0 => Nat.le_trans (Nat.min_le_right _ _) (Nat.zero_le _)
  | m + 1 => by
    have h := tN_times xs v m
    show min 15 (fb_ct _ (m + 1)) ≤ tN (incF (fT xs m) (xs m)) v
    rw [fb_ct_succ]
    by_cases e : xs m = v
    · rw [e, tN_inc, decide_eq_true (rfl : v = v), if_pos rfl]
      omega
    · rw [decide_eq_false e, if_neg (by decide)]
      exact Nat.le_trans h (tN_mono _ _ _)
/-- counted alone 15 times, an int leaves few of the next 1000 above 0 -/
theorem tN_few (k : Int32) (m : Nat) : fb_ct (fun i => decide (0 < tN (fT (fun _ => k) m) (k + nI (i + 1)))) 1000 ≤ 256 :=
  fz_few k _ (fun i _ h => fSup_same (fSup_alone k m) (of_decide_eq_true h))
end
section
/-! ===== the terms of the bytecode ===== -/
theorem fz_idx {k : Int32} {j : Nat} {h : Int32} (hh : uI h = hN k / 2 ^ (8 * j)) : usI h 1 &&& 15 = nI (kI k j) := by
  rw [pk_and (usI h 1) 4 (by decide +kernel)]
  show nI (uI (usI h 1) % 2 ^ 4) = nI (kI k j)
  rw [uI_us h 1 1 (by decide +kernel), hh]
  rfl
theorem fz_blk (k : Int32) : slI (hSpread k &&& 31) 3 = nI (8 * kB k) := by
  rw [pk_and (hSpread k) 5 (by decide +kernel)]
  have hb := kB_lt k
  show nI (kB k) <<< ((3 : Int32) &&& 31) = nI (8 * kB k)
  rw [pk_shlN _ 3 (by decide +kernel) (by omega), Nat.mul_comm]
theorem fz_off {k : Int32} {j : Nat} {h : Int32} (hh : uI h = hN k / 2 ^ (8 * j)) : h &&& 1 = nI (kO k j) := by
  rw [pk_and h 1 (by decide +kernel)]
  show nI (uI h % 2 ^ 1) = nI (kO k j)
  rw [hh]
  rfl
theorem fz_slot {k : Int32} {j : Nat} {h : Int32} (hh : uI h = hN k / 2 ^ (8 * j)) : slI (hSpread k &&& 31) 3 + (h &&& 1) + nI (2 * j) = nI (kS k j) := by
  rw [fz_blk, fz_off hh, nI_add, nI_add]
  rfl
theorem fz_cnt (f : Nat → Int64) (s : Nat) {i : Nat} (hi : i < 16) : (usL (f s) (slI (nI i) 2) &&& 15).toInt32 = nI (cnt f s i) := by
  obtain ⟨V, hV, e⟩ := wb_of (f s)
  have hc : cnt f s i = V / 2 ^ (4 * i) % 2 ^ 4 := by
    unfold cnt
    rw [e, wb_tn hV]
  have h1 : usL (lN V) (nI (4 * i)) = lN (V / 2 ^ (4 * i)) := wb_shr hV (show 4 * i < 64 by omega)
  have h2 : lN (V / 2 ^ (4 * i)) &&& 15 = lN (V / 2 ^ (4 * i) % 2 ^ 4) := wb_mask (k := 4) (Nat.lt_of_le_of_lt (Nat.div_le_self _ _) hV) (by decide)
  rw [fz_sl i hi, e, h1, h2, lN_i, hc]
theorem fz_h0 (k : Int32) : uI (hRehash (hSpread k)) = hN k / 2 ^ (8 * 0) := (Nat.div_one _).symm
theorem fz_hs (k s : Int32) (j : Nat) (hs : ((s.toUInt32 &&& Int32.toUInt32 31).toBitVec % 32).toNat = 8 * j) : uI (usI (hRehash (hSpread k)) s) = hN k / 2 ^ (8 * j) := uI_us _ s _ hs
theorem fz_h1 (k : Int32) : uI (usI (hRehash (hSpread k)) 8) = hN k / 2 ^ (8 * 1) := fz_hs k 8 1 (by decide +kernel)
theorem fz_h2 (k : Int32) : uI (usI (hRehash (hSpread k)) 16) = hN k / 2 ^ (8 * 2) := fz_hs k 16 2 (by decide +kernel)
theorem fz_h3 (k : Int32) : uI (usI (hRehash (hSpread k)) 24) = hN k / 2 ^ (8 * 3) := fz_hs k 24 3 (by decide +kernel)
theorem fz_hj (k : Int32) {j : Nat} (hj : j < 4) : uI (usI (hRehash (hSpread k)) (slI (nI j) 3)) = hN k / 2 ^ (8 * j) := by
  have h4 : ∀ j, j < 4 → (((slI (nI j) 3).toUInt32 &&& Int32.toUInt32 31).toBitVec % 32).toNat = 8 * j := by decide +kernel
  exact fz_hs k _ j (h4 j hj)
theorem fz_s2j : ∀ j, j < 4 → slI (nI j) 1 = nI (2 * j) := by decide +kernel
theorem fz_min {a b : Nat} (ha : a < 2 ^ 31) (hb : b < 2 ^ 31) : (if nI b < nI a then nI b else nI a) = nI (min a b) := by
  by_cases h : b < a
  · rw [if_pos (nI_lt h ha), Nat.min_eq_right (Nat.le_of_lt h)]
  · rw [if_neg (nI_nlt (Nat.le_of_not_lt h) hb), Nat.min_eq_left (Nat.le_of_not_lt h)]
/-- the least of the first counters -/
def tM (f : Nat → Int64) (k : Int32) : Nat → Nat
  | 0 => 2147483647
  | j + 1 => min (tM f k j) (cnt f (kS k j) (kI k j))
theorem tM_lt (f : Nat → Int64) (k : Int32) : ∀ j, tM f k j < 2 ^ 31
  | 0 => show 2147483647 < 2 ^ 31 from Nat.le_of_ble_eq_true rfl
  | j + 1 => Nat.lt_of_le_of_lt (Nat.min_le_left _ _) (tM_lt f k j)
theorem mn_big {a b c d : Nat} (h : a < 2147483647) : min (min (min (min 2147483647 a) b) c) d = min (min (min a b) c) d := by
  rw [Nat.min_eq_right (show a ≤ 2147483647 by omega)]
theorem tM_4 (f : Nat → Int64) (k : Int32) : tM f k 4 = tN f k := by
  exact mn_big (Nat.lt_of_lt_of_le (cnt_lt f (kS k 0) (kI k 0)) (Nat.le_of_ble_eq_true rfl))
end
section
/-! THE LEAVES: pure static methods, the boxes, what the sketch's cells are -/
abbrev vwCl : List vw_C := [(RX1, TX1, 1), (RX2, TX2, 4), (RJ6, TJ6, 1)]
abbrev wSk (h1 h2 : Nat) (cA : ClassId) (f : Nat → Int64) (z : Int32) : va_W := [(h1, .inr (1, [.int 2560, .int 31, .ref h2, .int z])), (h2, .inl (cA, 256, .inr (.inl f)))]
abbrev wDk (h0 h1 h2 : Nat) (cA : ClassId) (f : Nat → Int64) (z : Int32) : va_W := [(h0, .inr (0, [.ref h1])), (h1, .inr (1, [.int 2560, .int 31, .ref h2, .int z])), (h2, .inl (cA, 256, .inr (.inl f)))]
/-- a box at y holds k -/
def bx (y : Nat) (k : Int32) (U : State) (H : Heap) : Prop := va_O "java/lang/Integer" y (fun _ => False) U H ∧ va_OF "java/lang/Integer" "value" "I" (.int k) y (fun _ => False) U H
theorem bx.moved {y : Nat} {k : Int32} {u U : State} {H : Heap} (hvm : u.vm.Alike U.vm) (h : bx y k u H) : bx y k U H := ⟨va_O.moved hvm h.1, va_OF.moved hvm h.2⟩
theorem bx.recv {y : Nat} {k : Int32} {U : State} {H : Heap} (h : bx y k U H) : ∃ cell : Cell, H[y]? = some cell ∧ cell.vm.isStatics = false ∧ U.vm.findClass "java/lang/Integer" = some cell.cls := by
  obtain ⟨cell, a1, a2, a3, -⟩ := h.1
  exact ⟨cell, a1, a2, a3⟩
/-- the cache of small boxes, and the statics that lead to it -/
def bxC (tc : Nat) (ad : Nat → Nat) (A : Nat → Prop) (U : State) (H : Heap) : Prop := va_Z "java/lang/Integer$IntegerCache" "high" "I" (.int 127) A U H ∧ va_Z "java/lang/Integer$IntegerCache" "cache" "[Ljava/lang/Integer;" (.ref tc) A U H ∧ va_T (.object "java/lang/Integer") tc 256 (fun j => .ref (ad j)) A U H ∧ vb_C ad A U H
theorem bxC.moved {tc : Nat} {ad : Nat → Nat} {A : Nat → Prop} {u U : State} {H : Heap} (hvm : u.vm.Alike U.vm) (h : bxC tc ad A u H) : bxC tc ad A U H := ⟨va_Z.moved hvm h.1, va_Z.moved hvm h.2.1, va_T.moved hvm h.2.2.1, vb_C.moved hvm h.2.2.2⟩
theorem bxC.kept {tc : Nat} {ad : Nat → Nat} {A : Nat → Prop} {U : State} {H H1 : Heap} (h : bxC tc ad A U H) (hq : ∀ a : Nat, a < H.size → ¬ A a → H1[a]? = H[a]?) : bxC tc ad A U H1 := ⟨h.1.kept hq, h.2.1.kept hq, h.2.2.1.kept hq, h.2.2.2.kept hq⟩
theorem bxC.narrow {tc : Nat} {ad : Nat → Nat} {A B : Nat → Prop} {U : State} {H : Heap} (h : bxC tc ad A U H) (hAB : ∀ q, B q → A q) : bxC tc ad B U H := ⟨h.1.narrow hAB, h.2.1.narrow hAB, h.2.2.1.narrow hAB, h.2.2.2.narrow hAB⟩
/-- a made box is a box -/
theorem bx_made {s : State} {args : Array Value} {D : va_G} {tys : List (ClassId × FieldType)} {ws : va_W} {H : Heap} {a q0 : Nat} {k : Int32} (hts : ∀ w ∈ lw_all, w.before args s = true) (hK : va_K D vwCl tys s) (hP : va_P D vwCl ws H) (he : ws[q0]? = some (a, .inr (2, [.int k]))) : bx a k s H := by
  obtain ⟨r, h1, cell, g1, g2, g3, g4⟩ := hP q0 _ he
  have hc : vwCl[2]? = some (RJ6, TJ6, 1) := rfl
  have hr : r = (RJ6, TJ6, 1) := Option.some.inj (h1.symm.trans hc)
  subst hr
  obtain ⟨hS, hfc, kC, hkC, hkind⟩ := hK.1 2 (RJ6, TJ6, 1) rfl
  obtain ⟨cf, kf, fi, fd, hi, hsl⟩ := hS 0 (by decide)
  have hst := (u_facts hfc hkC (u_lays hts in_J6 (k := 0) (by decide)) hi).1
  refine ⟨⟨cell, g1, by rw [g3]; rfl, by rw [g2]; exact hfc, fun z => z⟩, cf, kf, fi, fd, cell, hi, hst, g1, (by rw [g3]; intro z; cases z), ?_, fun z => z⟩
  rw [hsl]
  exact g4 0 (by decide)
/-- a cached box is a box -/
theorem bx_cached {tc : Nat} {ad : Nat → Nat} {A : Nat → Prop} {U : State} {H : Heap} (h : bxC tc ad A U H) {j : Nat} (hj : j < 256) : bx (ad j) (vb_c j) U H := ⟨(h.2.2.2.1 j hj).narrow (fun _ z => z.elim), (h.2.2.2.2 j hj).narrow (fun _ z => z.elim)⟩
section BXG
variable {p : Program} {l : Launch} {e : Env} {R : Room} {s : State} {m : MethodId} {args : Array Value} {below : List Frame} {meth : Method} {c : Code} {H : Heap} {locs : List Loc} {cells slots : Nat} {Q : State → Prop}
variable {cc : ByteArray} {pc : Nat} {ls : Array Slot} {rest : List Value}
theorem bx_get (hexec : p.tables.exec = Jvm.exec) (hb : c.code = cc) {y index : Nat} {k : Int32} {own : String} (hB : bx y k s H) (hown : s.vm.findClass own = some m.cls) (hlink : (Cond.fieldLink own index "java/lang/Integer" "value" "I").before args s = true) (hdg : decode cc pc = .ok (.getfield index, 3))
    (kk : W p l e R s m args below meth c H locs cells slots Q (F0 m (pc + 3) ls (.int k :: rest))) : W p l e R s m args below meth c H locs cells slots Q (F0 m pc ls (.ref y :: rest)) := by
  obtain ⟨cf, k0, fi, f0, cell, g1, g2, g3, g4, g5, -⟩ := hB.2
  exact W.getf hexec hb hown hlink g1 g2 g3 g4 (v := .int k) g5 rfl rfl hdg kk
end BXG
abbrev xHash : MethodName := ⟨"java/lang/Object", "hashCode", "()I"⟩
theorem decl_native {s : State} {args : Array Value} {x : MethodName} (hn : (Cond.native x).before args s = true) (hi : (Cond.instanceMethod x).before args s = true) : va_Decl s x := by
  obtain ⟨r0, r, h1, h2, h3, h4, h5, h6⟩ := Cond.native_spec hn
  obtain ⟨r1, r', g1, g2, g3, -⟩ := Cond.instanceMethod_spec hi
  cases h1.symm.trans g1
  cases h2.symm.trans g2
  exact ⟨r0, r, h1, h2, g3, h6⟩
theorem cw_hash {R : Room} {s : State} {args : Array Value} {rm : Room} (ht : ∀ w ∈ lw_all, w.before args s = true) (hrc : rm.cells = 0) (hrs : rm.slots = 0) (hR : rm.frames + 1 ≤ R.frames ∧ 8 + (1 + 11) + rm.locals ≤ R.locals) : va_CU R s args RX2 "java/lang/Integer" "java/lang/Object" 58 xHash yJ6_hashCode cJ6_hashCode 1 (some .int) (ws_ yJ6_hashCode cJ6_hashCode 1 (some .int)) rm 0 0 0 := by
  have hG : GoodIn lw_all (ws_ yJ6_hashCode cJ6_hashCode 1 (some .int)) := lw_meth q175
  have hc : Cond.code yJ6_hashCode cJ6_hashCode 1 (some .int) ∈ ws_ yJ6_hashCode cJ6_hashCode 1 (some .int) := List.mem_cons_self
  refine ⟨⟨hrc, hrs, hR.1, hR.2, pay_in ht hG, hc⟩, ht _ q175, ht _ q11, ⟨by decide +kernel, by decide +kernel⟩, fun sig h => ?_, ht _ q167, ht _ q169, ?_, ht _ q173, ht _ q174⟩
  · have h2 : (parseMethodDescriptor xHash.desc).map (fun d => d.parameters.length) = some 0 := by decide +kernel
    rw [h] at h2
    exact (Option.some.inj h2).symm
  · exact decl_native (ht _ q179) (ht _ q168)
set_option maxHeartbeats 4000000 in
set_option maxRecDepth 100000 in
/-- FrequencySketch.spread -/
theorem mX2_spread (l : Launch) (x : Int32) : Met l yX2_spread (ws_ yX2_spread cX2_spread 1 (some .int)) ({ frames := 0, cells := 0, slots := 0, locals := 0 }) (va_Pc [.int x] (fun U => True)) (vp_Si (fun r => r = hSpread x)) 0 0 (fun _ => False) := by
  refine Met.ofW (cc := cX2_spread) (maxL := 1) (ret := (some .int)) (by decide) rfl ?_
  intro p e s m args below meth c s₁ B hml hv
  obtain ⟨rfl, -⟩ := hv
  have hx := B.exec
  have hb := B.bytes
  have hr := B.returns
  have hts := atoms_spec (ws := (ws_ yX2_spread cX2_spread 1 (some .int))) B.pre
  have hts : ∀ w ∈ lw_all, w.before _ s = true := fun w h => hts w (List.mem_cons_of_mem _ h)
  have hown : s.vm.findClass RX2 = some m.cls := findClass_of_methodNamed B.named
  have hlocks := B.notSynchronized
  have hl := lv_entry ([.int x]) (n := 1) (Nat.le_of_ble_eq_true rfl)
  rw [lg_entry_eq]
  generalize (lg_sl ([.int x]) ++ List.replicate (1 - (lg_sl ([.int x])).length) Slot.unset).toArray = ls at hl ⊢
  have hl : lv_has ls 1 [(0, .int x)] := hl
  refine lv_iload_n hx hb dX2_spread_0 rfl (lv_at hl 0 rfl) ?_
  refine lv_iload_n hx hb dX2_spread_1 rfl (lv_at hl 0 rfl) ?_
  refine lv_bipush (v := 17) hx hb dX2_spread_2 (by decide +kernel) ?_
  refine lv_iushr (v := usI x 17) hx hb dX2_spread_4 rfl ?_
  refine lv_topi (fun f_1 ef_1 => ?_)
  have ef_1 : f_1 = usI x 17 := ef_1
  refine lv_ixor hx hb dX2_spread_5 ?_
  refine lv_topi (fun f_2 ef_2 => ?_)
  have ef_2 : f_2 = x ^^^ f_1 := ef_2
  refine lv_istore_n (lv' := [(0, .int f_2)]) hx hb dX2_spread_6 rfl hl (by decide) rfl (fun ls hl => ?_)
  refine lv_iload_n hx hb dX2_spread_7 rfl (lv_at hl 0 rfl) ?_
  refine lv_ldc (v := (-312814405)) hx hb hown (hts _ q183) dX2_spread_8 ?_
  refine lv_imul hx hb dX2_spread_10 ?_
  refine lv_topi (fun f_3 ef_3 => ?_)
  have ef_3 : f_3 = f_2 * (-312814405) := ef_3
  refine lv_istore_n (lv' := [(0, .int f_3)]) hx hb dX2_spread_11 rfl hl (by decide) rfl (fun ls hl => ?_)
  refine lv_iload_n hx hb dX2_spread_12 rfl (lv_at hl 0 rfl) ?_
  refine lv_iload_n hx hb dX2_spread_13 rfl (lv_at hl 0 rfl) ?_
  refine lv_bipush (v := 11) hx hb dX2_spread_14 (by decide +kernel) ?_
  refine lv_iushr (v := usI f_3 11) hx hb dX2_spread_16 rfl ?_
  refine lv_topi (fun f_4 ef_4 => ?_)
  have ef_4 : f_4 = usI f_3 11 := ef_4
  refine lv_ixor hx hb dX2_spread_17 ?_
  refine lv_topi (fun f_5 ef_5 => ?_)
  have ef_5 : f_5 = f_3 ^^^ f_4 := ef_5
  refine lv_istore_n (lv' := [(0, .int f_5)]) hx hb dX2_spread_18 rfl hl (by decide) rfl (fun ls hl => ?_)
  refine lv_iload_n hx hb dX2_spread_19 rfl (lv_at hl 0 rfl) ?_
  refine lv_ldc (v := (-1404298415)) hx hb hown (hts _ q184) dX2_spread_20 ?_
  refine lv_imul hx hb dX2_spread_22 ?_
  refine lv_topi (fun f_6 ef_6 => ?_)
  have ef_6 : f_6 = f_5 * (-1404298415) := ef_6
  refine lv_istore_n (lv' := [(0, .int f_6)]) hx hb dX2_spread_23 rfl hl (by decide) rfl (fun ls hl => ?_)
  refine lv_iload_n hx hb dX2_spread_24 rfl (lv_at hl 0 rfl) ?_
  refine lv_iload_n hx hb dX2_spread_25 rfl (lv_at hl 0 rfl) ?_
  refine lv_bipush (v := 15) hx hb dX2_spread_26 (by decide +kernel) ?_
  refine lv_iushr (v := usI f_6 15) hx hb dX2_spread_28 rfl ?_
  refine lv_topi (fun f_7 ef_7 => ?_)
  have ef_7 : f_7 = usI f_6 15 := ef_7
  refine lv_ixor hx hb dX2_spread_29 ?_
  refine lv_topi (fun f_8 ef_8 => ?_)
  have ef_8 : f_8 = f_6 ^^^ f_7 := ef_8
  refine lv_istore_n (lv' := [(0, .int f_8)]) hx hb dX2_spread_30 rfl hl (by decide) rfl (fun ls hl => ?_)
  refine lv_iload_n hx hb dX2_spread_31 rfl (lv_at hl 0 rfl) ?_
  exact W.iret (v := f_8) hx hb hr (fun t ht hW => ⟨f_8, rfl, by subst ef_8 ef_7 ef_6 ef_5 ef_4 ef_3 ef_2 ef_1; rfl, ht⟩) (fun q h => absurd h List.not_mem_nil) dX2_spread_32
set_option maxHeartbeats 4000000 in
set_option maxRecDepth 100000 in
/-- FrequencySketch.rehash -/
theorem mX2_rehash (l : Launch) (x : Int32) : Met l yX2_rehash (ws_ yX2_rehash cX2_rehash 1 (some .int)) ({ frames := 0, cells := 0, slots := 0, locals := 0 }) (va_Pc [.int x] (fun U => True)) (vp_Si (fun r => r = hRehash x)) 0 0 (fun _ => False) := by
  refine Met.ofW (cc := cX2_rehash) (maxL := 1) (ret := (some .int)) (by decide) rfl ?_
  intro p e s m args below meth c s₁ B hml hv
  obtain ⟨rfl, -⟩ := hv
  have hx := B.exec
  have hb := B.bytes
  have hr := B.returns
  have hts := atoms_spec (ws := (ws_ yX2_rehash cX2_rehash 1 (some .int))) B.pre
  have hts : ∀ w ∈ lw_all, w.before _ s = true := fun w h => hts w (List.mem_cons_of_mem _ h)
  have hown : s.vm.findClass RX2 = some m.cls := findClass_of_methodNamed B.named
  have hlocks := B.notSynchronized
  have hl := lv_entry ([.int x]) (n := 1) (Nat.le_of_ble_eq_true rfl)
  rw [lg_entry_eq]
  generalize (lg_sl ([.int x]) ++ List.replicate (1 - (lg_sl ([.int x])).length) Slot.unset).toArray = ls at hl ⊢
  have hl : lv_has ls 1 [(0, .int x)] := hl
  refine lv_iload_n hx hb dX2_rehash_0 rfl (lv_at hl 0 rfl) ?_
  refine lv_ldc (v := 830770091) hx hb hown (hts _ q188) dX2_rehash_1 ?_
  refine lv_imul hx hb dX2_rehash_3 ?_
  refine lv_topi (fun f_1 ef_1 => ?_)
  have ef_1 : f_1 = x * 830770091 := ef_1
  refine lv_istore_n (lv' := [(0, .int f_1)]) hx hb dX2_rehash_4 rfl hl (by decide) rfl (fun ls hl => ?_)
  refine lv_iload_n hx hb dX2_rehash_5 rfl (lv_at hl 0 rfl) ?_
  refine lv_iload_n hx hb dX2_rehash_6 rfl (lv_at hl 0 rfl) ?_
  refine lv_bipush (v := 14) hx hb dX2_rehash_7 (by decide +kernel) ?_
  refine lv_iushr (v := usI f_1 14) hx hb dX2_rehash_9 rfl ?_
  refine lv_topi (fun f_2 ef_2 => ?_)
  have ef_2 : f_2 = usI f_1 14 := ef_2
  refine lv_ixor hx hb dX2_rehash_10 ?_
  refine lv_topi (fun f_3 ef_3 => ?_)
  have ef_3 : f_3 = f_1 ^^^ f_2 := ef_3
  refine lv_istore_n (lv' := [(0, .int f_3)]) hx hb dX2_rehash_11 rfl hl (by decide) rfl (fun ls hl => ?_)
  refine lv_iload_n hx hb dX2_rehash_12 rfl (lv_at hl 0 rfl) ?_
  exact W.iret (v := f_3) hx hb hr (fun t ht hW => ⟨f_3, rfl, by subst ef_3 ef_2 ef_1; rfl, ht⟩) (fun q h => absurd h List.not_mem_nil) dX2_rehash_13
set_option maxHeartbeats 4000000 in
set_option maxRecDepth 100000 in
/-- Integer.hashCode(x) -/
theorem mJ6_hashCode_2 (l : Launch) (x : Int32) : Met l yJ6_hashCode_2 (ws_ yJ6_hashCode_2 cJ6_hashCode_2 1 (some .int)) ({ frames := 0, cells := 0, slots := 0, locals := 0 }) (va_Pc [.int x] (fun U => True)) (vp_Si (fun r => r = x)) 0 0 (fun _ => False) := by
  refine Met.ofW (cc := cJ6_hashCode_2) (maxL := 1) (ret := (some .int)) (by decide) rfl ?_
  intro p e s m args below meth c s₁ B hml hv
  obtain ⟨rfl, -⟩ := hv
  have hx := B.exec
  have hb := B.bytes
  have hr := B.returns
  have hts := atoms_spec (ws := (ws_ yJ6_hashCode_2 cJ6_hashCode_2 1 (some .int))) B.pre
  have hts : ∀ w ∈ lw_all, w.before _ s = true := fun w h => hts w (List.mem_cons_of_mem _ h)
  have hown : s.vm.findClass RJ6 = some m.cls := findClass_of_methodNamed B.named
  have hlocks := B.notSynchronized
  have hl := lv_entry ([.int x]) (n := 1) (Nat.le_of_ble_eq_true rfl)
  rw [lg_entry_eq]
  generalize (lg_sl ([.int x]) ++ List.replicate (1 - (lg_sl ([.int x])).length) Slot.unset).toArray = ls at hl ⊢
  have hl : lv_has ls 1 [(0, .int x)] := hl
  refine lv_iload_n hx hb dJ6_hashCode_2_0 rfl (lv_at hl 0 rfl) ?_
  exact W.iret (v := x) hx hb hr (fun t ht hW => ⟨x, rfl, rfl, ht⟩) (fun q h => absurd h List.not_mem_nil) dJ6_hashCode_2_1
set_option maxHeartbeats 4000000 in
set_option maxRecDepth 100000 in
/-- a box tells what it holds -/
theorem mJ6_hashCode (l : Launch) (y : Nat) (k : Int32) : Met l yJ6_hashCode (ws_ yJ6_hashCode cJ6_hashCode 1 (some .int)) ({ frames := 1, cells := 0, slots := 0, locals := 20 }) (va_Pc [.ref y] (fun U => bx y k U U.heap)) (vp_Si (fun r => r = k)) 0 0 (fun _ => False) := by
  refine Met.ofW (cc := cJ6_hashCode) (maxL := 1) (ret := (some .int)) (by decide) rfl ?_
  intro p e s m args below meth c s₁ B hml hv
  obtain ⟨rfl, hB⟩ := hv
  have hx := B.exec
  have hb := B.bytes
  have hr := B.returns
  have hts := atoms_spec (ws := (ws_ yJ6_hashCode cJ6_hashCode 1 (some .int))) B.pre
  have hts : ∀ w ∈ lw_all, w.before _ s = true := fun w h => hts w (List.mem_cons_of_mem _ h)
  have hown : s.vm.findClass RJ6 = some m.cls := findClass_of_methodNamed B.named
  have hlocks := B.notSynchronized
  have hl := lv_entry ([.ref y]) (n := 1) (Nat.le_of_ble_eq_true rfl)
  rw [lg_entry_eq]
  generalize (lg_sl ([.ref y]) ++ List.replicate (1 - (lg_sl ([.ref y])).length) Slot.unset).toArray = ls at hl ⊢
  have hl : lv_has ls 1 [(0, .ref y)] := hl
  refine lv_aload_n hx hb dJ6_hashCode_0 rfl (lv_at hl 0 rfl) ?_
  refine bx_get hx hb hB hown (hts _ q155) dJ6_hashCode_1 ?_
  refine vp_callSi (va_Run.run (va_runS (As := [.int k]) (rest := []) ⟨hx, hb, hml, hown, hts⟩ (mJ6_hashCode_2 l k) (va_cwS 1 hts (lw_S q176 q177 q11 q178) rfl rfl rfl (by decide +kernel) ⟨Nat.le_of_ble_eq_true rfl, Nat.le_of_ble_eq_true rfl⟩) ⟨fun a U g mk q => q, fun U hU hW => ⟨rfl, trivial⟩⟩ rfl rfl hl.1 rfl (lv_room (Nat.le_of_ble_eq_true rfl)) dJ6_hashCode_4 ⟨Nat.zero_le _, Nat.zero_le _⟩)) (fun r_0 er_0 => ?_)
  rw [er_0]
  exact W.iret (v := k) hx hb hr (fun t ht hW => ⟨k, rfl, rfl, ht⟩) (fun q h => absurd h List.not_mem_nil) dJ6_hashCode_7
set_option maxHeartbeats 4000000 in
set_option maxRecDepth 100000 in
/-- Integer.numberOfLeadingZeros(255) -/
theorem mJ6_nlz (l : Launch)  : Met l yJ6_numberOfLeadingZeros (ws_ yJ6_numberOfLeadingZeros cJ6_numberOfLeadingZeros 2 (some .int)) ({ frames := 0, cells := 0, slots := 0, locals := 0 }) (va_Pc [.int 255] (fun U => True)) (vp_Si (fun r => r = 24)) 0 0 (fun _ => False) := by
  refine Met.ofW (cc := cJ6_numberOfLeadingZeros) (maxL := 2) (ret := (some .int)) (by decide) rfl ?_
  intro p e s m args below meth c s₁ B hml hv
  obtain ⟨rfl, -⟩ := hv
  have hx := B.exec
  have hb := B.bytes
  have hr := B.returns
  have hts := atoms_spec (ws := (ws_ yJ6_numberOfLeadingZeros cJ6_numberOfLeadingZeros 2 (some .int))) B.pre
  have hts : ∀ w ∈ lw_all, w.before _ s = true := fun w h => hts w (List.mem_cons_of_mem _ h)
  have hown : s.vm.findClass RJ6 = some m.cls := findClass_of_methodNamed B.named
  have hlocks := B.notSynchronized
  have hl := lv_entry ([.int 255]) (n := 2) (Nat.le_of_ble_eq_true rfl)
  rw [lg_entry_eq]
  generalize (lg_sl ([.int 255]) ++ List.replicate (2 - (lg_sl ([.int 255])).length) Slot.unset).toArray = ls at hl ⊢
  have hl : lv_has ls 2 [(0, .int 255)] := hl
  refine lv_iload_n hx hb dJ6_numberOfLeadingZeros_0 rfl (lv_at hl 0 rfl) ?_
  refine lv_if_gt (tgt := 15) hx hb dJ6_numberOfLeadingZeros_1 (by decide) (fun _ => ?_) (fun z => absurd (by decide +kernel) z)
  refine lv_bipush (v := 31) hx hb dJ6_numberOfLeadingZeros_15 (by decide +kernel) ?_
  refine lv_istore_n (lv' := [(1, .int 31), (0, .int 255)]) hx hb dJ6_numberOfLeadingZeros_17 rfl hl (by decide) rfl (fun ls hl => ?_)
  refine lv_iload_n hx hb dJ6_numberOfLeadingZeros_18 rfl (lv_at hl 1 rfl) ?_
  refine lv_ldcw (v := 65536) hx hb hown (hts _ q129) dJ6_numberOfLeadingZeros_19 ?_
  refine lv_icmp_lt (tgt := 33) hx hb dJ6_numberOfLeadingZeros_22 (by decide) (fun _ => ?_) (fun z => absurd (by decide +kernel) z)
  refine lv_iload_n hx hb dJ6_numberOfLeadingZeros_33 rfl (lv_at hl 1 rfl) ?_
  refine lv_sipush (v := 256) hx hb dJ6_numberOfLeadingZeros_34 (by decide +kernel) ?_
  refine lv_icmp_lt (tgt := 48) hx hb dJ6_numberOfLeadingZeros_37 (by decide) (fun _ => ?_) (fun z => absurd (by decide +kernel) z)
  refine lv_iload_n hx hb dJ6_numberOfLeadingZeros_48 rfl (lv_at hl 1 rfl) ?_
  refine lv_bipush (v := 16) hx hb dJ6_numberOfLeadingZeros_49 (by decide +kernel) ?_
  refine lv_icmp_lt (tgt := 61) hx hb dJ6_numberOfLeadingZeros_51 (by decide) (fun z => absurd z (by decide +kernel)) (fun _ => ?_)
  obtain ⟨f_1, ef_1⟩ : ∃ y : Int32, y = 31 + (-4) := ⟨_, rfl⟩
  refine lv_iinc (v := f_1) (lv' := [(1, .int f_1), (0, .int 255)]) hx hb dJ6_numberOfLeadingZeros_54 hl (k := 0) rfl (by rw [ef_1]; rfl) (by decide) rfl (fun ls hl => ?_)
  have ef_1 : f_1 = 27 := ef_1.trans (by decide +kernel)
  subst ef_1
  refine lv_iload_n hx hb dJ6_numberOfLeadingZeros_57 rfl (lv_at hl 1 rfl) ?_
  refine lv_iconst (v := 4) hx hb dJ6_numberOfLeadingZeros_58 (by decide +kernel) ?_
  refine lv_iushr (v := usI 255 4) hx hb dJ6_numberOfLeadingZeros_59 rfl ?_
  refine lv_topi (fun f_2 ef_2 => ?_)
  have ef_2 : f_2 = 15 := ef_2.trans (by decide +kernel)
  subst ef_2
  refine lv_istore_n (lv' := [(0, .int 15), (1, .int 27)]) hx hb dJ6_numberOfLeadingZeros_60 rfl hl (by decide) rfl (fun ls hl => ?_)
  refine lv_iload_n hx hb dJ6_numberOfLeadingZeros_61 rfl (lv_at hl 0 rfl) ?_
  refine lv_iconst (v := 4) hx hb dJ6_numberOfLeadingZeros_62 (by decide +kernel) ?_
  refine lv_icmp_lt (tgt := 73) hx hb dJ6_numberOfLeadingZeros_63 (by decide) (fun z => absurd z (by decide +kernel)) (fun _ => ?_)
  obtain ⟨f_3, ef_3⟩ : ∃ y : Int32, y = 27 + (-2) := ⟨_, rfl⟩
  refine lv_iinc (v := f_3) (lv' := [(1, .int f_3), (0, .int 15)]) hx hb dJ6_numberOfLeadingZeros_66 hl (k := 1) rfl (by rw [ef_3]; rfl) (by decide) rfl (fun ls hl => ?_)
  have ef_3 : f_3 = 25 := ef_3.trans (by decide +kernel)
  subst ef_3
  refine lv_iload_n hx hb dJ6_numberOfLeadingZeros_69 rfl (lv_at hl 1 rfl) ?_
  refine lv_iconst (v := 2) hx hb dJ6_numberOfLeadingZeros_70 (by decide +kernel) ?_
  refine lv_iushr (v := usI 15 2) hx hb dJ6_numberOfLeadingZeros_71 rfl ?_
  refine lv_topi (fun f_4 ef_4 => ?_)
  have ef_4 : f_4 = 3 := ef_4.trans (by decide +kernel)
  subst ef_4
  refine lv_istore_n (lv' := [(0, .int 3), (1, .int 25)]) hx hb dJ6_numberOfLeadingZeros_72 rfl hl (by decide) rfl (fun ls hl => ?_)
  refine lv_iload_n hx hb dJ6_numberOfLeadingZeros_73 rfl (lv_at hl 1 rfl) ?_
  refine lv_iload_n hx hb dJ6_numberOfLeadingZeros_74 rfl (lv_at hl 0 rfl) ?_
  refine lv_iconst (v := 1) hx hb dJ6_numberOfLeadingZeros_75 (by decide +kernel) ?_
  refine lv_iushr (v := usI 3 1) hx hb dJ6_numberOfLeadingZeros_76 rfl ?_
  refine lv_topi (fun f_5 ef_5 => ?_)
  have ef_5 : f_5 = 1 := ef_5.trans (by decide +kernel)
  subst ef_5
  refine lv_isub hx hb dJ6_numberOfLeadingZeros_77 ?_
  refine lv_topi (fun f_6 ef_6 => ?_)
  have ef_6 : f_6 = 24 := ef_6.trans (by decide +kernel)
  subst ef_6
  exact W.iret (v := 24) hx hb hr (fun t ht hW => ⟨24, rfl, rfl, ht⟩) (fun q h => absurd h List.not_mem_nil) dJ6_numberOfLeadingZeros_78
set_option maxHeartbeats 4000000 in
set_option maxRecDepth 100000 in
/-- Caffeine.ceilingPowerOfTwo(256) -/
theorem mX3_ceil (l : Launch)  : Met l yX3_ceilingPowerOfTwo (ws_ yX3_ceilingPowerOfTwo cX3_ceilingPowerOfTwo 1 (some .int)) ({ frames := 1, cells := 0, slots := 0, locals := 21 }) (va_Pc [.int 256] (fun U => True)) (vp_Si (fun r => r = 256)) 0 0 (fun _ => False) := by
  refine Met.ofW (cc := cX3_ceilingPowerOfTwo) (maxL := 1) (ret := (some .int)) (by decide) rfl ?_
  intro p e s m args below meth c s₁ B hml hv
  obtain ⟨rfl, -⟩ := hv
  have hx := B.exec
  have hb := B.bytes
  have hr := B.returns
  have hts := atoms_spec (ws := (ws_ yX3_ceilingPowerOfTwo cX3_ceilingPowerOfTwo 1 (some .int))) B.pre
  have hts : ∀ w ∈ lw_all, w.before _ s = true := fun w h => hts w (List.mem_cons_of_mem _ h)
  have hown : s.vm.findClass RX3 = some m.cls := findClass_of_methodNamed B.named
  have hlocks := B.notSynchronized
  have hl := lv_entry ([.int 256]) (n := 1) (Nat.le_of_ble_eq_true rfl)
  rw [lg_entry_eq]
  generalize (lg_sl ([.int 256]) ++ List.replicate (1 - (lg_sl ([.int 256])).length) Slot.unset).toArray = ls at hl ⊢
  have hl : lv_has ls 1 [(0, .int 256)] := hl
  refine lv_iload_n hx hb dX3_ceilingPowerOfTwo_0 rfl (lv_at hl 0 rfl) ?_
  refine lv_ldc (v := 1073741824) hx hb hown (hts _ q125) dX3_ceilingPowerOfTwo_1 ?_
  refine lv_icmp_le (tgt := 9) hx hb dX3_ceilingPowerOfTwo_3 (by decide) (fun _ => ?_) (fun z => absurd (by decide +kernel) z)
  refine lv_iconst (v := 1) hx hb dX3_ceilingPowerOfTwo_9 (by decide +kernel) ?_
  refine lv_iload_n hx hb dX3_ceilingPowerOfTwo_10 rfl (lv_at hl 0 rfl) ?_
  refine lv_iconst (v := 1) hx hb dX3_ceilingPowerOfTwo_11 (by decide +kernel) ?_
  refine lv_isub hx hb dX3_ceilingPowerOfTwo_12 ?_
  refine lv_topi (fun f_1 ef_1 => ?_)
  have ef_1 : f_1 = 255 := ef_1.trans (by decide +kernel)
  subst ef_1
  refine vp_callSi (va_Run.run (va_runS (As := [.int 255]) (rest := [.int 1]) ⟨hx, hb, hml, hown, hts⟩ (mJ6_nlz l) (va_cwS 1 hts (lw_S q126 q127 q11 q128) rfl rfl rfl (by decide +kernel) ⟨Nat.le_of_ble_eq_true rfl, Nat.le_of_ble_eq_true rfl⟩) ⟨fun a U g mk q => q, fun U hU hW => ⟨rfl, trivial⟩⟩ rfl rfl hl.1 rfl (lv_room (Nat.le_of_ble_eq_true rfl)) dX3_ceilingPowerOfTwo_13 ⟨Nat.zero_le _, Nat.zero_le _⟩)) (fun r_0 er_0 => ?_)
  subst er_0
  refine lv_ineg hx hb dX3_ceilingPowerOfTwo_16 ?_
  refine lv_topi (fun f_2 ef_2 => ?_)
  have ef_2 : f_2 = (-24) := ef_2.trans (by decide +kernel)
  subst ef_2
  refine lv_ishl hx hb dX3_ceilingPowerOfTwo_17 ?_
  refine lv_topi (fun f_3 ef_3 => ?_)
  have ef_3 : f_3 = 256 := ef_3.trans (by decide +kernel)
  subst ef_3
  exact W.iret (v := 256) hx hb hr (fun t ht hW => ⟨256, rfl, rfl, ht⟩) (fun q h => absurd h List.not_mem_nil) dX3_ceilingPowerOfTwo_18
set_option maxHeartbeats 4000000 in
set_option maxRecDepth 100000 in
/-- Caffeine.requireArgument(true) -/
theorem mX3_req (l : Launch)  : Met l yX3_requireArgument (ws_ yX3_requireArgument cX3_requireArgument 1 none) ({ frames := 0, cells := 0, slots := 0, locals := 0 }) (va_Pc [.int 1] (fun U => True)) (va_Sv (fun _ => True)) 0 0 (fun _ => False) := by
  refine Met.ofW (cc := cX3_requireArgument) (maxL := 1) (ret := none) (by decide) rfl ?_
  intro p e s m args below meth c s₁ B hml hv
  obtain ⟨rfl, -⟩ := hv
  have hx := B.exec
  have hb := B.bytes
  have hr := B.returns
  have hts := atoms_spec (ws := (ws_ yX3_requireArgument cX3_requireArgument 1 none)) B.pre
  have hts : ∀ w ∈ lw_all, w.before _ s = true := fun w h => hts w (List.mem_cons_of_mem _ h)
  have hown : s.vm.findClass RX3 = some m.cls := findClass_of_methodNamed B.named
  have hlocks := B.notSynchronized
  have hl := lv_entry ([.int 1]) (n := 1) (Nat.le_of_ble_eq_true rfl)
  rw [lg_entry_eq]
  generalize (lg_sl ([.int 1]) ++ List.replicate (1 - (lg_sl ([.int 1])).length) Slot.unset).toArray = ls at hl ⊢
  have hl : lv_has ls 1 [(0, .int 1)] := hl
  refine lv_iload_n hx hb dX3_requireArgument_0 rfl (lv_at hl 0 rfl) ?_
  refine lv_if_ne (tgt := 12) hx hb dX3_requireArgument_1 (by decide) (fun _ => ?_) (fun z => absurd z (by decide +kernel))
  exact W.vret hx hb hr (fun t ht hW => ⟨rfl, trivial, ht⟩) (fun q h => absurd h List.not_mem_nil) dX3_requireArgument_12
set_option maxHeartbeats 4000000 in
set_option maxRecDepth 100000 in
/-- FrequencySketch() -/
theorem mX2_init (l : Launch) (y : Nat) : Met l yX2_init (ws_ yX2_init cX2_init 1 none) ({ frames := 1, cells := 0, slots := 0, locals := 12 }) (va_Pc [.ref y] (fun U => True)) (va_Sv (fun _ => True)) 0 0 (fun _ => False) := by
  refine Met.ofW (cc := cX2_init) (maxL := 1) (ret := none) (by decide) rfl ?_
  intro p e s m args below meth c s₁ B hml hv
  obtain ⟨rfl, -⟩ := hv
  have hx := B.exec
  have hb := B.bytes
  have hr := B.returns
  have hts := atoms_spec (ws := (ws_ yX2_init cX2_init 1 none)) B.pre
  have hts : ∀ w ∈ lw_all, w.before _ s = true := fun w h => hts w (List.mem_cons_of_mem _ h)
  have hown : s.vm.findClass RX2 = some m.cls := findClass_of_methodNamed B.named
  have hlocks := B.notSynchronized
  have hl := lv_entry ([.ref y]) (n := 1) (Nat.le_of_ble_eq_true rfl)
  rw [lg_entry_eq]
  generalize (lg_sl ([.ref y]) ++ List.replicate (1 - (lg_sl ([.ref y])).length) Slot.unset).toArray = ls at hl ⊢
  have hl : lv_has ls 1 [(0, .ref y)] := hl
  refine lv_aload_n hx hb dX2_init_0 rfl (lv_at hl 0 rfl) ?_
  refine W.objInit hx hb hown (hts _ q27) (hts _ q20) (hts _ q21) rfl (by rw [hml]; exact hl.1) rfl dX2_init_1 (Nat.le_of_ble_eq_true rfl) (Nat.le_of_ble_eq_true rfl) ?_
  refine W.eq (g2 := F0 m 4 ls []) rfl ?_
  exact W.vret hx hb hr (fun t ht hW => ⟨rfl, trivial, ht⟩) (fun q h => absurd h List.not_mem_nil) dX2_init_4
set_option maxHeartbeats 4000000 in
set_option maxRecDepth 100000 in
/-- Number() -/
theorem mJ5_init (l : Launch) (y : Nat) : Met l yJ5_init (ws_ yJ5_init cJ5_init 1 none) ({ frames := 1, cells := 0, slots := 0, locals := 12 }) (va_Pc [.ref y] (fun U => True)) (va_Sv (fun _ => True)) 0 0 (fun _ => False) := by
  refine Met.ofW (cc := cJ5_init) (maxL := 1) (ret := none) (by decide) rfl ?_
  intro p e s m args below meth c s₁ B hml hv
  obtain ⟨rfl, -⟩ := hv
  have hx := B.exec
  have hb := B.bytes
  have hr := B.returns
  have hts := atoms_spec (ws := (ws_ yJ5_init cJ5_init 1 none)) B.pre
  have hts : ∀ w ∈ lw_all, w.before _ s = true := fun w h => hts w (List.mem_cons_of_mem _ h)
  have hown : s.vm.findClass RJ5 = some m.cls := findClass_of_methodNamed B.named
  have hlocks := B.notSynchronized
  have hl := lv_entry ([.ref y]) (n := 1) (Nat.le_of_ble_eq_true rfl)
  rw [lg_entry_eq]
  generalize (lg_sl ([.ref y]) ++ List.replicate (1 - (lg_sl ([.ref y])).length) Slot.unset).toArray = ls at hl ⊢
  have hl : lv_has ls 1 [(0, .ref y)] := hl
  refine lv_aload_n hx hb dJ5_init_0 rfl (lv_at hl 0 rfl) ?_
  refine W.objInit hx hb hown (hts _ q154) (hts _ q20) (hts _ q21) rfl (by rw [hml]; exact hl.1) rfl dJ5_init_1 (Nat.le_of_ble_eq_true rfl) (Nat.le_of_ble_eq_true rfl) ?_
  refine W.eq (g2 := F0 m 4 ls []) rfl ?_
  exact W.vret hx hb hr (fun t ht hW => ⟨rfl, trivial, ht⟩) (fun q h => absurd h List.not_mem_nil) dJ5_init_4
set_option maxHeartbeats 4000000 in
set_option maxRecDepth 100000 in
/-- the sketch has its table -/
theorem mX2_isNot (l : Launch) (D : va_G) (h1 h2 : Nat) (cA : ClassId) (f : Nat → Int64) (z : Int32) : Met l yX2_isNotInitialized (ws_ yX2_isNotInitialized cX2_isNotInitialized 1 (some .boolean)) ({ frames := 0, cells := 0, slots := 0, locals := 0 }) (va_Pc [.ref h1] (fun U => va_P D vwCl (wSk h1 h2 cA f z) U.heap ∧ va_K D vwCl [(cA, .long)] U)) (vp_Si (fun r => r = 0)) 0 0 (fun _ => False) := by
  refine Met.ofW (cc := cX2_isNotInitialized) (maxL := 1) (ret := (some .boolean)) (by decide) rfl ?_
  intro p e s m args below meth c s₁ B hml hv
  obtain ⟨rfl, hP, hK⟩ := hv
  have hx := B.exec
  have hb := B.bytes
  have hr := B.returns
  have hts := atoms_spec (ws := (ws_ yX2_isNotInitialized cX2_isNotInitialized 1 (some .boolean))) B.pre
  have hts : ∀ w ∈ lw_all, w.before _ s = true := fun w h => hts w (List.mem_cons_of_mem _ h)
  have hown : s.vm.findClass RX2 = some m.cls := findClass_of_methodNamed B.named
  have hlocks := B.notSynchronized
  have hl := lv_entry ([.ref h1]) (n := 1) (Nat.le_of_ble_eq_true rfl)
  rw [lg_entry_eq]
  generalize (lg_sl ([.ref h1]) ++ List.replicate (1 - (lg_sl ([.ref h1])).length) Slot.unset).toArray = ls at hl ⊢
  have hl : lv_has ls 1 [(0, .ref h1)] := hl
  refine lv_aload_n hx hb dX2_isNotInitialized_0 rfl (lv_at hl 0 rfl) ?_
  refine va_get (D := D) (ci := 1) (v := .ref h2) (C := RX2) (T := TX2) (N := 4) hx hb hts in_X2 hown hK hP 0 rfl rfl 2 (by decide) (hts _ q30) (fun _ h9 => h9) rfl dX2_isNotInitialized_1 ?_
  refine lv_ifnonnull (tgt := 11) hx hb dX2_isNotInitialized_4 (by decide) ?_
  refine lv_iconst (v := 0) hx hb dX2_isNotInitialized_11 (by decide +kernel) ?_
  exact W.zret (v := 0) hx hb hr rfl (fun t ht hW => ⟨0, rfl, rfl, ht⟩) (fun q h => absurd h List.not_mem_nil) dX2_isNotInitialized_12
set_option maxHeartbeats 4000000 in
set_option maxRecDepth 100000 in
/-- Integer(k) -/
theorem mJ6_init (l : Launch) (D : va_G) (y : Nat) (sz : Nat) (v k : Int32) : Met l yJ6_init (ws_ yJ6_init cJ6_init 2 none) ({ frames := 2, cells := 0, slots := 0, locals := 32 }) (va_Pc [.ref y, .int k] (fun U => U.heap.size = sz ∧ va_P D vwCl [(y, .inr (2, [.int v]))] U.heap ∧ va_K D vwCl [] U ∧ va_D (fun _ => True) [(y, .inr (2, [.int v]))])) (va_Qv (fun _ : Unit => True) (fun _ t => va_P D vwCl [(y, .inr (2, [.int k]))] t.heap ∧ va_K D vwCl [] t ∧ va_D (va_A [(y, .inr (2, [.int v]))] sz) [(y, .inr (2, [.int k]))]) (va_A [(y, .inr (2, [.int v]))] sz)) 0 0 (va_A [(y, .inr (2, [.int v]))] sz) := by
  refine Met.ofW (cc := cJ6_init) (maxL := 2) (ret := none) (by decide) rfl ?_
  intro p e s m args below meth c s₁ B hml hv
  obtain ⟨rfl, hsz, hP, hK, hD0⟩ := hv
  have hx := B.exec
  have hb := B.bytes
  have hr := B.returns
  have hts := atoms_spec (ws := (ws_ yJ6_init cJ6_init 2 none)) B.pre
  have hts : ∀ w ∈ lw_all, w.before _ s = true := fun w h => hts w (List.mem_cons_of_mem _ h)
  have hown : s.vm.findClass RJ6 = some m.cls := findClass_of_methodNamed B.named
  have hlocks := B.notSynchronized
  have hin : meth.name = "<init>" := (name_of_methodNamed B.named B.method).1
  subst hsz
  have hD := hD0.self (sz := s.heap.size)
  generalize hAe : va_A [(y, .inr (2, [.int v]))] s.heap.size = A at hD ⊢
  have hA : ∀ q : Nat, s.heap.size ≤ q → A q := fun q h => by rw [← hAe]; exact Or.inr h
  have hS : va_S A s.heap s.heap [] := va_S.rf
  have hP : va_P D vwCl [(y, .inr (2, [.int v]))] s.heap := hP
  have hl := lv_entry ([.ref y, .int k]) (n := 2) (Nat.le_of_ble_eq_true rfl)
  rw [lg_entry_eq]
  generalize (lg_sl ([.ref y, .int k]) ++ List.replicate (2 - (lg_sl ([.ref y, .int k])).length) Slot.unset).toArray = ls at hl ⊢
  have hl : lv_has ls 2 [(0, .ref y), (1, .int k)] := hl
  refine lv_aload_n hx hb dJ6_init_0 rfl (lv_at hl 0 rfl) ?_
  refine va_csv (va_Run.run (va_runI (As := []) (rest := []) ⟨hx, hb, hml, hown, hts⟩ (mJ5_init l y) (cwI 0 hts (lw_meth q153) rfl rfl rfl (hts _ q10) (hts _ q151) (hts _ q152) rfl (by decide +kernel) ⟨Nat.le_of_ble_eq_true rfl, Nat.le_of_ble_eq_true rfl⟩) ⟨fun a U g mk q => q, fun U hU hW => ⟨rfl, trivial⟩⟩ rfl rfl hl.1 rfl (lv_room (Nat.le_of_ble_eq_true rfl)) dJ6_init_1 ⟨Nat.zero_le _, Nat.zero_le _⟩)) (fun _ => ?_)
  refine lv_aload_n hx hb dJ6_init_4 rfl (lv_at hl 0 rfl) ?_
  refine lv_iload_n hx hb dJ6_init_5 rfl (lv_at hl 1 rfl) ?_
  refine va_putF (D := D) (ci := 2) (v := .int k) (ty := .int) (C := RJ6) (T := TJ6) (N := 1) hx hb hts in_J6 tyJ6 tyJ6_ok nmJ6 hown hK hP hD hS 0 rfl rfl 0 (by decide) (hts _ q155) (fun _ h9 => h9) rfl hin rfl (by decide +kernel) rfl rfl (Nat.le_of_ble_eq_true rfl) dJ6_init_6 (fun H locs hP hD hS => ?_)
  have hP : va_P D vwCl [(y, .inr (2, [.int k]))] H := hP
  have hD : va_D A [(y, .inr (2, [.int k]))] := hD
  exact W.vret hx hb hr (fun t ht hW => ⟨⟨(), rfl, trivial, by rw [ht]; exact hP, va_K.moved hW.alike hK, hD⟩, hS.F ht⟩) hS.2.2 dJ6_init_9
set_option maxHeartbeats 4000000 in
set_option maxRecDepth 100000 in
/-- Integer.valueOf(k): a box that holds k, new or from the cache -/
theorem mJ6_valueOf (l : Launch) (D : va_G) (tc : Nat) (ad : Nat → Nat) (sz : Nat) (k : Int32) : Met l yJ6_valueOf (ws_ yJ6_valueOf cJ6_valueOf 1 (some (.object "java/lang/Integer"))) ({ frames := 3, cells := 1, slots := 1, locals := 53 }) (va_Pc [.int k] (fun U => U.heap.size = sz ∧ va_K D vwCl [] U ∧ bxC tc ad (va_A [] sz) U U.heap)) (va_Qr (fun _ : Unit => True) (fun _ a t => bx a k t t.heap ∧ (sz ≤ a ∨ ∃ j, j < 256 ∧ a = ad j)) (va_A [] sz)) 1 1 (va_A [] sz) := by
  refine Met.ofW (cc := cJ6_valueOf) (maxL := 1) (ret := (some (.object "java/lang/Integer"))) (by decide) rfl ?_
  intro p e s m args below meth c s₁ B hml hv
  obtain ⟨rfl, hsz, hK, hB⟩ := hv
  have hx := B.exec
  have hb := B.bytes
  have hr := B.returns
  have hts := atoms_spec (ws := (ws_ yJ6_valueOf cJ6_valueOf 1 (some (.object "java/lang/Integer")))) B.pre
  have hts : ∀ w ∈ lw_all, w.before _ s = true := fun w h => hts w (List.mem_cons_of_mem _ h)
  have hown : s.vm.findClass RJ6 = some m.cls := findClass_of_methodNamed B.named
  have hlocks := B.notSynchronized
  subst hsz
  generalize hAe : va_A [] s.heap.size = A at hB ⊢
  have hA : ∀ q : Nat, s.heap.size ≤ q → A q := fun q h => by rw [← hAe]; exact Or.inr h
  have hS : va_S A s.heap s.heap [] := va_S.rf
  have hP : va_P D vwCl [] s.heap := fun k q h => by simp at h
  have hD : va_D A [] := ⟨fun i j p q h => by simp at h, fun k q h => by simp at h⟩
  have hl := lv_entry ([.int k]) (n := 1) (Nat.le_of_ble_eq_true rfl)
  rw [lg_entry_eq]
  generalize (lg_sl ([.int k]) ++ List.replicate (1 - (lg_sl ([.int k])).length) Slot.unset).toArray = ls at hl ⊢
  have hl : lv_has ls 1 [(0, .int k)] := hl
  have tail : W p l e (headSpec (ws_ yJ6_valueOf cJ6_valueOf 1 (some (.object "java/lang/Integer"))) ({ frames := 3, cells := 1, slots := 1, locals := 53 })).room s m ([.int k] : List Value).toArray below meth c s.heap [] 0 0 (MQ below (va_Qr (fun _ : Unit => True) (fun _ a t => bx a k t t.heap ∧ (s.heap.size ≤ a ∨ ∃ j, j < 256 ∧ a = ad j)) A) ([.int k] : List Value).toArray s 1 1 A) (F0 m 23 ls []) := by
    refine va_new (ci := 2) (fs := [.int 0]) (C := RJ6) (T := TJ6) (N := 1) hx hb hts in_J6 tyJ6 tyJ6_ok hown (hts _ q146) (hts _ q147) (hts _ q11) hK hP hD hS hA rfl (fun j hj => by rcases (show j = 0 by omega) with rfl <;> rfl) (Nat.le_of_ble_eq_true rfl) (Nat.le_of_ble_eq_true rfl) dJ6_valueOf_23 (fun y H hP hD hS => ?_)
    have hP : va_P D vwCl [(y, .inr (2, [.int 0]))] H := hP
    have hD : va_D A [(y, .inr (2, [.int 0]))] := hD
    refine W.widen (k := 1) (n := 1) (by omega) (by omega) ?_
    refine lv_dup hx hb dJ6_valueOf_26 rfl ?_
    refine lv_iload_n hx hb dJ6_valueOf_27 rfl (lv_at hl 0 rfl) ?_
    have hFc := va_free (wc := [(y, .inr (2, [.int 0]))]) hD hS hA [0] rfl
    have hge : s.heap.size ≤ y := by
      have h9 := hD.2 0 _ rfl
      rw [← hAe] at h9
      rcases h9 with ⟨k9, e9, h9⟩ | h9
      · simp at h9
      · exact h9
    refine va_callv (va_runI (As := [.int k]) (rest := [.ref y]) ⟨hx, hb, hml, hown, hts⟩ (mJ6_init l D y H.size 0 k) (cwI 1 hts (lw_meth q150) rfl rfl rfl (hts _ q11) (hts _ q148) (hts _ q149) rfl (by decide +kernel) ⟨Nat.le_of_ble_eq_true rfl, Nat.le_of_ble_eq_true rfl⟩) ⟨fun a U g mk q => by obtain ⟨q0, q1, qP, qK, qD⟩ := q; exact ⟨q0, q1, qP, va_K.moved (u := U) (U := U.calling g mk a) (Vm.Alike.refl U.vm) qK, qD⟩, fun U hU hW => ⟨rfl, by rw [hU], by rw [hU]; exact hP, va_K.moved hW.alike hK, hD.weaken (fun _ _ _ _ => trivial)⟩⟩ rfl rfl hl.1 rfl (lv_room (Nat.le_of_ble_eq_true rfl)) dJ6_valueOf_28 ⟨Nat.le_of_ble_eq_true rfl, Nat.le_of_ble_eq_true rfl⟩) hS (fun q _ h => hFc q h) hFc (fun u t H1 locs ht hvm hw1 hB9 hz1 hk1 hS => ?_)
    obtain ⟨hP1, hK1, hD1⟩ := hB9
    rw [ht] at hP1
    have hbx := bx_made hts hK hP1 (q0 := 0) rfl
    refine W.widen (k := 1) (n := 1) (by omega) (by omega) ?_
    exact W.aret hx hb hr (Or.inl ⟨_, rfl⟩) (Or.inr ⟨_, rfl⟩) (fun t ht hW => ⟨⟨(), y, rfl, trivial, by rw [ht]; exact hbx.moved hW.alike, Or.inl hge⟩, hS.F ht⟩) hS.2.2 dJ6_valueOf_31
  refine lv_iload_n hx hb dJ6_valueOf_0 rfl (lv_at hl 0 rfl) ?_
  refine lv_bipush (v := (-128)) hx hb dJ6_valueOf_1 (by decide +kernel) ?_
  refine lv_icmp_lt (tgt := 23) hx hb dJ6_valueOf_3 (by decide) (fun _ => tail) (fun c_1 => ?_)
  refine lv_iload_n hx hb dJ6_valueOf_6 rfl (lv_at hl 0 rfl) ?_
  refine va_gets hx hb hB.1 hS hown (hts _ q142) (fun _ h9 => h9) dJ6_valueOf_7 ?_
  refine lv_icmp_gt (tgt := 23) hx hb dJ6_valueOf_10 (by decide) (fun _ => tail) (fun c_2 => ?_)
  obtain ⟨j, hj, ej, ek⟩ := bx_small c_1 c_2
  refine va_gets hx hb hB.2.1 hS hown (hts _ q144) (fun _ h9 => h9) dJ6_valueOf_13 ?_
  refine lv_iload_n hx hb dJ6_valueOf_16 rfl (lv_at hl 0 rfl) ?_
  refine lv_sipush (v := 128) hx hb dJ6_valueOf_17 (by decide +kernel) ?_
  refine lv_iadd hx hb dJ6_valueOf_20 ?_
  refine lv_topi (fun f_1 ef_1 => ?_)
  have ef_1 : f_1 = k + 128 := ef_1
  have hin : vp_in f_1 256 := by rw [ef_1, ej]; exact vp_in_nI hj (by decide)
  have hcl : f_1.toNatClampNeg = j := by rw [ef_1, ej]; exact nI_clamp (by omega)
  refine vb_tq (v := .ref (ad j)) hx hb hB.2.2.1 hS hin (show Value.ref (ad f_1.toNatClampNeg) = .ref (ad j) by rw [hcl]) dJ6_valueOf_21 ?_
  have hbx := bx_cached hB hj
  rw [← ek] at hbx
  refine W.widen (k := 1) (n := 1) (by omega) (by omega) ?_
  exact W.aret hx hb hr (Or.inl ⟨_, rfl⟩) (Or.inr ⟨_, rfl⟩) (fun t ht hW => ⟨⟨(), ad j, rfl, trivial, by rw [ht]; exact hbx.moved hW.alike, Or.inr ⟨j, hj, rfl⟩⟩, hS.F ht⟩) hS.2.2 dJ6_valueOf_22
end
section
set_option maxHeartbeats 4000000 in
set_option maxRecDepth 100000 in
/-- FrequencySketch.incrementAt(s0, i0) -/
theorem mX2_incAt (l : Launch) (D : va_G) (h1 h2 : Nat) (cA : ClassId) (f : Nat → Int64) (z : Int32) (sz : Nat) (s0 i0 : Nat) (hs0 : s0 < 256) (hi0 : i0 < 16) : Met l yX2_incrementAt (ws_ yX2_incrementAt cX2_incrementAt 6 (some .boolean)) ({ frames := 0, cells := 0, slots := 0, locals := 0 }) (va_Pc [.ref h1, .int (nI s0), .int (nI i0)] (fun U => U.heap.size = sz ∧ va_P D vwCl (wSk h1 h2 cA f z) U.heap ∧ va_K D vwCl [(cA, .long)] U ∧ va_D (fun _ => True) (wSk h1 h2 cA f z))) (va_Qi (fun (r : Int32) (u : Nat → Int64) => u = atF f s0 i0 ∧ (r = 0 ∨ r = 1)) (fun u t => va_P D vwCl (wSk h1 h2 cA u z) t.heap ∧ va_K D vwCl [(cA, .long)] t ∧ va_D (va_A (wSk h1 h2 cA f z) sz) (wSk h1 h2 cA u z)) (va_A (wSk h1 h2 cA f z) sz)) 0 0 (va_A (wSk h1 h2 cA f z) sz) := by
  refine Met.ofW (cc := cX2_incrementAt) (maxL := 6) (ret := (some .boolean)) (by decide) rfl ?_
  intro p e s m args below meth c s₁ B hml hv
  obtain ⟨rfl, hsz, hP, hK, hD0⟩ := hv
  have hx := B.exec
  have hb := B.bytes
  have hr := B.returns
  have hts := atoms_spec (ws := (ws_ yX2_incrementAt cX2_incrementAt 6 (some .boolean))) B.pre
  have hts : ∀ w ∈ lw_all, w.before _ s = true := fun w h => hts w (List.mem_cons_of_mem _ h)
  have hown : s.vm.findClass RX2 = some m.cls := findClass_of_methodNamed B.named
  have hlocks := B.notSynchronized
  subst hsz
  have hD := hD0.self (sz := s.heap.size)
  generalize hAe : va_A (wSk h1 h2 cA f z) s.heap.size = A at hD ⊢
  have hA : ∀ q : Nat, s.heap.size ≤ q → A q := fun q h => by rw [← hAe]; exact Or.inr h
  have hS : va_S A s.heap s.heap [] := va_S.rf
  have hP : va_P D vwCl (wSk h1 h2 cA f z) s.heap := hP
  have hl := lv_entry ([.ref h1, .int (nI s0), .int (nI i0)]) (n := 6) (Nat.le_of_ble_eq_true rfl)
  rw [lg_entry_eq]
  generalize (lg_sl ([.ref h1, .int (nI s0), .int (nI i0)]) ++ List.replicate (6 - (lg_sl ([.ref h1, .int (nI s0), .int (nI i0)])).length) Slot.unset).toArray = ls at hl ⊢
  have hl : lv_has ls 6 [(0, .ref h1), (1, .int (nI s0)), (2, .int (nI i0))] := hl
  have hin : vp_in (nI s0) 256 := vp_in_nI hs0 (by decide)
  have hcl : (nI s0).toNatClampNeg = s0 := nI_clamp (by omega)
  refine lv_iload_n hx hb dX2_incrementAt_0 rfl (lv_at hl 2 rfl) ?_
  refine lv_iconst (v := 2) hx hb dX2_incrementAt_1 (by decide +kernel) ?_
  refine lv_ishl hx hb dX2_incrementAt_2 ?_
  refine lv_topi (fun f_1 ef_1 => ?_)
  have ef_1 : f_1 = slI (nI i0) 2 := ef_1
  refine lv_istore_n (lv' := [(3, .int f_1), (0, .ref h1), (1, .int (nI s0)), (2, .int (nI i0))]) hx hb dX2_incrementAt_3 rfl hl (by decide) rfl (fun ls hl => ?_)
  refine lv_ldc2 (v := 15) hx hb hown (hts _ q193) dX2_incrementAt_4 ?_
  refine lv_iload_n hx hb dX2_incrementAt_7 rfl (lv_at hl 0 rfl) ?_
  refine lv_lshl (v := slL 15 f_1) hx hb dX2_incrementAt_8 rfl ?_
  refine lv_topl (fun f_2 ef_2 => ?_)
  have ef_2 : f_2 = slL 15 f_1 := ef_2
  refine lv_lstore (lv' := [(4, .long f_2), (3, .int f_1), (0, .ref h1), (1, .int (nI s0)), (2, .int (nI i0))]) hx hb dX2_incrementAt_9 hl (by decide) rfl (fun ls hl => ?_)
  refine lv_aload_n hx hb dX2_incrementAt_11 rfl (lv_at hl 2 rfl) ?_
  refine va_get (D := D) (ci := 1) (v := .ref h2) (C := RX2) (T := TX2) (N := 4) hx hb hts in_X2 hown hK hP 0 rfl rfl 2 (by decide) (hts _ q30) (fun _ h9 => h9) rfl dX2_incrementAt_12 ?_
  refine lv_iload_n hx hb dX2_incrementAt_15 rfl (lv_at hl 3 rfl) ?_
  refine va_lald hx hb hK hP 1 0 rfl rfl hin dX2_incrementAt_16 ?_
  refine lv_topl (fun g_3 eg_3 => ?_)
  have eg_3 : g_3 = f s0 := by rw [eg_3, hcl]
  refine lv_lload hx hb dX2_incrementAt_17 (lv_at hl 0 rfl) ?_
  refine lv_land hx hb dX2_incrementAt_19 ?_
  refine lv_topl (fun f_4 ef_4 => ?_)
  have ef_4 : f_4 = g_3 &&& f_2 := ef_4
  refine lv_lload hx hb dX2_incrementAt_20 (lv_at hl 0 rfl) ?_
  refine W.lcmp hx hb dX2_incrementAt_22 ?_
  have hcond : lg_cmp f_4 f_2 = 0 ↔ cnt f s0 i0 = 15 := (lg_cmp_eq _ _).trans (by rw [ef_4, ef_2, eg_3, ef_1]; exact fz_cond f s0 hi0)
  refine lv_if_eq (tgt := 40) hx hb dX2_incrementAt_23 (by decide) (fun c_1 => ?_) (fun c_1 => ?_)
  · refine lv_iconst (v := 0) hx hb dX2_incrementAt_40 (by decide +kernel) ?_
    exact W.zret (v := 0) hx hb hr rfl (fun t ht hW => ⟨⟨0, f, rfl, ⟨by unfold atF; rw [if_pos (hcond.mp c_1)], Or.inl rfl⟩, by rw [ht]; exact hP, va_K.moved hW.alike hK, hD⟩, hS.F ht⟩) hS.2.2 dX2_incrementAt_41
  · refine lv_aload_n hx hb dX2_incrementAt_26 rfl (lv_at hl 2 rfl) ?_
    refine va_get (D := D) (ci := 1) (v := .ref h2) (C := RX2) (T := TX2) (N := 4) hx hb hts in_X2 hown hK hP 0 rfl rfl 2 (by decide) (hts _ q30) (fun _ h9 => h9) rfl dX2_incrementAt_27 ?_
    refine lv_iload_n hx hb dX2_incrementAt_30 rfl (lv_at hl 3 rfl) ?_
    refine lv_dup2_11 hx hb dX2_incrementAt_31 rfl rfl ?_
    refine va_lald hx hb hK hP 1 0 rfl rfl hin dX2_incrementAt_32 ?_
    refine lv_topl (fun g_5 eg_5 => ?_)
    have eg_5 : g_5 = f s0 := by rw [eg_5, hcl]
    refine lv_lconst (v := 1) hx hb dX2_incrementAt_33 (by decide +kernel) ?_
    refine lv_iload_n hx hb dX2_incrementAt_34 rfl (lv_at hl 1 rfl) ?_
    refine lv_lshl (v := slL 1 f_1) hx hb dX2_incrementAt_35 rfl ?_
    refine lv_topl (fun f_6 ef_6 => ?_)
    have ef_6 : f_6 = slL 1 f_1 := ef_6
    refine lv_ladd hx hb dX2_incrementAt_36 ?_
    refine lv_topl (fun f_7 ef_7 => ?_)
    have ef_7 : f_7 = g_5 + f_6 := ef_7
    refine va_last hx hb hK hP hD hS 1 0 rfl rfl hin dX2_incrementAt_37 (fun H locs hP hD hS => ?_)
    have he : vp_updL f (nI s0).toNatClampNeg f_7 = atF f s0 i0 := by
      unfold atF
      rw [if_neg (fun q => c_1 (hcond.mpr q)), hcl, ef_7, eg_5, ef_6, ef_1]
    have hP : va_P D vwCl (wSk h1 h2 cA (vp_updL f (nI s0).toNatClampNeg f_7) z) H := hP
    have hD : va_D A (wSk h1 h2 cA (vp_updL f (nI s0).toNatClampNeg f_7) z) := hD
    rw [he] at hP hD
    refine lv_iconst (v := 1) hx hb dX2_incrementAt_38 (by decide +kernel) ?_
    exact W.zret (v := 1) hx hb hr rfl (fun t ht hW => ⟨⟨1, atF f s0 i0, rfl, ⟨rfl, Or.inr rfl⟩, by rw [ht]; exact hP, va_K.moved hW.alike hK, hD⟩, hS.F ht⟩) hS.2.2 dX2_incrementAt_39
set_option maxHeartbeats 4000000 in
set_option maxRecDepth 100000 in
/-- FrequencySketch.frequency(a box of k) -/
theorem mX2_freq (l : Launch) (D : va_G) (h1 h2 : Nat) (cA : ClassId) (f : Nat → Int64) (z : Int32) (y : Nat) (k : Int32) : Met l yX2_frequency (ws_ yX2_frequency cX2_frequency 12 (some .int)) ({ frames := 2, cells := 0, slots := 0, locals := 40 }) (va_Pc [.ref h1, .ref y] (fun U => va_P D vwCl (wSk h1 h2 cA f z) U.heap ∧ va_K D vwCl [(cA, .long)] U ∧ bx y k U U.heap)) (vp_Si (fun r => r = nI (tN f k))) 0 0 (fun _ => False) := by
  refine Met.ofW (cc := cX2_frequency) (maxL := 12) (ret := (some .int)) (by decide) rfl ?_
  intro p e s m args below meth c s₁ B hml hv
  obtain ⟨rfl, hP, hK, hB⟩ := hv
  have hx := B.exec
  have hb := B.bytes
  have hr := B.returns
  have hts := atoms_spec (ws := (ws_ yX2_frequency cX2_frequency 12 (some .int))) B.pre
  have hts : ∀ w ∈ lw_all, w.before _ s = true := fun w h => hts w (List.mem_cons_of_mem _ h)
  have hown : s.vm.findClass RX2 = some m.cls := findClass_of_methodNamed B.named
  have hlocks := B.notSynchronized
  have hl := lv_entry ([.ref h1, .ref y]) (n := 12) (Nat.le_of_ble_eq_true rfl)
  rw [lg_entry_eq]
  generalize (lg_sl ([.ref h1, .ref y]) ++ List.replicate (12 - (lg_sl ([.ref h1, .ref y])).length) Slot.unset).toArray = ls at hl ⊢
  have hl : lv_has ls 12 [(0, .ref h1), (1, .ref y)] := hl
  have loop : ∀ (n j : Nat), j + n = 4 → ∀ ls : Array Slot, lv_has ls 12 [(0, .ref h1), (1, .ref y), (2, .int (nI (tM f k j))), (3, .int (hSpread k)), (4, .int (hRehash (hSpread k))), (5, .int (slI (hSpread k &&& 31) 3)), (6, .int (nI j))] → W p l e (headSpec (ws_ yX2_frequency cX2_frequency 12 (some .int)) ({ frames := 2, cells := 0, slots := 0, locals := 40 })).room s m ([.ref h1, .ref y] : List Value).toArray below meth c s.heap [] 0 0 (MQ below (vp_Si (fun r => r = nI (tN f k))) ([.ref h1, .ref y] : List Value).toArray s 0 0 (fun _ => False)) (F0 m 39 ls []) := by
    intro n
    induction n with
    | zero =>
      intro j hj ls hl
      obtain rfl : j = 4 := by omega
      refine lv_iload hx hb dX2_frequency_39 (lv_at hl 6 rfl) ?_
      refine lv_iconst (v := 4) hx hb dX2_frequency_41 (by decide +kernel) ?_
      refine lv_icmp_ge (tgt := 113) hx hb dX2_frequency_42 (by decide) (fun _ => ?_) (fun q => absurd (nI_le (a := 4) (b := 4) (by decide) (by decide)) q)
      refine lv_iload_n hx hb dX2_frequency_113 rfl (lv_at hl 2 rfl) ?_
      exact W.iret (v := nI (tM f k 4)) hx hb hr (fun t ht hW => ⟨nI (tM f k 4), rfl, by rw [tM_4], ht⟩) (fun q h => absurd h List.not_mem_nil) dX2_frequency_114
    | succ n ih =>
      intro j hj ls hl
      have hj4 : j < 4 := by omega
      have hs4 := kS_lt k hj4
      have hi4 := kI_lt k j
      refine lv_iload hx hb dX2_frequency_39 (lv_at hl 6 rfl) ?_
      refine lv_iconst (v := 4) hx hb dX2_frequency_41 (by decide +kernel) ?_
      refine lv_icmp_ge (tgt := 113) hx hb dX2_frequency_42 (by decide) (fun q => absurd q (nI_ge (a := j) (b := 4) hj4 (by decide))) (fun _ => ?_)
      refine lv_iload hx hb dX2_frequency_45 (lv_at hl 4 rfl) ?_
      refine lv_iload hx hb dX2_frequency_47 (lv_at hl 6 rfl) ?_
      refine lv_iconst (v := 3) hx hb dX2_frequency_49 (by decide +kernel) ?_
      refine lv_ishl hx hb dX2_frequency_50 ?_
      refine lv_topi (fun f_1 ef_1 => ?_)
      have ef_1 : f_1 = slI (nI j) 3 := ef_1
      refine lv_iushr (v := usI (hRehash (hSpread k)) f_1) hx hb dX2_frequency_51 rfl ?_
      refine lv_topi (fun f_2 ef_2 => ?_)
      have ef_2 : f_2 = usI (hRehash (hSpread k)) f_1 := ef_2
      have hh : uI f_2 = hN k / 2 ^ (8 * j) := by rw [ef_2, ef_1]; exact fz_hj k hj4
      refine lv_istore (lv' := [(7, .int f_2), (0, .ref h1), (1, .ref y), (2, .int (nI (tM f k j))), (3, .int (hSpread k)), (4, .int (hRehash (hSpread k))), (5, .int (slI (hSpread k &&& 31) 3)), (6, .int (nI j))]) hx hb dX2_frequency_52 hl (by decide) rfl (fun ls hl => ?_)
      refine lv_iload hx hb dX2_frequency_54 (lv_at hl 0 rfl) ?_
      refine lv_iconst (v := 1) hx hb dX2_frequency_56 (by decide +kernel) ?_
      refine lv_iushr (v := usI f_2 1) hx hb dX2_frequency_57 rfl ?_
      refine lv_bipush (v := 15) hx hb dX2_frequency_58 (by decide +kernel) ?_
      refine lv_iand hx hb dX2_frequency_60 ?_
      refine lv_topi (fun f_3 ef_3 => ?_)
      have ef_3 : f_3 = nI (kI k j) := ef_3.trans (fz_idx hh)
      subst ef_3
      refine lv_istore (lv' := [(8, .int (nI (kI k j))), (7, .int f_2), (0, .ref h1), (1, .ref y), (2, .int (nI (tM f k j))), (3, .int (hSpread k)), (4, .int (hRehash (hSpread k))), (5, .int (slI (hSpread k &&& 31) 3)), (6, .int (nI j))]) hx hb dX2_frequency_61 hl (by decide) rfl (fun ls hl => ?_)
      refine lv_iload hx hb dX2_frequency_63 (lv_at hl 1 rfl) ?_
      refine lv_iconst (v := 1) hx hb dX2_frequency_65 (by decide +kernel) ?_
      refine lv_iand hx hb dX2_frequency_66 ?_
      refine lv_istore (lv' := [(9, .int (f_2 &&& 1)), (8, .int (nI (kI k j))), (7, .int f_2), (0, .ref h1), (1, .ref y), (2, .int (nI (tM f k j))), (3, .int (hSpread k)), (4, .int (hRehash (hSpread k))), (5, .int (slI (hSpread k &&& 31) 3)), (6, .int (nI j))]) hx hb dX2_frequency_67 hl (by decide) rfl (fun ls hl => ?_)
      refine lv_iload hx hb dX2_frequency_69 (lv_at hl 8 rfl) ?_
      refine lv_iload hx hb dX2_frequency_71 (lv_at hl 0 rfl) ?_
      refine lv_iadd hx hb dX2_frequency_73 ?_
      refine lv_iload hx hb dX2_frequency_74 (lv_at hl 9 rfl) ?_
      refine lv_iconst (v := 1) hx hb dX2_frequency_76 (by decide +kernel) ?_
      refine lv_ishl hx hb dX2_frequency_77 ?_
      refine lv_iadd hx hb dX2_frequency_78 ?_
      refine lv_topi (fun f_4 ef_4 => ?_)
      have ef_4 : f_4 = nI (kS k j) := ef_4.trans ((congrArg (fun t => slI (hSpread k &&& 31) 3 + (f_2 &&& 1) + t) (fz_s2j j hj4)).trans (fz_slot hh))
      subst ef_4
      refine lv_istore (lv' := [(10, .int (nI (kS k j))), (9, .int (f_2 &&& 1)), (8, .int (nI (kI k j))), (7, .int f_2), (0, .ref h1), (1, .ref y), (2, .int (nI (tM f k j))), (3, .int (hSpread k)), (4, .int (hRehash (hSpread k))), (5, .int (slI (hSpread k &&& 31) 3)), (6, .int (nI j))]) hx hb dX2_frequency_79 hl (by decide) rfl (fun ls hl => ?_)
      refine lv_aload_n hx hb dX2_frequency_81 rfl (lv_at hl 4 rfl) ?_
      refine va_get (D := D) (ci := 1) (v := .ref h2) (C := RX2) (T := TX2) (N := 4) hx hb hts in_X2 hown hK hP 0 rfl rfl 2 (by decide) (hts _ q30) (fun _ h9 => h9) rfl dX2_frequency_82 ?_
      refine lv_iload hx hb dX2_frequency_85 (lv_at hl 0 rfl) ?_
      have hin : vp_in (nI (kS k j)) 256 := vp_in_nI hs4 (by decide)
      refine va_lald hx hb hK hP 1 0 rfl rfl hin dX2_frequency_87 ?_
      refine lv_topl (fun f_5 ef_5 => ?_)
      have ef_5 : f_5 = f (kS k j) := by rw [ef_5, nI_clamp (show kS k j < 2 ^ 31 by omega)]
      subst ef_5
      refine lv_iload hx hb dX2_frequency_88 (lv_at hl 2 rfl) ?_
      refine lv_iconst (v := 2) hx hb dX2_frequency_90 (by decide +kernel) ?_
      refine lv_ishl hx hb dX2_frequency_91 ?_
      refine lv_lushr (v := usL (f (kS k j)) (slI (nI (kI k j)) 2)) hx hb dX2_frequency_92 rfl ?_
      refine lv_ldc2 (v := 15) hx hb hown (hts _ q193) dX2_frequency_93 ?_
      refine lv_land hx hb dX2_frequency_96 ?_
      refine lv_l2i (v := ((usL (f (kS k j)) (slI (nI (kI k j)) 2)) &&& 15).toInt32) hx hb dX2_frequency_97 rfl ?_
      refine lv_topi (fun f_6 ef_6 => ?_)
      have ef_6 : f_6 = nI (cnt f (kS k j) (kI k j)) := ef_6.trans (fz_cnt f (kS k j) hi4)
      subst ef_6
      refine lv_istore (lv' := [(11, .int (nI (cnt f (kS k j) (kI k j)))), (10, .int (nI (kS k j))), (9, .int (f_2 &&& 1)), (8, .int (nI (kI k j))), (7, .int f_2), (0, .ref h1), (1, .ref y), (2, .int (nI (tM f k j))), (3, .int (hSpread k)), (4, .int (hRehash (hSpread k))), (5, .int (slI (hSpread k &&& 31) 3)), (6, .int (nI j))]) hx hb dX2_frequency_98 hl (by decide) rfl (fun ls hl => ?_)
      refine lv_iload_n hx hb dX2_frequency_100 rfl (lv_at hl 7 rfl) ?_
      refine lv_iload hx hb dX2_frequency_101 (lv_at hl 0 rfl) ?_
      have hc16 := cnt_lt f (kS k j) (kI k j)
      refine va_mmin hx hb (by rw [hml]; exact hl.1.symm) hown (hts _ q119) (hts _ q120) (hts _ q9) (hts _ q121) (Nat.le_of_ble_eq_true rfl) (Nat.le_of_ble_eq_true rfl) (Nat.zero_le _) (Nat.zero_le _) dX2_frequency_103 ?_
      refine lv_topi (fun f_7 ef_7 => ?_)
      have ef_7 : f_7 = nI (tM f k (j + 1)) := ef_7.trans (fz_min (tM_lt f k j) (by omega))
      subst ef_7
      refine lv_istore_n (lv' := [(2, .int (nI (tM f k (j + 1)))), (11, .int (nI (cnt f (kS k j) (kI k j)))), (10, .int (nI (kS k j))), (9, .int (f_2 &&& 1)), (8, .int (nI (kI k j))), (7, .int f_2), (0, .ref h1), (1, .ref y), (3, .int (hSpread k)), (4, .int (hRehash (hSpread k))), (5, .int (slI (hSpread k &&& 31) 3)), (6, .int (nI j))]) hx hb dX2_frequency_106 rfl hl (by decide) rfl (fun ls hl => ?_)
      obtain ⟨f_8, ef_8⟩ : ∃ y : Int32, y = (nI j) + 1 := ⟨_, rfl⟩
      refine lv_iinc (v := f_8) (lv' := [(6, .int f_8), (2, .int (nI (tM f k (j + 1)))), (11, .int (nI (cnt f (kS k j) (kI k j)))), (10, .int (nI (kS k j))), (9, .int (f_2 &&& 1)), (8, .int (nI (kI k j))), (7, .int f_2), (0, .ref h1), (1, .ref y), (3, .int (hSpread k)), (4, .int (hRehash (hSpread k))), (5, .int (slI (hSpread k &&& 31) 3))]) hx hb dX2_frequency_107 hl (k := 11) rfl (by rw [ef_8]; rfl) (by decide) rfl (fun ls hl => ?_)
      have ef_8 : f_8 = nI (j + 1) := ef_8.trans (nI_1 j)
      subst ef_8
      refine lv_goto (tgt := 39) hx hb dX2_frequency_110 (by decide) ?_
      exact ih (j + 1) (by omega) ls (lv_sub hl [7, 8, 1, 9, 10, 11, 0] rfl)
  refine lv_aload_n hx hb dX2_frequency_0 rfl (lv_at hl 0 rfl) ?_
  refine vp_callSi (va_Run.run (va_runV (As := []) (rest := []) ⟨hx, hb, hml, hown, hts⟩ (mX2_isNot l D h1 h2 cA f z) (cwV 0 hts (lw_V q163 q164 q165 q3 q166) rfl rfl rfl (by decide +kernel) ⟨Nat.le_of_ble_eq_true rfl, Nat.le_of_ble_eq_true rfl⟩) ⟨fun a U g mk q => ⟨q.1, q.2.1, va_K.moved (u := U) (U := U.calling g mk a) (Vm.Alike.refl U.vm) q.2.2⟩, va_recv hK hP (ci := 1) (q0 := 0) rfl rfl, fun U hU hW => ⟨rfl, by rw [hU]; exact hP, va_K.moved hW.alike hK⟩⟩ rfl rfl hl.1 rfl (lv_room (Nat.le_of_ble_eq_true rfl)) dX2_frequency_1 ⟨Nat.zero_le _, Nat.zero_le _⟩)) (fun r_0 er_0 => ?_)
  subst er_0
  refine lv_if_eq (tgt := 9) hx hb dX2_frequency_4 (by decide) (fun _ => ?_) (fun q => absurd rfl q)
  refine lv_ldc (v := 2147483647) hx hb hown (hts _ q214) dX2_frequency_9 ?_
  refine lv_istore_n (lv' := [(2, .int 2147483647), (0, .ref h1), (1, .ref y)]) hx hb dX2_frequency_11 rfl hl (by decide) rfl (fun ls hl => ?_)
  refine lv_aload_n hx hb dX2_frequency_12 rfl (lv_at hl 2 rfl) ?_
  refine vp_callSi (va_Run.run (va_runU (As := []) (rest := []) ⟨hx, hb, hml, hown, hts⟩ (mJ6_hashCode l y k) (cw_hash hts rfl rfl ⟨Nat.le_of_ble_eq_true rfl, Nat.le_of_ble_eq_true rfl⟩) ⟨fun a U g mk q => ⟨q.1, bx.moved (u := U) (U := U.calling g mk a) (Vm.Alike.refl U.vm) q.2⟩, hB.recv, fun U hU hW => ⟨rfl, by show bx y k U U.heap; rw [hU]; exact hB.moved hW.alike⟩⟩ rfl rfl hl.1 rfl (lv_room (Nat.le_of_ble_eq_true rfl)) dX2_frequency_13 ⟨Nat.zero_le _, Nat.zero_le _⟩)) (fun r_1 er_1 => ?_)
  rw [er_1]
  refine vp_callSi (va_Run.run (va_runS (As := [.int k]) (rest := []) ⟨hx, hb, hml, hown, hts⟩ (mX2_spread l k) (va_cwS 1 hts (lw_S q180 q181 q3 q182) rfl rfl rfl (by decide +kernel) ⟨Nat.le_of_ble_eq_true rfl, Nat.le_of_ble_eq_true rfl⟩) ⟨fun a U g mk q => q, fun U hU hW => ⟨rfl, trivial⟩⟩ rfl rfl hl.1 rfl (lv_room (Nat.le_of_ble_eq_true rfl)) dX2_frequency_16 ⟨Nat.zero_le _, Nat.zero_le _⟩)) (fun r_2 er_2 => ?_)
  rw [er_2]
  refine lv_istore_n (lv' := [(3, .int (hSpread k)), (2, .int 2147483647), (0, .ref h1), (1, .ref y)]) hx hb dX2_frequency_19 rfl hl (by decide) rfl (fun ls hl => ?_)
  refine lv_iload_n hx hb dX2_frequency_20 rfl (lv_at hl 0 rfl) ?_
  refine vp_callSi (va_Run.run (va_runS (As := [.int (hSpread k)]) (rest := []) ⟨hx, hb, hml, hown, hts⟩ (mX2_rehash l (hSpread k)) (va_cwS 1 hts (lw_S q185 q186 q3 q187) rfl rfl rfl (by decide +kernel) ⟨Nat.le_of_ble_eq_true rfl, Nat.le_of_ble_eq_true rfl⟩) ⟨fun a U g mk q => q, fun U hU hW => ⟨rfl, trivial⟩⟩ rfl rfl hl.1 rfl (lv_room (Nat.le_of_ble_eq_true rfl)) dX2_frequency_21 ⟨Nat.zero_le _, Nat.zero_le _⟩)) (fun r_3 er_3 => ?_)
  rw [er_3]
  refine lv_istore (lv' := [(4, .int (hRehash (hSpread k))), (3, .int (hSpread k)), (2, .int 2147483647), (0, .ref h1), (1, .ref y)]) hx hb dX2_frequency_24 hl (by decide) rfl (fun ls hl => ?_)
  refine lv_iload_n hx hb dX2_frequency_26 rfl (lv_at hl 1 rfl) ?_
  refine lv_aload_n hx hb dX2_frequency_27 rfl (lv_at hl 3 rfl) ?_
  refine va_get (D := D) (ci := 1) (v := .int 31) (C := RX2) (T := TX2) (N := 4) hx hb hts in_X2 hown hK hP 0 rfl rfl 1 (by decide) (hts _ q29) (fun _ h9 => h9) rfl dX2_frequency_28 ?_
  refine lv_iand hx hb dX2_frequency_31 ?_
  refine lv_iconst (v := 3) hx hb dX2_frequency_32 (by decide +kernel) ?_
  refine lv_ishl hx hb dX2_frequency_33 ?_
  refine lv_istore (lv' := [(5, .int (slI ((hSpread k) &&& 31) 3)), (4, .int (hRehash (hSpread k))), (3, .int (hSpread k)), (2, .int 2147483647), (0, .ref h1), (1, .ref y)]) hx hb dX2_frequency_34 hl (by decide) rfl (fun ls hl => ?_)
  refine lv_iconst (v := 0) hx hb dX2_frequency_36 (by decide +kernel) ?_
  refine lv_istore (lv' := [(6, .int 0), (5, .int (slI ((hSpread k) &&& 31) 3)), (4, .int (hRehash (hSpread k))), (3, .int (hSpread k)), (2, .int 2147483647), (0, .ref h1), (1, .ref y)]) hx hb dX2_frequency_37 hl (by decide) rfl (fun ls hl => ?_)
  exact loop 4 0 rfl ls (lv_sub hl [5, 6, 4, 3, 2, 1, 0] rfl)
set_option maxHeartbeats 4000000 in
set_option maxRecDepth 100000 in
/-- FrequencySketch.increment(a box of k) -/
theorem mX2_incr (l : Launch) (D : va_G) (h1 h2 : Nat) (cA : ClassId) (f : Nat → Int64) (n : Nat) (hn : n < 2559) (sz : Nat) (y : Nat) (k : Int32) : Met l yX2_increment (ws_ yX2_increment cX2_increment 18 none) ({ frames := 2, cells := 0, slots := 0, locals := 40 }) (va_Pc [.ref h1, .ref y] (fun U => U.heap.size = sz ∧ va_P D vwCl (wSk h1 h2 cA f (nI n)) U.heap ∧ va_K D vwCl [(cA, .long)] U ∧ va_D (fun _ => True) (wSk h1 h2 cA f (nI n)) ∧ bx y k U U.heap)) (va_Qv (fun (u : (Nat → Int64) × Nat) => u.1 = incF f k ∧ u.2 ≤ n + 1) (fun u t => va_P D vwCl (wSk h1 h2 cA u.1 (nI u.2)) t.heap ∧ va_K D vwCl [(cA, .long)] t ∧ va_D (va_A (wSk h1 h2 cA f (nI n)) sz) (wSk h1 h2 cA u.1 (nI u.2))) (va_A (wSk h1 h2 cA f (nI n)) sz)) 0 0 (va_A (wSk h1 h2 cA f (nI n)) sz) := by
  refine Met.ofW (cc := cX2_increment) (maxL := 18) (ret := none) (by decide) rfl ?_
  intro p e s m args below meth c s₁ B hml hv
  obtain ⟨rfl, hsz, hP, hK, hD0, hB⟩ := hv
  have hx := B.exec
  have hb := B.bytes
  have hr := B.returns
  have hts := atoms_spec (ws := (ws_ yX2_increment cX2_increment 18 none)) B.pre
  have hts : ∀ w ∈ lw_all, w.before _ s = true := fun w h => hts w (List.mem_cons_of_mem _ h)
  have hown : s.vm.findClass RX2 = some m.cls := findClass_of_methodNamed B.named
  have hlocks := B.notSynchronized
  subst hsz
  have hD := hD0.self (sz := s.heap.size)
  generalize hAe : va_A (wSk h1 h2 cA f (nI n)) s.heap.size = A at hD ⊢
  have hA : ∀ q : Nat, s.heap.size ≤ q → A q := fun q h => by rw [← hAe]; exact Or.inr h
  have hS : va_S A s.heap s.heap [] := va_S.rf
  have hP : va_P D vwCl (wSk h1 h2 cA f (nI n)) s.heap := hP
  have hl := lv_entry ([.ref h1, .ref y]) (n := 18) (Nat.le_of_ble_eq_true rfl)
  rw [lg_entry_eq]
  generalize (lg_sl ([.ref h1, .ref y]) ++ List.replicate (18 - (lg_sl ([.ref h1, .ref y])).length) Slot.unset).toArray = ls at hl ⊢
  have hl : lv_has ls 18 [(0, .ref h1), (1, .ref y)] := hl
  refine lv_aload_n hx hb dX2_increment_0 rfl (lv_at hl 0 rfl) ?_
  refine vp_callSi (va_Run.run (va_runV (As := []) (rest := []) ⟨hx, hb, hml, hown, hts⟩ (mX2_isNot l D h1 h2 cA f (nI n)) (cwV 0 hts (lw_V q163 q164 q165 q3 q166) rfl rfl rfl (by decide +kernel) ⟨Nat.le_of_ble_eq_true rfl, Nat.le_of_ble_eq_true rfl⟩) ⟨fun a U g mk q => ⟨q.1, q.2.1, va_K.moved (u := U) (U := U.calling g mk a) (Vm.Alike.refl U.vm) q.2.2⟩, va_recv hK hP (ci := 1) (q0 := 0) rfl rfl, fun U hU hW => ⟨rfl, by rw [hU]; exact hP, va_K.moved hW.alike hK⟩⟩ rfl rfl hl.1 rfl (lv_room (Nat.le_of_ble_eq_true rfl)) dX2_increment_1 ⟨Nat.zero_le _, Nat.zero_le _⟩)) (fun r_0 er_0 => ?_)
  subst er_0
  refine lv_if_eq (tgt := 8) hx hb dX2_increment_4 (by decide) (fun _ => ?_) (fun q => absurd rfl q)
  refine lv_aload_n hx hb dX2_increment_8 rfl (lv_at hl 1 rfl) ?_
  refine vp_callSi (va_Run.run (va_runU (As := []) (rest := []) ⟨hx, hb, hml, hown, hts⟩ (mJ6_hashCode l y k) (cw_hash hts rfl rfl ⟨Nat.le_of_ble_eq_true rfl, Nat.le_of_ble_eq_true rfl⟩) ⟨fun a U g mk q => ⟨q.1, bx.moved (u := U) (U := U.calling g mk a) (Vm.Alike.refl U.vm) q.2⟩, hB.recv, fun U hU hW => ⟨rfl, by show bx y k U U.heap; rw [hU]; exact hB.moved hW.alike⟩⟩ rfl rfl hl.1 rfl (lv_room (Nat.le_of_ble_eq_true rfl)) dX2_increment_9 ⟨Nat.zero_le _, Nat.zero_le _⟩)) (fun r_1 er_1 => ?_)
  rw [er_1]
  refine vp_callSi (va_Run.run (va_runS (As := [.int k]) (rest := []) ⟨hx, hb, hml, hown, hts⟩ (mX2_spread l k) (va_cwS 1 hts (lw_S q180 q181 q3 q182) rfl rfl rfl (by decide +kernel) ⟨Nat.le_of_ble_eq_true rfl, Nat.le_of_ble_eq_true rfl⟩) ⟨fun a U g mk q => q, fun U hU hW => ⟨rfl, trivial⟩⟩ rfl rfl hl.1 rfl (lv_room (Nat.le_of_ble_eq_true rfl)) dX2_increment_12 ⟨Nat.zero_le _, Nat.zero_le _⟩)) (fun r_2 er_2 => ?_)
  rw [er_2]
  refine lv_istore_n (lv' := [(2, .int (hSpread k)), (0, .ref h1), (1, .ref y)]) hx hb dX2_increment_15 rfl hl (by decide) rfl (fun ls hl => ?_)
  refine lv_iload_n hx hb dX2_increment_16 rfl (lv_at hl 0 rfl) ?_
  refine vp_callSi (va_Run.run (va_runS (As := [.int (hSpread k)]) (rest := []) ⟨hx, hb, hml, hown, hts⟩ (mX2_rehash l (hSpread k)) (va_cwS 1 hts (lw_S q185 q186 q3 q187) rfl rfl rfl (by decide +kernel) ⟨Nat.le_of_ble_eq_true rfl, Nat.le_of_ble_eq_true rfl⟩) ⟨fun a U g mk q => q, fun U hU hW => ⟨rfl, trivial⟩⟩ rfl rfl hl.1 rfl (lv_room (Nat.le_of_ble_eq_true rfl)) dX2_increment_17 ⟨Nat.zero_le _, Nat.zero_le _⟩)) (fun r_3 er_3 => ?_)
  rw [er_3]
  refine lv_istore_n (lv' := [(3, .int (hRehash (hSpread k))), (2, .int (hSpread k)), (0, .ref h1), (1, .ref y)]) hx hb dX2_increment_20 rfl hl (by decide) rfl (fun ls hl => ?_)
  refine lv_iload_n hx hb dX2_increment_21 rfl (lv_at hl 1 rfl) ?_
  refine lv_aload_n hx hb dX2_increment_22 rfl (lv_at hl 2 rfl) ?_
  refine va_get (D := D) (ci := 1) (v := .int 31) (C := RX2) (T := TX2) (N := 4) hx hb hts in_X2 hown hK hP 0 rfl rfl 1 (by decide) (hts _ q29) (fun _ h9 => h9) rfl dX2_increment_23 ?_
  refine lv_iand hx hb dX2_increment_26 ?_
  refine lv_iconst (v := 3) hx hb dX2_increment_27 (by decide +kernel) ?_
  refine lv_ishl hx hb dX2_increment_28 ?_
  refine lv_istore (lv' := [(4, .int (slI ((hSpread k) &&& 31) 3)), (3, .int (hRehash (hSpread k))), (2, .int (hSpread k)), (0, .ref h1), (1, .ref y)]) hx hb dX2_increment_29 hl (by decide) rfl (fun ls hl => ?_)
  refine lv_iload_n hx hb dX2_increment_31 rfl (lv_at hl 1 rfl) ?_
  refine lv_istore (lv' := [(5, .int (hRehash (hSpread k))), (4, .int (slI ((hSpread k) &&& 31) 3)), (3, .int (hRehash (hSpread k))), (2, .int (hSpread k)), (0, .ref h1), (1, .ref y)]) hx hb dX2_increment_32 hl (by decide) rfl (fun ls hl => ?_)
  refine lv_iload_n hx hb dX2_increment_34 rfl (lv_at hl 2 rfl) ?_
  refine lv_bipush (v := 8) hx hb dX2_increment_35 (by decide +kernel) ?_
  refine lv_iushr (v := usI (hRehash (hSpread k)) 8) hx hb dX2_increment_37 rfl ?_
  refine lv_topi (fun f_1 ef_1 => ?_)
  have ef_1 : f_1 = usI (hRehash (hSpread k)) 8 := ef_1
  subst ef_1
  refine lv_istore (lv' := [(6, .int (usI (hRehash (hSpread k)) 8)), (5, .int (hRehash (hSpread k))), (4, .int (slI ((hSpread k) &&& 31) 3)), (3, .int (hRehash (hSpread k))), (2, .int (hSpread k)), (0, .ref h1), (1, .ref y)]) hx hb dX2_increment_38 hl (by decide) rfl (fun ls hl => ?_)
  refine lv_iload_n hx hb dX2_increment_40 rfl (lv_at hl 3 rfl) ?_
  refine lv_bipush (v := 16) hx hb dX2_increment_41 (by decide +kernel) ?_
  refine lv_iushr (v := usI (hRehash (hSpread k)) 16) hx hb dX2_increment_43 rfl ?_
  refine lv_topi (fun f_2 ef_2 => ?_)
  have ef_2 : f_2 = usI (hRehash (hSpread k)) 16 := ef_2
  subst ef_2
  refine lv_istore (lv' := [(7, .int (usI (hRehash (hSpread k)) 16)), (6, .int (usI (hRehash (hSpread k)) 8)), (5, .int (hRehash (hSpread k))), (4, .int (slI ((hSpread k) &&& 31) 3)), (3, .int (hRehash (hSpread k))), (2, .int (hSpread k)), (0, .ref h1), (1, .ref y)]) hx hb dX2_increment_44 hl (by decide) rfl (fun ls hl => ?_)
  refine lv_iload_n hx hb dX2_increment_46 rfl (lv_at hl 4 rfl) ?_
  refine lv_bipush (v := 24) hx hb dX2_increment_47 (by decide +kernel) ?_
  refine lv_iushr (v := usI (hRehash (hSpread k)) 24) hx hb dX2_increment_49 rfl ?_
  refine lv_topi (fun f_3 ef_3 => ?_)
  have ef_3 : f_3 = usI (hRehash (hSpread k)) 24 := ef_3
  subst ef_3
  refine lv_istore (lv' := [(8, .int (usI (hRehash (hSpread k)) 24)), (7, .int (usI (hRehash (hSpread k)) 16)), (6, .int (usI (hRehash (hSpread k)) 8)), (5, .int (hRehash (hSpread k))), (4, .int (slI ((hSpread k) &&& 31) 3)), (3, .int (hRehash (hSpread k))), (2, .int (hSpread k)), (0, .ref h1), (1, .ref y)]) hx hb dX2_increment_50 hl (by decide) rfl (fun ls hl => ?_)
  refine lv_iload hx hb dX2_increment_52 (lv_at hl 3 rfl) ?_
  refine lv_iconst (v := 1) hx hb dX2_increment_54 (by decide +kernel) ?_
  refine lv_iushr (v := usI (hRehash (hSpread k)) 1) hx hb dX2_increment_55 rfl ?_
  refine lv_bipush (v := 15) hx hb dX2_increment_56 (by decide +kernel) ?_
  refine lv_iand hx hb dX2_increment_58 ?_
  refine lv_topi (fun f_4 ef_4 => ?_)
  have ef_4 : f_4 = nI (kI k 0) := ef_4.trans (fz_idx (fz_h0 k))
  subst ef_4
  refine lv_istore (lv' := [(9, .int (nI (kI k 0))), (8, .int (usI (hRehash (hSpread k)) 24)), (7, .int (usI (hRehash (hSpread k)) 16)), (6, .int (usI (hRehash (hSpread k)) 8)), (5, .int (hRehash (hSpread k))), (4, .int (slI ((hSpread k) &&& 31) 3)), (3, .int (hRehash (hSpread k))), (2, .int (hSpread k)), (0, .ref h1), (1, .ref y)]) hx hb dX2_increment_59 hl (by decide) rfl (fun ls hl => ?_)
  refine lv_iload hx hb dX2_increment_61 (lv_at hl 3 rfl) ?_
  refine lv_iconst (v := 1) hx hb dX2_increment_63 (by decide +kernel) ?_
  refine lv_iushr (v := usI (usI (hRehash (hSpread k)) 8) 1) hx hb dX2_increment_64 rfl ?_
  refine lv_bipush (v := 15) hx hb dX2_increment_65 (by decide +kernel) ?_
  refine lv_iand hx hb dX2_increment_67 ?_
  refine lv_topi (fun f_5 ef_5 => ?_)
  have ef_5 : f_5 = nI (kI k 1) := ef_5.trans (fz_idx (fz_h1 k))
  subst ef_5
  refine lv_istore (lv' := [(10, .int (nI (kI k 1))), (9, .int (nI (kI k 0))), (8, .int (usI (hRehash (hSpread k)) 24)), (7, .int (usI (hRehash (hSpread k)) 16)), (6, .int (usI (hRehash (hSpread k)) 8)), (5, .int (hRehash (hSpread k))), (4, .int (slI ((hSpread k) &&& 31) 3)), (3, .int (hRehash (hSpread k))), (2, .int (hSpread k)), (0, .ref h1), (1, .ref y)]) hx hb dX2_increment_68 hl (by decide) rfl (fun ls hl => ?_)
  refine lv_iload hx hb dX2_increment_70 (lv_at hl 3 rfl) ?_
  refine lv_iconst (v := 1) hx hb dX2_increment_72 (by decide +kernel) ?_
  refine lv_iushr (v := usI (usI (hRehash (hSpread k)) 16) 1) hx hb dX2_increment_73 rfl ?_
  refine lv_bipush (v := 15) hx hb dX2_increment_74 (by decide +kernel) ?_
  refine lv_iand hx hb dX2_increment_76 ?_
  refine lv_topi (fun f_6 ef_6 => ?_)
  have ef_6 : f_6 = nI (kI k 2) := ef_6.trans (fz_idx (fz_h2 k))
  subst ef_6
  refine lv_istore (lv' := [(11, .int (nI (kI k 2))), (10, .int (nI (kI k 1))), (9, .int (nI (kI k 0))), (8, .int (usI (hRehash (hSpread k)) 24)), (7, .int (usI (hRehash (hSpread k)) 16)), (6, .int (usI (hRehash (hSpread k)) 8)), (5, .int (hRehash (hSpread k))), (4, .int (slI ((hSpread k) &&& 31) 3)), (3, .int (hRehash (hSpread k))), (2, .int (hSpread k)), (0, .ref h1), (1, .ref y)]) hx hb dX2_increment_77 hl (by decide) rfl (fun ls hl => ?_)
  refine lv_iload hx hb dX2_increment_79 (lv_at hl 3 rfl) ?_
  refine lv_iconst (v := 1) hx hb dX2_increment_81 (by decide +kernel) ?_
  refine lv_iushr (v := usI (usI (hRehash (hSpread k)) 24) 1) hx hb dX2_increment_82 rfl ?_
  refine lv_bipush (v := 15) hx hb dX2_increment_83 (by decide +kernel) ?_
  refine lv_iand hx hb dX2_increment_85 ?_
  refine lv_topi (fun f_7 ef_7 => ?_)
  have ef_7 : f_7 = nI (kI k 3) := ef_7.trans (fz_idx (fz_h3 k))
  subst ef_7
  refine lv_istore (lv' := [(12, .int (nI (kI k 3))), (11, .int (nI (kI k 2))), (10, .int (nI (kI k 1))), (9, .int (nI (kI k 0))), (8, .int (usI (hRehash (hSpread k)) 24)), (7, .int (usI (hRehash (hSpread k)) 16)), (6, .int (usI (hRehash (hSpread k)) 8)), (5, .int (hRehash (hSpread k))), (4, .int (slI ((hSpread k) &&& 31) 3)), (3, .int (hRehash (hSpread k))), (2, .int (hSpread k)), (0, .ref h1), (1, .ref y)]) hx hb dX2_increment_86 hl (by decide) rfl (fun ls hl => ?_)
  refine lv_iload hx hb dX2_increment_88 (lv_at hl 8 rfl) ?_
  refine lv_iload hx hb dX2_increment_90 (lv_at hl 7 rfl) ?_
  refine lv_iconst (v := 1) hx hb dX2_increment_92 (by decide +kernel) ?_
  refine lv_iand hx hb dX2_increment_93 ?_
  refine lv_iadd hx hb dX2_increment_94 ?_
  refine lv_topi (fun f_8 ef_8 => ?_)
  have ef_8 : f_8 = nI (kS k 0) := ef_8.trans (by have q := fz_slot (fz_h0 k); rw [show nI (2 * 0) = 0 from nI_0, Int32.add_zero] at q; exact q)
  subst ef_8
  refine lv_istore (lv' := [(13, .int (nI (kS k 0))), (12, .int (nI (kI k 3))), (11, .int (nI (kI k 2))), (10, .int (nI (kI k 1))), (9, .int (nI (kI k 0))), (8, .int (usI (hRehash (hSpread k)) 24)), (7, .int (usI (hRehash (hSpread k)) 16)), (6, .int (usI (hRehash (hSpread k)) 8)), (5, .int (hRehash (hSpread k))), (4, .int (slI ((hSpread k) &&& 31) 3)), (3, .int (hRehash (hSpread k))), (2, .int (hSpread k)), (0, .ref h1), (1, .ref y)]) hx hb dX2_increment_95 hl (by decide) rfl (fun ls hl => ?_)
  refine lv_iload hx hb dX2_increment_97 (lv_at hl 9 rfl) ?_
  refine lv_iload hx hb dX2_increment_99 (lv_at hl 7 rfl) ?_
  refine lv_iconst (v := 1) hx hb dX2_increment_101 (by decide +kernel) ?_
  refine lv_iand hx hb dX2_increment_102 ?_
  refine lv_iadd hx hb dX2_increment_103 ?_
  refine lv_iconst (v := 2) hx hb dX2_increment_104 (by decide +kernel) ?_
  refine lv_iadd hx hb dX2_increment_105 ?_
  refine lv_topi (fun f_9 ef_9 => ?_)
  have ef_9 : f_9 = nI (kS k 1) := ef_9.trans (fz_slot (fz_h1 k))
  subst ef_9
  refine lv_istore (lv' := [(14, .int (nI (kS k 1))), (13, .int (nI (kS k 0))), (12, .int (nI (kI k 3))), (11, .int (nI (kI k 2))), (10, .int (nI (kI k 1))), (9, .int (nI (kI k 0))), (8, .int (usI (hRehash (hSpread k)) 24)), (7, .int (usI (hRehash (hSpread k)) 16)), (6, .int (usI (hRehash (hSpread k)) 8)), (5, .int (hRehash (hSpread k))), (4, .int (slI ((hSpread k) &&& 31) 3)), (3, .int (hRehash (hSpread k))), (2, .int (hSpread k)), (0, .ref h1), (1, .ref y)]) hx hb dX2_increment_106 hl (by decide) rfl (fun ls hl => ?_)
  refine lv_iload hx hb dX2_increment_108 (lv_at hl 10 rfl) ?_
  refine lv_iload hx hb dX2_increment_110 (lv_at hl 7 rfl) ?_
  refine lv_iconst (v := 1) hx hb dX2_increment_112 (by decide +kernel) ?_
  refine lv_iand hx hb dX2_increment_113 ?_
  refine lv_iadd hx hb dX2_increment_114 ?_
  refine lv_iconst (v := 4) hx hb dX2_increment_115 (by decide +kernel) ?_
  refine lv_iadd hx hb dX2_increment_116 ?_
  refine lv_topi (fun f_10 ef_10 => ?_)
  have ef_10 : f_10 = nI (kS k 2) := ef_10.trans (fz_slot (fz_h2 k))
  subst ef_10
  refine lv_istore (lv' := [(15, .int (nI (kS k 2))), (14, .int (nI (kS k 1))), (13, .int (nI (kS k 0))), (12, .int (nI (kI k 3))), (11, .int (nI (kI k 2))), (10, .int (nI (kI k 1))), (9, .int (nI (kI k 0))), (8, .int (usI (hRehash (hSpread k)) 24)), (7, .int (usI (hRehash (hSpread k)) 16)), (6, .int (usI (hRehash (hSpread k)) 8)), (5, .int (hRehash (hSpread k))), (4, .int (slI ((hSpread k) &&& 31) 3)), (3, .int (hRehash (hSpread k))), (2, .int (hSpread k)), (0, .ref h1), (1, .ref y)]) hx hb dX2_increment_117 hl (by decide) rfl (fun ls hl => ?_)
  refine lv_iload hx hb dX2_increment_119 (lv_at hl 11 rfl) ?_
  refine lv_iload hx hb dX2_increment_121 (lv_at hl 7 rfl) ?_
  refine lv_iconst (v := 1) hx hb dX2_increment_123 (by decide +kernel) ?_
  refine lv_iand hx hb dX2_increment_124 ?_
  refine lv_iadd hx hb dX2_increment_125 ?_
  refine lv_bipush (v := 6) hx hb dX2_increment_126 (by decide +kernel) ?_
  refine lv_iadd hx hb dX2_increment_128 ?_
  refine lv_topi (fun f_11 ef_11 => ?_)
  have ef_11 : f_11 = nI (kS k 3) := ef_11.trans (fz_slot (fz_h3 k))
  subst ef_11
  refine lv_istore (lv' := [(16, .int (nI (kS k 3))), (15, .int (nI (kS k 2))), (14, .int (nI (kS k 1))), (13, .int (nI (kS k 0))), (12, .int (nI (kI k 3))), (11, .int (nI (kI k 2))), (10, .int (nI (kI k 1))), (9, .int (nI (kI k 0))), (8, .int (usI (hRehash (hSpread k)) 24)), (7, .int (usI (hRehash (hSpread k)) 16)), (6, .int (usI (hRehash (hSpread k)) 8)), (5, .int (hRehash (hSpread k))), (4, .int (slI ((hSpread k) &&& 31) 3)), (3, .int (hRehash (hSpread k))), (2, .int (hSpread k)), (0, .ref h1), (1, .ref y)]) hx hb dX2_increment_129 hl (by decide) rfl (fun ls hl => ?_)
  refine lv_aload_n hx hb dX2_increment_131 rfl (lv_at hl 15 rfl) ?_
  refine lv_iload hx hb dX2_increment_132 (lv_at hl 3 rfl) ?_
  refine lv_iload hx hb dX2_increment_134 (lv_at hl 7 rfl) ?_
  have hFc := va_free (wc := (wSk h1 h2 cA f (nI n))) hD hS hA [0, 1] rfl
  refine va_calli (va_runV (As := [.int (nI (kS k 0)), .int (nI (kI k 0))]) (rest := []) ⟨hx, hb, hml, hown, hts⟩ (mX2_incAt l D h1 h2 cA f (nI n) s.heap.size (kS k 0) (kI k 0) (kS_lt k (by decide)) (kI_lt k 0)) (cwV 2 hts (lw_V q189 q190 q191 q3 q192) rfl rfl rfl (by decide +kernel) ⟨Nat.le_of_ble_eq_true rfl, Nat.le_of_ble_eq_true rfl⟩) ⟨fun a U g mk q => by obtain ⟨q0, q1, qP, qK, qD⟩ := q; exact ⟨q0, q1, qP, va_K.moved (u := U) (U := U.calling g mk a) (Vm.Alike.refl U.vm) qK, qD⟩, va_recv hK hP (ci := 1) (q0 := 0) rfl rfl, fun U hU hW => ⟨rfl, by rw [hU], by rw [hU]; exact hP, va_K.moved hW.alike hK, hD.weaken (fun _ _ _ _ => trivial)⟩⟩ rfl rfl hl.1 rfl (lv_room (Nat.le_of_ble_eq_true rfl)) dX2_increment_136 ⟨Nat.zero_le _, Nat.zero_le _⟩) hS (fun q _ h => hFc q h) hFc (fun b_0 u t H locs ht hvm hw hB9 hz1 hk1 hS => ?_)
  obtain ⟨hP1, hK1, hD1⟩ := hB9
  rw [ht] at hP1
  have hu : u = at0 f k := hw.1
  subst hu
  have hP : va_P D vwCl (wSk h1 h2 cA (at0 f k) (nI n)) H := hP1
  have hD : va_D A (wSk h1 h2 cA (at0 f k) (nI n)) := hD1.weaken (fun k9 q9 _ h9 => hFc q9.1 h9)
  refine W.widen (k := 0) (n := 0) (by omega) (by omega) ?_
  refine lv_aload_n hx hb dX2_increment_139 rfl (lv_at hl 15 rfl) ?_
  refine lv_iload hx hb dX2_increment_140 (lv_at hl 2 rfl) ?_
  refine lv_iload hx hb dX2_increment_142 (lv_at hl 6 rfl) ?_
  have hFc := va_free (wc := (wSk h1 h2 cA (at0 f k) (nI n))) hD hS hA [0, 1] rfl
  refine va_calli (va_runV (As := [.int (nI (kS k 1)), .int (nI (kI k 1))]) (rest := [.int b_0]) ⟨hx, hb, hml, hown, hts⟩ (mX2_incAt l D h1 h2 cA (at0 f k) (nI n) H.size (kS k 1) (kI k 1) (kS_lt k (by decide)) (kI_lt k 1)) (cwV 2 hts (lw_V q189 q190 q191 q3 q192) rfl rfl rfl (by decide +kernel) ⟨Nat.le_of_ble_eq_true rfl, Nat.le_of_ble_eq_true rfl⟩) ⟨fun a U g mk q => by obtain ⟨q0, q1, qP, qK, qD⟩ := q; exact ⟨q0, q1, qP, va_K.moved (u := U) (U := U.calling g mk a) (Vm.Alike.refl U.vm) qK, qD⟩, va_recv hK hP (ci := 1) (q0 := 0) rfl rfl, fun U hU hW => ⟨rfl, by rw [hU], by rw [hU]; exact hP, va_K.moved hW.alike hK, hD.weaken (fun _ _ _ _ => trivial)⟩⟩ rfl rfl hl.1 rfl (lv_room (Nat.le_of_ble_eq_true rfl)) dX2_increment_144 ⟨Nat.zero_le _, Nat.zero_le _⟩) hS (fun q _ h => hFc q h) hFc (fun b_1 u t H locs ht hvm hw hB9 hz1 hk1 hS => ?_)
  obtain ⟨hP1, hK1, hD1⟩ := hB9
  rw [ht] at hP1
  have hu : u = at1 f k := hw.1
  subst hu
  have hP : va_P D vwCl (wSk h1 h2 cA (at1 f k) (nI n)) H := hP1
  have hD : va_D A (wSk h1 h2 cA (at1 f k) (nI n)) := hD1.weaken (fun k9 q9 _ h9 => hFc q9.1 h9)
  refine W.widen (k := 0) (n := 0) (by omega) (by omega) ?_
  refine lv_ior hx hb dX2_increment_147 ?_
  refine lv_topi (fun f_12 ef_12 => ?_)
  have ef_12 : f_12 = b_0 ||| b_1 := ef_12
  refine lv_aload_n hx hb dX2_increment_148 rfl (lv_at hl 15 rfl) ?_
  refine lv_iload hx hb dX2_increment_149 (lv_at hl 1 rfl) ?_
  refine lv_iload hx hb dX2_increment_151 (lv_at hl 5 rfl) ?_
  have hFc := va_free (wc := (wSk h1 h2 cA (at1 f k) (nI n))) hD hS hA [0, 1] rfl
  refine va_calli (va_runV (As := [.int (nI (kS k 2)), .int (nI (kI k 2))]) (rest := [.int f_12]) ⟨hx, hb, hml, hown, hts⟩ (mX2_incAt l D h1 h2 cA (at1 f k) (nI n) H.size (kS k 2) (kI k 2) (kS_lt k (by decide)) (kI_lt k 2)) (cwV 2 hts (lw_V q189 q190 q191 q3 q192) rfl rfl rfl (by decide +kernel) ⟨Nat.le_of_ble_eq_true rfl, Nat.le_of_ble_eq_true rfl⟩) ⟨fun a U g mk q => by obtain ⟨q0, q1, qP, qK, qD⟩ := q; exact ⟨q0, q1, qP, va_K.moved (u := U) (U := U.calling g mk a) (Vm.Alike.refl U.vm) qK, qD⟩, va_recv hK hP (ci := 1) (q0 := 0) rfl rfl, fun U hU hW => ⟨rfl, by rw [hU], by rw [hU]; exact hP, va_K.moved hW.alike hK, hD.weaken (fun _ _ _ _ => trivial)⟩⟩ rfl rfl hl.1 rfl (lv_room (Nat.le_of_ble_eq_true rfl)) dX2_increment_153 ⟨Nat.zero_le _, Nat.zero_le _⟩) hS (fun q _ h => hFc q h) hFc (fun b_2 u t H locs ht hvm hw hB9 hz1 hk1 hS => ?_)
  obtain ⟨hP1, hK1, hD1⟩ := hB9
  rw [ht] at hP1
  have hu : u = at2 f k := hw.1
  subst hu
  have hP : va_P D vwCl (wSk h1 h2 cA (at2 f k) (nI n)) H := hP1
  have hD : va_D A (wSk h1 h2 cA (at2 f k) (nI n)) := hD1.weaken (fun k9 q9 _ h9 => hFc q9.1 h9)
  refine W.widen (k := 0) (n := 0) (by omega) (by omega) ?_
  refine lv_ior hx hb dX2_increment_156 ?_
  refine lv_topi (fun f_13 ef_13 => ?_)
  have ef_13 : f_13 = f_12 ||| b_2 := ef_13
  refine lv_aload_n hx hb dX2_increment_157 rfl (lv_at hl 15 rfl) ?_
  refine lv_iload hx hb dX2_increment_158 (lv_at hl 0 rfl) ?_
  refine lv_iload hx hb dX2_increment_160 (lv_at hl 4 rfl) ?_
  have hFc := va_free (wc := (wSk h1 h2 cA (at2 f k) (nI n))) hD hS hA [0, 1] rfl
  refine va_calli (va_runV (As := [.int (nI (kS k 3)), .int (nI (kI k 3))]) (rest := [.int f_13]) ⟨hx, hb, hml, hown, hts⟩ (mX2_incAt l D h1 h2 cA (at2 f k) (nI n) H.size (kS k 3) (kI k 3) (kS_lt k (by decide)) (kI_lt k 3)) (cwV 2 hts (lw_V q189 q190 q191 q3 q192) rfl rfl rfl (by decide +kernel) ⟨Nat.le_of_ble_eq_true rfl, Nat.le_of_ble_eq_true rfl⟩) ⟨fun a U g mk q => by obtain ⟨q0, q1, qP, qK, qD⟩ := q; exact ⟨q0, q1, qP, va_K.moved (u := U) (U := U.calling g mk a) (Vm.Alike.refl U.vm) qK, qD⟩, va_recv hK hP (ci := 1) (q0 := 0) rfl rfl, fun U hU hW => ⟨rfl, by rw [hU], by rw [hU]; exact hP, va_K.moved hW.alike hK, hD.weaken (fun _ _ _ _ => trivial)⟩⟩ rfl rfl hl.1 rfl (lv_room (Nat.le_of_ble_eq_true rfl)) dX2_increment_162 ⟨Nat.zero_le _, Nat.zero_le _⟩) hS (fun q _ h => hFc q h) hFc (fun b_3 u t H locs ht hvm hw hB9 hz1 hk1 hS => ?_)
  obtain ⟨hP1, hK1, hD1⟩ := hB9
  rw [ht] at hP1
  have hu : u = incF f k := hw.1
  subst hu
  have hP : va_P D vwCl (wSk h1 h2 cA (incF f k) (nI n)) H := hP1
  have hD : va_D A (wSk h1 h2 cA (incF f k) (nI n)) := hD1.weaken (fun k9 q9 _ h9 => hFc q9.1 h9)
  refine W.widen (k := 0) (n := 0) (by omega) (by omega) ?_
  refine lv_ior hx hb dX2_increment_165 ?_
  refine lv_topi (fun f_14 ef_14 => ?_)
  have ef_14 : f_14 = f_13 ||| b_3 := ef_14
  refine lv_istore (lv' := [(17, .int f_14), (16, .int (nI (kS k 3))), (15, .int (nI (kS k 2))), (14, .int (nI (kS k 1))), (13, .int (nI (kS k 0))), (12, .int (nI (kI k 3))), (11, .int (nI (kI k 2))), (10, .int (nI (kI k 1))), (9, .int (nI (kI k 0))), (8, .int (usI (hRehash (hSpread k)) 24)), (7, .int (usI (hRehash (hSpread k)) 16)), (6, .int (usI (hRehash (hSpread k)) 8)), (5, .int (hRehash (hSpread k))), (4, .int (slI ((hSpread k) &&& 31) 3)), (3, .int (hRehash (hSpread k))), (2, .int (hSpread k)), (0, .ref h1), (1, .ref y)]) hx hb dX2_increment_166 hl (by decide) rfl (fun ls hl => ?_)
  refine lv_iload hx hb dX2_increment_168 (lv_at hl 0 rfl) ?_
  refine lv_if_eq (tgt := 195) hx hb dX2_increment_170 (by decide) (fun _ => ?_) (fun _ => ?_)
  · exact W.vret hx hb hr (fun t ht hW => ⟨⟨(incF f k, n), rfl, ⟨rfl, Nat.le_succ n⟩, by rw [ht]; exact hP, va_K.moved hW.alike hK, hD⟩, hS.F ht⟩) hS.2.2 dX2_increment_195
  · refine lv_aload_n hx hb dX2_increment_173 rfl (lv_at hl 16 rfl) ?_
    refine lv_dup hx hb dX2_increment_174 rfl ?_
    refine va_get (D := D) (ci := 1) (v := .int (nI n)) (C := RX2) (T := TX2) (N := 4) hx hb hts in_X2 hown hK hP 0 rfl rfl 3 (by decide) (hts _ q31) (fun _ h9 => h9) rfl dX2_increment_175 ?_
    refine lv_iconst (v := 1) hx hb dX2_increment_178 (by decide +kernel) ?_
    refine lv_iadd hx hb dX2_increment_179 ?_
    refine lv_topi (fun f_15 ef_15 => ?_)
    have ef_15 : f_15 = nI (n + 1) := ef_15.trans (nI_1 n)
    subst ef_15
    refine lv_dup_x1 hx hb dX2_increment_180 rfl rfl ?_
    refine va_put (D := D) (ci := 1) (v := .int (nI (n + 1))) (ty := .int) (C := RX2) (T := TX2) (N := 4) hx hb hts in_X2 tyX2 tyX2_ok nmX2 hown hK hP hD hS 0 rfl rfl 3 (by decide) (hts _ q31) (fun _ h9 => h9) rfl (by decide +kernel) rfl rfl (Nat.le_of_ble_eq_true rfl) dX2_increment_181 (fun H locs hP hD hS => ?_)
    have hP : va_P D vwCl (wSk h1 h2 cA (incF f k) (nI (n + 1))) H := hP
    have hD : va_D A (wSk h1 h2 cA (incF f k) (nI (n + 1))) := hD
    refine lv_aload_n hx hb dX2_increment_184 rfl (lv_at hl 16 rfl) ?_
    refine va_get (D := D) (ci := 1) (v := .int 2560) (C := RX2) (T := TX2) (N := 4) hx hb hts in_X2 hown hK hP 0 rfl rfl 0 (by decide) (hts _ q28) (fun _ h9 => h9) rfl dX2_increment_185 ?_
    refine lv_icmp_ne (tgt := 195) hx hb dX2_increment_188 (by decide) (fun _ => ?_) (fun q => absurd ((nI_eq (a := n + 1) (b := 2560) (by omega) (by decide)).mp q) (by omega))
    exact W.vret hx hb hr (fun t ht hW => ⟨⟨(incF f k, n + 1), rfl, ⟨rfl, Nat.le_refl _⟩, by rw [ht]; exact hP, va_K.moved hW.alike hK, hD⟩, hS.F ht⟩) hS.2.2 dX2_increment_195
set_option maxHeartbeats 4000000 in
set_option maxRecDepth 100000 in
/-- FrequencySketch.ensureCapacity(64): a table of 256 zeros -/
theorem mX2_ens (l : Launch) (D : va_G) (h1 : Nat) (sz : Nat) : Met l yX2_ensureCapacity (ws_ yX2_ensureCapacity cX2_ensureCapacity 5 none) ({ frames := 2, cells := 1, slots := 256, locals := 41 }) (va_Pc [.ref h1, .long 64] (fun U => U.heap.size = sz ∧ va_P D vwCl [(h1, .inr (1, [.int 0, .int 0, .null, .int 0]))] U.heap ∧ va_K D vwCl [] U ∧ va_D (fun _ => True) [(h1, .inr (1, [.int 0, .int 0, .null, .int 0]))])) (va_Qv (fun _ : Unit => True) (fun _ t => ∃ (h2 : Nat) (cA : ClassId), va_P D vwCl (wSk h1 h2 cA (fun _ => 0) (nI 0)) t.heap ∧ va_K D vwCl [(cA, .long)] t ∧ va_D (va_A [(h1, .inr (1, [.int 0, .int 0, .null, .int 0]))] sz) (wSk h1 h2 cA (fun _ => 0) (nI 0))) (va_A [(h1, .inr (1, [.int 0, .int 0, .null, .int 0]))] sz)) 1 256 (va_A [(h1, .inr (1, [.int 0, .int 0, .null, .int 0]))] sz) := by
  refine Met.ofW (cc := cX2_ensureCapacity) (maxL := 5) (ret := none) (by decide) rfl ?_
  intro p e s m args below meth c s₁ B hml hv
  obtain ⟨rfl, hsz, hP, hK, hD0⟩ := hv
  have hx := B.exec
  have hb := B.bytes
  have hr := B.returns
  have hts := atoms_spec (ws := (ws_ yX2_ensureCapacity cX2_ensureCapacity 5 none)) B.pre
  have hts : ∀ w ∈ lw_all, w.before _ s = true := fun w h => hts w (List.mem_cons_of_mem _ h)
  have hown : s.vm.findClass RX2 = some m.cls := findClass_of_methodNamed B.named
  have hlocks := B.notSynchronized
  subst hsz
  have hD := hD0.self (sz := s.heap.size)
  generalize hAe : va_A [(h1, .inr (1, [.int 0, .int 0, .null, .int 0]))] s.heap.size = A at hD ⊢
  have hA : ∀ q : Nat, s.heap.size ≤ q → A q := fun q h => by rw [← hAe]; exact Or.inr h
  have hS : va_S A s.heap s.heap [] := va_S.rf
  have hP : va_P D vwCl [(h1, .inr (1, [.int 0, .int 0, .null, .int 0]))] s.heap := hP
  have hl := lv_entry ([.ref h1, .long 64]) (n := 5) (Nat.le_of_ble_eq_true rfl)
  rw [lg_entry_eq]
  generalize (lg_sl ([.ref h1, .long 64]) ++ List.replicate (5 - (lg_sl ([.ref h1, .long 64])).length) Slot.unset).toArray = ls at hl ⊢
  have hl : lv_has ls 5 [(0, .ref h1), (1, .long 64)] := hl
  refine lv_lload_n hx hb dX2_ensureCapacity_0 rfl (lv_at hl 1 rfl) ?_
  refine lv_lconst (v := 0) hx hb dX2_ensureCapacity_1 (by decide +kernel) ?_
  refine W.lcmp hx hb dX2_ensureCapacity_2 ?_
  refine lv_if_lt (tgt := 10) hx hb dX2_ensureCapacity_3 (by decide) (fun q => absurd q (by decide +kernel)) (fun _ => ?_)
  refine lv_iconst (v := 1) hx hb dX2_ensureCapacity_6 (by decide +kernel) ?_
  refine lv_goto (tgt := 11) hx hb dX2_ensureCapacity_7 (by decide) ?_
  refine va_csv (va_Run.run (va_runS (As := [.int 1]) (rest := []) ⟨hx, hb, hml, hown, hts⟩ (mX3_req l) (va_cwS 1 hts (lw_S q46 q47 q4 q48) rfl rfl rfl (by decide +kernel) ⟨Nat.le_of_ble_eq_true rfl, Nat.le_of_ble_eq_true rfl⟩) ⟨fun a U g mk q => q, fun U hU hW => ⟨rfl, trivial⟩⟩ rfl rfl hl.1 rfl (lv_room (Nat.le_of_ble_eq_true rfl)) dX2_ensureCapacity_11 ⟨Nat.zero_le _, Nat.zero_le _⟩)) (fun _ => ?_)
  refine lv_lload_n hx hb dX2_ensureCapacity_14 rfl (lv_at hl 1 rfl) ?_
  refine lv_ldc2 (v := 1073741823) hx hb hown (hts _ q110) dX2_ensureCapacity_15 ?_
  refine va_mmin_long hx hb (by rw [hml]; exact hl.1.symm) hown (hts _ q111) (hts _ q112) (hts _ q9) (hts _ q113) (Nat.le_of_ble_eq_true rfl) (Nat.le_of_ble_eq_true rfl) (Nat.zero_le _) (Nat.zero_le _) dX2_ensureCapacity_18 ?_
  refine lv_topl (fun f_1 ef_1 => ?_)
  have ef_1 : f_1 = 64 := ef_1.trans (by decide +kernel)
  subst ef_1
  refine lv_l2i (v := (64 : Int64).toInt32) hx hb dX2_ensureCapacity_21 rfl ?_
  refine lv_topi (fun f_2 ef_2 => ?_)
  have ef_2 : f_2 = 64 := ef_2.trans (by decide +kernel)
  subst ef_2
  refine lv_sipush (v := 256) hx hb dX2_ensureCapacity_22 (by decide +kernel) ?_
  refine va_mmax hx hb (by rw [hml]; exact hl.1.symm) hown (hts _ q114) (hts _ q115) (hts _ q9) (hts _ q116) (Nat.le_of_ble_eq_true rfl) (Nat.le_of_ble_eq_true rfl) (Nat.zero_le _) (Nat.zero_le _) dX2_ensureCapacity_25 ?_
  refine lv_topi (fun f_3 ef_3 => ?_)
  have ef_3 : f_3 = 256 := ef_3.trans (by decide +kernel)
  subst ef_3
  refine lv_istore_n (lv' := [(3, .int 256), (0, .ref h1), (1, .long 64)]) hx hb dX2_ensureCapacity_28 rfl hl (by decide) rfl (fun ls hl => ?_)
  refine lv_ldc2 (v := 10) hx hb hown (hts _ q117) dX2_ensureCapacity_29 ?_
  refine lv_iload_n hx hb dX2_ensureCapacity_32 rfl (lv_at hl 0 rfl) ?_
  refine lv_i2l (v := 256) hx hb dX2_ensureCapacity_33 (by decide +kernel) ?_
  refine lv_lmul hx hb dX2_ensureCapacity_34 ?_
  refine lv_topl (fun f_4 ef_4 => ?_)
  have ef_4 : f_4 = 2560 := ef_4.trans (by decide +kernel)
  subst ef_4
  refine lv_ldc2 (v := 2147483647) hx hb hown (hts _ q118) dX2_ensureCapacity_35 ?_
  refine va_mmin_long hx hb (by rw [hml]; exact hl.1.symm) hown (hts _ q111) (hts _ q112) (hts _ q9) (hts _ q113) (Nat.le_of_ble_eq_true rfl) (Nat.le_of_ble_eq_true rfl) (Nat.zero_le _) (Nat.zero_le _) dX2_ensureCapacity_38 ?_
  refine lv_topl (fun f_5 ef_5 => ?_)
  have ef_5 : f_5 = 2560 := ef_5.trans (by decide +kernel)
  subst ef_5
  refine lv_l2i (v := (2560 : Int64).toInt32) hx hb dX2_ensureCapacity_41 rfl ?_
  refine lv_topi (fun f_6 ef_6 => ?_)
  have ef_6 : f_6 = 2560 := ef_6.trans (by decide +kernel)
  subst ef_6
  refine lv_istore (lv' := [(4, .int 2560), (3, .int 256), (0, .ref h1), (1, .long 64)]) hx hb dX2_ensureCapacity_42 hl (by decide) rfl (fun ls hl => ?_)
  refine lv_aload_n hx hb dX2_ensureCapacity_44 rfl (lv_at hl 2 rfl) ?_
  refine va_get (D := D) (ci := 1) (v := .null) (C := RX2) (T := TX2) (N := 4) hx hb hts in_X2 hown hK hP 0 rfl rfl 2 (by decide) (hts _ q30) (fun _ h9 => h9) rfl dX2_ensureCapacity_45 ?_
  refine lv_ifnullN (tgt := 93) hx hb dX2_ensureCapacity_48 (by decide) ?_
  refine lv_aload_n hx hb dX2_ensureCapacity_93 rfl (lv_at hl 2 rfl) ?_
  refine lv_iload_n hx hb dX2_ensureCapacity_94 rfl (lv_at hl 1 rfl) ?_
  refine vp_callSi (va_Run.run (va_runS (As := [.int 256]) (rest := [.ref h1]) ⟨hx, hb, hml, hown, hts⟩ (mX3_ceil l) (va_cwS 1 hts (lw_S q122 q123 q4 q124) rfl rfl rfl (by decide +kernel) ⟨Nat.le_of_ble_eq_true rfl, Nat.le_of_ble_eq_true rfl⟩) ⟨fun a U g mk q => q, fun U hU hW => ⟨rfl, trivial⟩⟩ rfl rfl hl.1 rfl (lv_room (Nat.le_of_ble_eq_true rfl)) dX2_ensureCapacity_95 ⟨Nat.zero_le _, Nat.zero_le _⟩)) (fun r_0 er_0 => ?_)
  subst er_0
  refine va_newa (atype := .long) (ty := .long) (N' := 256) (a0 := (256, .inr (.inl (fun _ => 0)))) hx hb (hts _ q134) rfl hK hP hD hS hA (fun _ => rfl) (by decide +kernel) (by decide +kernel) (Nat.le_of_ble_eq_true rfl) (Nat.le_of_ble_eq_true rfl) (Nat.le_of_ble_eq_true rfl) dX2_ensureCapacity_98 (fun h2 cA H hK hP hD hS => ?_)
  have hP : va_P D vwCl [(h1, .inr (1, [.int 0, .int 0, .null, .int 0])), (h2, .inl (cA, 256, .inr (.inl (fun _ => 0))))] H := hP
  have hD : va_D A [(h1, .inr (1, [.int 0, .int 0, .null, .int 0])), (h2, .inl (cA, 256, .inr (.inl (fun _ => 0))))] := hD
  have hK : va_K D vwCl [(cA, .long)] s := hK
  refine W.widen (k := 1) (n := 256) (by omega) (by omega) ?_
  refine va_put (D := D) (ci := 1) (v := .ref h2) (ty := .array .long) (C := RX2) (T := TX2) (N := 4) hx hb hts in_X2 tyX2 tyX2_ok nmX2 hown hK hP hD hS 0 rfl rfl 2 (by decide) (hts _ q30) (fun _ h9 => h9) rfl (by decide +kernel) rfl rfl (Nat.le_of_ble_eq_true rfl) dX2_ensureCapacity_100 (fun H locs hP hD hS => ?_)
  have hP : va_P D vwCl [(h1, .inr (1, [.int 0, .int 0, .ref h2, .int 0])), (h2, .inl (cA, 256, .inr (.inl (fun _ => 0))))] H := hP
  have hD : va_D A [(h1, .inr (1, [.int 0, .int 0, .ref h2, .int 0])), (h2, .inl (cA, 256, .inr (.inl (fun _ => 0))))] := hD
  refine lv_aload_n hx hb dX2_ensureCapacity_103 rfl (lv_at hl 2 rfl) ?_
  refine lv_aload_n hx hb dX2_ensureCapacity_104 rfl (lv_at hl 2 rfl) ?_
  refine va_get (D := D) (ci := 1) (v := .ref h2) (C := RX2) (T := TX2) (N := 4) hx hb hts in_X2 hown hK hP 0 rfl rfl 2 (by decide) (hts _ q30) (fun _ h9 => h9) rfl dX2_ensureCapacity_105 ?_
  refine va_alen (v := 256) hx hb hK hP 1 0 rfl rfl (by decide +kernel) dX2_ensureCapacity_108 ?_
  refine lv_iconst (v := 3) hx hb dX2_ensureCapacity_109 (by decide +kernel) ?_
  refine lv_iushr (v := usI 256 3) hx hb dX2_ensureCapacity_110 rfl ?_
  refine lv_topi (fun f_7 ef_7 => ?_)
  have ef_7 : f_7 = 32 := ef_7.trans (by decide +kernel)
  subst ef_7
  refine lv_iconst (v := 1) hx hb dX2_ensureCapacity_111 (by decide +kernel) ?_
  refine lv_isub hx hb dX2_ensureCapacity_112 ?_
  refine lv_topi (fun f_8 ef_8 => ?_)
  have ef_8 : f_8 = 31 := ef_8.trans (by decide +kernel)
  subst ef_8
  refine va_put (D := D) (ci := 1) (v := .int 31) (ty := .int) (C := RX2) (T := TX2) (N := 4) hx hb hts in_X2 tyX2 tyX2_ok nmX2 hown hK hP hD hS 0 rfl rfl 1 (by decide) (hts _ q29) (fun _ h9 => h9) rfl (by decide +kernel) rfl rfl (Nat.le_of_ble_eq_true rfl) dX2_ensureCapacity_113 (fun H locs hP hD hS => ?_)
  have hP : va_P D vwCl [(h1, .inr (1, [.int 0, .int 31, .ref h2, .int 0])), (h2, .inl (cA, 256, .inr (.inl (fun _ => 0))))] H := hP
  have hD : va_D A [(h1, .inr (1, [.int 0, .int 31, .ref h2, .int 0])), (h2, .inl (cA, 256, .inr (.inl (fun _ => 0))))] := hD
  refine lv_aload_n hx hb dX2_ensureCapacity_116 rfl (lv_at hl 2 rfl) ?_
  refine lv_iload hx hb dX2_ensureCapacity_117 (lv_at hl 0 rfl) ?_
  refine va_put (D := D) (ci := 1) (v := .int 2560) (ty := .int) (C := RX2) (T := TX2) (N := 4) hx hb hts in_X2 tyX2 tyX2_ok nmX2 hown hK hP hD hS 0 rfl rfl 0 (by decide) (hts _ q28) (fun _ h9 => h9) rfl (by decide +kernel) rfl rfl (Nat.le_of_ble_eq_true rfl) dX2_ensureCapacity_119 (fun H locs hP hD hS => ?_)
  have hP : va_P D vwCl [(h1, .inr (1, [.int 2560, .int 31, .ref h2, .int 0])), (h2, .inl (cA, 256, .inr (.inl (fun _ => 0))))] H := hP
  have hD : va_D A [(h1, .inr (1, [.int 2560, .int 31, .ref h2, .int 0])), (h2, .inl (cA, 256, .inr (.inl (fun _ => 0))))] := hD
  refine lv_aload_n hx hb dX2_ensureCapacity_122 rfl (lv_at hl 2 rfl) ?_
  refine lv_iconst (v := 0) hx hb dX2_ensureCapacity_123 (by decide +kernel) ?_
  refine va_put (D := D) (ci := 1) (v := .int 0) (ty := .int) (C := RX2) (T := TX2) (N := 4) hx hb hts in_X2 tyX2 tyX2_ok nmX2 hown hK hP hD hS 0 rfl rfl 3 (by decide) (hts _ q31) (fun _ h9 => h9) rfl (by decide +kernel) rfl rfl (Nat.le_of_ble_eq_true rfl) dX2_ensureCapacity_124 (fun H locs hP hD hS => ?_)
  have hP : va_P D vwCl [(h1, .inr (1, [.int 2560, .int 31, .ref h2, .int 0])), (h2, .inl (cA, 256, .inr (.inl (fun _ => 0))))] H := hP
  have hD : va_D A [(h1, .inr (1, [.int 2560, .int 31, .ref h2, .int 0])), (h2, .inl (cA, 256, .inr (.inl (fun _ => 0))))] := hD
  exact W.vret hx hb hr (fun t ht hW => ⟨⟨(), rfl, trivial, h2, cA, by rw [ht]; exact hP, va_K.moved hW.alike hK, hD⟩, hS.F ht⟩) hS.2.2 dX2_ensureCapacity_127
end
section
set_option maxHeartbeats 4000000 in
set_option maxRecDepth 100000 in
/-- SketchDesk.told(k) -/
theorem mX1_told (l : Launch) (D : va_G) (tc : Nat) (ad : Nat → Nat) (h0 h1 h2 : Nat) (cA : ClassId) (f : Nat → Int64) (z k : Int32) (sz : Nat) : Met l yX1_told (ws_ yX1_told cX1_told 2 (some .int)) ({ frames := 4, cells := 1, slots := 1, locals := 77 }) (va_Pc [.ref h0, .int k] (fun U => U.heap.size = sz ∧ va_P D vwCl (wDk h0 h1 h2 cA f z) U.heap ∧ va_K D vwCl [(cA, .long)] U ∧ va_D (fun _ => True) (wDk h0 h1 h2 cA f z) ∧ bxC tc ad (va_A (wDk h0 h1 h2 cA f z) sz) U U.heap)) (va_Qi (fun (r : Int32) (_ : Unit) => r = nI (tN f k)) (fun _ t => va_P D vwCl (wDk h0 h1 h2 cA f z) t.heap) (va_A (wDk h0 h1 h2 cA f z) sz)) 1 1 (va_A (wDk h0 h1 h2 cA f z) sz) := by
  refine Met.ofW (cc := cX1_told) (maxL := 2) (ret := (some .int)) (by decide) rfl ?_
  intro p e s m args below meth c s₁ B hml hv
  obtain ⟨rfl, hsz, hP, hK, hD0, hB⟩ := hv
  have hx := B.exec
  have hb := B.bytes
  have hr := B.returns
  have hts := atoms_spec (ws := (ws_ yX1_told cX1_told 2 (some .int))) B.pre
  have hts : ∀ w ∈ lw_all, w.before _ s = true := fun w h => hts w (List.mem_cons_of_mem _ h)
  have hown : s.vm.findClass RX1 = some m.cls := findClass_of_methodNamed B.named
  have hlocks := B.notSynchronized
  subst hsz
  have hD := hD0.self (sz := s.heap.size)
  generalize hAe : va_A (wDk h0 h1 h2 cA f z) s.heap.size = A at hD hB ⊢
  have hA : ∀ q : Nat, s.heap.size ≤ q → A q := fun q h => by rw [← hAe]; exact Or.inr h
  have hS : va_S A s.heap s.heap [] := va_S.rf
  have hP : va_P D vwCl (wDk h0 h1 h2 cA f z) s.heap := hP
  have hl := lv_entry ([.ref h0, .int k]) (n := 2) (Nat.le_of_ble_eq_true rfl)
  rw [lg_entry_eq]
  generalize (lg_sl ([.ref h0, .int k]) ++ List.replicate (2 - (lg_sl ([.ref h0, .int k])).length) Slot.unset).toArray = ls at hl ⊢
  have hl : lv_has ls 2 [(0, .ref h0), (1, .int k)] := hl
  refine lv_aload_n hx hb dX1_told_0 rfl (lv_at hl 0 rfl) ?_
  refine va_get (D := D) (ci := 0) (v := .ref h1) (C := RX1) (T := TX1) (N := 1) hx hb hts in_X1 hown hK hP 0 rfl rfl 0 (by decide) (hts _ q130) (fun _ h9 => h9) rfl dX1_told_1 ?_
  refine lv_iload_n hx hb dX1_told_4 rfl (lv_at hl 1 rfl) ?_
  have hFc := va_free (wc := []) hD hS hA [] rfl
  refine va_callr (va_runS (As := [.int k]) (rest := [.ref h1]) ⟨hx, hb, hml, hown, hts⟩ (mJ6_valueOf l D tc ad s.heap.size k) (va_cwS 1 hts (lw_S q139 q140 q11 q141) rfl rfl rfl (by decide +kernel) ⟨Nat.le_of_ble_eq_true rfl, Nat.le_of_ble_eq_true rfl⟩) ⟨fun a U g mk q => by obtain ⟨q0, q1, qK, qB⟩ := q; exact ⟨q0, q1, va_K.moved (u := U) (U := U.calling g mk a) (Vm.Alike.refl U.vm) qK, bxC.moved (u := U) (U := U.calling g mk a) (Vm.Alike.refl U.vm) qB⟩, fun U hU hW => ⟨rfl, by rw [hU], va_K.moved hW.alike (hK.sub (tys' := []) [] rfl), by rw [hU]; exact (hB.narrow hFc).moved hW.alike⟩⟩ rfl rfl hl.1 rfl (lv_room (Nat.le_of_ble_eq_true rfl)) dX1_told_5 ⟨Nat.le_of_ble_eq_true rfl, Nat.le_of_ble_eq_true rfl⟩) hS (fun q _ h => hFc q h) hFc (fun u y t H locs ht hvm hw hB9 hz1 hk1 hS => ?_)
  obtain ⟨hbx, -⟩ := hB9
  rw [ht] at hbx
  have hbx := hbx.moved hvm.symm
  obtain ⟨hP, hD⟩ := va_join (wc := []) (wr := (wDk h0 h1 h2 cA f z)) (w1 := []) hP hD [] [0, 1, 2] rfl rfl (by decide) (by decide) hk1 hFc (fun k9 q9 h9 => by simp at h9) ⟨fun i9 j9 p9 q9 h9 => by simp at h9, fun k9 q9 h9 => by simp at h9⟩
  have hP : va_P D vwCl (wDk h0 h1 h2 cA f z) H := hP
  have hD : va_D A (wDk h0 h1 h2 cA f z) := hD
  refine W.widen (k := 1) (n := 1) (by omega) (by omega) ?_
  have hPc := hP.sub (ws' := (wSk h1 h2 cA f z)) [1, 2] rfl
  refine vp_callSi (va_Run.run (va_runV (As := [.ref y]) (rest := []) ⟨hx, hb, hml, hown, hts⟩ (mX2_freq l D h1 h2 cA f z y k) (cwV 1 hts (lw_V q210 q211 q212 q3 q213) rfl rfl rfl (by decide +kernel) ⟨Nat.le_of_ble_eq_true rfl, Nat.le_of_ble_eq_true rfl⟩) ⟨fun a U g mk q => by obtain ⟨q0, qP, qK, qB⟩ := q; exact ⟨q0, qP, va_K.moved (u := U) (U := U.calling g mk a) (Vm.Alike.refl U.vm) qK, bx.moved (u := U) (U := U.calling g mk a) (Vm.Alike.refl U.vm) qB⟩, va_recv hK hPc (ci := 1) (q0 := 0) rfl rfl, fun U hU hW => ⟨rfl, by rw [hU]; exact hPc, va_K.moved hW.alike hK, by rw [hU]; exact hbx.moved hW.alike⟩⟩ rfl rfl hl.1 rfl (lv_room (Nat.le_of_ble_eq_true rfl)) dX1_told_8 ⟨Nat.le_of_ble_eq_true rfl, Nat.le_of_ble_eq_true rfl⟩)) (fun r er => ?_)
  exact W.iret (v := r) hx hb hr (fun t ht hW => ⟨⟨r, (), rfl, er, by show va_P D vwCl (wDk h0 h1 h2 cA f z) t.heap; rw [ht]; exact hP⟩, hS.F ht⟩) hS.2.2 dX1_told_11
set_option maxHeartbeats 4000000 in
set_option maxRecDepth 100000 in
/-- SketchDesk.count(k) -/
theorem mX1_count (l : Launch) (D : va_G) (tc : Nat) (ad : Nat → Nat) (h0 h1 h2 : Nat) (cA : ClassId) (f : Nat → Int64) (n : Nat) (hn : n < 2559) (k : Int32) (sz : Nat) : Met l yX1_count (ws_ yX1_count cX1_count 2 none) ({ frames := 4, cells := 1, slots := 1, locals := 77 }) (va_Pc [.ref h0, .int k] (fun U => U.heap.size = sz ∧ va_P D vwCl (wDk h0 h1 h2 cA f (nI n)) U.heap ∧ va_K D vwCl [(cA, .long)] U ∧ va_D (fun _ => True) (wDk h0 h1 h2 cA f (nI n)) ∧ bxC tc ad (va_A (wDk h0 h1 h2 cA f (nI n)) sz) U U.heap)) (va_Qv (fun (n2 : Nat) => n2 ≤ n + 1) (fun n2 t => va_P D vwCl (wDk h0 h1 h2 cA (incF f k) (nI n2)) t.heap ∧ va_K D vwCl [(cA, .long)] t ∧ va_D (va_A (wDk h0 h1 h2 cA f (nI n)) sz) (wDk h0 h1 h2 cA (incF f k) (nI n2))) (va_A (wDk h0 h1 h2 cA f (nI n)) sz)) 1 1 (va_A (wDk h0 h1 h2 cA f (nI n)) sz) := by
  refine Met.ofW (cc := cX1_count) (maxL := 2) (ret := none) (by decide) rfl ?_
  intro p e s m args below meth c s₁ B hml hv
  obtain ⟨rfl, hsz, hP, hK, hD0, hB⟩ := hv
  have hx := B.exec
  have hb := B.bytes
  have hr := B.returns
  have hts := atoms_spec (ws := (ws_ yX1_count cX1_count 2 none)) B.pre
  have hts : ∀ w ∈ lw_all, w.before _ s = true := fun w h => hts w (List.mem_cons_of_mem _ h)
  have hown : s.vm.findClass RX1 = some m.cls := findClass_of_methodNamed B.named
  have hlocks := B.notSynchronized
  subst hsz
  have hD := hD0.self (sz := s.heap.size)
  generalize hAe : va_A (wDk h0 h1 h2 cA f (nI n)) s.heap.size = A at hD hB ⊢
  have hA : ∀ q : Nat, s.heap.size ≤ q → A q := fun q h => by rw [← hAe]; exact Or.inr h
  have hS : va_S A s.heap s.heap [] := va_S.rf
  have hP : va_P D vwCl (wDk h0 h1 h2 cA f (nI n)) s.heap := hP
  have hl := lv_entry ([.ref h0, .int k]) (n := 2) (Nat.le_of_ble_eq_true rfl)
  rw [lg_entry_eq]
  generalize (lg_sl ([.ref h0, .int k]) ++ List.replicate (2 - (lg_sl ([.ref h0, .int k])).length) Slot.unset).toArray = ls at hl ⊢
  have hl : lv_has ls 2 [(0, .ref h0), (1, .int k)] := hl
  refine lv_aload_n hx hb dX1_count_0 rfl (lv_at hl 0 rfl) ?_
  refine va_get (D := D) (ci := 0) (v := .ref h1) (C := RX1) (T := TX1) (N := 1) hx hb hts in_X1 hown hK hP 0 rfl rfl 0 (by decide) (hts _ q130) (fun _ h9 => h9) rfl dX1_count_1 ?_
  refine lv_iload_n hx hb dX1_count_4 rfl (lv_at hl 1 rfl) ?_
  have hFc := va_free (wc := []) hD hS hA [] rfl
  refine va_callr (va_runS (As := [.int k]) (rest := [.ref h1]) ⟨hx, hb, hml, hown, hts⟩ (mJ6_valueOf l D tc ad s.heap.size k) (va_cwS 1 hts (lw_S q139 q140 q11 q141) rfl rfl rfl (by decide +kernel) ⟨Nat.le_of_ble_eq_true rfl, Nat.le_of_ble_eq_true rfl⟩) ⟨fun a U g mk q => by obtain ⟨q0, q1, qK, qB⟩ := q; exact ⟨q0, q1, va_K.moved (u := U) (U := U.calling g mk a) (Vm.Alike.refl U.vm) qK, bxC.moved (u := U) (U := U.calling g mk a) (Vm.Alike.refl U.vm) qB⟩, fun U hU hW => ⟨rfl, by rw [hU], va_K.moved hW.alike (hK.sub (tys' := []) [] rfl), by rw [hU]; exact (hB.narrow hFc).moved hW.alike⟩⟩ rfl rfl hl.1 rfl (lv_room (Nat.le_of_ble_eq_true rfl)) dX1_count_5 ⟨Nat.le_of_ble_eq_true rfl, Nat.le_of_ble_eq_true rfl⟩) hS (fun q _ h => hFc q h) hFc (fun u y t H locs ht hvm hw hB9 hz1 hk1 hS => ?_)
  obtain ⟨hbx, -⟩ := hB9
  rw [ht] at hbx
  have hbx := hbx.moved hvm.symm
  obtain ⟨hP, hD⟩ := va_join (wc := []) (wr := (wDk h0 h1 h2 cA f (nI n))) (w1 := []) hP hD [] [0, 1, 2] rfl rfl (by decide) (by decide) hk1 hFc (fun k9 q9 h9 => by simp at h9) ⟨fun i9 j9 p9 q9 h9 => by simp at h9, fun k9 q9 h9 => by simp at h9⟩
  have hP : va_P D vwCl (wDk h0 h1 h2 cA f (nI n)) H := hP
  have hD : va_D A (wDk h0 h1 h2 cA f (nI n)) := hD
  refine W.widen (k := 1) (n := 1) (by omega) (by omega) ?_
  have hPc := hP.sub (ws' := (wSk h1 h2 cA f (nI n))) [1, 2] rfl
  have hDc := hD.sub (ws' := (wSk h1 h2 cA f (nI n))) [1, 2] (by decide) rfl
  have hFd := va_free (wc := (wSk h1 h2 cA f (nI n))) hD hS hA [1, 2] rfl
  refine va_callv (va_runV (As := [.ref y]) (rest := []) ⟨hx, hb, hml, hown, hts⟩ (mX2_incr l D h1 h2 cA f n hn H.size y k) (cwV 1 hts (lw_V q159 q160 q161 q3 q162) rfl rfl rfl (by decide +kernel) ⟨Nat.le_of_ble_eq_true rfl, Nat.le_of_ble_eq_true rfl⟩) ⟨fun a U g mk q => by obtain ⟨q0, q1, qP, qK, qD, qB⟩ := q; exact ⟨q0, q1, qP, va_K.moved (u := U) (U := U.calling g mk a) (Vm.Alike.refl U.vm) qK, qD, bx.moved (u := U) (U := U.calling g mk a) (Vm.Alike.refl U.vm) qB⟩, va_recv hK hPc (ci := 1) (q0 := 0) rfl rfl, fun U hU hW => ⟨rfl, by rw [hU], by rw [hU]; exact hPc, va_K.moved hW.alike hK, hDc.weaken (fun _ _ _ _ => trivial), by rw [hU]; exact hbx.moved hW.alike⟩⟩ rfl rfl hl.1 rfl (lv_room (Nat.le_of_ble_eq_true rfl)) dX1_count_8 ⟨Nat.le_of_ble_eq_true rfl, Nat.le_of_ble_eq_true rfl⟩) hS (fun q _ h => hFd q h) hFd (fun u t H locs ht hvm hw hB9 hz1 hk1 hS => ?_)
  obtain ⟨f2, n2⟩ := u
  obtain ⟨hP1, hK1, hD1⟩ := hB9
  rw [ht] at hP1
  have hu : f2 = incF f k := hw.1
  have hn2 : n2 ≤ n + 1 := hw.2
  subst hu
  obtain ⟨hP, hD⟩ := va_join (wr := [(h0, .inr (0, [.ref h1]))]) (w1 := (wSk h1 h2 cA (incF f k) (nI n2))) hP hD [1, 2] [0] rfl rfl (by decide) (by decide) hk1 hFd hP1 hD1
  have hP : va_P D vwCl (wDk h0 h1 h2 cA (incF f k) (nI n2)) H := hP
  have hD : va_D A (wDk h0 h1 h2 cA (incF f k) (nI n2)) := hD
  refine W.widen (k := 1) (n := 1) (by omega) (by omega) ?_
  exact W.vret hx hb hr (fun t ht hW => ⟨⟨n2, rfl, hn2, by rw [ht]; exact hP, va_K.moved hW.alike hK, hD⟩, hS.F ht⟩) hS.2.2 dX1_count_11
set_option maxHeartbeats 4000000 in
set_option maxRecDepth 100000 in
/-- SketchDesk(): a sketch of zeros -/
theorem mX1_init (l : Launch) (D : va_G) (h0 : Nat) (sz : Nat) : Met l yX1_init (ws_ yX1_init cX1_init 1 none) ({ frames := 3, cells := 2, slots := 260, locals := 65 }) (va_Pc [.ref h0] (fun U => U.heap.size = sz ∧ va_P D vwCl [(h0, .inr (0, [.null]))] U.heap ∧ va_K D vwCl [] U ∧ va_D (fun _ => True) [(h0, .inr (0, [.null]))])) (va_Qv (fun _ : Unit => True) (fun _ t => ∃ (h1 h2 : Nat) (cA : ClassId), va_P D vwCl (wDk h0 h1 h2 cA (fun _ => 0) (nI 0)) t.heap ∧ va_K D vwCl [(cA, .long)] t ∧ va_D (va_A [(h0, .inr (0, [.null]))] sz) (wDk h0 h1 h2 cA (fun _ => 0) (nI 0))) (va_A [(h0, .inr (0, [.null]))] sz)) 2 260 (va_A [(h0, .inr (0, [.null]))] sz) := by
  refine Met.ofW (cc := cX1_init) (maxL := 1) (ret := none) (by decide) rfl ?_
  intro p e s m args below meth c s₁ B hml hv
  obtain ⟨rfl, hsz, hP, hK, hD0⟩ := hv
  have hx := B.exec
  have hb := B.bytes
  have hr := B.returns
  have hts := atoms_spec (ws := (ws_ yX1_init cX1_init 1 none)) B.pre
  have hts : ∀ w ∈ lw_all, w.before _ s = true := fun w h => hts w (List.mem_cons_of_mem _ h)
  have hown : s.vm.findClass RX1 = some m.cls := findClass_of_methodNamed B.named
  have hlocks := B.notSynchronized
  have hin : meth.name = "<init>" := (name_of_methodNamed B.named B.method).1
  subst hsz
  have hD := hD0.self (sz := s.heap.size)
  generalize hAe : va_A [(h0, .inr (0, [.null]))] s.heap.size = A at hD ⊢
  have hA : ∀ q : Nat, s.heap.size ≤ q → A q := fun q h => by rw [← hAe]; exact Or.inr h
  have hS : va_S A s.heap s.heap [] := va_S.rf
  have hP : va_P D vwCl [(h0, .inr (0, [.null]))] s.heap := hP
  have hl := lv_entry ([.ref h0]) (n := 1) (Nat.le_of_ble_eq_true rfl)
  rw [lg_entry_eq]
  generalize (lg_sl ([.ref h0]) ++ List.replicate (1 - (lg_sl ([.ref h0])).length) Slot.unset).toArray = ls at hl ⊢
  have hl : lv_has ls 1 [(0, .ref h0)] := hl
  refine lv_aload_n hx hb dX1_init_0 rfl (lv_at hl 0 rfl) ?_
  refine W.objInit hx hb hown (hts _ q19) (hts _ q20) (hts _ q21) rfl (by rw [hml]; exact hl.1) rfl dX1_init_1 (Nat.le_of_ble_eq_true rfl) (Nat.le_of_ble_eq_true rfl) ?_
  refine W.eq (g2 := F0 m 4 ls []) rfl ?_
  refine lv_aload_n hx hb dX1_init_4 rfl (lv_at hl 0 rfl) ?_
  refine va_new (ci := 1) (fs := [.int 0, .int 0, .null, .int 0]) (C := RX2) (T := TX2) (N := 4) hx hb hts in_X2 tyX2 tyX2_ok hown (hts _ q22) (hts _ q23) (hts _ q3) hK hP hD hS hA rfl (fun j hj => by rcases (show j = 0 ∨ j = 1 ∨ j = 2 ∨ j = 3 by omega) with rfl | rfl | rfl | rfl <;> rfl) (Nat.le_of_ble_eq_true rfl) (Nat.le_of_ble_eq_true rfl) dX1_init_5 (fun h1 H hP hD hS => ?_)
  have hP : va_P D vwCl [(h0, .inr (0, [.null])), (h1, .inr (1, [.int 0, .int 0, .null, .int 0]))] H := hP
  have hD : va_D A [(h0, .inr (0, [.null])), (h1, .inr (1, [.int 0, .int 0, .null, .int 0]))] := hD
  refine W.widen (k := 1) (n := 4) (by omega) (by omega) ?_
  refine lv_dup hx hb dX1_init_8 rfl ?_
  refine va_csv (va_Run.run (va_runI (As := []) (rest := [.ref h1, .ref h0]) ⟨hx, hb, hml, hown, hts⟩ (mX2_init l h1) (cwI 0 hts (lw_meth q26) rfl rfl rfl (hts _ q3) (hts _ q24) (hts _ q25) rfl (by decide +kernel) ⟨Nat.le_of_ble_eq_true rfl, Nat.le_of_ble_eq_true rfl⟩) ⟨fun a U g mk q => q, fun U hU hW => ⟨rfl, trivial⟩⟩ rfl rfl hl.1 rfl (lv_room (Nat.le_of_ble_eq_true rfl)) dX1_init_9 ⟨Nat.le_of_ble_eq_true rfl, Nat.le_of_ble_eq_true rfl⟩)) (fun _ => ?_)
  refine va_putF (D := D) (ci := 0) (v := .ref h1) (ty := .object "FrequencySketch") (C := RX1) (T := TX1) (N := 1) hx hb hts in_X1 tyX1 tyX1_ok nmX1 hown hK hP hD hS 0 rfl rfl 0 (by decide) (hts _ q130) (fun _ h9 => h9) rfl hin rfl (by decide +kernel) rfl rfl (Nat.le_of_ble_eq_true rfl) dX1_init_12 (fun H locs hP hD hS => ?_)
  have hP : va_P D vwCl [(h0, .inr (0, [.ref h1])), (h1, .inr (1, [.int 0, .int 0, .null, .int 0]))] H := hP
  have hD : va_D A [(h0, .inr (0, [.ref h1])), (h1, .inr (1, [.int 0, .int 0, .null, .int 0]))] := hD
  refine lv_aload_n hx hb dX1_init_15 rfl (lv_at hl 0 rfl) ?_
  refine va_get (D := D) (ci := 0) (v := .ref h1) (C := RX1) (T := TX1) (N := 1) hx hb hts in_X1 hown hK hP 0 rfl rfl 0 (by decide) (hts _ q130) (fun _ h9 => h9) rfl dX1_init_16 ?_
  refine lv_ldc2 (v := 64) hx hb hown (hts _ q41) dX1_init_19 ?_
  have hPc := hP.sub (ws' := [(h1, .inr (1, [.int 0, .int 0, .null, .int 0]))]) [1] rfl
  have hDc := hD.sub (ws' := [(h1, .inr (1, [.int 0, .int 0, .null, .int 0]))]) [1] (by decide) rfl
  have hFc := va_free (wc := [(h1, .inr (1, [.int 0, .int 0, .null, .int 0]))]) hD hS hA [1] rfl
  refine va_callv (va_runV (As := [.long 64]) (rest := []) ⟨hx, hb, hml, hown, hts⟩ (mX2_ens l D h1 H.size) (cwV 1 hts (lw_V q42 q43 q44 q3 q45) rfl rfl rfl (by decide +kernel) ⟨Nat.le_of_ble_eq_true rfl, Nat.le_of_ble_eq_true rfl⟩) ⟨fun a U g mk q => by obtain ⟨q0, q1, qP, qK, qD⟩ := q; exact ⟨q0, q1, qP, va_K.moved (u := U) (U := U.calling g mk a) (Vm.Alike.refl U.vm) qK, qD⟩, va_recv hK hPc (ci := 1) (q0 := 0) rfl rfl, fun U hU hW => ⟨rfl, by rw [hU], by rw [hU]; exact hPc, va_K.moved hW.alike hK, hDc.weaken (fun _ _ _ _ => trivial)⟩⟩ rfl rfl hl.1 rfl (lv_room (Nat.le_of_ble_eq_true rfl)) dX1_init_22 ⟨Nat.le_of_ble_eq_true rfl, Nat.le_of_ble_eq_true rfl⟩) hS (fun q _ h => hFc q h) hFc (fun u t H locs ht hvm hw hB9 hz1 hk1 hS => ?_)
  obtain ⟨h2, cA, hP1, hK1, hD1⟩ := hB9
  rw [ht] at hP1
  have hK1 := va_K.moved hvm.symm hK1
  obtain ⟨hP, hD⟩ := va_join (wr := [(h0, .inr (0, [.ref h1]))]) (w1 := (wSk h1 h2 cA (fun _ => 0) (nI 0))) hP hD [1] [0] rfl rfl (by decide) (by decide) hk1 hFc hP1 hD1
  have hP : va_P D vwCl (wDk h0 h1 h2 cA (fun _ => 0) (nI 0)) H := hP
  have hD : va_D A (wDk h0 h1 h2 cA (fun _ => 0) (nI 0)) := hD
  refine W.widen (k := 2) (n := 260) (by omega) (by omega) ?_
  exact W.vret hx hb hr (fun t ht hW => ⟨⟨(), rfl, trivial, h1, h2, cA, by rw [ht]; exact hP, va_K.moved hW.alike hK1, hD⟩, hS.F ht⟩) hS.2.2 dX1_init_25
/-- the cell of a script that may be short -/
def clx (xs : Nat → Int32) (L j : Nat) : Int32 := if j < L then xs j else 0
set_option maxHeartbeats 4000000 in
set_option maxRecDepth 100000 in
/-- the script s j-th int, 0 behind its end -/
theorem mX0_cell (l : Launch) (b L : Nat) (xs : Nat → Int32) (hL : L ≤ 64) (j : Nat) (hj : j < 2 ^ 31) : Met l yX0_cell (ws_ yX0_cell cX0_cell 2 (some .int)) ({ frames := 0, cells := 0, slots := 0, locals := 0 }) (va_Pc [.ref b, .int (nI j)] (fun U => va_X b L xs U U.heap)) (vp_Si (fun r => r = clx xs L j)) 0 0 (fun _ => False) := by
  refine Met.ofW (cc := cX0_cell) (maxL := 2) (ret := (some .int)) (by decide) rfl ?_
  intro p e s m args below meth c s₁ B hml hv
  obtain ⟨rfl, hX⟩ := hv
  have hx := B.exec
  have hb := B.bytes
  have hr := B.returns
  have hts := atoms_spec (ws := (ws_ yX0_cell cX0_cell 2 (some .int))) B.pre
  have hts : ∀ w ∈ lw_all, w.before _ s = true := fun w h => hts w (List.mem_cons_of_mem _ h)
  have hown : s.vm.findClass RX0 = some m.cls := findClass_of_methodNamed B.named
  have hlocks := B.notSynchronized
  have hl := lv_entry ([.ref b, .int (nI j)]) (n := 2) (Nat.le_of_ble_eq_true rfl)
  rw [lg_entry_eq]
  generalize (lg_sl ([.ref b, .int (nI j)]) ++ List.replicate (2 - (lg_sl ([.ref b, .int (nI j)])).length) Slot.unset).toArray = ls at hl ⊢
  have hl : lv_has ls 2 [(0, .ref b), (1, .int (nI j))] := hl
  have hS : va_S (fun _ => False) s.heap s.heap [] := va_S.rf
  have hbl : b < s.heap.size := by
    obtain ⟨scr, h1, -⟩ := hX
    exact (Array.getElem?_eq_some_iff.mp h1).1
  refine lv_iload_n hx hb dX0_cell_0 rfl (lv_at hl 1 rfl) ?_
  refine lv_aload_n hx hb dX0_cell_1 rfl (lv_at hl 0 rfl) ?_
  refine va_slen hx hb hX hbl (fun z => z) hS dX0_cell_2 ?_
  refine lv_icmp_ge (tgt := 12) hx hb dX0_cell_3 (by decide) (fun c_1 => ?_) (fun c_1 => ?_)
  · have h1 : ¬ j < L := Nat.not_lt.mpr ((nI_leI (a := L) (b := j) (by omega) hj).mp c_1)
    refine lv_iconst (v := 0) hx hb dX0_cell_12 (by decide +kernel) ?_
    exact W.iret (v := 0) hx hb hr (fun t ht hW => ⟨0, rfl, by unfold clx; rw [if_neg h1], ht⟩) (fun q h => absurd h List.not_mem_nil) dX0_cell_13
  · have h1 : j < L := Nat.not_le.mp (fun z => c_1 ((nI_leI (a := L) (b := j) (by omega) hj).mpr z))
    have hin : vp_in (nI j) L := vp_in_nI h1 (by omega)
    refine lv_aload_n hx hb dX0_cell_6 rfl (lv_at hl 0 rfl) ?_
    refine lv_iload_n hx hb dX0_cell_7 rfl (lv_at hl 1 rfl) ?_
    refine va_sld hx hb hX hbl (fun z => z) hS hin dX0_cell_8 ?_
    refine lv_goto (tgt := 13) hx hb dX0_cell_9 (by decide) ?_
    exact W.iret (v := xs (nI j).toNatClampNeg) hx hb hr (fun t ht hW => ⟨xs (nI j).toNatClampNeg, rfl, by unfold clx; rw [if_pos h1, nI_clamp hj], ht⟩) (fun q h => absurd h List.not_mem_nil) dX0_cell_13
end
section
/-! ROWS FOR THE LAW: told, count, a new desk, a cell of the script, in any world -/
/-- behind a call that left its own cells as they were: the whole world as it was -/
theorem va_back {A0 : Nat → Prop} {D : va_G} {cl : List vw_C} {ws wc : va_W} {H H1 : Heap} (hP : va_P D cl ws H) (hD : va_D A0 ws) (isC : List Nat) (hC : isC.map (fun i => ws[i]?) = wc.map some) (hk : ∀ q : Nat, q < H.size → ¬ va_A wc H.size q → H1[q]? = H[q]?) (hP1 : va_P D cl wc H1) : va_P D cl ws H1 := by
  intro k q hq
  have hlt := (hP k q hq).lt
  by_cases h : va_A wc H.size q.1
  · rcases h with ⟨k2, e2, h⟩ | h
    · have h1 : (isC.map (fun i => ws[i]?))[k2]? = some (some (q.1, e2)) := by rw [hC, List.getElem?_map, h]; rfl
      rw [List.getElem?_map] at h1
      cases hi : isC[k2]? with
      | none => rw [hi] at h1; cases h1
      | some i =>
        rw [hi] at h1
        have h2 : ws[i]? = some (q.1, e2) := Option.some.inj h1
        have hik := hD.1 i k (q.1, e2) q h2 hq rfl
        subst hik
        have h3 : (q.1, e2) = q := Option.some.inj (h2.symm.trans hq)
        have h4 := hP1 k2 _ h
        rw [h3] at h4
        exact h4
    · exact absurd hlt (Nat.not_lt.mpr h)
  · exact (hP k q hq).kept (hk q.1 hlt h)
/-- the class of the arrays of longs is one -/
theorem va_K1 {D : va_G} {cl : List vw_C} {c1 c2 : ClassId} {s : State} (h1 : va_K D cl [(c1, .long)] s) (h2 : va_K D cl [(c2, .long)] s) : c1 = c2 := by
  have e1 : s.vm.findClass ("[" ++ FieldType.long.toString) = some c1 := (h1.2 0 _ rfl).2
  have e2 : s.vm.findClass ("[" ++ FieldType.long.toString) = some c2 := (h2.2 0 _ rfl).2
  exact Option.some.inj (e1.symm.trans e2)
section ROWS
variable {p : Program} {l : Launch} {e : Env} {R : Room} {s : State} {m : MethodId} {args : Array Value} {below : List Frame} {meth : Method} {c : Code} {H : Heap} {locs : List Loc} {cells slots : Nat} {Q : State → Prop}
variable {cc : ByteArray} {pc : Nat} {ls : Array Slot} {rest : List Value}
set_option maxHeartbeats 4000000 in
set_option maxRecDepth 100000 in
theorem row_told {nL : Nat} {D : va_G} {cA : ClassId} {ws : va_W} {A : Nat → Prop} {tc : Nat} {ad : Nat → Nat} {h0 h1 h2 : Nat} {f : Nat → Int64} {z k : Int32} (hx : p.tables.exec = Jvm.exec) (hb : c.code = cc) (hml : c.maxLocals = nL) (hls : ls.size = nL) (hown : s.vm.findClass RX0 = some m.cls) (hts : ∀ w ∈ lw_all, w.before args s = true) (hK : va_K D vwCl [(cA, .long)] s) (hP : va_P D vwCl ws H) (hD : va_D A ws) (hS : va_S A s.heap H locs) (hA : ∀ q : Nat, s.heap.size ≤ q → A q) (hB : bxC tc ad A s s.heap) (isC : List Nat) (hn : va_nd isC = true) (hC : isC.map (fun i => ws[i]?) = (wDk h0 h1 h2 cA f z).map some) (hF : isC.filterMap (fun i => ws[i]?) = wDk h0 h1 h2 cA f z) (hR : 5 ≤ R.frames ∧ 98 ≤ R.locals) (hc : cells + 1 ≤ R.cells) (hs : slots + 1 ≤ R.slots) (hrest : (rest.map fun v => v.category).sum ≤ 8) (hdg : decode cc pc = .ok (.invokevirtual 10, 3))
    (kk : ∀ (H1 : Heap) (locs1 : List Loc), va_P D vwCl ws H1 → va_S A s.heap H1 locs1 → W p l e R s m args below meth c H1 locs1 (cells + 1) (slots + 1) Q (F0 m (pc + 3) ls (.int (nI (tN f k)) :: rest))) : W p l e R s m args below meth c H locs cells slots Q (F0 m pc ls (.int k :: .ref h0 :: rest)) := by
  have hFc := va_free (wc := wDk h0 h1 h2 cA f z) hD hS hA isC hC
  have hPc := hP.sub (ws' := wDk h0 h1 h2 cA f z) isC hF
  have hDc := hD.sub (ws' := wDk h0 h1 h2 cA f z) isC hn hC
  refine va_calli (va_runV (As := [.int k]) (rest := rest) ⟨hx, hb, hml, hown, hts⟩ (mX1_told l D tc ad h0 h1 h2 cA f z k H.size) (cwV 1 hts (lw_V q206 q207 q208 q2 q209) rfl rfl rfl (by decide +kernel) ⟨hR.1, hR.2⟩) ⟨fun a U g mk q => by obtain ⟨q0, q1, qP, qK, qD, qB⟩ := q; exact ⟨q0, q1, qP, va_K.moved (u := U) (U := U.calling g mk a) (Vm.Alike.refl U.vm) qK, qD, bxC.moved (u := U) (U := U.calling g mk a) (Vm.Alike.refl U.vm) qB⟩, va_recv hK hPc (ci := 0) (q0 := 0) rfl rfl, fun U hU hW => ⟨rfl, by rw [hU], by rw [hU]; exact hPc, va_K.moved hW.alike hK, hDc.weaken (fun _ _ _ _ => trivial), by rw [hU]; exact ((hB.kept hS.2.1).narrow hFc).moved hW.alike⟩⟩ rfl rfl hls rfl (lv_room hrest) hdg ⟨hc, hs⟩) hS (fun q _ h => hFc q h) hFc (fun r u t H1 locs1 ht hvm hw hB9 hz1 hk1 hS1 => ?_)
  have hB9 : va_P D vwCl (wDk h0 h1 h2 cA f z) t.heap := hB9
  rw [ht] at hB9
  have er : r = nI (tN f k) := hw
  subst er
  exact kk H1 locs1 (va_back hP hD isC hC hk1 hB9) hS1
set_option maxHeartbeats 4000000 in
set_option maxRecDepth 100000 in
theorem row_count {nL : Nat} {D : va_G} {cA : ClassId} {ws wr : va_W} {A : Nat → Prop} {tc : Nat} {ad : Nat → Nat} {h0 h1 h2 n : Nat} {f : Nat → Int64} {k : Int32} (W9 : Nat → va_W) (hn9 : n < 2559) (hx : p.tables.exec = Jvm.exec) (hb : c.code = cc) (hml : c.maxLocals = nL) (hls : ls.size = nL) (hown : s.vm.findClass RX0 = some m.cls) (hts : ∀ w ∈ lw_all, w.before args s = true) (hK : va_K D vwCl [(cA, .long)] s) (hP : va_P D vwCl ws H) (hD : va_D A ws) (hS : va_S A s.heap H locs) (hA : ∀ q : Nat, s.heap.size ≤ q → A q) (hB : bxC tc ad A s s.heap) (isC isR ps : List Nat) (hn : va_nd isC = true) (hnR : va_nd isR = true) (hnp : va_nd ps = true) (hdis : ∀ i ∈ isR, i ∉ isC) (hC : isC.map (fun i => ws[i]?) = (wDk h0 h1 h2 cA f (nI n)).map some) (hF : isC.filterMap (fun i => ws[i]?) = wDk h0 h1 h2 cA f (nI n)) (hRr : isR.map (fun i => ws[i]?) = wr.map some) (hps : ∀ n2 : Nat, ps.filterMap (fun i => (wr ++ wDk h0 h1 h2 cA (incF f k) (nI n2))[i]?) = W9 n2) (hpm : ∀ n2 : Nat, ps.map (fun i => (wr ++ wDk h0 h1 h2 cA (incF f k) (nI n2))[i]?) = (W9 n2).map some) (hR : 5 ≤ R.frames ∧ 98 ≤ R.locals) (hc : cells + 1 ≤ R.cells) (hs : slots + 1 ≤ R.slots) (hrest : (rest.map fun v => v.category).sum ≤ 8) (hdg : decode cc pc = .ok (.invokevirtual 14, 3))
    (kk : ∀ (n2 : Nat) (H1 : Heap) (locs1 : List Loc), n2 ≤ n + 1 → va_P D vwCl (W9 n2) H1 → va_D A (W9 n2) → va_S A s.heap H1 locs1 → W p l e R s m args below meth c H1 locs1 (cells + 1) (slots + 1) Q (F0 m (pc + 3) ls rest)) : W p l e R s m args below meth c H locs cells slots Q (F0 m pc ls (.int k :: .ref h0 :: rest)) := by
  have hFc := va_free (wc := wDk h0 h1 h2 cA f (nI n)) hD hS hA isC hC
  have hPc := hP.sub (ws' := wDk h0 h1 h2 cA f (nI n)) isC hF
  have hDc := hD.sub (ws' := wDk h0 h1 h2 cA f (nI n)) isC hn hC
  refine va_callv (va_runV (As := [.int k]) (rest := rest) ⟨hx, hb, hml, hown, hts⟩ (mX1_count l D tc ad h0 h1 h2 cA f n hn9 k H.size) (cwV 1 hts (lw_V q135 q136 q137 q2 q138) rfl rfl rfl (by decide +kernel) ⟨hR.1, hR.2⟩) ⟨fun a U g mk q => by obtain ⟨q0, q1, qP, qK, qD, qB⟩ := q; exact ⟨q0, q1, qP, va_K.moved (u := U) (U := U.calling g mk a) (Vm.Alike.refl U.vm) qK, qD, bxC.moved (u := U) (U := U.calling g mk a) (Vm.Alike.refl U.vm) qB⟩, va_recv hK hPc (ci := 0) (q0 := 0) rfl rfl, fun U hU hW => ⟨rfl, by rw [hU], by rw [hU]; exact hPc, va_K.moved hW.alike hK, hDc.weaken (fun _ _ _ _ => trivial), by rw [hU]; exact ((hB.kept hS.2.1).narrow hFc).moved hW.alike⟩⟩ rfl rfl hls rfl (lv_room hrest) hdg ⟨hc, hs⟩) hS (fun q _ h => hFc q h) hFc (fun n2 t H1 locs1 ht hvm hw hB9 hz1 hk1 hS1 => ?_)
  obtain ⟨hP1, hK1, hD1⟩ := hB9
  rw [ht] at hP1
  obtain ⟨hP2, hD2⟩ := va_join (wr := wr) (w1 := wDk h0 h1 h2 cA (incF f k) (nI n2)) hP hD isC isR hC hRr hnR hdis hk1 hFc hP1 hD1
  exact kk n2 H1 locs1 hw (hP2.sub ps (hps n2)) (hD2.sub ps hnp (hpm n2)) hS1
set_option maxHeartbeats 4000000 in
set_option maxRecDepth 100000 in
theorem row_new {nL : Nat} {D : va_G} {tys : List (ClassId × FieldType)} {ws : va_W} {A : Nat → Prop} (hx : p.tables.exec = Jvm.exec) (hb : c.code = cc) (hml : c.maxLocals = nL) (hls : ls.size = nL) (hown : s.vm.findClass RX0 = some m.cls) (hts : ∀ w ∈ lw_all, w.before args s = true) (hK : va_K D vwCl tys s) (hP : va_P D vwCl ws H) (hD : va_D A ws) (hS : va_S A s.heap H locs) (hA : ∀ q : Nat, s.heap.size ≤ q → A q) (n0 : Nat) (isR : List Nat) (hC : ∀ x : Nat × va_E, [n0].map (fun i => (ws ++ [x])[i]?) = [x].map some) (hF : ∀ x : Nat × va_E, [n0].filterMap (fun i => (ws ++ [x])[i]?) = [x]) (hRr : ∀ x : Nat × va_E, isR.map (fun i => (ws ++ [x])[i]?) = ws.map some) (hnR : va_nd isR = true) (hdis : ∀ i ∈ isR, i ∉ [n0]) (hR : 5 ≤ R.frames ∧ 98 ≤ R.locals) (hc : cells + 3 ≤ R.cells) (hs : slots + 261 ≤ R.slots) (hrest : (rest.map fun v => v.category).sum ≤ 7) (hdg0 : decode cc pc = .ok (.new 7, 3)) (hdg1 : decode cc (pc + 3) = .ok (.dup, 1)) (hdg2 : decode cc (pc + 3 + 1) = .ok (.invokespecial 9, 3))
    (kk : ∀ (h0 h1 h2 : Nat) (cA : ClassId) (H1 : Heap) (locs1 : List Loc), va_K D vwCl [(cA, .long)] s → va_P D vwCl (ws ++ wDk h0 h1 h2 cA (fun _ => 0) (nI 0)) H1 → va_D A (ws ++ wDk h0 h1 h2 cA (fun _ => 0) (nI 0)) → va_S A s.heap H1 locs1 → W p l e R s m args below meth c H1 locs1 (cells + 3) (slots + 261) Q (F0 m (pc + 7) ls (.ref h0 :: rest))) : W p l e R s m args below meth c H locs cells slots Q (F0 m pc ls rest) := by
  have hc1 : cells + 1 ≤ R.cells := by omega
  have hs1 : slots + 1 ≤ R.slots := by omega
  refine va_new (ci := 0) (fs := [.null]) (C := RX1) (T := TX1) (N := 1) hx hb hts in_X1 tyX1 tyX1_ok hown (hts _ q14) (hts _ q15) (hts _ q2) hK hP hD hS hA rfl (fun j hj => by rcases (show j = 0 by omega) with rfl <;> rfl) hc1 hs1 hdg0 (fun h0 H2 hP2 hD2 hS2 => ?_)
  refine lv_dup hx hb hdg1 rfl ?_
  have hFc := va_free (wc := [(h0, .inr (0, [.null]))]) hD2 hS2 hA [n0] (hC _)
  have hPc := hP2.sub (ws' := [(h0, .inr (0, [.null]))]) [n0] (hF _)
  have hDc := hD2.sub (ws' := [(h0, .inr (0, [.null]))]) [n0] (by simp [va_nd]) (hC _)
  have hKc := hK.sub (tys' := []) [] rfl
  have hrest2 : ((Value.ref h0 :: rest).map fun v => v.category).sum ≤ 8 := by
    rw [List.map_cons, List.sum_cons]
    show 1 + (rest.map fun v => v.category).sum ≤ 8
    omega
  refine va_callv (va_runI (As := []) (rest := .ref h0 :: rest) ⟨hx, hb, hml, hown, hts⟩ (mX1_init l D h0 H2.size) (cwI 0 hts (lw_meth q18) rfl rfl rfl (hts _ q2) (hts _ q16) (hts _ q17) rfl (by decide +kernel) ⟨by show 4 ≤ R.frames; omega, by show 85 ≤ R.locals; omega⟩) ⟨fun a U g mk q => by obtain ⟨q0, q1, qP, qK, qD⟩ := q; exact ⟨q0, q1, qP, va_K.moved (u := U) (U := U.calling g mk a) (Vm.Alike.refl U.vm) qK, qD⟩, fun U hU hW => ⟨rfl, by rw [hU], by rw [hU]; exact hPc, va_K.moved hW.alike hKc, hDc.weaken (fun _ _ _ _ => trivial)⟩⟩ rfl rfl hls rfl (lv_room hrest2) hdg2 ⟨by omega, by omega⟩) hS2 (fun q _ h => hFc q h) hFc (fun u t H1 locs1 ht hvm hw hB9 hz1 hk1 hS1 => ?_)
  obtain ⟨h1, h2, cA, hP1, hK1, hD1⟩ := hB9
  rw [ht] at hP1
  have hK1 := va_K.moved hvm.symm hK1
  obtain ⟨hP3, hD3⟩ := va_join (wr := ws) (w1 := wDk h0 h1 h2 cA (fun _ => 0) (nI 0)) hP2 hD2 [n0] isR (hC _) (hRr _) hnR hdis hk1 hFc hP1 hD1
  refine W.widen (k := cells + 3) (n := slots + 261) (by omega) (by omega) ?_
  exact kk h0 h1 h2 cA H1 locs1 hK1 hP3 hD3 hS1
set_option maxHeartbeats 4000000 in
set_option maxRecDepth 100000 in
theorem row_cell {nL : Nat} {A : Nat → Prop} {b L j : Nat} {xs : Nat → Int32} (hx : p.tables.exec = Jvm.exec) (hb : c.code = cc) (hml : c.maxLocals = nL) (hls : ls.size = nL) (hown : s.vm.findClass RX0 = some m.cls) (hts : ∀ w ∈ lw_all, w.before args s = true) (hS : va_S A s.heap H locs) (hX : va_X b L xs s s.heap) (hbl : b < s.heap.size) (hbA : ¬ A b) (hL : L ≤ 64) (hj : j < 2 ^ 31) (hR : 5 ≤ R.frames ∧ 98 ≤ R.locals) (hc : cells ≤ R.cells) (hs : slots ≤ R.slots) (hrest : (rest.map fun v => v.category).sum ≤ 8) (hdg : decode cc pc = .ok (.invokestatic 27, 3))
    (kk : W p l e R s m args below meth c H locs cells slots Q (F0 m (pc + 3) ls (.int (clx xs L j) :: rest))) : W p l e R s m args below meth c H locs cells slots Q (F0 m pc ls (.int (nI j) :: .ref b :: rest)) := by
  refine vp_callSi (va_Run.run (va_runS (As := [.ref b, .int (nI j)]) (rest := rest) ⟨hx, hb, hml, hown, hts⟩ (mX0_cell l b L xs hL j hj) (va_cwS 2 hts (lw_S q218 q219 q1 q220) rfl rfl rfl (by decide +kernel) ⟨by show 1 ≤ R.frames; omega, by show 21 ≤ R.locals; omega⟩) ⟨fun a U g mk q => ⟨q.1, va_X.moved (u := U) (U := U.calling g mk a) (Vm.Alike.refl U.vm) q.2⟩, fun U hU hW => ⟨rfl, by show va_X b L xs U U.heap; rw [hU]; exact (hX.kept (hS.2.1 b hbl hbA)).moved hW.alike⟩⟩ rfl rfl hls rfl (lv_room hrest) hdg ⟨hc, hs⟩)) (fun r er => ?_)
  have er : r = clx xs L j := er
  subst er
  exact kk
end ROWS
/-- what holds all through a method of the law: the machine, its code, the boxes, the script -/
def lwC (p : Program) (R : Room) (s : State) (m : MethodId) (args : Array Value) (c : Code) (cc : ByteArray) (nL : Nat) (A : Nat → Prop) (tc : Nat) (ad : Nat → Nat) (b L : Nat) (xs : Nat → Int32) : Prop :=
  p.tables.exec = Jvm.exec ∧ c.code = cc ∧ c.maxLocals = nL ∧ s.vm.findClass RX0 = some m.cls ∧ (∀ w ∈ lw_all, w.before args s = true) ∧ (∀ q : Nat, s.heap.size ≤ q → A q) ∧ bxC tc ad A s s.heap ∧ va_X b L xs s s.heap ∧ b < s.heap.size ∧ ¬ A b ∧ L ≤ 64 ∧ (5 ≤ R.frames ∧ 98 ≤ R.locals)
end
section
set_option maxHeartbeats 4000000 in
set_option maxRecDepth 100000 in
/-- apart: the first 15 counts -/
theorem ap_1 {p : Program} {l : Launch} {e : Env} {R : Room} {s : State} {m : MethodId} {args : Array Value} {below : List Frame} {meth : Method} {c : Code} {Q : State → Prop} {D : va_G} {A : Nat → Prop} {tc : Nat} {ad : Nat → Nat} {b L : Nat} {xs : Nat → Int32} {cA : ClassId} {first : Int32} {h0 h1 h2 : Nat} (c0 s0 : Nat) (C0 : lwC p R s m args c cX0_apart 5 A tc ad b L xs) (hK : va_K D vwCl [(cA, .long)] s) (hc0 : c0 + 15 ≤ R.cells) (hs0 : s0 + 15 ≤ R.slots)
    (kk : ∀ (n2 : Nat) (H : Heap) (locs : List Loc) (ls : Array Slot), va_P D vwCl (wDk h0 h1 h2 cA (fT (fun _ => first) 15) (nI n2)) H → va_D A (wDk h0 h1 h2 cA (fT (fun _ => first) 15) (nI n2)) → va_S A s.heap H locs → lv_has ls 5 [(0, .ref b), (1, .ref h0), (2, .int first), (3, .int 0)] → W p l e R s m args below meth c H locs (c0 + 15) (s0 + 15) Q (F0 m 37 ls [])) :
    ∀ (n : Nat) (i n2 : Nat) (H : Heap) (locs : List Loc) (ls : Array Slot), i + n = 15 → n2 ≤ i → va_P D vwCl (wDk h0 h1 h2 cA (fT (fun _ => first) i) (nI n2)) H → va_D A (wDk h0 h1 h2 cA (fT (fun _ => first) i) (nI n2)) → va_S A s.heap H locs → lv_has ls 5 [(0, .ref b), (1, .ref h0), (2, .int first), (3, .int 0), (4, .int (nI i))] → W p l e R s m args below meth c H locs (c0 + i) (s0 + i) Q (F0 m 19 ls []) := by
  obtain ⟨hx, hb, hml, hown, hts, hA, hB, hX, hbl, hbA, hL, hR⟩ := C0
  intro n
  induction n with
  | zero =>
    intro i n2 H locs ls hi hn hP hD hS hl
    obtain rfl : i = 15 := by omega
    refine lv_iload hx hb dX0_apart_19 (lv_at hl 4 rfl) ?_
    refine lv_bipush (v := 15) hx hb dX0_apart_21 (by decide +kernel) ?_
    refine lv_icmp_ge (tgt := 37) hx hb dX0_apart_23 (by decide) (fun _ => ?_) (fun q => absurd (nI_le (a := 15) (b := 15) (by decide) (by decide)) q)
    exact kk n2 H locs ls hP hD hS (lv_sub hl [0, 1, 2, 3] rfl)
  | succ n ih =>
    intro i n2 H locs ls hi hn hP hD hS hl
    refine lv_iload hx hb dX0_apart_19 (lv_at hl 4 rfl) ?_
    refine lv_bipush (v := 15) hx hb dX0_apart_21 (by decide +kernel) ?_
    refine lv_icmp_ge (tgt := 37) hx hb dX0_apart_23 (by decide) (fun q => absurd q (nI_ge (a := i) (b := 15) (by omega) (by decide))) (fun _ => ?_)
    refine lv_aload_n hx hb dX0_apart_26 rfl (lv_at hl 1 rfl) ?_
    refine lv_iload_n hx hb dX0_apart_27 rfl (lv_at hl 2 rfl) ?_
    refine row_count (h0 := h0) (h1 := h1) (h2 := h2) (n := n2) (f := (fT (fun _ => first) i)) (k := first) (wr := []) (fun n3 => wDk h0 h1 h2 cA (incF (fT (fun _ => first) i) first) (nI n3)) (by omega) hx hb hml hl.1 hown hts hK hP hD hS hA hB [0, 1, 2] [] [0, 1, 2] (by decide) (by decide) (by decide) (by decide) rfl rfl rfl (fun _ => rfl) (fun _ => rfl) hR (by omega) (by omega) (Nat.le_of_ble_eq_true rfl) dX0_apart_28 (fun n3 H locs hn3 hP hD hS => ?_)
    have hP : va_P D vwCl (wDk h0 h1 h2 cA (fT (fun _ => first) (i + 1)) (nI n3)) H := hP
    have hD : va_D A (wDk h0 h1 h2 cA (fT (fun _ => first) (i + 1)) (nI n3)) := hD
    obtain ⟨f_1, ef_1⟩ : ∃ y : Int32, y = (nI i) + 1 := ⟨_, rfl⟩
    refine lv_iinc (v := f_1) (lv' := [(4, .int f_1), (0, .ref b), (1, .ref h0), (2, .int first), (3, .int 0)]) hx hb dX0_apart_31 hl (k := 4) rfl (by rw [ef_1]; rfl) (by decide) rfl (fun ls hl => ?_)
    have ef_1 : f_1 = nI (i + 1) := ef_1.trans (nI_1 i)
    subst ef_1
    refine lv_goto (tgt := 19) hx hb dX0_apart_34 (by decide) ?_
    refine W.widen (k := c0 + (i + 1)) (n := s0 + (i + 1)) (by omega) (by omega) ?_
    exact ih (i + 1) n3 H locs ls (by omega) (by omega) hP hD hS (lv_sub hl [1, 2, 3, 4, 0] rfl)
set_option maxHeartbeats 4000000 in
set_option maxRecDepth 100000 in
/-- apart: the next 1000 ints -/
theorem ap_2 {p : Program} {l : Launch} {e : Env} {R : Room} {s : State} {m : MethodId} {args : Array Value} {below : List Frame} {meth : Method} {c : Code} {Q : State → Prop} {D : va_G} {A : Nat → Prop} {tc : Nat} {ad : Nat → Nat} {b L : Nat} {xs : Nat → Int32} {cA : ClassId} {first : Int32} {h0 h1 h2 n2 : Nat} (c0 s0 : Nat) (C0 : lwC p R s m args c cX0_apart 5 A tc ad b L xs) (hK : va_K D vwCl [(cA, .long)] s) (hD : va_D A (wDk h0 h1 h2 cA (fT (fun _ => first) 15) (nI n2))) (hc0 : c0 + 1000 ≤ R.cells) (hs0 : s0 + 1000 ≤ R.slots)
    (kk : ∀ (H : Heap) (locs : List Loc) (ls : Array Slot), va_P D vwCl (wDk h0 h1 h2 cA (fT (fun _ => first) 15) (nI n2)) H → va_S A s.heap H locs → lv_has ls 5 [(0, .ref b), (1, .ref h0), (2, .int first), (3, .int (nI (fb_ct (fun i => decide (0 < tN (fT (fun _ => first) 15) (first + nI (i + 1)))) 1000)))] → W p l e R s m args below meth c H locs (c0 + 1000) (s0 + 1000) Q (F0 m 68 ls [])) :
    ∀ (n : Nat) (i : Nat) (H : Heap) (locs : List Loc) (ls : Array Slot), i + n = 1000 → va_P D vwCl (wDk h0 h1 h2 cA (fT (fun _ => first) 15) (nI n2)) H → va_S A s.heap H locs → lv_has ls 5 [(0, .ref b), (1, .ref h0), (2, .int first), (3, .int (nI (fb_ct (fun i => decide (0 < tN (fT (fun _ => first) 15) (first + nI (i + 1)))) i))), (4, .int (nI (i + 1)))] → W p l e R s m args below meth c H locs (c0 + i) (s0 + i) Q (F0 m 40 ls []) := by
  obtain ⟨hx, hb, hml, hown, hts, hA, hB, hX, hbl, hbA, hL, hR⟩ := C0
  intro n
  induction n with
  | zero =>
    intro i H locs ls hi hP hS hl
    obtain rfl : i = 1000 := by omega
    refine lv_iload hx hb dX0_apart_40 (lv_at hl 4 rfl) ?_
    refine lv_sipush (v := 1000) hx hb dX0_apart_42 (by decide +kernel) ?_
    refine lv_icmp_gt (tgt := 68) hx hb dX0_apart_45 (by decide) (fun _ => ?_) (fun q => absurd (nI_lt (a := 1000) (b := 1000 + 1) (by decide) (by decide)) q)
    exact kk H locs ls hP hS (lv_sub hl [0, 1, 2, 3] rfl)
  | succ n ih =>
    intro i H locs ls hi hP hS hl
    refine lv_iload hx hb dX0_apart_40 (lv_at hl 4 rfl) ?_
    refine lv_sipush (v := 1000) hx hb dX0_apart_42 (by decide +kernel) ?_
    refine lv_icmp_gt (tgt := 68) hx hb dX0_apart_45 (by decide) (fun q => absurd q (nI_nlt (a := 1000) (b := i + 1) (by omega) (by decide))) (fun _ => ?_)
    refine lv_aload_n hx hb dX0_apart_48 rfl (lv_at hl 1 rfl) ?_
    refine lv_iload_n hx hb dX0_apart_49 rfl (lv_at hl 2 rfl) ?_
    refine lv_iload hx hb dX0_apart_50 (lv_at hl 4 rfl) ?_
    refine lv_iadd hx hb dX0_apart_52 ?_
    refine row_told (h0 := h0) (h1 := h1) (h2 := h2) (f := (fT (fun _ => first) 15)) (z := (nI n2)) (k := (first + nI (i + 1))) hx hb hml hl.1 hown hts hK hP hD hS hA hB [0, 1, 2] (by decide) rfl rfl hR (by omega) (by omega) (Nat.le_of_ble_eq_true rfl) dX0_apart_53 (fun H locs hP hS => ?_)
    have ht15 := tN_le (fT (fun _ => first) 15) (first + nI (i + 1))
    refine lv_if_le (tgt := 62) hx hb dX0_apart_56 (by decide) (fun q => ?_) (fun q => ?_)
    · have h9 : ¬ 0 < tN (fT (fun _ => first) 15) (first + nI (i + 1)) := fun z => nI_nle z (by omega) q
      have hct : nI (fb_ct (fun i => decide (0 < tN (fT (fun _ => first) 15) (first + nI (i + 1)))) i) = nI (fb_ct (fun i => decide (0 < tN (fT (fun _ => first) 15) (first + nI (i + 1)))) (i + 1)) := by rw [fb_ct_succ, decide_eq_false h9]; rfl
      rw [hct] at hl
      obtain ⟨f_1, ef_1⟩ : ∃ y : Int32, y = (nI (i + 1)) + 1 := ⟨_, rfl⟩
      refine lv_iinc (v := f_1) (lv' := [(4, .int f_1), (0, .ref b), (1, .ref h0), (2, .int first), (3, .int (nI (fb_ct (fun i => decide (0 < tN (fT (fun _ => first) 15) (first + nI (i + 1)))) (i + 1))))]) hx hb dX0_apart_62 hl (k := 4) rfl (by rw [ef_1]; rfl) (by decide) rfl (fun ls hl => ?_)
      have ef_1 : f_1 = nI (i + 1 + 1) := ef_1.trans (nI_1 (i + 1))
      subst ef_1
      refine lv_goto (tgt := 40) hx hb dX0_apart_65 (by decide) ?_
      refine W.widen (k := c0 + (i + 1)) (n := s0 + (i + 1)) (by omega) (by omega) ?_
      exact ih (i + 1) H locs ls (by omega) hP hS (lv_sub hl [1, 2, 3, 4, 0] rfl)
    · have h9 : 0 < tN (fT (fun _ => first) 15) (first + nI (i + 1)) := by
        rcases Nat.eq_zero_or_pos (tN (fT (fun _ => first) 15) (first + nI (i + 1))) with z | z
        · exact absurd (by rw [z]; exact nI_le (a := 0) (b := 0) (by decide) (by decide)) q
        · exact z
      obtain ⟨f_2, ef_2⟩ : ∃ y : Int32, y = (nI (fb_ct (fun i => decide (0 < tN (fT (fun _ => first) 15) (first + nI (i + 1)))) i)) + 1 := ⟨_, rfl⟩
      refine lv_iinc (v := f_2) (lv' := [(3, .int f_2), (0, .ref b), (1, .ref h0), (2, .int first), (4, .int (nI (i + 1)))]) hx hb dX0_apart_59 hl (k := 3) rfl (by rw [ef_2]; rfl) (by decide) rfl (fun ls hl => ?_)
      have hct : f_2 = nI (fb_ct (fun i => decide (0 < tN (fT (fun _ => first) 15) (first + nI (i + 1)))) (i + 1)) := by rw [ef_2, nI_1, fb_ct_succ, decide_eq_true h9]; rfl
      subst hct
      obtain ⟨f_3, ef_3⟩ : ∃ y : Int32, y = (nI (i + 1)) + 1 := ⟨_, rfl⟩
      refine lv_iinc (v := f_3) (lv' := [(4, .int f_3), (3, .int (nI (fb_ct (fun i => decide (0 < tN (fT (fun _ => first) 15) (first + nI (i + 1)))) (i + 1)))), (0, .ref b), (1, .ref h0), (2, .int first)]) hx hb dX0_apart_62 hl (k := 4) rfl (by rw [ef_3]; rfl) (by decide) rfl (fun ls hl => ?_)
      have ef_3 : f_3 = nI (i + 1 + 1) := ef_3.trans (nI_1 (i + 1))
      subst ef_3
      refine lv_goto (tgt := 40) hx hb dX0_apart_65 (by decide) ?_
      refine W.widen (k := c0 + (i + 1)) (n := s0 + (i + 1)) (by omega) (by omega) ?_
      exact ih (i + 1) H locs ls (by omega) hP hS (lv_sub hl [2, 3, 4, 1, 0] rfl)
set_option maxHeartbeats 4000000 in
set_option maxRecDepth 100000 in
/-- SketchDeskLaw.apart(s) answers true -/
theorem mX0_apart (l : Launch) (D : va_G) (tc : Nat) (ad : Nat → Nat) (b L : Nat) (xs : Nat → Int32) (hL : L ≤ 64) (sz : Nat) : Met l yX0_apart (ws_ yX0_apart cX0_apart 5 (some .boolean)) ({ frames := 5, cells := 1019, slots := 1277, locals := 98 }) (va_Pc [.ref b] (fun U => U.heap.size = sz ∧ va_K D vwCl [] U ∧ va_X b L xs U U.heap ∧ bxC tc ad (va_A [] sz) U U.heap)) (va_Qi (fun (r : Int32) (_ : Unit) => r = 1) (fun _ _ => True) (va_A [] sz)) 1019 1277 (va_A [] sz) := by
  refine Met.ofW (cc := cX0_apart) (maxL := 5) (ret := (some .boolean)) (by decide) rfl ?_
  intro p e s m args below meth c s₁ B hml hv
  obtain ⟨rfl, hsz, hK, hX, hB⟩ := hv
  have hx := B.exec
  have hb := B.bytes
  have hr := B.returns
  have hts := atoms_spec (ws := (ws_ yX0_apart cX0_apart 5 (some .boolean))) B.pre
  have hts : ∀ w ∈ lw_all, w.before _ s = true := fun w h => hts w (List.mem_cons_of_mem _ h)
  have hown : s.vm.findClass RX0 = some m.cls := findClass_of_methodNamed B.named
  have hlocks := B.notSynchronized
  subst hsz
  generalize hAe : va_A [] s.heap.size = A at hB ⊢
  have hA : ∀ q : Nat, s.heap.size ≤ q → A q := fun q h => by rw [← hAe]; exact Or.inr h
  have hS : va_S A s.heap s.heap [] := va_S.rf
  have hP : va_P D vwCl [] s.heap := fun k q h => by simp at h
  have hD : va_D A [] := ⟨fun i j p q h => by simp at h, fun k q h => by simp at h⟩
  have hbl : b < s.heap.size := by
    obtain ⟨scr, h1, -⟩ := hX
    exact (Array.getElem?_eq_some_iff.mp h1).1
  have hbA : ¬ A b := by
    rw [← hAe]
    intro z
    rcases z with ⟨k9, e9, z⟩ | z
    · simp at z
    · omega
  have hR : 5 ≤ (headSpec (ws_ yX0_apart cX0_apart 5 (some .boolean)) ({ frames := 5, cells := 1019, slots := 1277, locals := 98 })).room.frames ∧ 98 ≤ (headSpec (ws_ yX0_apart cX0_apart 5 (some .boolean)) ({ frames := 5, cells := 1019, slots := 1277, locals := 98 })).room.locals := ⟨Nat.le_of_ble_eq_true rfl, Nat.le_of_ble_eq_true rfl⟩
  have hl := lv_entry ([.ref b]) (n := 5) (Nat.le_of_ble_eq_true rfl)
  rw [lg_entry_eq]
  generalize (lg_sl ([.ref b]) ++ List.replicate (5 - (lg_sl ([.ref b])).length) Slot.unset).toArray = ls at hl ⊢
  have hl : lv_has ls 5 [(0, .ref b)] := hl
  refine row_new (ws := []) hx hb hml hl.1 hown hts hK hP hD hS hA 0 [] (fun _ => rfl) (fun _ => rfl) (fun _ => rfl) (by decide) (by decide) hR (Nat.le_of_ble_eq_true rfl) (Nat.le_of_ble_eq_true rfl) (Nat.le_of_ble_eq_true rfl) dX0_apart_0 dX0_apart_3 dX0_apart_4 (fun h0 h1 h2 cA H locs hK hP hD hS => ?_)
  have hP : va_P D vwCl (wDk h0 h1 h2 cA (fun _ => 0) (nI 0)) H := hP
  have hD : va_D A (wDk h0 h1 h2 cA (fun _ => 0) (nI 0)) := hD
  refine lv_astore_n (lv' := [(1, .ref h0), (0, .ref b)]) hx hb dX0_apart_7 rfl hl (by decide) rfl (fun ls hl => ?_)
  refine lv_aload_n hx hb dX0_apart_8 rfl (lv_at hl 1 rfl) ?_
  refine lv_iconst (v := 0) hx hb dX0_apart_9 (by decide +kernel) ?_
  refine row_cell (j := 0) hx hb hml hl.1 hown hts hS hX hbl hbA hL (by decide) hR (Nat.le_of_ble_eq_true rfl) (Nat.le_of_ble_eq_true rfl) (Nat.le_of_ble_eq_true rfl) dX0_apart_10 ?_
  generalize clx xs L 0 = first
  refine lv_istore_n (lv' := [(2, .int first), (1, .ref h0), (0, .ref b)]) hx hb dX0_apart_13 rfl hl (by decide) rfl (fun ls hl => ?_)
  refine lv_iconst (v := 0) hx hb dX0_apart_14 (by decide +kernel) ?_
  refine lv_istore_n (lv' := [(3, .int 0), (2, .int first), (1, .ref h0), (0, .ref b)]) hx hb dX0_apart_15 rfl hl (by decide) rfl (fun ls hl => ?_)
  refine lv_iconst (v := 0) hx hb dX0_apart_16 (by decide +kernel) ?_
  refine lv_istore (lv' := [(4, .int 0), (3, .int 0), (2, .int first), (1, .ref h0), (0, .ref b)]) hx hb dX0_apart_17 hl (by decide) rfl (fun ls hl => ?_)
  refine W.widen (k := 3 + 0) (n := 261 + 0) (by omega) (by omega) ?_
  refine ap_1 (first := first) 3 261 ⟨hx, hb, hml, hown, hts, hA, hB, hX, hbl, hbA, hL, hR⟩ hK (Nat.le_of_ble_eq_true rfl) (Nat.le_of_ble_eq_true rfl) ?_ 15 0 0 _ _ _ rfl (Nat.le_refl 0) hP hD hS (lv_sub hl [4, 3, 2, 1, 0] rfl)
  intro n2 H locs ls hP hD hS hl
  refine lv_iconst (v := 1) hx hb dX0_apart_37 (by decide +kernel) ?_
  refine lv_istore (lv' := [(4, .int 1), (0, .ref b), (1, .ref h0), (2, .int first), (3, .int 0)]) hx hb dX0_apart_38 hl (by decide) rfl (fun ls hl => ?_)
  refine W.widen (k := 18 + 0) (n := 276 + 0) (by omega) (by omega) ?_
  refine ap_2 (first := first) 18 276 ⟨hx, hb, hml, hown, hts, hA, hB, hX, hbl, hbA, hL, hR⟩ hK hD (Nat.le_of_ble_eq_true rfl) (Nat.le_of_ble_eq_true rfl) ?_ 1000 0 _ _ _ rfl hP hS (lv_sub hl [1, 2, 3, 4, 0] rfl)
  intro H locs ls hP hS hl
  have hfew := tN_few first 15
  refine lv_iload_n hx hb dX0_apart_68 rfl (lv_at hl 3 rfl) ?_
  refine lv_sipush (v := 500) hx hb dX0_apart_69 (by decide +kernel) ?_
  refine lv_icmp_gt (tgt := 89) hx hb dX0_apart_72 (by decide) (fun q => absurd q (nI_nlt (a := 500) (b := fb_ct (fun i => decide (0 < tN (fT (fun _ => first) 15) (first + nI (i + 1)))) 1000) (by omega) (by decide))) (fun _ => ?_)
  refine lv_aload_n hx hb dX0_apart_75 rfl (lv_at hl 1 rfl) ?_
  refine lv_iload_n hx hb dX0_apart_76 rfl (lv_at hl 2 rfl) ?_
  refine row_told (h0 := h0) (h1 := h1) (h2 := h2) (f := (fT (fun _ => first) 15)) (z := (nI n2)) (k := first) hx hb hml hl.1 hown hts hK hP hD hS hA hB [0, 1, 2] (by decide) rfl rfl hR (Nat.le_of_ble_eq_true rfl) (Nat.le_of_ble_eq_true rfl) (Nat.le_of_ble_eq_true rfl) dX0_apart_77 (fun H locs hP hS => ?_)
  have h15 : tN (fT (fun _ => first) 15) first = 15 := tN_alone first 15
  refine lv_bipush (v := 15) hx hb dX0_apart_80 (by decide +kernel) ?_
  refine lv_icmp_ne (tgt := 89) hx hb dX0_apart_82 (by decide) (fun q => absurd (by rw [h15]; rfl) q) (fun _ => ?_)
  refine lv_iconst (v := 1) hx hb dX0_apart_85 (by decide +kernel) ?_
  refine lv_goto (tgt := 90) hx hb dX0_apart_86 (by decide) ?_
  exact W.zret (v := 1) hx hb hr rfl (fun t ht hW => ⟨⟨1, (), rfl, rfl, trivial⟩, hS.F ht⟩) hS.2.2 dX0_apart_90
end
section
set_option maxHeartbeats 4000000 in
set_option maxRecDepth 100000 in
/-- asked: three looks between two counts -/
theorem as_b {p : Program} {l : Launch} {e : Env} {R : Room} {s : State} {m : MethodId} {args : Array Value} {below : List Frame} {meth : Method} {c : Code} {Q : State → Prop} {D : va_G} {A : Nat → Prop} {tc : Nat} {ad : Nat → Nat} {b L : Nat} {xs : Nat → Int32} {cA : ClassId} {i nx ny : Nat} {x0 x1 x2 y0 y1 y2 : Nat} (c0 s0 : Nat) (C0 : lwC p R s m args c cX0_asked 6 A tc ad b L xs) (hK : va_K D vwCl [(cA, .long)] s) (hD : va_D A (wDk x0 x1 x2 cA (fT (clx xs L) (i + 1)) (nI nx) ++ wDk y0 y1 y2 cA (fT (clx xs L) i) (nI ny))) (hi : i < 64) (hc0 : c0 + 6 ≤ R.cells) (hs0 : s0 + 6 ≤ R.slots)
    (kk : ∀ (H : Heap) (locs : List Loc) (ls : Array Slot), va_P D vwCl (wDk x0 x1 x2 cA (fT (clx xs L) (i + 1)) (nI nx) ++ wDk y0 y1 y2 cA (fT (clx xs L) i) (nI ny)) H → va_S A s.heap H locs → lv_has ls 6 [(0, .ref b), (1, .ref x0), (2, .ref y0), (3, .int (nI i))] → W p l e R s m args below meth c H locs (c0 + 6) (s0 + 6) Q (F0 m 93 ls [])) :
    ∀ (n : Nat) (j : Nat) (H : Heap) (locs : List Loc) (ls : Array Slot), j + n = 3 → va_P D vwCl (wDk x0 x1 x2 cA (fT (clx xs L) (i + 1)) (nI nx) ++ wDk y0 y1 y2 cA (fT (clx xs L) i) (nI ny)) H → va_S A s.heap H locs → lv_has ls 6 [(0, .ref b), (1, .ref x0), (2, .ref y0), (3, .int (nI i)), (4, .int (nI (tN (fT (clx xs L) (i + 1)) (clx xs L i)))), (5, .int (nI j))] → W p l e R s m args below meth c H locs (c0 + 2 * j) (s0 + 2 * j) Q (F0 m 47 ls []) := by
  obtain ⟨hx, hb, hml, hown, hts, hA, hB, hX, hbl, hbA, hL, hR⟩ := C0
  intro n
  induction n with
  | zero =>
    intro j H locs ls hj hP hS hl
    obtain rfl : j = 3 := by omega
    refine lv_iload hx hb dX0_asked_47 (lv_at hl 5 rfl) ?_
    refine lv_iconst (v := 3) hx hb dX0_asked_49 (by decide +kernel) ?_
    refine lv_icmp_ge (tgt := 93) hx hb dX0_asked_50 (by decide) (fun _ => ?_) (fun q => absurd (nI_le (a := 3) (b := 3) (by decide) (by decide)) q)
    exact kk H locs ls hP hS (lv_sub hl [0, 1, 2, 3] rfl)
  | succ n ih =>
    intro j H locs ls hj hP hS hl
    refine lv_iload hx hb dX0_asked_47 (lv_at hl 5 rfl) ?_
    refine lv_iconst (v := 3) hx hb dX0_asked_49 (by decide +kernel) ?_
    refine lv_icmp_ge (tgt := 93) hx hb dX0_asked_50 (by decide) (fun q => absurd q (nI_ge (a := j) (b := 3) (by omega) (by decide))) (fun _ => ?_)
    refine lv_aload_n hx hb dX0_asked_53 rfl (lv_at hl 1 rfl) ?_
    refine lv_aload_n hx hb dX0_asked_54 rfl (lv_at hl 0 rfl) ?_
    refine lv_iload_n hx hb dX0_asked_55 rfl (lv_at hl 3 rfl) ?_
    refine lv_iload hx hb dX0_asked_56 (lv_at hl 5 rfl) ?_
    refine lv_iadd hx hb dX0_asked_58 ?_
    refine lv_topi (fun f_1 ef_1 => ?_)
    have ef_1 : f_1 = nI (i + j) := ef_1.trans (nI_add i j)
    subst ef_1
    refine lv_bipush (v := 63) hx hb dX0_asked_59 (by decide +kernel) ?_
    refine lv_iand hx hb dX0_asked_61 ?_
    refine lv_topi (fun f_2 ef_2 => ?_)
    have ef_2 : f_2 = nI ((i + j) % 64) := ef_2.trans (pk_andN (by omega) 6 (by decide +kernel))
    subst ef_2
    refine row_cell (j := ((i + j) % 64)) hx hb hml hl.1 hown hts hS hX hbl hbA hL (by omega) hR (by omega) (by omega) (Nat.le_of_ble_eq_true rfl) dX0_asked_62 ?_
    refine row_told (h0 := x0) (h1 := x1) (h2 := x2) (f := (fT (clx xs L) (i + 1))) (z := (nI nx)) (k := (clx xs L ((i + j) % 64))) hx hb hml hl.1 hown hts hK hP hD hS hA hB [0, 1, 2] (by decide) rfl rfl hR (by omega) (by omega) (Nat.le_of_ble_eq_true rfl) dX0_asked_65 (fun H locs hP hS => ?_)
    have t15 := tN_le (fT (clx xs L) (i + 1)) (clx xs L ((i + j) % 64))
    refine lv_if_lt (tgt := 85) hx hb dX0_asked_68 (by decide) (fun q => absurd q (nI_pos (by omega))) (fun _ => ?_)
    refine lv_aload_n hx hb dX0_asked_71 rfl (lv_at hl 1 rfl) ?_
    refine lv_aload_n hx hb dX0_asked_72 rfl (lv_at hl 0 rfl) ?_
    refine lv_iload_n hx hb dX0_asked_73 rfl (lv_at hl 3 rfl) ?_
    refine row_cell (j := i) hx hb hml hl.1 hown hts hS hX hbl hbA hL (by omega) hR (by omega) (by omega) (Nat.le_of_ble_eq_true rfl) dX0_asked_74 ?_
    refine row_told (h0 := x0) (h1 := x1) (h2 := x2) (f := (fT (clx xs L) (i + 1))) (z := (nI nx)) (k := (clx xs L i)) hx hb hml hl.1 hown hts hK hP hD hS hA hB [0, 1, 2] (by decide) rfl rfl hR (by omega) (by omega) (Nat.le_of_ble_eq_true rfl) dX0_asked_77 (fun H locs hP hS => ?_)
    refine lv_iload hx hb dX0_asked_80 (lv_at hl 4 rfl) ?_
    refine lv_icmp_eq (tgt := 87) hx hb dX0_asked_82 (by decide) (fun _ => ?_) (fun q => absurd rfl q)
    obtain ⟨f_3, ef_3⟩ : ∃ y : Int32, y = (nI j) + 1 := ⟨_, rfl⟩
    refine lv_iinc (v := f_3) (lv' := [(5, .int f_3), (0, .ref b), (1, .ref x0), (2, .ref y0), (3, .int (nI i)), (4, .int (nI (tN (fT (clx xs L) (i + 1)) (clx xs L i))))]) hx hb dX0_asked_87 hl (k := 5) rfl (by rw [ef_3]; rfl) (by decide) rfl (fun ls hl => ?_)
    have ef_3 : f_3 = nI (j + 1) := ef_3.trans (nI_1 j)
    subst ef_3
    refine lv_goto (tgt := 47) hx hb dX0_asked_90 (by decide) ?_
    refine W.widen (k := c0 + 2 * (j + 1)) (n := s0 + 2 * (j + 1)) (by omega) (by omega) ?_
    exact ih (j + 1) H locs ls (by omega) hP hS (lv_sub hl [1, 2, 3, 4, 5, 0] rfl)
set_option maxHeartbeats 4000000 in
set_option maxRecDepth 100000 in
/-- asked: 64 ints counted in two sketches -/
theorem as_a {p : Program} {l : Launch} {e : Env} {R : Room} {s : State} {m : MethodId} {args : Array Value} {below : List Frame} {meth : Method} {c : Code} {Q : State → Prop} {D : va_G} {A : Nat → Prop} {tc : Nat} {ad : Nat → Nat} {b L : Nat} {xs : Nat → Int32} {cA : ClassId} {x0 x1 x2 y0 y1 y2 : Nat} (c0 s0 : Nat) (C0 : lwC p R s m args c cX0_asked 6 A tc ad b L xs) (hK : va_K D vwCl [(cA, .long)] s) (hc0 : c0 + 576 ≤ R.cells) (hs0 : s0 + 576 ≤ R.slots)
    (kk : ∀ (nx ny : Nat) (H : Heap) (locs : List Loc) (ls : Array Slot), va_P D vwCl (wDk x0 x1 x2 cA (fT (clx xs L) 64) (nI nx) ++ wDk y0 y1 y2 cA (fT (clx xs L) 64) (nI ny)) H → va_D A (wDk x0 x1 x2 cA (fT (clx xs L) 64) (nI nx) ++ wDk y0 y1 y2 cA (fT (clx xs L) 64) (nI ny)) → va_S A s.heap H locs → lv_has ls 6 [(0, .ref b), (1, .ref x0), (2, .ref y0)] → W p l e R s m args below meth c H locs (c0 + 9 * 64) (s0 + 9 * 64) Q (F0 m 108 ls [])) :
    ∀ (n : Nat) (i nx ny : Nat) (H : Heap) (locs : List Loc) (ls : Array Slot), i + n = 64 → nx ≤ i → ny ≤ i → va_P D vwCl (wDk x0 x1 x2 cA (fT (clx xs L) i) (nI nx) ++ wDk y0 y1 y2 cA (fT (clx xs L) i) (nI ny)) H → va_D A (wDk x0 x1 x2 cA (fT (clx xs L) i) (nI nx) ++ wDk y0 y1 y2 cA (fT (clx xs L) i) (nI ny)) → va_S A s.heap H locs → lv_has ls 6 [(0, .ref b), (1, .ref x0), (2, .ref y0), (3, .int (nI i))] → W p l e R s m args below meth c H locs (c0 + 9 * i) (s0 + 9 * i) Q (F0 m 18 ls []) := by
  obtain ⟨hx, hb, hml, hown, hts, hA, hB, hX, hbl, hbA, hL, hR⟩ := C0
  intro n
  induction n with
  | zero =>
    intro i nx ny H locs ls hi hnx hny hP hD hS hl
    obtain rfl : i = 64 := by omega
    refine lv_iload_n hx hb dX0_asked_18 rfl (lv_at hl 3 rfl) ?_
    refine lv_bipush (v := 64) hx hb dX0_asked_19 (by decide +kernel) ?_
    refine lv_icmp_ge (tgt := 108) hx hb dX0_asked_21 (by decide) (fun _ => ?_) (fun q => absurd (nI_le (a := 64) (b := 64) (by decide) (by decide)) q)
    exact kk nx ny H locs ls hP hD hS (lv_sub hl [0, 1, 2] rfl)
  | succ n ih =>
    intro i nx ny H locs ls hi hnx hny hP hD hS hl
    refine lv_iload_n hx hb dX0_asked_18 rfl (lv_at hl 3 rfl) ?_
    refine lv_bipush (v := 64) hx hb dX0_asked_19 (by decide +kernel) ?_
    refine lv_icmp_ge (tgt := 108) hx hb dX0_asked_21 (by decide) (fun q => absurd q (nI_ge (a := i) (b := 64) (by omega) (by decide))) (fun _ => ?_)
    refine lv_aload_n hx hb dX0_asked_24 rfl (lv_at hl 1 rfl) ?_
    refine lv_aload_n hx hb dX0_asked_25 rfl (lv_at hl 0 rfl) ?_
    refine lv_iload_n hx hb dX0_asked_26 rfl (lv_at hl 3 rfl) ?_
    refine row_cell (j := i) hx hb hml hl.1 hown hts hS hX hbl hbA hL (by omega) hR (by omega) (by omega) (Nat.le_of_ble_eq_true rfl) dX0_asked_27 ?_
    refine row_count (h0 := x0) (h1 := x1) (h2 := x2) (n := nx) (f := (fT (clx xs L) i)) (k := (clx xs L i)) (wr := (wDk y0 y1 y2 cA (fT (clx xs L) i) (nI ny))) (fun mx => wDk x0 x1 x2 cA (incF (fT (clx xs L) i) (clx xs L i)) (nI mx) ++ wDk y0 y1 y2 cA (fT (clx xs L) i) (nI ny)) (by omega) hx hb hml hl.1 hown hts hK hP hD hS hA hB [0, 1, 2] [3, 4, 5] [3, 4, 5, 0, 1, 2] (by decide) (by decide) (by decide) (by decide) rfl rfl rfl (fun _ => rfl) (fun _ => rfl) hR (by omega) (by omega) (Nat.le_of_ble_eq_true rfl) dX0_asked_30 (fun mx H locs hmx hP hD hS => ?_)
    have hP : va_P D vwCl (wDk x0 x1 x2 cA (fT (clx xs L) (i + 1)) (nI mx) ++ wDk y0 y1 y2 cA (fT (clx xs L) i) (nI ny)) H := hP
    have hD : va_D A (wDk x0 x1 x2 cA (fT (clx xs L) (i + 1)) (nI mx) ++ wDk y0 y1 y2 cA (fT (clx xs L) i) (nI ny)) := hD
    refine lv_aload_n hx hb dX0_asked_33 rfl (lv_at hl 1 rfl) ?_
    refine lv_aload_n hx hb dX0_asked_34 rfl (lv_at hl 0 rfl) ?_
    refine lv_iload_n hx hb dX0_asked_35 rfl (lv_at hl 3 rfl) ?_
    refine row_cell (j := i) hx hb hml hl.1 hown hts hS hX hbl hbA hL (by omega) hR (by omega) (by omega) (Nat.le_of_ble_eq_true rfl) dX0_asked_36 ?_
    refine row_told (h0 := x0) (h1 := x1) (h2 := x2) (f := (fT (clx xs L) (i + 1))) (z := (nI mx)) (k := (clx xs L i)) hx hb hml hl.1 hown hts hK hP hD hS hA hB [0, 1, 2] (by decide) rfl rfl hR (by omega) (by omega) (Nat.le_of_ble_eq_true rfl) dX0_asked_39 (fun H locs hP hS => ?_)
    refine lv_istore (lv' := [(4, .int (nI (tN (fT (clx xs L) (i + 1)) (clx xs L i)))), (0, .ref b), (1, .ref x0), (2, .ref y0), (3, .int (nI i))]) hx hb dX0_asked_42 hl (by decide) rfl (fun ls hl => ?_)
    refine lv_iconst (v := 0) hx hb dX0_asked_44 (by decide +kernel) ?_
    refine lv_istore (lv' := [(5, .int 0), (4, .int (nI (tN (fT (clx xs L) (i + 1)) (clx xs L i)))), (0, .ref b), (1, .ref x0), (2, .ref y0), (3, .int (nI i))]) hx hb dX0_asked_45 hl (by decide) rfl (fun ls hl => ?_)
    refine W.widen (k := (c0 + 9 * i + 2) + 2 * 0) (n := (s0 + 9 * i + 2) + 2 * 0) (by omega) (by omega) ?_
    refine as_b (i := i) (nx := mx) (ny := ny) (c0 + 9 * i + 2) (s0 + 9 * i + 2) ⟨hx, hb, hml, hown, hts, hA, hB, hX, hbl, hbA, hL, hR⟩ hK hD (by omega) (by omega) (by omega) ?_ 3 0 _ _ _ rfl hP hS (lv_sub hl [2, 3, 4, 5, 1, 0] rfl)
    intro H locs ls hP hS hl
    refine lv_aload_n hx hb dX0_asked_93 rfl (lv_at hl 2 rfl) ?_
    refine lv_aload_n hx hb dX0_asked_94 rfl (lv_at hl 0 rfl) ?_
    refine lv_iload_n hx hb dX0_asked_95 rfl (lv_at hl 3 rfl) ?_
    refine row_cell (j := i) hx hb hml hl.1 hown hts hS hX hbl hbA hL (by omega) hR (by omega) (by omega) (Nat.le_of_ble_eq_true rfl) dX0_asked_96 ?_
    refine row_count (h0 := y0) (h1 := y1) (h2 := y2) (n := ny) (f := (fT (clx xs L) i)) (k := (clx xs L i)) (wr := (wDk x0 x1 x2 cA (fT (clx xs L) (i + 1)) (nI mx))) (fun my => wDk x0 x1 x2 cA (fT (clx xs L) (i + 1)) (nI mx) ++ wDk y0 y1 y2 cA (incF (fT (clx xs L) i) (clx xs L i)) (nI my)) (by omega) hx hb hml hl.1 hown hts hK hP hD hS hA hB [3, 4, 5] [0, 1, 2] [0, 1, 2, 3, 4, 5] (by decide) (by decide) (by decide) (by decide) rfl rfl rfl (fun _ => rfl) (fun _ => rfl) hR (by omega) (by omega) (Nat.le_of_ble_eq_true rfl) dX0_asked_99 (fun my H locs hmy hP hD hS => ?_)
    have hP : va_P D vwCl (wDk x0 x1 x2 cA (fT (clx xs L) (i + 1)) (nI mx) ++ wDk y0 y1 y2 cA (fT (clx xs L) (i + 1)) (nI my)) H := hP
    have hD : va_D A (wDk x0 x1 x2 cA (fT (clx xs L) (i + 1)) (nI mx) ++ wDk y0 y1 y2 cA (fT (clx xs L) (i + 1)) (nI my)) := hD
    obtain ⟨f_1, ef_1⟩ : ∃ y : Int32, y = (nI i) + 1 := ⟨_, rfl⟩
    refine lv_iinc (v := f_1) (lv' := [(3, .int f_1), (0, .ref b), (1, .ref x0), (2, .ref y0)]) hx hb dX0_asked_102 hl (k := 3) rfl (by rw [ef_1]; rfl) (by decide) rfl (fun ls hl => ?_)
    have ef_1 : f_1 = nI (i + 1) := ef_1.trans (nI_1 i)
    subst ef_1
    refine lv_goto (tgt := 18) hx hb dX0_asked_105 (by decide) ?_
    refine W.widen (k := c0 + 9 * (i + 1)) (n := s0 + 9 * (i + 1)) (by omega) (by omega) ?_
    exact ih (i + 1) mx my H locs ls (by omega) (by omega) (by omega) hP hD hS (lv_sub hl [1, 2, 3, 0] rfl)
set_option maxHeartbeats 4000000 in
set_option maxRecDepth 100000 in
/-- asked: both sketches tell alike -/
theorem as_c {p : Program} {l : Launch} {e : Env} {R : Room} {s : State} {m : MethodId} {args : Array Value} {below : List Frame} {meth : Method} {c : Code} {Q : State → Prop} {D : va_G} {A : Nat → Prop} {tc : Nat} {ad : Nat → Nat} {b L : Nat} {xs : Nat → Int32} {cA : ClassId} {nx ny : Nat} {x0 x1 x2 y0 y1 y2 : Nat} (c0 s0 : Nat) (C0 : lwC p R s m args c cX0_asked 6 A tc ad b L xs) (hK : va_K D vwCl [(cA, .long)] s) (hD : va_D A (wDk x0 x1 x2 cA (fT (clx xs L) 64) (nI nx) ++ wDk y0 y1 y2 cA (fT (clx xs L) 64) (nI ny))) (hc0 : c0 + 256 ≤ R.cells) (hs0 : s0 + 256 ≤ R.slots)
    (kk : ∀ (H : Heap) (locs : List Loc) (ls : Array Slot), va_P D vwCl (wDk x0 x1 x2 cA (fT (clx xs L) 64) (nI nx) ++ wDk y0 y1 y2 cA (fT (clx xs L) 64) (nI ny)) H → va_S A s.heap H locs → lv_has ls 6 [(0, .ref b), (1, .ref x0), (2, .ref y0)] → W p l e R s m args below meth c H locs (c0 + 4 * 64) (s0 + 4 * 64) Q (F0 m 170 ls [])) :
    ∀ (n : Nat) (i : Nat) (H : Heap) (locs : List Loc) (ls : Array Slot), i + n = 64 → va_P D vwCl (wDk x0 x1 x2 cA (fT (clx xs L) 64) (nI nx) ++ wDk y0 y1 y2 cA (fT (clx xs L) 64) (nI ny)) H → va_S A s.heap H locs → lv_has ls 6 [(0, .ref b), (1, .ref x0), (2, .ref y0), (3, .int (nI i))] → W p l e R s m args below meth c H locs (c0 + 4 * i) (s0 + 4 * i) Q (F0 m 110 ls []) := by
  obtain ⟨hx, hb, hml, hown, hts, hA, hB, hX, hbl, hbA, hL, hR⟩ := C0
  intro n
  induction n with
  | zero =>
    intro i H locs ls hi hP hS hl
    obtain rfl : i = 64 := by omega
    refine lv_iload_n hx hb dX0_asked_110 rfl (lv_at hl 3 rfl) ?_
    refine lv_bipush (v := 64) hx hb dX0_asked_111 (by decide +kernel) ?_
    refine lv_icmp_ge (tgt := 170) hx hb dX0_asked_113 (by decide) (fun _ => ?_) (fun q => absurd (nI_le (a := 64) (b := 64) (by decide) (by decide)) q)
    exact kk H locs ls hP hS (lv_sub hl [0, 1, 2] rfl)
  | succ n ih =>
    intro i H locs ls hi hP hS hl
    refine lv_iload_n hx hb dX0_asked_110 rfl (lv_at hl 3 rfl) ?_
    refine lv_bipush (v := 64) hx hb dX0_asked_111 (by decide +kernel) ?_
    refine lv_icmp_ge (tgt := 170) hx hb dX0_asked_113 (by decide) (fun q => absurd q (nI_ge (a := i) (b := 64) (by omega) (by decide))) (fun _ => ?_)
    refine lv_aload_n hx hb dX0_asked_116 rfl (lv_at hl 1 rfl) ?_
    refine lv_aload_n hx hb dX0_asked_117 rfl (lv_at hl 0 rfl) ?_
    refine lv_iload_n hx hb dX0_asked_118 rfl (lv_at hl 3 rfl) ?_
    refine row_cell (j := i) hx hb hml hl.1 hown hts hS hX hbl hbA hL (by omega) hR (by omega) (by omega) (Nat.le_of_ble_eq_true rfl) dX0_asked_119 ?_
    refine row_told (h0 := x0) (h1 := x1) (h2 := x2) (f := (fT (clx xs L) 64)) (z := (nI nx)) (k := (clx xs L i)) hx hb hml hl.1 hown hts hK hP hD hS hA hB [0, 1, 2] (by decide) rfl rfl hR (by omega) (by omega) (Nat.le_of_ble_eq_true rfl) dX0_asked_122 (fun H locs hP hS => ?_)
    refine lv_aload_n hx hb dX0_asked_125 rfl (lv_at hl 2 rfl) ?_
    refine lv_aload_n hx hb dX0_asked_126 rfl (lv_at hl 0 rfl) ?_
    refine lv_iload_n hx hb dX0_asked_127 rfl (lv_at hl 3 rfl) ?_
    refine row_cell (j := i) hx hb hml hl.1 hown hts hS hX hbl hbA hL (by omega) hR (by omega) (by omega) (Nat.le_of_ble_eq_true rfl) dX0_asked_128 ?_
    refine row_told (h0 := y0) (h1 := y1) (h2 := y2) (f := (fT (clx xs L) 64)) (z := (nI ny)) (k := (clx xs L i)) hx hb hml hl.1 hown hts hK hP hD hS hA hB [3, 4, 5] (by decide) rfl rfl hR (by omega) (by omega) (Nat.le_of_ble_eq_true rfl) dX0_asked_131 (fun H locs hP hS => ?_)
    refine lv_icmp_ne (tgt := 162) hx hb dX0_asked_134 (by decide) (fun q => absurd rfl q) (fun _ => ?_)
    refine lv_aload_n hx hb dX0_asked_137 rfl (lv_at hl 1 rfl) ?_
    refine lv_aload_n hx hb dX0_asked_138 rfl (lv_at hl 0 rfl) ?_
    refine lv_iload_n hx hb dX0_asked_139 rfl (lv_at hl 3 rfl) ?_
    refine row_cell (j := i) hx hb hml hl.1 hown hts hS hX hbl hbA hL (by omega) hR (by omega) (by omega) (Nat.le_of_ble_eq_true rfl) dX0_asked_140 ?_
    refine lv_iconst (v := (-1)) hx hb dX0_asked_143 (by decide +kernel) ?_
    refine lv_ixor hx hb dX0_asked_144 ?_
    refine row_told (h0 := x0) (h1 := x1) (h2 := x2) (f := (fT (clx xs L) 64)) (z := (nI nx)) (k := ((clx xs L i) ^^^ (-1))) hx hb hml hl.1 hown hts hK hP hD hS hA hB [0, 1, 2] (by decide) rfl rfl hR (by omega) (by omega) (Nat.le_of_ble_eq_true rfl) dX0_asked_145 (fun H locs hP hS => ?_)
    refine lv_aload_n hx hb dX0_asked_148 rfl (lv_at hl 2 rfl) ?_
    refine lv_aload_n hx hb dX0_asked_149 rfl (lv_at hl 0 rfl) ?_
    refine lv_iload_n hx hb dX0_asked_150 rfl (lv_at hl 3 rfl) ?_
    refine row_cell (j := i) hx hb hml hl.1 hown hts hS hX hbl hbA hL (by omega) hR (by omega) (by omega) (Nat.le_of_ble_eq_true rfl) dX0_asked_151 ?_
    refine lv_iconst (v := (-1)) hx hb dX0_asked_154 (by decide +kernel) ?_
    refine lv_ixor hx hb dX0_asked_155 ?_
    refine row_told (h0 := y0) (h1 := y1) (h2 := y2) (f := (fT (clx xs L) 64)) (z := (nI ny)) (k := ((clx xs L i) ^^^ (-1))) hx hb hml hl.1 hown hts hK hP hD hS hA hB [3, 4, 5] (by decide) rfl rfl hR (by omega) (by omega) (Nat.le_of_ble_eq_true rfl) dX0_asked_156 (fun H locs hP hS => ?_)
    refine lv_icmp_eq (tgt := 164) hx hb dX0_asked_159 (by decide) (fun _ => ?_) (fun q => absurd rfl q)
    obtain ⟨f_1, ef_1⟩ : ∃ y : Int32, y = (nI i) + 1 := ⟨_, rfl⟩
    refine lv_iinc (v := f_1) (lv' := [(3, .int f_1), (0, .ref b), (1, .ref x0), (2, .ref y0)]) hx hb dX0_asked_164 hl (k := 3) rfl (by rw [ef_1]; rfl) (by decide) rfl (fun ls hl => ?_)
    have ef_1 : f_1 = nI (i + 1) := ef_1.trans (nI_1 i)
    subst ef_1
    refine lv_goto (tgt := 110) hx hb dX0_asked_167 (by decide) ?_
    refine W.widen (k := c0 + 4 * (i + 1)) (n := s0 + 4 * (i + 1)) (by omega) (by omega) ?_
    exact ih (i + 1) H locs ls (by omega) hP hS (lv_sub hl [1, 2, 3, 0] rfl)
set_option maxHeartbeats 4000000 in
set_option maxRecDepth 100000 in
/-- SketchDeskLaw.asked(s) answers true -/
theorem mX0_asked (l : Launch) (D : va_G) (tc : Nat) (ad : Nat → Nat) (b L : Nat) (xs : Nat → Int32) (hL : L ≤ 64) (sz : Nat) : Met l yX0_asked (ws_ yX0_asked cX0_asked 6 (some .boolean)) ({ frames := 5, cells := 842, slots := 1616, locals := 98 }) (va_Pc [.ref b] (fun U => U.heap.size = sz ∧ va_K D vwCl [] U ∧ va_X b L xs U U.heap ∧ bxC tc ad (va_A [] sz) U U.heap)) (va_Qi (fun (r : Int32) (_ : Unit) => r = 1) (fun _ _ => True) (va_A [] sz)) 842 1616 (va_A [] sz) := by
  refine Met.ofW (cc := cX0_asked) (maxL := 6) (ret := (some .boolean)) (by decide) rfl ?_
  intro p e s m args below meth c s₁ B hml hv
  obtain ⟨rfl, hsz, hK, hX, hB⟩ := hv
  have hx := B.exec
  have hb := B.bytes
  have hr := B.returns
  have hts := atoms_spec (ws := (ws_ yX0_asked cX0_asked 6 (some .boolean))) B.pre
  have hts : ∀ w ∈ lw_all, w.before _ s = true := fun w h => hts w (List.mem_cons_of_mem _ h)
  have hown : s.vm.findClass RX0 = some m.cls := findClass_of_methodNamed B.named
  have hlocks := B.notSynchronized
  subst hsz
  generalize hAe : va_A [] s.heap.size = A at hB ⊢
  have hA : ∀ q : Nat, s.heap.size ≤ q → A q := fun q h => by rw [← hAe]; exact Or.inr h
  have hS : va_S A s.heap s.heap [] := va_S.rf
  have hP : va_P D vwCl [] s.heap := fun k q h => by simp at h
  have hD : va_D A [] := ⟨fun i j p q h => by simp at h, fun k q h => by simp at h⟩
  have hbl : b < s.heap.size := by
    obtain ⟨scr, h1, -⟩ := hX
    exact (Array.getElem?_eq_some_iff.mp h1).1
  have hbA : ¬ A b := by
    rw [← hAe]
    intro z
    rcases z with ⟨k9, e9, z⟩ | z
    · simp at z
    · omega
  have hR : 5 ≤ (headSpec (ws_ yX0_asked cX0_asked 6 (some .boolean)) ({ frames := 5, cells := 842, slots := 1616, locals := 98 })).room.frames ∧ 98 ≤ (headSpec (ws_ yX0_asked cX0_asked 6 (some .boolean)) ({ frames := 5, cells := 842, slots := 1616, locals := 98 })).room.locals := ⟨Nat.le_of_ble_eq_true rfl, Nat.le_of_ble_eq_true rfl⟩
  have hl := lv_entry ([.ref b]) (n := 6) (Nat.le_of_ble_eq_true rfl)
  rw [lg_entry_eq]
  generalize (lg_sl ([.ref b]) ++ List.replicate (6 - (lg_sl ([.ref b])).length) Slot.unset).toArray = ls at hl ⊢
  have hl : lv_has ls 6 [(0, .ref b)] := hl
  refine row_new (ws := []) hx hb hml hl.1 hown hts hK hP hD hS hA 0 [] (fun _ => rfl) (fun _ => rfl) (fun _ => rfl) (by decide) (by decide) hR (Nat.le_of_ble_eq_true rfl) (Nat.le_of_ble_eq_true rfl) (Nat.le_of_ble_eq_true rfl) dX0_asked_0 dX0_asked_3 dX0_asked_4 (fun x0 x1 x2 cA H locs hK hP hD hS => ?_)
  have hP : va_P D vwCl (wDk x0 x1 x2 cA (fT (clx xs L) 0) (nI 0)) H := hP
  have hD : va_D A (wDk x0 x1 x2 cA (fT (clx xs L) 0) (nI 0)) := hD
  refine lv_astore_n (lv' := [(1, .ref x0), (0, .ref b)]) hx hb dX0_asked_7 rfl hl (by decide) rfl (fun ls hl => ?_)
  refine row_new (ws := (wDk x0 x1 x2 cA (fT (clx xs L) 0) (nI 0))) hx hb hml hl.1 hown hts hK hP hD hS hA 3 [0, 1, 2] (fun _ => rfl) (fun _ => rfl) (fun _ => rfl) (by decide) (by decide) hR (Nat.le_of_ble_eq_true rfl) (Nat.le_of_ble_eq_true rfl) (Nat.le_of_ble_eq_true rfl) dX0_asked_8 dX0_asked_11 dX0_asked_12 (fun y0 y1 y2 cB H locs hK2 hP hD hS => ?_)
  have ec := va_K1 hK hK2
  subst ec
  have hP : va_P D vwCl (wDk x0 x1 x2 cA (fT (clx xs L) 0) (nI 0) ++ wDk y0 y1 y2 cA (fT (clx xs L) 0) (nI 0)) H := hP
  have hD : va_D A (wDk x0 x1 x2 cA (fT (clx xs L) 0) (nI 0) ++ wDk y0 y1 y2 cA (fT (clx xs L) 0) (nI 0)) := hD
  refine lv_astore_n (lv' := [(2, .ref y0), (1, .ref x0), (0, .ref b)]) hx hb dX0_asked_15 rfl hl (by decide) rfl (fun ls hl => ?_)
  refine lv_iconst (v := 0) hx hb dX0_asked_16 (by decide +kernel) ?_
  refine lv_istore_n (lv' := [(3, .int 0), (2, .ref y0), (1, .ref x0), (0, .ref b)]) hx hb dX0_asked_17 rfl hl (by decide) rfl (fun ls hl => ?_)
  refine W.widen (k := 6 + 9 * 0) (n := 522 + 9 * 0) (by omega) (by omega) ?_
  refine as_a 6 522 ⟨hx, hb, hml, hown, hts, hA, hB, hX, hbl, hbA, hL, hR⟩ hK (Nat.le_of_ble_eq_true rfl) (Nat.le_of_ble_eq_true rfl) ?_ 64 0 0 0 _ _ _ rfl (Nat.le_refl 0) (Nat.le_refl 0) hP hD hS (lv_sub hl [3, 2, 1, 0] rfl)
  intro nx ny H locs ls hP hD hS hl
  refine lv_iconst (v := 0) hx hb dX0_asked_108 (by decide +kernel) ?_
  refine lv_istore_n (lv' := [(3, .int 0), (0, .ref b), (1, .ref x0), (2, .ref y0)]) hx hb dX0_asked_109 rfl hl (by decide) rfl (fun ls hl => ?_)
  refine W.widen (k := 582 + 4 * 0) (n := 1098 + 4 * 0) (by omega) (by omega) ?_
  refine as_c 582 1098 ⟨hx, hb, hml, hown, hts, hA, hB, hX, hbl, hbA, hL, hR⟩ hK hD (Nat.le_of_ble_eq_true rfl) (Nat.le_of_ble_eq_true rfl) ?_ 64 0 _ _ _ rfl hP hS (lv_sub hl [1, 2, 3, 0] rfl)
  intro H locs ls hP hS hl
  have hP := hP.sub (ws' := []) [] rfl
  have hD := hD.sub (ws' := []) [] (by decide) rfl
  refine row_new (ws := []) hx hb hml hl.1 hown hts hK hP hD hS hA 0 [] (fun _ => rfl) (fun _ => rfl) (fun _ => rfl) (by decide) (by decide) hR (Nat.le_of_ble_eq_true rfl) (Nat.le_of_ble_eq_true rfl) (Nat.le_of_ble_eq_true rfl) dX0_asked_170 dX0_asked_173 dX0_asked_174 (fun z0 z1 z2 cB H locs hK hP hD hS => ?_)
  have hP : va_P D vwCl (wDk z0 z1 z2 cB (fun _ => 0) (nI 0)) H := hP
  have hD : va_D A (wDk z0 z1 z2 cB (fun _ => 0) (nI 0)) := hD
  refine lv_aload_n hx hb dX0_asked_177 rfl (lv_at hl 0 rfl) ?_
  refine lv_iconst (v := 0) hx hb dX0_asked_178 (by decide +kernel) ?_
  refine row_cell (j := 0) hx hb hml hl.1 hown hts hS hX hbl hbA hL (by decide) hR (Nat.le_of_ble_eq_true rfl) (Nat.le_of_ble_eq_true rfl) (Nat.le_of_ble_eq_true rfl) dX0_asked_179 ?_
  refine row_told (h0 := z0) (h1 := z1) (h2 := z2) (f := (fun _ => 0)) (z := (nI 0)) (k := (clx xs L 0)) hx hb hml hl.1 hown hts hK hP hD hS hA hB [0, 1, 2] (by decide) rfl rfl hR (Nat.le_of_ble_eq_true rfl) (Nat.le_of_ble_eq_true rfl) (Nat.le_of_ble_eq_true rfl) dX0_asked_182 (fun H locs hP hS => ?_)
  refine lv_if_ne (tgt := 192) hx hb dX0_asked_185 (by decide) (fun q => absurd (by rw [tN_zero]; rfl) q) (fun _ => ?_)
  refine lv_iconst (v := 1) hx hb dX0_asked_188 (by decide +kernel) ?_
  refine lv_goto (tgt := 193) hx hb dX0_asked_189 (by decide) ?_
  exact W.zret (v := 1) hx hb hr rfl (fun t ht hW => ⟨⟨1, (), rfl, rfl, trivial⟩, hS.F ht⟩) hS.2.2 dX0_asked_193
end
section
set_option maxHeartbeats 4000000 in
set_option maxRecDepth 100000 in
/-- the law: one int counted 16 times in a new sketch -/
theorem lw_1 {p : Program} {l : Launch} {e : Env} {R : Room} {s : State} {m : MethodId} {args : Array Value} {below : List Frame} {meth : Method} {c : Code} {Q : State → Prop} {D : va_G} {A : Nat → Prop} {tc : Nat} {ad : Nat → Nat} {b L : Nat} {xs : Nat → Int32} {cA : ClassId} {first : Int32} {x0 x1 x2 y0 y1 y2 : Nat} (c0 s0 : Nat) (C0 : lwC p R s m args c cL_law 9 A tc ad b L xs) (hK : va_K D vwCl [(cA, .long)] s) (hc0 : c0 + 32 ≤ R.cells) (hs0 : s0 + 32 ≤ R.slots)
    (kk : ∀ (n2 : Nat) (H : Heap) (locs : List Loc) (ls : Array Slot), va_P D vwCl (wDk x0 x1 x2 cA (fun _ => 0) (nI 0) ++ wDk y0 y1 y2 cA (fT (fun _ => first) 16) (nI n2)) H → va_D A (wDk x0 x1 x2 cA (fun _ => 0) (nI 0) ++ wDk y0 y1 y2 cA (fT (fun _ => first) 16) (nI n2)) → va_S A s.heap H locs → lv_has ls 9 [(0, .ref b), (1, .ref x0), (2, .ref y0)] → W p l e R s m args below meth c H locs (c0 + 2 * 16) (s0 + 2 * 16) Q (F0 m 94 ls [])) :
    ∀ (n : Nat) (i n2 : Nat) (H : Heap) (locs : List Loc) (ls : Array Slot), i + n = 16 → n2 ≤ i → va_P D vwCl (wDk x0 x1 x2 cA (fun _ => 0) (nI 0) ++ wDk y0 y1 y2 cA (fT (fun _ => first) i) (nI n2)) H → va_D A (wDk x0 x1 x2 cA (fun _ => 0) (nI 0) ++ wDk y0 y1 y2 cA (fT (fun _ => first) i) (nI n2)) → va_S A s.heap H locs → lv_has ls 9 [(0, .ref b), (1, .ref x0), (2, .ref y0), (3, .int first), (4, .int (nI (i + 1)))] → W p l e R s m args below meth c H locs (c0 + 2 * i) (s0 + 2 * i) Q (F0 m 52 ls []) := by
  obtain ⟨hx, hb, hml, hown, hts, hA, hB, hX, hbl, hbA, hL, hR⟩ := C0
  intro n
  induction n with
  | zero =>
    intro i n2 H locs ls hi hn hP hD hS hl
    obtain rfl : i = 16 := by omega
    refine lv_iload hx hb dL_law_52 (lv_at hl 4 rfl) ?_
    refine lv_bipush (v := 16) hx hb dL_law_54 (by decide +kernel) ?_
    refine lv_icmp_gt (tgt := 94) hx hb dL_law_56 (by decide) (fun _ => ?_) (fun q => absurd (nI_lt (a := 16) (b := 16 + 1) (by decide) (by decide)) q)
    exact kk n2 H locs ls hP hD hS (lv_sub hl [0, 1, 2] rfl)
  | succ n ih =>
    intro i n2 H locs ls hi hn hP hD hS hl
    refine lv_iload hx hb dL_law_52 (lv_at hl 4 rfl) ?_
    refine lv_bipush (v := 16) hx hb dL_law_54 (by decide +kernel) ?_
    refine lv_icmp_gt (tgt := 94) hx hb dL_law_56 (by decide) (fun q => absurd q (nI_nlt (a := 16) (b := i + 1) (by omega) (by decide))) (fun _ => ?_)
    refine lv_aload_n hx hb dL_law_59 rfl (lv_at hl 2 rfl) ?_
    refine lv_iload_n hx hb dL_law_60 rfl (lv_at hl 3 rfl) ?_
    refine row_count (h0 := y0) (h1 := y1) (h2 := y2) (n := n2) (f := (fT (fun _ => first) i)) (k := first) (wr := (wDk x0 x1 x2 cA (fun _ => 0) (nI 0))) (fun n3 => wDk x0 x1 x2 cA (fun _ => 0) (nI 0) ++ wDk y0 y1 y2 cA (incF (fT (fun _ => first) i) first) (nI n3)) (by omega) hx hb hml hl.1 hown hts hK hP hD hS hA hB [3, 4, 5] [0, 1, 2] [0, 1, 2, 3, 4, 5] (by decide) (by decide) (by decide) (by decide) rfl rfl rfl (fun _ => rfl) (fun _ => rfl) hR (by omega) (by omega) (Nat.le_of_ble_eq_true rfl) dL_law_61 (fun n3 H locs hn3 hP hD hS => ?_)
    have hP : va_P D vwCl (wDk x0 x1 x2 cA (fun _ => 0) (nI 0) ++ wDk y0 y1 y2 cA (fT (fun _ => first) (i + 1)) (nI n3)) H := hP
    have hD : va_D A (wDk x0 x1 x2 cA (fun _ => 0) (nI 0) ++ wDk y0 y1 y2 cA (fT (fun _ => first) (i + 1)) (nI n3)) := hD
    refine lv_aload_n hx hb dL_law_64 rfl (lv_at hl 2 rfl) ?_
    refine lv_iload_n hx hb dL_law_65 rfl (lv_at hl 3 rfl) ?_
    refine row_told (h0 := y0) (h1 := y1) (h2 := y2) (f := (fT (fun _ => first) (i + 1))) (z := (nI n3)) (k := first) hx hb hml hl.1 hown hts hK hP hD hS hA hB [3, 4, 5] (by decide) rfl rfl hR (by omega) (by omega) (Nat.le_of_ble_eq_true rfl) dL_law_66 (fun H locs hP hS => ?_)
    have h15 : tN (fT (fun _ => first) (i + 1)) first = min 15 (i + 1) := tN_alone first (i + 1)
    have tail : W p l e R s m args below meth c H locs (c0 + 2 * i + 1 + 1) (s0 + 2 * i + 1 + 1) Q (F0 m 88 ls []) := by
      obtain ⟨f_1, ef_1⟩ : ∃ y : Int32, y = (nI (i + 1)) + 1 := ⟨_, rfl⟩
      refine lv_iinc (v := f_1) (lv' := [(4, .int f_1), (0, .ref b), (1, .ref x0), (2, .ref y0), (3, .int first)]) hx hb dL_law_88 hl (k := 4) rfl (by rw [ef_1]; rfl) (by decide) rfl (fun ls hl => ?_)
      have ef_1 : f_1 = nI (i + 1 + 1) := ef_1.trans (nI_1 (i + 1))
      subst ef_1
      refine lv_goto (tgt := 52) hx hb dL_law_91 (by decide) ?_
      refine W.widen (k := c0 + 2 * (i + 1)) (n := s0 + 2 * (i + 1)) (by omega) (by omega) ?_
      exact ih (i + 1) n3 H locs ls (by omega) (by omega) hP hD hS (lv_sub hl [1, 2, 3, 4, 0] rfl)
    refine lv_iload hx hb dL_law_69 (lv_at hl 4 rfl) ?_
    refine lv_bipush (v := 15) hx hb dL_law_71 (by decide +kernel) ?_
    refine lv_icmp_ge (tgt := 81) hx hb dL_law_73 (by decide) (fun q => ?_) (fun q => ?_)
    · have h9 : 15 ≤ i + 1 := (nI_leI (a := 15) (b := i + 1) (by decide) (by omega)).mp q
      refine lv_bipush (v := 15) hx hb dL_law_81 (by decide +kernel) ?_
      refine lv_icmp_eq (tgt := 88) hx hb dL_law_83 (by decide) (fun _ => tail) (fun q2 => absurd (by rw [h15, Nat.min_eq_left h9]; rfl) q2)
    · have h9 : i + 1 ≤ 15 := by
        rcases Nat.lt_or_ge 15 (i + 1) with z | z
        · exact absurd (nI_le (a := 15) (b := i + 1) (by omega) (by omega)) q
        · exact z
      refine lv_iload hx hb dL_law_76 (lv_at hl 4 rfl) ?_
      refine lv_goto (tgt := 83) hx hb dL_law_78 (by decide) ?_
      refine lv_icmp_eq (tgt := 88) hx hb dL_law_83 (by decide) (fun _ => tail) (fun q2 => absurd (by rw [h15, Nat.min_eq_right h9]) q2)
set_option maxHeartbeats 4000000 in
set_option maxRecDepth 100000 in
/-- the law: the script is counted, no count lowers a number -/
theorem lw_2 {p : Program} {l : Launch} {e : Env} {R : Room} {s : State} {m : MethodId} {args : Array Value} {below : List Frame} {meth : Method} {c : Code} {Q : State → Prop} {D : va_G} {A : Nat → Prop} {tc : Nat} {ad : Nat → Nat} {b L : Nat} {xs : Nat → Int32} {cA : ClassId} {x0 x1 x2 : Nat} (c0 s0 : Nat) (C0 : lwC p R s m args c cL_law 9 A tc ad b L xs) (hK : va_K D vwCl [(cA, .long)] s) (hc0 : c0 + 320 ≤ R.cells) (hs0 : s0 + 320 ≤ R.slots)
    (kk : ∀ (n2 : Nat) (H : Heap) (locs : List Loc) (ls : Array Slot), va_P D vwCl (wDk x0 x1 x2 cA (fT xs L) (nI n2)) H → va_D A (wDk x0 x1 x2 cA (fT xs L) (nI n2)) → va_S A s.heap H locs → lv_has ls 9 [(0, .ref b), (1, .ref x0), (4, .int (nI L))] → W p l e R s m args below meth c H locs (c0 + 5 * L) (s0 + 5 * L) Q (F0 m 192 ls [])) :
    ∀ (n : Nat) (i n2 : Nat) (H : Heap) (locs : List Loc) (ls : Array Slot), i + n = L → n2 ≤ i → va_P D vwCl (wDk x0 x1 x2 cA (fT xs i) (nI n2)) H → va_D A (wDk x0 x1 x2 cA (fT xs i) (nI n2)) → va_S A s.heap H locs → lv_has ls 9 [(0, .ref b), (1, .ref x0), (4, .int (nI L)), (5, .int (nI i))] → W p l e R s m args below meth c H locs (c0 + 5 * i) (s0 + 5 * i) Q (F0 m 113 ls []) := by
  obtain ⟨hx, hb, hml, hown, hts, hA, hB, hX, hbl, hbA, hL, hR⟩ := C0
  intro n
  induction n with
  | zero =>
    intro i n2 H locs ls hi hn hP hD hS hl
    have hiL : i = L := by omega
    rw [hiL] at hP hD hl ⊢
    refine lv_iload hx hb dL_law_113 (lv_at hl 3 rfl) ?_
    refine lv_iload hx hb dL_law_115 (lv_at hl 2 rfl) ?_
    refine lv_icmp_ge (tgt := 192) hx hb dL_law_117 (by decide) (fun _ => ?_) (fun q => absurd (nI_le (a := L) (b := L) (Nat.le_refl L) (by omega)) q)
    exact kk n2 H locs ls hP hD hS (lv_sub hl [0, 1, 2] rfl)
  | succ n ih =>
    intro i n2 H locs ls hi hn hP hD hS hl
    have hiL : i < L := by omega
    refine lv_iload hx hb dL_law_113 (lv_at hl 3 rfl) ?_
    refine lv_iload hx hb dL_law_115 (lv_at hl 2 rfl) ?_
    refine lv_icmp_ge (tgt := 192) hx hb dL_law_117 (by decide) (fun q => absurd q (nI_ge (a := i) (b := L) hiL (by omega))) (fun _ => ?_)
    have hvi : vp_in (nI i) L := vp_in_nI hiL (by omega)
    refine lv_aload_n hx hb dL_law_120 rfl (lv_at hl 0 rfl) ?_
    refine lv_iload hx hb dL_law_121 (lv_at hl 3 rfl) ?_
    refine lv_bipush (v := 7) hx hb dL_law_123 (by decide +kernel) ?_
    refine lv_imul hx hb dL_law_125 ?_
    refine lv_topi (fun f_1 ef_1 => ?_)
    have ef_1 : f_1 = nI (i * 7) := ef_1.trans (pk_mul i 7)
    subst ef_1
    refine lv_iconst (v := 3) hx hb dL_law_126 (by decide +kernel) ?_
    refine lv_iadd hx hb dL_law_127 ?_
    refine lv_topi (fun f_2 ef_2 => ?_)
    have ef_2 : f_2 = nI (i * 7 + 3) := ef_2.trans (nI_add (i * 7) 3)
    subst ef_2
    refine lv_iload hx hb dL_law_128 (lv_at hl 2 rfl) ?_
    refine lv_irem hx hb dL_law_130 (nI_ne0 (by omega) (by omega)) ?_
    refine lv_topi (fun f_3 ef_3 => ?_)
    have ef_3 : f_3 = nI ((i * 7 + 3) % L) := ef_3.trans (pk_rem (by omega) (by omega) (by omega))
    subst ef_3
    have hml9 : (i * 7 + 3) % L < L := Nat.mod_lt _ (by omega)
    refine va_sld hx hb hX hbl hbA hS (vp_in_nI hml9 (by omega)) dL_law_131 ?_
    refine lv_topi (fun o eo => ?_)
    refine lv_istore (lv' := [(6, .int o), (0, .ref b), (1, .ref x0), (4, .int (nI L)), (5, .int (nI i))]) hx hb dL_law_132 hl (by decide) rfl (fun ls hl => ?_)
    refine lv_aload_n hx hb dL_law_134 rfl (lv_at hl 2 rfl) ?_
    refine lv_iload hx hb dL_law_135 (lv_at hl 0 rfl) ?_
    refine row_told (h0 := x0) (h1 := x1) (h2 := x2) (f := (fT xs i)) (z := (nI n2)) (k := o) hx hb hml hl.1 hown hts hK hP hD hS hA hB [0, 1, 2] (by decide) rfl rfl hR (by omega) (by omega) (Nat.le_of_ble_eq_true rfl) dL_law_137 (fun H locs hP hS => ?_)
    refine lv_istore (lv' := [(7, .int (nI (tN (fT xs i) o))), (6, .int o), (0, .ref b), (1, .ref x0), (4, .int (nI L)), (5, .int (nI i))]) hx hb dL_law_140 hl (by decide) rfl (fun ls hl => ?_)
    refine lv_aload_n hx hb dL_law_142 rfl (lv_at hl 3 rfl) ?_
    refine lv_aload_n hx hb dL_law_143 rfl (lv_at hl 2 rfl) ?_
    refine lv_iload hx hb dL_law_144 (lv_at hl 5 rfl) ?_
    refine va_sld hx hb hX hbl hbA hS hvi dL_law_146 ?_
    refine lv_topi (fun f_4 ef_4 => ?_)
    have ef_4 : f_4 = xs i := by rw [ef_4, nI_clamp (show i < 2 ^ 31 by omega)]
    subst ef_4
    refine row_told (h0 := x0) (h1 := x1) (h2 := x2) (f := (fT xs i)) (z := (nI n2)) (k := (xs i)) hx hb hml hl.1 hown hts hK hP hD hS hA hB [0, 1, 2] (by decide) rfl rfl hR (by omega) (by omega) (Nat.le_of_ble_eq_true rfl) dL_law_147 (fun H locs hP hS => ?_)
    refine lv_istore (lv' := [(8, .int (nI (tN (fT xs i) (xs i)))), (7, .int (nI (tN (fT xs i) o))), (6, .int o), (0, .ref b), (1, .ref x0), (4, .int (nI L)), (5, .int (nI i))]) hx hb dL_law_150 hl (by decide) rfl (fun ls hl => ?_)
    refine lv_aload_n hx hb dL_law_152 rfl (lv_at hl 4 rfl) ?_
    refine lv_aload_n hx hb dL_law_153 rfl (lv_at hl 3 rfl) ?_
    refine lv_iload hx hb dL_law_154 (lv_at hl 6 rfl) ?_
    refine va_sld hx hb hX hbl hbA hS hvi dL_law_156 ?_
    refine lv_topi (fun f_5 ef_5 => ?_)
    have ef_5 : f_5 = xs i := by rw [ef_5, nI_clamp (show i < 2 ^ 31 by omega)]
    subst ef_5
    refine row_count (h0 := x0) (h1 := x1) (h2 := x2) (n := n2) (f := (fT xs i)) (k := (xs i)) (wr := []) (fun n3 => wDk x0 x1 x2 cA (incF (fT xs i) (xs i)) (nI n3)) (by omega) hx hb hml hl.1 hown hts hK hP hD hS hA hB [0, 1, 2] [] [0, 1, 2] (by decide) (by decide) (by decide) (by decide) rfl rfl rfl (fun _ => rfl) (fun _ => rfl) hR (by omega) (by omega) (Nat.le_of_ble_eq_true rfl) dL_law_157 (fun n3 H locs hn3 hP hD hS => ?_)
    have hP : va_P D vwCl (wDk x0 x1 x2 cA (fT xs (i + 1)) (nI n3)) H := hP
    have hD : va_D A (wDk x0 x1 x2 cA (fT xs (i + 1)) (nI n3)) := hD
    refine lv_aload_n hx hb dL_law_160 rfl (lv_at hl 4 rfl) ?_
    refine lv_iload hx hb dL_law_161 (lv_at hl 2 rfl) ?_
    refine row_told (h0 := x0) (h1 := x1) (h2 := x2) (f := (fT xs (i + 1))) (z := (nI n3)) (k := o) hx hb hml hl.1 hown hts hK hP hD hS hA hB [0, 1, 2] (by decide) rfl rfl hR (by omega) (by omega) (Nat.le_of_ble_eq_true rfl) dL_law_163 (fun H locs hP hS => ?_)
    refine lv_iload hx hb dL_law_166 (lv_at hl 1 rfl) ?_
    have mo : tN (fT xs i) o ≤ tN (fT xs (i + 1)) o := tN_mono (fT xs i) (xs i) o
    have ms : tN (fT xs i) (xs i) ≤ tN (fT xs (i + 1)) (xs i) := tN_mono (fT xs i) (xs i) (xs i)
    have lo := tN_le (fT xs (i + 1)) o
    have ls9 := tN_le (fT xs (i + 1)) (xs i)
    refine lv_icmp_lt (tgt := 184) hx hb dL_law_168 (by decide) (fun q => absurd q (nI_nlt mo (by omega))) (fun _ => ?_)
    refine lv_aload_n hx hb dL_law_171 rfl (lv_at hl 4 rfl) ?_
    refine lv_aload_n hx hb dL_law_172 rfl (lv_at hl 3 rfl) ?_
    refine lv_iload hx hb dL_law_173 (lv_at hl 6 rfl) ?_
    refine va_sld hx hb hX hbl hbA hS hvi dL_law_175 ?_
    refine lv_topi (fun f_6 ef_6 => ?_)
    have ef_6 : f_6 = xs i := by rw [ef_6, nI_clamp (show i < 2 ^ 31 by omega)]
    subst ef_6
    refine row_told (h0 := x0) (h1 := x1) (h2 := x2) (f := (fT xs (i + 1))) (z := (nI n3)) (k := (xs i)) hx hb hml hl.1 hown hts hK hP hD hS hA hB [0, 1, 2] (by decide) rfl rfl hR (by omega) (by omega) (Nat.le_of_ble_eq_true rfl) dL_law_176 (fun H locs hP hS => ?_)
    refine lv_iload hx hb dL_law_179 (lv_at hl 0 rfl) ?_
    refine lv_icmp_ge (tgt := 186) hx hb dL_law_181 (by decide) (fun _ => ?_) (fun q => absurd (nI_le ms (by omega)) q)
    obtain ⟨f_7, ef_7⟩ : ∃ y : Int32, y = (nI i) + 1 := ⟨_, rfl⟩
    refine lv_iinc (v := f_7) (lv' := [(5, .int f_7), (8, .int (nI (tN (fT xs i) (xs i)))), (7, .int (nI (tN (fT xs i) o))), (6, .int o), (0, .ref b), (1, .ref x0), (4, .int (nI L))]) hx hb dL_law_186 hl (k := 6) rfl (by rw [ef_7]; rfl) (by decide) rfl (fun ls hl => ?_)
    have ef_7 : f_7 = nI (i + 1) := ef_7.trans (nI_1 i)
    subst ef_7
    refine lv_goto (tgt := 113) hx hb dL_law_189 (by decide) ?_
    refine W.widen (k := c0 + 5 * (i + 1)) (n := s0 + 5 * (i + 1)) (by omega) (by omega) ?_
    exact ih (i + 1) n3 H locs ls (by omega) (by omega) hP hD hS (lv_sub hl [4, 5, 6, 0] rfl)
set_option maxHeartbeats 4000000 in
set_option maxRecDepth 100000 in
/-- the law: how often an int stands in the script -/
theorem lw_4 {p : Program} {l : Launch} {e : Env} {R : Room} {s : State} {m : MethodId} {args : Array Value} {below : List Frame} {meth : Method} {c : Code} {Q : State → Prop} {A : Nat → Prop} {tc : Nat} {ad : Nat → Nat} {b L : Nat} {xs : Nat → Int32} {i x0 cells slots : Nat} {told : Int32} {H : Heap} {locs : List Loc} (C0 : lwC p R s m args c cL_law 9 A tc ad b L xs) (hi : i < L) (hS : va_S A s.heap H locs)
    (kk : ∀ (ls : Array Slot), lv_has ls 9 [(0, .ref b), (1, .ref x0), (4, .int (nI L)), (5, .int (nI i)), (6, .int (nI (fb_ct (fun j => decide (xs j = xs i)) L))), (7, .int told)] → W p l e R s m args below meth c H locs cells slots Q (F0 m 245 ls [])) :
    ∀ (n j : Nat) (ls : Array Slot), j + n = L → lv_has ls 9 [(0, .ref b), (1, .ref x0), (4, .int (nI L)), (5, .int (nI i)), (6, .int (nI (fb_ct (fun j => decide (xs j = xs i)) j))), (7, .int told), (8, .int (nI j))] → W p l e R s m args below meth c H locs cells slots Q (F0 m 218 ls []) := by
  obtain ⟨hx, hb, hml, hown, hts, hA, hB, hX, hbl, hbA, hL, hR⟩ := C0
  intro n
  induction n with
  | zero =>
    intro j ls hj hl
    have hjL : j = L := by omega
    rw [hjL] at hl
    refine lv_iload hx hb dL_law_218 (lv_at hl 6 rfl) ?_
    refine lv_iload hx hb dL_law_220 (lv_at hl 2 rfl) ?_
    refine lv_icmp_ge (tgt := 245) hx hb dL_law_222 (by decide) (fun _ => ?_) (fun q => absurd (nI_le (a := L) (b := L) (Nat.le_refl L) (by omega)) q)
    exact kk ls (lv_sub hl [0, 1, 2, 3, 4, 5] rfl)
  | succ n ih =>
    intro j ls hj hl
    have hjL : j < L := by omega
    have hvi : vp_in (nI i) L := vp_in_nI hi (by omega)
    have hvj : vp_in (nI j) L := vp_in_nI hjL (by omega)
    refine lv_iload hx hb dL_law_218 (lv_at hl 6 rfl) ?_
    refine lv_iload hx hb dL_law_220 (lv_at hl 2 rfl) ?_
    refine lv_icmp_ge (tgt := 245) hx hb dL_law_222 (by decide) (fun q => absurd q (nI_ge (a := j) (b := L) hjL (by omega))) (fun _ => ?_)
    refine lv_aload_n hx hb dL_law_225 rfl (lv_at hl 0 rfl) ?_
    refine lv_iload hx hb dL_law_226 (lv_at hl 6 rfl) ?_
    refine va_sld hx hb hX hbl hbA hS hvj dL_law_228 ?_
    refine lv_topi (fun f_1 ef_1 => ?_)
    have ef_1 : f_1 = xs j := by rw [ef_1, nI_clamp (show j < 2 ^ 31 by omega)]
    subst ef_1
    refine lv_aload_n hx hb dL_law_229 rfl (lv_at hl 0 rfl) ?_
    refine lv_iload hx hb dL_law_230 (lv_at hl 3 rfl) ?_
    refine va_sld hx hb hX hbl hbA hS hvi dL_law_232 ?_
    refine lv_topi (fun f_2 ef_2 => ?_)
    have ef_2 : f_2 = xs i := by rw [ef_2, nI_clamp (show i < 2 ^ 31 by omega)]
    subst ef_2
    refine lv_icmp_ne (tgt := 239) hx hb dL_law_233 (by decide) (fun q => ?_) (fun q => ?_)
    · have hct : nI (fb_ct (fun j => decide (xs j = xs i)) j) = nI (fb_ct (fun j => decide (xs j = xs i)) (j + 1)) := by rw [fb_ct_succ, decide_eq_false q]; rfl
      rw [hct] at hl
      obtain ⟨f_3, ef_3⟩ : ∃ y : Int32, y = (nI j) + 1 := ⟨_, rfl⟩
      refine lv_iinc (v := f_3) (lv' := [(8, .int f_3), (0, .ref b), (1, .ref x0), (4, .int (nI L)), (5, .int (nI i)), (6, .int (nI (fb_ct (fun j => decide (xs j = xs i)) (j + 1)))), (7, .int told)]) hx hb dL_law_239 hl (k := 6) rfl (by rw [ef_3]; rfl) (by decide) rfl (fun ls hl => ?_)
      have ef_3 : f_3 = nI (j + 1) := ef_3.trans (nI_1 j)
      subst ef_3
      refine lv_goto (tgt := 218) hx hb dL_law_242 (by decide) ?_
      exact ih (j + 1) ls (by omega) (lv_sub hl [1, 2, 3, 4, 5, 6, 0] rfl)
    · obtain ⟨f_4, ef_4⟩ : ∃ y : Int32, y = (nI (fb_ct (fun j => decide (xs j = xs i)) j)) + 1 := ⟨_, rfl⟩
      refine lv_iinc (v := f_4) (lv' := [(6, .int f_4), (0, .ref b), (1, .ref x0), (4, .int (nI L)), (5, .int (nI i)), (7, .int told), (8, .int (nI j))]) hx hb dL_law_236 hl (k := 4) rfl (by rw [ef_4]; rfl) (by decide) rfl (fun ls hl => ?_)
      have hct : f_4 = nI (fb_ct (fun j => decide (xs j = xs i)) (j + 1)) := by rw [ef_4, nI_1, fb_ct_succ, decide_eq_true q]; rfl
      subst hct
      obtain ⟨f_5, ef_5⟩ : ∃ y : Int32, y = (nI j) + 1 := ⟨_, rfl⟩
      refine lv_iinc (v := f_5) (lv' := [(8, .int f_5), (6, .int (nI (fb_ct (fun j => decide (xs j = xs i)) (j + 1)))), (0, .ref b), (1, .ref x0), (4, .int (nI L)), (5, .int (nI i)), (7, .int told)]) hx hb dL_law_239 hl (k := 6) rfl (by rw [ef_5]; rfl) (by decide) rfl (fun ls hl => ?_)
      have ef_5 : f_5 = nI (j + 1) := ef_5.trans (nI_1 j)
      subst ef_5
      refine lv_goto (tgt := 218) hx hb dL_law_242 (by decide) ?_
      exact ih (j + 1) ls (by omega) (lv_sub hl [2, 3, 4, 5, 1, 6, 0] rfl)
theorem fb_ct_leN (p : Nat → Bool) : ∀ n, fb_ct p n ≤ n
  | 0 => Nat.le_refl 0
  | n + 1 => by
    have h := fb_ct_leN p n
    rw [fb_ct_succ]
    cases p n
    · exact Nat.le_trans h (Nat.le_succ n)
    · exact Nat.succ_le_succ h
set_option maxHeartbeats 4000000 in
set_option maxRecDepth 100000 in
/-- the law: every int of the script is told right -/
theorem lw_3 {p : Program} {l : Launch} {e : Env} {R : Room} {s : State} {m : MethodId} {args : Array Value} {below : List Frame} {meth : Method} {c : Code} {Q : State → Prop} {D : va_G} {A : Nat → Prop} {tc : Nat} {ad : Nat → Nat} {b L : Nat} {xs : Nat → Int32} {cA : ClassId} {n2 : Nat} {x0 x1 x2 : Nat} (c0 s0 : Nat) (C0 : lwC p R s m args c cL_law 9 A tc ad b L xs) (hK : va_K D vwCl [(cA, .long)] s) (hD : va_D A (wDk x0 x1 x2 cA (fT xs L) (nI n2))) (hc0 : c0 + 192 ≤ R.cells) (hs0 : s0 + 192 ≤ R.slots)
    (kk : ∀ (H : Heap) (locs : List Loc) (ls : Array Slot), va_P D vwCl (wDk x0 x1 x2 cA (fT xs L) (nI n2)) H → va_S A s.heap H locs → lv_has ls 9 [(0, .ref b), (1, .ref x0)] → W p l e R s m args below meth c H locs (c0 + 3 * L) (s0 + 3 * L) Q (F0 m 309 ls [])) :
    ∀ (n : Nat) (i : Nat) (H : Heap) (locs : List Loc) (ls : Array Slot), i + n = L → va_P D vwCl (wDk x0 x1 x2 cA (fT xs L) (nI n2)) H → va_S A s.heap H locs → lv_has ls 9 [(0, .ref b), (1, .ref x0), (4, .int (nI L)), (5, .int (nI i))] → W p l e R s m args below meth c H locs (c0 + 3 * i) (s0 + 3 * i) Q (F0 m 195 ls []) := by
  obtain ⟨hx, hb, hml, hown, hts, hA, hB, hX, hbl, hbA, hL, hR⟩ := C0
  intro n
  induction n with
  | zero =>
    intro i H locs ls hi hP hS hl
    have hiL : i = L := by omega
    rw [hiL] at hl ⊢
    refine lv_iload hx hb dL_law_195 (lv_at hl 3 rfl) ?_
    refine lv_iload hx hb dL_law_197 (lv_at hl 2 rfl) ?_
    refine lv_icmp_ge (tgt := 309) hx hb dL_law_199 (by decide) (fun _ => ?_) (fun q => absurd (nI_le (a := L) (b := L) (Nat.le_refl L) (by omega)) q)
    exact kk H locs ls hP hS (lv_sub hl [0, 1] rfl)
  | succ n ih =>
    intro i H locs ls hi hP hS hl
    have hiL : i < L := by omega
    have hvi : vp_in (nI i) L := vp_in_nI hiL (by omega)
    refine lv_iload hx hb dL_law_195 (lv_at hl 3 rfl) ?_
    refine lv_iload hx hb dL_law_197 (lv_at hl 2 rfl) ?_
    refine lv_icmp_ge (tgt := 309) hx hb dL_law_199 (by decide) (fun q => absurd q (nI_ge (a := i) (b := L) hiL (by omega))) (fun _ => ?_)
    refine lv_iconst (v := 0) hx hb dL_law_202 (by decide +kernel) ?_
    refine lv_istore (lv' := [(6, .int 0), (0, .ref b), (1, .ref x0), (4, .int (nI L)), (5, .int (nI i))]) hx hb dL_law_203 hl (by decide) rfl (fun ls hl => ?_)
    refine lv_aload_n hx hb dL_law_205 rfl (lv_at hl 2 rfl) ?_
    refine lv_aload_n hx hb dL_law_206 rfl (lv_at hl 1 rfl) ?_
    refine lv_iload hx hb dL_law_207 (lv_at hl 4 rfl) ?_
    refine va_sld hx hb hX hbl hbA hS hvi dL_law_209 ?_
    refine lv_topi (fun f_1 ef_1 => ?_)
    have ef_1 : f_1 = xs i := by rw [ef_1, nI_clamp (show i < 2 ^ 31 by omega)]
    subst ef_1
    refine row_told (h0 := x0) (h1 := x1) (h2 := x2) (f := (fT xs L)) (z := (nI n2)) (k := (xs i)) hx hb hml hl.1 hown hts hK hP hD hS hA hB [0, 1, 2] (by decide) rfl rfl hR (by omega) (by omega) (Nat.le_of_ble_eq_true rfl) dL_law_210 (fun H locs hP hS => ?_)
    refine lv_istore (lv' := [(7, .int (nI (tN (fT xs L) (xs i)))), (6, .int 0), (0, .ref b), (1, .ref x0), (4, .int (nI L)), (5, .int (nI i))]) hx hb dL_law_213 hl (by decide) rfl (fun ls hl => ?_)
    refine lv_iconst (v := 0) hx hb dL_law_215 (by decide +kernel) ?_
    refine lv_istore (lv' := [(8, .int 0), (7, .int (nI (tN (fT xs L) (xs i)))), (6, .int 0), (0, .ref b), (1, .ref x0), (4, .int (nI L)), (5, .int (nI i))]) hx hb dL_law_216 hl (by decide) rfl (fun ls hl => ?_)
    refine lw_4 (i := i) (x0 := x0) ⟨hx, hb, hml, hown, hts, hA, hB, hX, hbl, hbA, hL, hR⟩ hiL hS ?_ L 0 _ (Nat.zero_add L) (lv_sub hl [3, 4, 5, 6, 2, 1, 0] rfl)
    intro ls hl
    have t15 := tN_le (fT xs L) (xs i)
    have tge := tN_times xs (xs i) L
    have ctl := fb_ct_leN (fun j => decide (xs j = xs i)) L
    refine lv_iload hx hb dL_law_245 (lv_at hl 5 rfl) ?_
    refine lv_bipush (v := 15) hx hb dL_law_247 (by decide +kernel) ?_
    refine lv_icmp_gt (tgt := 271) hx hb dL_law_249 (by decide) (fun q => absurd q (nI_nlt (a := 15) (b := tN (fT xs L) (xs i)) t15 (by decide))) (fun _ => ?_)
    have tail : W p l e R s m args below meth c H locs (c0 + 3 * i + 1) (s0 + 3 * i + 1) Q (F0 m 273 ls []) := by
      have u15 := tN_le (fT xs L) (xs i ^^^ (-1))
      refine lv_aload_n hx hb dL_law_273 rfl (lv_at hl 1 rfl) ?_
      refine lv_aload_n hx hb dL_law_274 rfl (lv_at hl 0 rfl) ?_
      refine lv_iload hx hb dL_law_275 (lv_at hl 3 rfl) ?_
      refine va_sld hx hb hX hbl hbA hS hvi dL_law_277 ?_
      refine lv_topi (fun f_2 ef_2 => ?_)
      have ef_2 : f_2 = xs i := by rw [ef_2, nI_clamp (show i < 2 ^ 31 by omega)]
      subst ef_2
      refine lv_iconst (v := (-1)) hx hb dL_law_278 (by decide +kernel) ?_
      refine lv_ixor hx hb dL_law_279 ?_
      refine row_told (h0 := x0) (h1 := x1) (h2 := x2) (f := (fT xs L)) (z := (nI n2)) (k := ((xs i) ^^^ (-1))) hx hb hml hl.1 hown hts hK hP hD hS hA hB [0, 1, 2] (by decide) rfl rfl hR (by omega) (by omega) (Nat.le_of_ble_eq_true rfl) dL_law_280 (fun H locs hP hS => ?_)
      refine lv_if_lt (tgt := 301) hx hb dL_law_283 (by decide) (fun q => absurd q (nI_pos (by omega))) (fun _ => ?_)
      refine lv_aload_n hx hb dL_law_286 rfl (lv_at hl 1 rfl) ?_
      refine lv_aload_n hx hb dL_law_287 rfl (lv_at hl 0 rfl) ?_
      refine lv_iload hx hb dL_law_288 (lv_at hl 3 rfl) ?_
      refine va_sld hx hb hX hbl hbA hS hvi dL_law_290 ?_
      refine lv_topi (fun f_3 ef_3 => ?_)
      have ef_3 : f_3 = xs i := by rw [ef_3, nI_clamp (show i < 2 ^ 31 by omega)]
      subst ef_3
      refine lv_iconst (v := (-1)) hx hb dL_law_291 (by decide +kernel) ?_
      refine lv_ixor hx hb dL_law_292 ?_
      refine row_told (h0 := x0) (h1 := x1) (h2 := x2) (f := (fT xs L)) (z := (nI n2)) (k := ((xs i) ^^^ (-1))) hx hb hml hl.1 hown hts hK hP hD hS hA hB [0, 1, 2] (by decide) rfl rfl hR (by omega) (by omega) (Nat.le_of_ble_eq_true rfl) dL_law_293 (fun H locs hP hS => ?_)
      refine lv_bipush (v := 15) hx hb dL_law_296 (by decide +kernel) ?_
      refine lv_icmp_le (tgt := 303) hx hb dL_law_298 (by decide) (fun _ => ?_) (fun q => absurd (nI_le (b := 15) u15 (by decide)) q)
      obtain ⟨f_4, ef_4⟩ : ∃ y : Int32, y = (nI i) + 1 := ⟨_, rfl⟩
      refine lv_iinc (v := f_4) (lv' := [(5, .int f_4), (0, .ref b), (1, .ref x0), (4, .int (nI L)), (6, .int (nI (fb_ct (fun j => decide (xs j = xs i)) L))), (7, .int (nI (tN (fT xs L) (xs i))))]) hx hb dL_law_303 hl (k := 3) rfl (by rw [ef_4]; rfl) (by decide) rfl (fun ls hl => ?_)
      have ef_4 : f_4 = nI (i + 1) := ef_4.trans (nI_1 i)
      subst ef_4
      refine lv_goto (tgt := 195) hx hb dL_law_306 (by decide) ?_
      refine W.widen (k := c0 + 3 * (i + 1)) (n := s0 + 3 * (i + 1)) (by omega) (by omega) ?_
      exact ih (i + 1) H locs ls (by omega) hP hS (lv_sub hl [1, 2, 3, 0] rfl)
    refine lv_iload hx hb dL_law_252 (lv_at hl 5 rfl) ?_
    refine lv_iload hx hb dL_law_254 (lv_at hl 4 rfl) ?_
    refine lv_bipush (v := 15) hx hb dL_law_256 (by decide +kernel) ?_
    refine lv_icmp_ge (tgt := 266) hx hb dL_law_258 (by decide) (fun q => ?_) (fun q => ?_)
    · have h9 : 15 ≤ fb_ct (fun j => decide (xs j = xs i)) L := (nI_leI (a := 15) (b := fb_ct (fun j => decide (xs j = xs i)) L) (by decide) (by omega)).mp q
      refine lv_bipush (v := 15) hx hb dL_law_266 (by decide +kernel) ?_
      refine lv_icmp_ge (tgt := 273) hx hb dL_law_268 (by decide) (fun _ => tail) (fun q2 => absurd (nI_le (a := 15) (b := tN (fT xs L) (xs i)) (by omega) (by omega)) q2)
    · have h9 : fb_ct (fun j => decide (xs j = xs i)) L ≤ 15 := by
        rcases Nat.lt_or_ge 15 (fb_ct (fun j => decide (xs j = xs i)) L) with z | z
        · exact absurd (nI_le (a := 15) (b := fb_ct (fun j => decide (xs j = xs i)) L) (by omega) (by omega)) q
        · exact z
      refine lv_iload hx hb dL_law_261 (lv_at hl 4 rfl) ?_
      refine lv_goto (tgt := 268) hx hb dL_law_263 (by decide) ?_
      refine lv_icmp_ge (tgt := 273) hx hb dL_law_268 (by decide) (fun _ => tail) (fun q2 => absurd (nI_le (a := fb_ct (fun j => decide (xs j = xs i)) L) (b := tN (fT xs L) (xs i)) (by omega) (by omega)) q2)
end
section
/-! THE CLAIM OUT OF ONE WALK OF THE LAW'S BODY. Your part is whole_start (and what it stands on); all else here is the same for every law, but numbers. -/
def R_law : String := "SketchDeskLaw"
def lw_P (b : Addr) (xs : List Int32) (args : Array Value) (s : State) : Prop := args = #[.ref b] ∧ s.IntsAt b xs ∧ xs.length ≤ 64 ∧ (Jvm.Cond.and given_1 narrow_1).before args s = true
def lw_Q (_ : Array Value) (s : State) (o : Outcome) (t : State) : Prop := o = .returned (some (.int 1)) ∧ Framed s o t [] 1200128 5501098
def lw_Z (below : List Frame) (a : Array Value) (s : State) : State → Prop := fun t => ∃ o, t.status = .running ∧ Ended t below o ∧ lw_Q a s o t
/-- the law's own end, with 1 on the stack, nothing written that was there before, its room as the claim has it -/
theorem lw_ret {p : Program} {l : Launch} {e : Env} {s : State} {m : MethodId} {below : List Frame} {meth : Method} {c : Code} {b : Nat} (hx : p.tables.exec = Jvm.exec) (hb : c.code = code) (hr : meth.sig.returnType = ret) (hlocks : meth.locks = false) {pc : Nat} {H : Heap} {ls : Array Slot} (hdg : decode code pc = .ok (.ireturn, 1)) : W p l e room_1 s m #[Value.ref b] below meth c H [] 1200128 5501098 (lw_Z below #[Value.ref b] s) (F0 m pc ls [.int 1]) := by
  intro T hT X
  obtain ⟨fs, hret, hrun, hended, hW, hframe⟩ := X.leave (v := some (.int 1)) (hlocks := hlocks) (fun h => by rw [hr] at h; cases h)
  have hmeth' : T.vm.method? m = some meth := X.method'
  refine ⟨T.setFrames fs, ?_, .returned (some (.int 1)), hrun, hended, rfl, ⟨_, rfl⟩, hW, hframe⟩
  jvm_step X.here [X.here.top, hx, hb, hdg, hmeth', hr, ret, narrow_b1]
  (try refine ⟨rfl, ?_⟩); (try refine ⟨rfl, ?_⟩)
  first | (intro acts; rw [hret _ acts rfl rfl rfl]) | rw [hret _ _ rfl rfl rfl]
  exact Steps.refl _
/-- what holds at the law's entry: the machine, the code, the tables' words (any of lw_tbl by 'hts w (by decide +kernel)'), the script of L ints xs at the cell b, what the Statement gives of the start (any of its parts by flat_of_before) -/
def lw_At (p : Program) (s : State) (m : MethodId) (meth : Method) (c : Code) (b L : Nat) (xs : Nat → Int32) : Prop :=
  p.tables.exec = Jvm.exec ∧ c.code = code ∧ meth.sig.returnType = ret ∧ c.maxLocals = 9 ∧ s.vm.findClass R_law = some m.cls ∧ (∀ w ∈ lw_tbl, w.before #[Value.ref b] s = true) ∧ va_X b L xs s s.heap ∧ b < s.heap.size ∧ meth.locks = false ∧ (Jvm.Cond.and given_1 narrow_1).before #[Value.ref b] s = true
set_option maxHeartbeats 4000000 in
set_option maxRecDepth 100000 in
/-- the law: its end -/
theorem lw_end {p : Program} {l : Launch} {e : Env} {s : State} {m : MethodId} {below : List Frame} {meth : Method} {c : Code} {D : va_G} {tc : Nat} {ad : Nat → Nat} {b L : Nat} {xs : Nat → Int32} {x0 : Nat} (C0 : lwC p room_1 s m #[Value.ref b] c cL_law 9 (fun q : Nat => s.heap.size ≤ q) tc ad b L xs) (hr : meth.sig.returnType = ret) (hlocks : meth.locks = false) (hK : va_K D vwCl [] s) (H : Heap) (locs : List Loc) (ls : Array Slot) (hS : va_S (fun q : Nat => s.heap.size ≤ q) s.heap H locs) (hl : lv_has ls 9 [(0, .ref b), (1, .ref x0)]) : W p l e room_1 s m #[Value.ref b] below meth c H locs 552 1068 (lw_Z below #[Value.ref b] s) (F0 m 309 ls []) := by
  obtain ⟨hx, hb, hml, hown, hts, hA, hB, hX, hbl, hbA, hL, hR⟩ := C0
  refine lv_aload_n hx hb dL_law_309 rfl (lv_at hl 0 rfl) ?_
  have hFc : ∀ q : Nat, va_A [] H.size q → s.heap.size ≤ q := by
    intro q h
    rcases h with ⟨k9, e9, h⟩ | h
    · simp at h
    · exact Nat.le_trans hS.1 h
  refine va_calli (va_runS (As := [.ref b]) (rest := []) ⟨hx, hb, hml, hown, hts⟩ (mX0_apart l D tc ad b L xs hL H.size) (va_cwS 1 hts (lw_S q215 q216 q1 q217) rfl rfl rfl (by decide +kernel) ⟨Nat.le_of_ble_eq_true rfl, Nat.le_of_ble_eq_true rfl⟩) ⟨fun a U g mk q => by obtain ⟨q0, q1, qK, qX, qB⟩ := q; exact ⟨q0, q1, va_K.moved (u := U) (U := U.calling g mk a) (Vm.Alike.refl U.vm) qK, va_X.moved (u := U) (U := U.calling g mk a) (Vm.Alike.refl U.vm) qX, bxC.moved (u := U) (U := U.calling g mk a) (Vm.Alike.refl U.vm) qB⟩, fun U hU hW => ⟨rfl, by rw [hU], va_K.moved hW.alike hK, by rw [hU]; exact (hX.kept (hS.2.1 b hbl hbA)).moved hW.alike, by rw [hU]; exact ((hB.kept hS.2.1).narrow hFc).moved hW.alike⟩⟩ rfl rfl hl.1 rfl (lv_room (Nat.le_of_ble_eq_true rfl)) dL_law_310 ⟨Nat.le_of_ble_eq_true rfl, Nat.le_of_ble_eq_true rfl⟩) hS (fun q _ h => hFc q h) hFc (fun r_1 u t H locs ht hvm hw hB9 hz1 hk1 hS => ?_)
  have hw : r_1 = 1 := hw
  subst hw
  refine lv_if_eq (tgt := 327) hx hb dL_law_313 (by decide) (fun q => absurd q (by decide +kernel)) (fun _ => ?_)
  refine lv_aload_n hx hb dL_law_316 rfl (lv_at hl 0 rfl) ?_
  have hFc : ∀ q : Nat, va_A [] H.size q → s.heap.size ≤ q := by
    intro q h
    rcases h with ⟨k9, e9, h⟩ | h
    · simp at h
    · exact Nat.le_trans hS.1 h
  refine va_calli (va_runS (As := [.ref b]) (rest := []) ⟨hx, hb, hml, hown, hts⟩ (mX0_asked l D tc ad b L xs hL H.size) (va_cwS 1 hts (lw_S q221 q222 q1 q223) rfl rfl rfl (by decide +kernel) ⟨Nat.le_of_ble_eq_true rfl, Nat.le_of_ble_eq_true rfl⟩) ⟨fun a U g mk q => by obtain ⟨q0, q1, qK, qX, qB⟩ := q; exact ⟨q0, q1, va_K.moved (u := U) (U := U.calling g mk a) (Vm.Alike.refl U.vm) qK, va_X.moved (u := U) (U := U.calling g mk a) (Vm.Alike.refl U.vm) qX, bxC.moved (u := U) (U := U.calling g mk a) (Vm.Alike.refl U.vm) qB⟩, fun U hU hW => ⟨rfl, by rw [hU], va_K.moved hW.alike hK, by rw [hU]; exact (hX.kept (hS.2.1 b hbl hbA)).moved hW.alike, by rw [hU]; exact ((hB.kept hS.2.1).narrow hFc).moved hW.alike⟩⟩ rfl rfl hl.1 rfl (lv_room (Nat.le_of_ble_eq_true rfl)) dL_law_317 ⟨Nat.le_of_ble_eq_true rfl, Nat.le_of_ble_eq_true rfl⟩) hS (fun q _ h => hFc q h) hFc (fun r_2 u t H locs ht hvm hw hB9 hz1 hk1 hS => ?_)
  have hw : r_2 = 1 := hw
  subst hw
  refine lv_if_eq (tgt := 327) hx hb dL_law_320 (by decide) (fun q => absurd q (by decide +kernel)) (fun _ => ?_)
  refine lv_iconst (v := 1) hx hb dL_law_323 (by decide +kernel) ?_
  refine lv_goto (tgt := 328) hx hb dL_law_324 (by decide) ?_
  refine va_forget (fun q hq => hS.2.2 q hq) ?_
  refine W.widen (k := 1200128) (n := 5501098) (Nat.le_of_ble_eq_true rfl) (Nat.le_of_ble_eq_true rfl) ?_
  exact lw_ret hx hb hr hlocks dL_law_328
set_option maxHeartbeats 4000000 in
set_option maxRecDepth 100000 in
/-- the law: the loops over the script -/
theorem lw_108 {p : Program} {l : Launch} {e : Env} {s : State} {m : MethodId} {below : List Frame} {meth : Method} {c : Code} {D : va_G} {tc : Nat} {ad : Nat → Nat} {b L : Nat} {xs : Nat → Int32} {x0 x1 x2 : Nat} {cA : ClassId} (C0 : lwC p room_1 s m #[Value.ref b] c cL_law 9 (fun q : Nat => s.heap.size ≤ q) tc ad b L xs) (hr : meth.sig.returnType = ret) (hlocks : meth.locks = false) (hK : va_K D vwCl [(cA, .long)] s) (H : Heap) (locs : List Loc) (ls : Array Slot) (hP : va_P D vwCl (wDk x0 x1 x2 cA (fT xs 0) (nI 0)) H) (hD : va_D (fun q : Nat => s.heap.size ≤ q) (wDk x0 x1 x2 cA (fT xs 0) (nI 0))) (hS : va_S (fun q : Nat => s.heap.size ≤ q) s.heap H locs) (hl : lv_has ls 9 [(0, .ref b), (1, .ref x0)]) : W p l e room_1 s m #[Value.ref b] below meth c H locs 40 556 (lw_Z below #[Value.ref b] s) (F0 m 108 ls [.int (nI L)]) := by
  obtain ⟨hx, hb, hml, hown, hts, hA, hB, hX, hbl, hbA, hL, hR⟩ := C0
  refine lv_istore (lv' := [(4, .int (nI L)), (0, .ref b), (1, .ref x0)]) hx hb dL_law_108 hl (by decide) rfl (fun ls hl => ?_)
  refine lv_iconst (v := 0) hx hb dL_law_110 (by decide +kernel) ?_
  refine lv_istore (lv' := [(5, .int 0), (4, .int (nI L)), (0, .ref b), (1, .ref x0)]) hx hb dL_law_111 hl (by decide) rfl (fun ls hl => ?_)
  refine W.widen (k := 40 + 5 * 0) (n := 556 + 5 * 0) (by omega) (by omega) ?_
  refine lw_2 40 556 ⟨hx, hb, hml, hown, hts, hA, hB, hX, hbl, hbA, hL, hR⟩ hK (Nat.le_of_ble_eq_true rfl) (Nat.le_of_ble_eq_true rfl) ?_ L 0 0 _ _ _ (Nat.zero_add L) (Nat.le_refl 0) hP hD hS (lv_sub hl [2, 3, 1, 0] rfl)
  intro n2 H locs ls hP hD hS hl
  refine lv_iconst (v := 0) hx hb dL_law_192 (by decide +kernel) ?_
  refine lv_istore (lv' := [(5, .int 0), (0, .ref b), (1, .ref x0), (4, .int (nI L))]) hx hb dL_law_193 hl (by decide) rfl (fun ls hl => ?_)
  refine W.widen (k := 360 + 3 * 0) (n := 876 + 3 * 0) (by omega) (by omega) ?_
  refine lw_3 360 876 ⟨hx, hb, hml, hown, hts, hA, hB, hX, hbl, hbA, hL, hR⟩ hK hD (Nat.le_of_ble_eq_true rfl) (Nat.le_of_ble_eq_true rfl) ?_ L 0 _ _ _ (Nat.zero_add L) hP hS (lv_sub hl [1, 2, 3, 0] rfl)
  intro H locs ls hP hS hl
  refine W.widen (k := 552) (n := 1068) (by omega) (by omega) ?_
  exact lw_end ⟨hx, hb, hml, hown, hts, hA, hB, hX, hbl, hbA, hL, hR⟩ hr hlocks (hK.sub [] rfl) H locs ls hS hl
set_option maxHeartbeats 4000000 in
set_option maxRecDepth 100000 in
/-- the law: a new sketch and one int -/
theorem lw_28 {p : Program} {l : Launch} {e : Env} {s : State} {m : MethodId} {below : List Frame} {meth : Method} {c : Code} {D : va_G} {tc : Nat} {ad : Nat → Nat} {b L : Nat} {xs : Nat → Int32} {x0 x1 x2 y0 y1 y2 : Nat} {cA : ClassId} (C0 : lwC p room_1 s m #[Value.ref b] c cL_law 9 (fun q : Nat => s.heap.size ≤ q) tc ad b L xs) (hr : meth.sig.returnType = ret) (hlocks : meth.locks = false) (hK : va_K D vwCl [(cA, .long)] s) (first : Int32) (H : Heap) (locs : List Loc) (ls : Array Slot) (hP : va_P D vwCl (wDk x0 x1 x2 cA (fun _ => 0) (nI 0) ++ wDk y0 y1 y2 cA (fun _ => 0) (nI 0)) H) (hD : va_D (fun q : Nat => s.heap.size ≤ q) (wDk x0 x1 x2 cA (fun _ => 0) (nI 0) ++ wDk y0 y1 y2 cA (fun _ => 0) (nI 0))) (hS : va_S (fun q : Nat => s.heap.size ≤ q) s.heap H locs) (hl : lv_has ls 9 [(0, .ref b), (1, .ref x0), (2, .ref y0)]) : W p l e room_1 s m #[Value.ref b] below meth c H locs 6 522 (lw_Z below #[Value.ref b] s) (F0 m 28 ls [.int first]) := by
  obtain ⟨hx, hb, hml, hown, hts, hA, hB, hX, hbl, hbA, hL, hR⟩ := C0
  refine lv_istore_n (lv' := [(3, .int first), (0, .ref b), (1, .ref x0), (2, .ref y0)]) hx hb dL_law_28 rfl hl (by decide) rfl (fun ls hl => ?_)
  refine lv_aload_n hx hb dL_law_29 rfl (lv_at hl 3 rfl) ?_
  refine lv_iload_n hx hb dL_law_30 rfl (lv_at hl 0 rfl) ?_
  refine row_told (h0 := y0) (h1 := y1) (h2 := y2) (f := (fun _ => 0)) (z := (nI 0)) (k := first) hx hb hml hl.1 hown hts hK hP hD hS hA hB [3, 4, 5] (by decide) rfl rfl hR (Nat.le_of_ble_eq_true rfl) (Nat.le_of_ble_eq_true rfl) (Nat.le_of_ble_eq_true rfl) dL_law_31 (fun H locs hP hS => ?_)
  refine lv_if_ne (tgt := 47) hx hb dL_law_34 (by decide) (fun q => absurd (by rw [tN_zero]; rfl) q) (fun _ => ?_)
  refine lv_aload_n hx hb dL_law_37 rfl (lv_at hl 3 rfl) ?_
  refine lv_iload_n hx hb dL_law_38 rfl (lv_at hl 0 rfl) ?_
  refine lv_iconst (v := (-1)) hx hb dL_law_39 (by decide +kernel) ?_
  refine lv_ixor hx hb dL_law_40 ?_
  refine row_told (h0 := y0) (h1 := y1) (h2 := y2) (f := (fun _ => 0)) (z := (nI 0)) (k := (first ^^^ (-1))) hx hb hml hl.1 hown hts hK hP hD hS hA hB [3, 4, 5] (by decide) rfl rfl hR (Nat.le_of_ble_eq_true rfl) (Nat.le_of_ble_eq_true rfl) (Nat.le_of_ble_eq_true rfl) dL_law_41 (fun H locs hP hS => ?_)
  refine lv_if_eq (tgt := 49) hx hb dL_law_44 (by decide) (fun _ => ?_) (fun q => absurd (by rw [tN_zero]; rfl) q)
  refine lv_iconst (v := 1) hx hb dL_law_49 (by decide +kernel) ?_
  refine lv_istore (lv' := [(4, .int 1), (3, .int first), (0, .ref b), (1, .ref x0), (2, .ref y0)]) hx hb dL_law_50 hl (by decide) rfl (fun ls hl => ?_)
  have hP : va_P D vwCl (wDk x0 x1 x2 cA (fun _ => 0) (nI 0) ++ wDk y0 y1 y2 cA (fT (fun _ => first) 0) (nI 0)) H := hP
  have hD : va_D (fun q : Nat => s.heap.size ≤ q) (wDk x0 x1 x2 cA (fun _ => 0) (nI 0) ++ wDk y0 y1 y2 cA (fT (fun _ => first) 0) (nI 0)) := hD
  refine W.widen (k := 8 + 2 * 0) (n := 524 + 2 * 0) (by omega) (by omega) ?_
  refine lw_1 (first := first) 8 524 ⟨hx, hb, hml, hown, hts, hA, hB, hX, hbl, hbA, hL, hR⟩ hK (Nat.le_of_ble_eq_true rfl) (Nat.le_of_ble_eq_true rfl) ?_ 16 0 0 _ _ _ rfl (Nat.le_refl 0) hP hD hS (lv_sub hl [2, 3, 4, 1, 0] rfl)
  intro n2 H locs ls hP hD hS hl
  have hP := hP.sub (ws' := (wDk x0 x1 x2 cA (fT xs 0) (nI 0))) [0, 1, 2] rfl
  have hD := hD.sub (ws' := (wDk x0 x1 x2 cA (fT xs 0) (nI 0))) [0, 1, 2] (by decide) rfl
  refine W.widen (k := 40) (n := 556) (by omega) (by omega) ?_
  refine lv_aload_n hx hb dL_law_94 rfl (lv_at hl 0 rfl) ?_
  refine va_slen hx hb hX hbl hbA hS dL_law_95 ?_
  refine lv_bipush (v := 64) hx hb dL_law_96 (by decide +kernel) ?_
  refine lv_icmp_ge (tgt := 106) hx hb dL_law_98 (by decide) (fun q => ?_) (fun q => ?_)
  · have h64 : L = 64 := by
      have h9 := (nI_leI (a := 64) (b := L) (by decide) (by omega)).mp q
      omega
    refine lv_bipush (v := 64) hx hb dL_law_106 (by decide +kernel) ?_
    refine lv_topi (fun f_1 ef_1 => ?_)
    have ef_1 : f_1 = nI L := ef_1.trans (by rw [h64]; rfl)
    subst ef_1
    exact lw_108 ⟨hx, hb, hml, hown, hts, hA, hB, hX, hbl, hbA, hL, hR⟩ hr hlocks hK H locs ls hP hD hS (lv_sub hl [0, 1] rfl)
  · refine lv_aload_n hx hb dL_law_101 rfl (lv_at hl 0 rfl) ?_
    refine va_slen hx hb hX hbl hbA hS dL_law_102 ?_
    refine lv_goto (tgt := 108) hx hb dL_law_103 (by decide) ?_
    exact lw_108 ⟨hx, hb, hml, hown, hts, hA, hB, hX, hbl, hbA, hL, hR⟩ hr hlocks hK H locs ls hP hD hS (lv_sub hl [0, 1] rfl)
set_option maxHeartbeats 4000000 in
set_option maxRecDepth 100000 in
theorem whole_start {p : Program} {e : Env} {s : State} {m : MethodId} {below : List Frame} {meth : Method} {c : Code} (l : Launch) (hflags : l.flags = flags0) {b L : Nat} {xs : Nat → Int32} (hL : L ≤ 64) (C0 : lw_At p s m meth c b L xs) : W p l e room_1 s m #[Value.ref b] below meth c s.heap [] 0 0 (lw_Z below #[Value.ref b] s) (entryFrame m ([Value.ref b] : List Value).toArray 9) := by
  obtain ⟨hx, hb, hr, hml, hown, hts0, hX, hbl, hlocks, hgv⟩ := C0
  have hts : ∀ w ∈ lw_all, w.before #[Value.ref b] s = true := fun w h => hts0 w (lw_all_tbl h)
  have hA : ∀ q : Nat, s.heap.size ≤ q → (fun q : Nat => s.heap.size ≤ q) q := fun _ h => h
  have hbA : ¬ (fun q : Nat => s.heap.size ≤ q) b := Nat.not_le.mpr hbl
  have hnA : ∀ a : Nat, a < s.heap.size → ¬ (fun q : Nat => s.heap.size ≤ q) a := fun a h => Nat.not_le.mpr h
  obtain ⟨c0, iS0, hKn0⟩ := u_known (C := RX1) (T := TX1) (N := 1) (n := 1) hts0 (fun w h => lw_all_tbl (in_X1 w h)) (hts _ q15)
  obtain ⟨c1, iS1, hKn1⟩ := u_known (C := RX2) (T := TX2) (N := 4) (n := 4) hts0 (fun w h => lw_all_tbl (in_X2 w h)) (hts _ q23)
  obtain ⟨c2, iS2, hKn2⟩ := u_known (C := RJ6) (T := TJ6) (N := 1) (n := 1) hts0 (fun w h => lw_all_tbl (in_J6 w h)) (hts _ q147)
  obtain ⟨dC, dI, hKc⟩ : ∃ (dC : Nat → ClassId) (dI : Nat → Nat → Nat), ∀ (k : Nat) (q : vw_C), vwCl[k]? = some q → u_Kn s q.1 q.2.1 q.2.2 (dC k) (dI k) := by
    refine ⟨fun k => if k = 0 then c0 else if k = 1 then c1 else c2, fun k => if k = 0 then iS0 else if k = 1 then iS1 else iS2, ?_⟩
    intro k q hq
    match k, hq with
    | 0, hq => cases hq; exact hKn0
    | 1, hq => cases hq; exact hKn1
    | 2, hq => cases hq; exact hKn2
    | k + 3, hq => simp [vwCl] at hq
  obtain ⟨D, hDe⟩ : ∃ D : va_G, D = (dC, dI) := ⟨_, rfl⟩
  have hs := flat_of_before _ hgv
  have e1 : (Cond.eq (.static "java/lang/Integer$IntegerCache" "high" "I") (.int 127)).before #[Value.ref b] s = true := hs _ (by decide +kernel)
  have e2 : (Cond.arrayOf (.static "java/lang/Integer$IntegerCache" "cache" "[Ljava/lang/Integer;") (.object "java/lang/Integer")).before #[Value.ref b] s = true := hs _ (by decide +kernel)
  have e3 : (Cond.eq (.length (.static "java/lang/Integer$IntegerCache" "cache" "[Ljava/lang/Integer;")) (.int 256)).before #[Value.ref b] s = true := hs _ (by decide +kernel)
  have e4 : (Cond.all (.static "java/lang/Integer$IntegerCache" "cache" "[Ljava/lang/Integer;") (.and (.exactly (.elem (.static "java/lang/Integer$IntegerCache" "cache" "[Ljava/lang/Integer;") (.index 0)) "java/lang/Integer") (.eq (.field (.elem (.static "java/lang/Integer$IntegerCache" "cache" "[Ljava/lang/Integer;") (.index 0)) "java/lang/Integer" "value" "I") (.sub (.index 0) (.int 128))))).before #[Value.ref b] s = true := hs _ (by decide +kernel)
  have hlen : (Term.length (.static "java/lang/Integer$IntegerCache" "cache" "[Ljava/lang/Integer;")).eval #[Value.ref b] s none [] s = some (.int (Int32.ofNat 256)) := va_eqt e3
  obtain ⟨ad, hC, hel⟩ := vb_Cof (A := (fun q : Nat => s.heap.size ≤ q)) (st := (.static "java/lang/Integer$IntegerCache" "cache" "[Ljava/lang/Integer;")) rfl hlen e4 hnA
  obtain ⟨tc, htc, hT⟩ := va_Tof (ty := .object "java/lang/Integer") (N := 256) (f := fun j => .ref (ad j)) (A := (fun q : Nat => s.heap.size ≤ q)) (by decide) e2 hlen hel hnA
  have hB : bxC tc ad (fun q : Nat => s.heap.size ≤ q) s s.heap := ⟨va_Zof (hts0 _ q143) (hts _ q12) (va_eqi e1) hnA, va_Zof (hts0 _ q145) (hts _ q12) htc hnA, hT, hC⟩
  have hR : 5 ≤ room_1.frames ∧ 98 ≤ room_1.locals := ⟨Nat.le_of_ble_eq_true rfl, Nat.le_of_ble_eq_true rfl⟩
  have hS : va_S (fun q : Nat => s.heap.size ≤ q) s.heap s.heap [] := va_S.rf
  have hK : va_K D vwCl [] s := by
    rw [hDe]
    exact ⟨hKc, fun k q h => by simp at h⟩
  have hP : va_P D vwCl [] s.heap := fun k q h => by simp at h
  have hD : va_D (fun q : Nat => s.heap.size ≤ q) [] := ⟨fun i j p q h => by simp at h, fun k q h => by simp at h⟩
  have hl := lv_entry ([.ref b]) (n := 9) (Nat.le_of_ble_eq_true rfl)
  rw [lg_entry_eq]
  generalize (lg_sl ([.ref b]) ++ List.replicate (9 - (lg_sl ([.ref b])).length) Slot.unset).toArray = ls at hl ⊢
  have hl : lv_has ls 9 [(0, .ref b)] := hl
  refine row_new (ws := []) hx hb hml hl.1 hown hts hK hP hD hS hA 0 [] (fun _ => rfl) (fun _ => rfl) (fun _ => rfl) (by decide) (by decide) hR (Nat.le_of_ble_eq_true rfl) (Nat.le_of_ble_eq_true rfl) (Nat.le_of_ble_eq_true rfl) dL_law_0 dL_law_3 dL_law_4 (fun x0 x1 x2 cA H locs hK hP hD hS => ?_)
  have hP : va_P D vwCl (wDk x0 x1 x2 cA (fun _ => 0) (nI 0)) H := hP
  have hD : va_D (fun q : Nat => s.heap.size ≤ q) (wDk x0 x1 x2 cA (fun _ => 0) (nI 0)) := hD
  refine lv_astore_n (lv' := [(1, .ref x0), (0, .ref b)]) hx hb dL_law_7 rfl hl (by decide) rfl (fun ls hl => ?_)
  refine row_new (ws := (wDk x0 x1 x2 cA (fun _ => 0) (nI 0))) hx hb hml hl.1 hown hts hK hP hD hS hA 3 [0, 1, 2] (fun _ => rfl) (fun _ => rfl) (fun _ => rfl) (by decide) (by decide) hR (Nat.le_of_ble_eq_true rfl) (Nat.le_of_ble_eq_true rfl) (Nat.le_of_ble_eq_true rfl) dL_law_8 dL_law_11 dL_law_12 (fun y0 y1 y2 cB H locs hK2 hP hD hS => ?_)
  have ec := va_K1 hK hK2
  subst ec
  have hP : va_P D vwCl (wDk x0 x1 x2 cA (fun _ => 0) (nI 0) ++ wDk y0 y1 y2 cA (fun _ => 0) (nI 0)) H := hP
  have hD : va_D (fun q : Nat => s.heap.size ≤ q) (wDk x0 x1 x2 cA (fun _ => 0) (nI 0) ++ wDk y0 y1 y2 cA (fun _ => 0) (nI 0)) := hD
  refine lv_astore_n (lv' := [(2, .ref y0), (1, .ref x0), (0, .ref b)]) hx hb dL_law_15 rfl hl (by decide) rfl (fun ls hl => ?_)
  refine W.widen (k := 6) (n := 522) (by omega) (by omega) ?_
  refine lv_aload_n hx hb dL_law_16 rfl (lv_at hl 2 rfl) ?_
  refine va_slen hx hb hX hbl hbA hS dL_law_17 ?_
  refine lv_if_le (tgt := 27) hx hb dL_law_18 (by decide) (fun q => ?_) (fun q => ?_)
  · refine lv_iconst (v := 0) hx hb dL_law_27 (by decide +kernel) ?_
    exact lw_28 ⟨hx, hb, hml, hown, hts, hA, hB, hX, hbl, hbA, hL, hR⟩ hr hlocks hK 0 H locs ls hP hD hS (lv_sub hl [2, 1, 0] rfl)
  · have h0 : 0 < L := by
      rcases Nat.eq_zero_or_pos L with z | z
      · exact absurd (by rw [z]; exact nI_le (a := 0) (b := 0) (by decide) (by decide)) q
      · exact z
    refine lv_aload_n hx hb dL_law_21 rfl (lv_at hl 2 rfl) ?_
    refine lv_iconst (v := 0) hx hb dL_law_22 (by decide +kernel) ?_
    refine va_sld hx hb hX hbl hbA hS (show vp_in 0 L from vp_in_nI (n := 0) h0 (by omega)) dL_law_23 ?_
    refine lv_topi (fun o eo => ?_)
    refine lv_goto (tgt := 28) hx hb dL_law_24 (by decide) ?_
    exact lw_28 ⟨hx, hb, hml, hown, hts, hA, hB, hX, hbl, hbA, hL, hR⟩ hr hlocks hK o H locs ls hP hD hS (lv_sub hl [2, 1, 0] rfl)
end
section
/-! the claim out of the walk -/
set_option maxHeartbeats 4000000 in
theorem lw_walk (l : Launch) (hflags : l.flags = flags0) (b : Addr) (xs : List Int32) : MetFree l x (headSpec (Jvm.Cond.code x code maxLocals ret :: tables_1) room_1) (lw_P b xs) (fun _ _ _ _ _ => True) lw_Q := by
  refine MetFree.of_bodyS (code := code) (maxLocals := maxLocals) (ret := ret) (by decide) ?_ ?_
  · intro args s m h hn
    obtain ⟨meth, c, h1, h2, h3, h4, h5, h6, -, -⟩ := Cond.code_spec hn (atoms_spec (ws := Jvm.Cond.code x code maxLocals ret :: tables_1) h _ List.mem_cons_self)
    exact ⟨meth, c, h1, h2, h3, h4, h5, h6⟩
  · intro p e s m args below meth c s₁ B hml0 hP _
    obtain ⟨rfl, hx, hbd, hgv⟩ := hP
    obtain ⟨scr, harrAt, hlist, hof, hsmall⟩ := hx
    obtain ⟨hcb, hkn, -, -⟩ := State.arrayAt?_spec harrAt
    have hown : s.vm.findClass R_law = some m.cls := findClass_of_methodNamed B.named
    have hts0 : ∀ c ∈ (Jvm.Cond.code x code maxLocals ret :: tables_1), c.before #[Value.ref b] s = true := atoms_spec (ws := Jvm.Cond.code x code maxLocals ret :: tables_1) B.pre
    have hts : ∀ w ∈ lw_tbl, w.before #[Value.ref b] s = true := k2_hts_sels lw_privs (fun w hw => hts0 w (List.mem_cons_of_mem _ hw)) lw_privs_ok
    have hml : c.maxLocals = 9 := B.maxLocals_eq (hts0 _ List.mem_cons_self)
    have X₀ : Stand p l e room_1 s m #[Value.ref b] below meth c s₁ [] 0 0 := Stand.of_body B
    have hh0 : s₁.heap = s.heap := by rw [B.state]; rfl
    have hsz : scr.slots.size = xs.length := by rw [← Array.length_toList, hlist, List.length_map]
    have hval : ∀ j : Nat, j < xs.length → scr.slots[j]? = some (.int (xs.getD j 0)) := fun j hj => by
      rw [← Array.getElem?_toList, hlist]
      simp [hj]
    have hbl : b < s.heap.size := (Array.getElem?_eq_some_iff.mp hcb).1
    have hX : va_X b xs.length (fun j => xs.getD j 0) s s.heap := ⟨scr, hcb, hof, hkn, hsz, hval⟩
    have K : W p l e room_1 s m #[Value.ref b] below meth c s₁.heap [] 0 0 (lw_Z below #[Value.ref b] s) (entryFrame m ([Value.ref b] : List Value).toArray 9) := by
      rw [hh0]
      exact whole_start l hflags hbd ⟨B.exec, B.bytes, B.returns, hml, hown, hts, hX, hbl, B.notSynchronized, hgv⟩
    obtain ⟨t, a1, o, b1, b2, b3⟩ := K s₁ rfl X₀
    exact ⟨t, o, a1, b1, b2, b3⟩
theorem lw_pre_spec {args : Array Value} {s : State} (h : (Jvm.Cond.and given_1 narrow_1).before args s = true) (hr : rest_1_c.before args s = true) : ∃ (b : Addr) (xs : List Int32), lw_P b xs args s := by
  have hs := flat_of_before _ h
  have hq := flat_of_before _ hr
  have hc : (Cond.count 1).before args s = true := hs _ (by decide +kernel)
  have harr : (Cond.arrayOf (.arg 0) .int).before args s = true := hs _ (by decide +kernel)
  have hle : (Cond.le (.length (.arg 0)) (.int 64)).before args s = true := hs _ (by decide +kernel)
  have hlen : (Cond.isInt (.length (.arg 0))).before args s = true := hq _ (by decide +kernel)
  have hall : (Cond.all (.arg 0) (.isInt (.elem (.arg 0) (.index 0)))).before args s = true := hq _ (by decide +kernel)
  obtain ⟨b, xs, hb, hx⟩ := State.ints_of_pre rfl harr hlen hall
  have hsm : xs.length < 2 ^ 31 := hx.choose_spec.2.2.2
  have hev : (Term.length (.arg 0)).eval args s none [] s = some (.int xs.length.toInt32) := hx.length_eval hb
  have hv := Cond.le_ints hev (show (Term.int 64).eval args s none [] s = some (.int 64) from rfl)
  have hd : xs.length.toInt32 ≤ 64 := by
    simpa [Cond.before, Cond.holds, hv] using hle
  have hN : xs.length ≤ 64 := (Int32.ofNat_le_ofNat hsm (by decide)).mp (show Int32.ofNat xs.length ≤ Int32.ofNat 64 from hd)
  exact ⟨b, xs, Cond.one_arg hc (show args[0]? = some (.ref b) from hb), hx, hN, h⟩
theorem lw_comes (l : Launch) (hflags : l.flags = flags0) : Comes l x (Jvm.Cond.code x code maxLocals ret :: tables_1) room_1 (fun tb e args s => Calls_1 tb e args s ∧ rest_1 tb e args s ∧ Pre_1 tb e args s)
    (fun _ _ args s o t => lw_Q args s o t) := by
  intro p e ha hc hk s m args below hf hfit hheap happ hpre
  obtain ⟨b, xs, hP⟩ := lw_pre_spec hpre.2.2 hpre.2.1
  obtain ⟨k, o, h1, h2, h3, hQ⟩ := lw_walk l hflags b xs p e ha hc hk s m args below hf ((Spec.applies_iff_loose hf).mp happ).1 hP trivial
  exact ⟨k, o, h1, h2, h3, hQ⟩
theorem lw_frame {s t : State} {o : Outcome} {args : Array Value} (h : Framed s o t [] 1200128 5501098) :
    Framed s o t (fieldLocs frame_1_writes args s ++ arrayLocs frame_1_arrays args s ++ staticLocs frame_1_statics s) 1200128 5501098 := h
theorem lw_limb (L : Cond) (hL : ∀ (args : Array Value) (s t : State), L.after args s (.returned (some (.int 1))) t = true) :
    ArmFor flags0 classFile x code maxLocals ret World_1 tables_1 room_1 Calls_1 rest_1 Pre_1
      (fun tb e a s o t => postC L tb e a s o t ∧ Framed s o t (fieldLocs frame_1_writes a s ++ arrayLocs frame_1_arrays a s ++ staticLocs frame_1_statics s) 1200128 5501098) := by
  intro l hflags _ _ p e ha hc hk s m args below hf hfit hheap happ hpre
  obtain ⟨k, o, h1, h2, h3, rfl, hF⟩ := lw_comes l hflags p e ha hc hk s m args below hf hfit hheap happ hpre
  exact ⟨k, _, h1, h2, h3, hL args s _, lw_frame hF⟩
theorem i_vc : Claimed_1_1 ∧ Claimed_1_2 := ⟨lw_limb limb_1_1 (fun args s t => by simp [limb_1_1, Cond.after, Cond.holds, Cond.value]), lw_limb limb_1_2 (fun args s t => Cond.after_iff.mpr (by
  first | (rw [show limb_1_2 = Cond.eq .result (.int 1) from rfl, Cond.eq_ints (x := 1) (y := 1) rfl rfl]; simp; done) | (simp [limb_1_2, Cond.value, Term.eval]; done)))⟩
end
