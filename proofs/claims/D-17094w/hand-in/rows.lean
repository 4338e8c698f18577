section
-- ===== PART A: goes FIRST, ahead of the names: the tables' words, and 'selects' of the private methods out of them =====
/-- a private method of a class that the tables say can be made, by its rows of tables_1 -/
def lw_okq (q : MethodName × Nat) : Prop := (q.1.cls ≠ "java/lang/invoke/MethodHandle" ∧ q.1.cls ≠ "java/lang/invoke/VarHandle") ∧ Cond.instantiable q.1.cls q.2 ∈ tables_1 ∧ Cond.privateMethod q.1 ∈ tables_1 ∧ Cond.instanceMethod q.1 ∈ tables_1
set_option maxRecDepth 100000
theorem lw_p0 : lw_okq (⟨"GF13", "gf_sqmul", "(SS)S"⟩, 0) := ⟨⟨by decide +kernel, by decide +kernel⟩, List.mem_of_getElem? (i := 28) rfl, List.mem_of_getElem? (i := 106) rfl, List.mem_of_getElem? (i := 107) rfl⟩
theorem lw_p1 : lw_okq (⟨"GF13", "gf_sq2mul", "(SS)S"⟩, 0) := ⟨⟨by decide +kernel, by decide +kernel⟩, List.mem_of_getElem? (i := 28) rfl, List.mem_of_getElem? (i := 119) rfl, List.mem_of_getElem? (i := 120) rfl⟩
theorem lw_p2 : lw_okq (⟨"GF13", "gf_sq2", "(S)S"⟩, 0) := ⟨⟨by decide +kernel, by decide +kernel⟩, List.mem_of_getElem? (i := 28) rfl, List.mem_of_getElem? (i := 131) rfl, List.mem_of_getElem? (i := 132) rfl⟩
def lw_privs_1 : List (MethodName × Nat) := [(⟨"GF13", "gf_sqmul", "(SS)S"⟩, 0), (⟨"GF13", "gf_sq2mul", "(SS)S"⟩, 0), (⟨"GF13", "gf_sq2", "(S)S"⟩, 0)]
theorem lw_r1 : ∀ q ∈ lw_privs_1, lw_okq q := List.forall_mem_cons.mpr ⟨lw_p0, List.forall_mem_cons.mpr ⟨lw_p1, List.forall_mem_cons.mpr ⟨lw_p2, fun _ h => absurd h List.not_mem_nil⟩⟩⟩
def lw_privs : List (MethodName × Nat) := lw_privs_1
def lw_tbl : List Cond := k2_sels lw_privs ++ tables_1
theorem lw_privs_ok : ∀ q ∈ lw_privs, lw_okq q := lw_r1
-- ===== ONE list of words for every method: the tables' words that hold all through a run =====
def lw_all : List Cond := lw_tbl.filter goodWord
/-- a word of the tables by its place: claim/WORDS.tsv -/
theorem lw_w {w : Cond} (i : Nat) (h : lw_tbl[i]? = some w) (g : goodWord w = true) : w ∈ lw_all := List.mem_filter.mpr ⟨List.mem_of_getElem? h, g⟩
theorem lw_all_tbl {w : Cond} (h : w ∈ lw_all) : w ∈ lw_tbl := (List.mem_filter.mp h).1
theorem lw_self : GoodIn lw_all lw_all := fun w h => ⟨h, good_of_word (List.mem_filter.mp h).2⟩
/-- a class's field words, by their places -/
theorem lw_in (ws : List Cond) (ps : List Nat) (hp : ws = ps.filterMap (fun i => lw_tbl[i]?)) (hg : ws.all goodWord = true) : ∀ w ∈ ws, w ∈ lw_all := by
  intro w h
  have h1 := List.all_eq_true.mp hg w h
  rw [hp] at h
  obtain ⟨i, -, hi⟩ := List.mem_filterMap.mp h
  exact lw_w i hi h1
/-- the words of a contract for the method y with code b, L locals, answer r -/
abbrev ws_ (y : MethodName) (b : ByteArray) (L : Nat) (r : Option FieldType) : List Cond := Cond.code y b L r :: lw_all
theorem lw_meth {y : MethodName} {b : ByteArray} {L : Nat} {r : Option FieldType} (h : Cond.code y b L r ∈ lw_all) : GoodIn lw_all (ws_ y b L r) := by
  intro w hw
  rcases List.mem_cons.mp hw with e | e
  · rw [e]
    exact lw_self _ h
  · exact lw_self _ e
theorem lw_app {a c : List Cond} (ha : ∀ w ∈ a, w ∈ lw_all) (hc : GoodIn lw_all c) : GoodIn lw_all (a ++ c) := by
  intro w hw
  rcases List.mem_append.mp hw with e | e
  · exact lw_self w (ha w e)
  · exact hc w e
/-- what a call through an object asks: cwV n hts (lw_V ..) -/
theorem lw_V {own : String} {idx : Nat} {C : String} {y : MethodName} {b : ByteArray} {L : Nat} {r : Option FieldType} (h1 : Cond.methodLink own idx y ∈ lw_all) (h2 : Cond.instanceMethod y ∈ lw_all) (h3 : Cond.selects C y y ∈ lw_all) (h4 : Cond.initialized C ∈ lw_all) (h5 : Cond.code y b L r ∈ lw_all) : GoodIn lw_all (wsV own idx C y (ws_ y b L r)) := by
  refine lw_app ?_ (lw_meth h5)
  intro w hw
  simp only [List.mem_cons, List.not_mem_nil, or_false] at hw
  rcases hw with e | e | e | e
  · rw [e]; exact h1
  · rw [e]; exact h2
  · rw [e]; exact h3
  · rw [e]; exact h4
/-- what a static call asks: va_cwS n hts (lw_S ..) -/
theorem lw_S {own : String} {idx : Nat} {y : MethodName} {b : ByteArray} {L : Nat} {r : Option FieldType} (h1 : Cond.methodLink own idx y ∈ lw_all) (h2 : Cond.static y ∈ lw_all) (h3 : Cond.initialized y.cls ∈ lw_all) (h4 : Cond.code y b L r ∈ lw_all) : GoodIn lw_all (va_wsS own idx y (ws_ y b L r)) := by
  refine lw_app ?_ (lw_meth h4)
  intro w hw
  simp only [List.mem_cons, List.not_mem_nil, or_false] at hw
  rcases hw with e | e | e
  · rw [e]; exact h1
  · rw [e]; exact h2
  · rw [e]; exact h3
/-- the words of a contract for a method WITH HANDLERS (hh: its table) -/
abbrev wsW_ (y : MethodName) (b : ByteArray) (L : Nat) (r : Option FieldType) (hh : List (Nat × Nat × Nat × Nat)) : List Cond := Cond.codeWith y b L r hh :: lw_all
theorem lw_methW {y : MethodName} {b : ByteArray} {L : Nat} {r : Option FieldType} {hh : List (Nat × Nat × Nat × Nat)} (h : Cond.codeWith y b L r hh ∈ lw_all) : GoodIn lw_all (wsW_ y b L r hh) := by
  intro w hw
  rcases List.mem_cons.mp hw with e | e
  · rw [e]
    exact lw_self _ h
  · exact lw_self _ e
/-- any list of words by their places (lw_in), good -/
theorem lw_good {ws : List Cond} (h : ∀ w ∈ ws, w ∈ lw_all) : GoodIn lw_all ws := fun w hw => lw_self w (h w hw)
/-- what a call of a method with handlers asks: vx_cwVW n hts (lw_VW ..), vx_cwSW n hts (lw_SW ..) -/
theorem lw_VW {own : String} {idx : Nat} {C : String} {y : MethodName} {b : ByteArray} {L : Nat} {r : Option FieldType} {hh : List (Nat × Nat × Nat × Nat)} (h1 : Cond.methodLink own idx y ∈ lw_all) (h2 : Cond.instanceMethod y ∈ lw_all) (h3 : Cond.selects C y y ∈ lw_all) (h4 : Cond.initialized C ∈ lw_all) (h5 : Cond.codeWith y b L r hh ∈ lw_all) : GoodIn lw_all (wsV own idx C y (wsW_ y b L r hh)) := by
  refine lw_app ?_ (lw_methW h5)
  intro w hw
  simp only [List.mem_cons, List.not_mem_nil, or_false] at hw
  rcases hw with e | e | e | e
  · rw [e]; exact h1
  · rw [e]; exact h2
  · rw [e]; exact h3
  · rw [e]; exact h4
theorem lw_SW {own : String} {idx : Nat} {y : MethodName} {b : ByteArray} {L : Nat} {r : Option FieldType} {hh : List (Nat × Nat × Nat × Nat)} (h1 : Cond.methodLink own idx y ∈ lw_all) (h2 : Cond.static y ∈ lw_all) (h3 : Cond.initialized y.cls ∈ lw_all) (h4 : Cond.codeWith y b L r hh ∈ lw_all) : GoodIn lw_all (va_wsS own idx y (wsW_ y b L r hh)) := by
  refine lw_app ?_ (lw_methW h4)
  intro w hw
  simp only [List.mem_cons, List.not_mem_nil, or_false] at hw
  rcases hw with e | e | e
  · rw [e]; exact h1
  · rw [e]; exact h2
  · rw [e]; exact h3
/-- a word by its place in its run of the tables -/
theorem lw_at {r : List Cond} (hr : ∀ w ∈ r, w ∈ lw_tbl) {w : Cond} (i : Nat) (h : r[i]? = some w) : w ∈ lw_tbl := hr w (List.mem_of_getElem? h)
theorem lw_g {w : Cond} (h : w ∈ lw_tbl) (g : goodWord w = true) : w ∈ lw_all := List.mem_filter.mpr ⟨h, g⟩
theorem lw_ms : ∀ w ∈ k2_sels lw_privs, w ∈ lw_tbl := fun w h => show w ∈ k2_sels lw_privs ++ tables_1 from List.mem_append_left _ h
theorem lw_m0 : ∀ w ∈ tables_1, w ∈ lw_tbl := fun w h => show w ∈ k2_sels lw_privs ++ tables_1 from List.mem_append_right (k2_sels lw_privs) h
theorem qs0 : (Cond.selects "GF13" ⟨"GF13", "gf_sqmul", "(SS)S"⟩ ⟨"GF13", "gf_sqmul", "(SS)S"⟩) ∈ lw_all := lw_g (lw_at lw_ms 0 rfl) rfl
theorem qs1 : (Cond.selects "GF13" ⟨"GF13", "gf_sq2mul", "(SS)S"⟩ ⟨"GF13", "gf_sq2mul", "(SS)S"⟩) ∈ lw_all := lw_g (lw_at lw_ms 1 rfl) rfl
theorem qs2 : (Cond.selects "GF13" ⟨"GF13", "gf_sq2", "(S)S"⟩ ⟨"GF13", "gf_sq2", "(S)S"⟩) ∈ lw_all := lw_g (lw_at lw_ms 2 rfl) rfl
end
section
/-! DECODE ROWS BY BYTES: one lemma an opcode; a method's code is cut into short pieces once, and a row reads its own piece alone. -/
set_option maxRecDepth 100000
/-- the code has just these bytes from pc on -/
def DkAt (code : ByteArray) (pc : Nat) (bs : List UInt8) : Prop := ∀ (j : Nat) (b : UInt8), bs[j]? = some b → code.data.toList[pc + j]? = some b
/-- the piece W has the bytes bs from its place j on -/
def dkIn (W : List UInt8) (j : Nat) (bs : List UInt8) : Bool := decide ((W.drop j).take bs.length = bs)
theorem dk_seg {l W T : List UInt8} {o o2 : Nat} (h : l.drop o = W ++ T) (n : Nat) (hn : W.length = n) (ho : o + n = o2) : l.drop o2 = T := by
  subst ho
  rw [← List.drop_drop, h, List.drop_left' hn]
theorem dk_at {code : ByteArray} {W T bs : List UInt8} {o pc : Nat} (h : code.data.toList.drop o = W ++ T) (j : Nat) (hp : o + j = pc) (hw : dkIn W j bs = true) : DkAt code pc bs := by
  subst hp
  intro i b e
  have h1 := of_decide_eq_true hw
  have h2 : i < bs.length := (List.getElem?_eq_some_iff.mp e).1
  have h3 : W[j + i]? = some b := by
    rw [← h1, List.getElem?_take, if_pos h2, List.getElem?_drop] at e
    exact e
  have h4 : j + i < W.length := (List.getElem?_eq_some_iff.mp h3).1
  have h5 : (code.data.toList.drop o)[j + i]? = some b := by
    rw [h, List.getElem?_append_left h4]
    exact h3
  rw [List.getElem?_drop, ← Nat.add_assoc] at h5
  exact h5
theorem dk_u1 {A : ByteArray} {p : Nat} {b : UInt8} (h : A.data.toList[p]? = some b) : (Reader.u1 : Reader DecodeError Nat) A p = .ok (b.toNat, p + 1) := by
  obtain ⟨h1, h2⟩ := List.getElem?_eq_some_iff.mp h
  have h3 : p < A.size := by simpa using h1
  have h4 : A[p]'h3 = b := h2
  have e : (Reader.u1 : Reader DecodeError Nat) A p = (if h : p < A.size then .ok (A[p].toNat, p + 1) else .error (HasTruncated.truncated p)) := by
    show (do if h : p < A.size then do set (p + 1); Pure.pure A[p].toNat else MonadExcept.throw (HasTruncated.truncated p) : Reader DecodeError Nat) A p = _
    by_cases hi : p < A.size
    · rw [dif_pos hi, dif_pos hi]; rfl
    · rw [dif_neg hi, dif_neg hi]; rfl
  rw [e, dif_pos h3, h4]
theorem dk_bind {α β : Type} {r : Reader DecodeError α} {f : α → Reader DecodeError β} {A : ByteArray} {p s : Nat} {a : α} (h : r A p = .ok (a, s)) : (r >>= f) A p = f a A s := by
  show (do let (a, s) ← r A p; f a A s : Except DecodeError (β × Nat)) = _
  rw [h]
  rfl
theorem dk_map {α β : Type} {r : Reader DecodeError α} {g : α → β} {A : ByteArray} {p s : Nat} {a : α} (h : r A p = .ok (a, s)) : (g <$> r) A p = .ok (g a, s) := by
  show (do let (a, s) ← r A p; .ok (g a, s) : Except DecodeError (β × Nat)) = _
  rw [h]
  rfl
theorem dk_u2 {A : ByteArray} {p : Nat} {a b : UInt8} (h : A.data.toList[p]? = some a) (h2 : A.data.toList[p + 1]? = some b) : (Reader.u2 : Reader DecodeError Nat) A p = .ok (a.toNat * 256 + b.toNat, p + 2) := by
  show (Reader.u1 >>= fun hi => Reader.u1 >>= fun lo => Pure.pure (hi * 256 + lo) : Reader DecodeError Nat) A p = _
  rw [dk_bind (dk_u1 h), dk_bind (dk_u1 h2)]
  rfl
theorem dk_of {code : ByteArray} {pc n : Nat} {i : Instr} (h : Decoder.instr pc code pc = .ok (i, pc + n)) : decode code pc = .ok (i, n) := by
  have e : decode code pc = (match Decoder.instr pc code pc with | .error x => .error x | .ok (j, s) => .ok (j, s - pc)) := by
    show (do let (j, s) ← Decoder.instr pc code pc; Pure.pure (j, s - pc) : Except DecodeError (Instr × Nat)) = _
    cases Decoder.instr pc code pc <;> rfl
  rw [e, h]
  show Except.ok (i, pc + n - pc) = _
  rw [Nat.add_sub_cancel_left]
theorem dk_2 {code : ByteArray} {pc : Nat} (h : DkAt code pc [2]) : decode code pc = .ok (.iconst (-1), 1) := dk_of ((dk_bind (dk_u1 (h 0 _ rfl))).trans rfl)
theorem dk_3 {code : ByteArray} {pc : Nat} (h : DkAt code pc [3]) : decode code pc = .ok (.iconst 0, 1) := dk_of ((dk_bind (dk_u1 (h 0 _ rfl))).trans rfl)
theorem dk_4 {code : ByteArray} {pc : Nat} (h : DkAt code pc [4]) : decode code pc = .ok (.iconst 1, 1) := dk_of ((dk_bind (dk_u1 (h 0 _ rfl))).trans rfl)
theorem dk_5 {code : ByteArray} {pc : Nat} (h : DkAt code pc [5]) : decode code pc = .ok (.iconst 2, 1) := dk_of ((dk_bind (dk_u1 (h 0 _ rfl))).trans rfl)
theorem dk_6 {code : ByteArray} {pc : Nat} (h : DkAt code pc [6]) : decode code pc = .ok (.iconst 3, 1) := dk_of ((dk_bind (dk_u1 (h 0 _ rfl))).trans rfl)
theorem dk_7 {code : ByteArray} {pc : Nat} (h : DkAt code pc [7]) : decode code pc = .ok (.iconst 4, 1) := dk_of ((dk_bind (dk_u1 (h 0 _ rfl))).trans rfl)
theorem dk_8 {code : ByteArray} {pc : Nat} (h : DkAt code pc [8]) : decode code pc = .ok (.iconst 5, 1) := dk_of ((dk_bind (dk_u1 (h 0 _ rfl))).trans rfl)
theorem dk_16 {code : ByteArray} {pc : Nat} (a : UInt8) (h : DkAt code pc [16, a]) : decode code pc = .ok (.bipush (Reader.signed 8 a.toNat), 2) := dk_of ((dk_bind (dk_u1 (h 0 _ rfl))).trans ((dk_bind (dk_map (dk_u1 (h 1 _ rfl)))).trans rfl))
theorem dk_17 {code : ByteArray} {pc : Nat} (a b : UInt8) (h : DkAt code pc [17, a, b]) : decode code pc = .ok (.sipush (Reader.signed 16 (a.toNat * 256 + b.toNat)), 3) := dk_of ((dk_bind (dk_u1 (h 0 _ rfl))).trans ((dk_bind (dk_map (dk_u2 (h 1 _ rfl) (h 2 _ rfl)))).trans rfl))
theorem dk_18 {code : ByteArray} {pc : Nat} (a : UInt8) (h : DkAt code pc [18, a]) : decode code pc = .ok (.ldc a.toNat, 2) := dk_of ((dk_bind (dk_u1 (h 0 _ rfl))).trans ((dk_bind (dk_u1 (h 1 _ rfl))).trans rfl))
theorem dk_20 {code : ByteArray} {pc : Nat} (a b : UInt8) (h : DkAt code pc [20, a, b]) : decode code pc = .ok (.ldc2_w (a.toNat * 256 + b.toNat), 3) := dk_of ((dk_bind (dk_u1 (h 0 _ rfl))).trans ((dk_bind (dk_u2 (h 1 _ rfl) (h 2 _ rfl))).trans rfl))
theorem dk_21 {code : ByteArray} {pc : Nat} (a : UInt8) (h : DkAt code pc [21, a]) : decode code pc = .ok (.iload a.toNat, 2) := dk_of ((dk_bind (dk_u1 (h 0 _ rfl))).trans ((dk_bind (dk_u1 (h 1 _ rfl))).trans rfl))
theorem dk_22 {code : ByteArray} {pc : Nat} (a : UInt8) (h : DkAt code pc [22, a]) : decode code pc = .ok (.lload a.toNat, 2) := dk_of ((dk_bind (dk_u1 (h 0 _ rfl))).trans ((dk_bind (dk_u1 (h 1 _ rfl))).trans rfl))
theorem dk_25 {code : ByteArray} {pc : Nat} (a : UInt8) (h : DkAt code pc [25, a]) : decode code pc = .ok (.aload a.toNat, 2) := dk_of ((dk_bind (dk_u1 (h 0 _ rfl))).trans ((dk_bind (dk_u1 (h 1 _ rfl))).trans rfl))
theorem dk_26 {code : ByteArray} {pc : Nat} (h : DkAt code pc [26]) : decode code pc = .ok (.iload_n 0, 1) := dk_of ((dk_bind (dk_u1 (h 0 _ rfl))).trans rfl)
theorem dk_27 {code : ByteArray} {pc : Nat} (h : DkAt code pc [27]) : decode code pc = .ok (.iload_n 1, 1) := dk_of ((dk_bind (dk_u1 (h 0 _ rfl))).trans rfl)
theorem dk_28 {code : ByteArray} {pc : Nat} (h : DkAt code pc [28]) : decode code pc = .ok (.iload_n 2, 1) := dk_of ((dk_bind (dk_u1 (h 0 _ rfl))).trans rfl)
theorem dk_29 {code : ByteArray} {pc : Nat} (h : DkAt code pc [29]) : decode code pc = .ok (.iload_n 3, 1) := dk_of ((dk_bind (dk_u1 (h 0 _ rfl))).trans rfl)
theorem dk_33 {code : ByteArray} {pc : Nat} (h : DkAt code pc [33]) : decode code pc = .ok (.lload_n 3, 1) := dk_of ((dk_bind (dk_u1 (h 0 _ rfl))).trans rfl)
theorem dk_42 {code : ByteArray} {pc : Nat} (h : DkAt code pc [42]) : decode code pc = .ok (.aload_n 0, 1) := dk_of ((dk_bind (dk_u1 (h 0 _ rfl))).trans rfl)
theorem dk_43 {code : ByteArray} {pc : Nat} (h : DkAt code pc [43]) : decode code pc = .ok (.aload_n 1, 1) := dk_of ((dk_bind (dk_u1 (h 0 _ rfl))).trans rfl)
theorem dk_44 {code : ByteArray} {pc : Nat} (h : DkAt code pc [44]) : decode code pc = .ok (.aload_n 2, 1) := dk_of ((dk_bind (dk_u1 (h 0 _ rfl))).trans rfl)
theorem dk_45 {code : ByteArray} {pc : Nat} (h : DkAt code pc [45]) : decode code pc = .ok (.aload_n 3, 1) := dk_of ((dk_bind (dk_u1 (h 0 _ rfl))).trans rfl)
theorem dk_46 {code : ByteArray} {pc : Nat} (h : DkAt code pc [46]) : decode code pc = .ok (.iaload, 1) := dk_of ((dk_bind (dk_u1 (h 0 _ rfl))).trans rfl)
theorem dk_50 {code : ByteArray} {pc : Nat} (h : DkAt code pc [50]) : decode code pc = .ok (.aaload, 1) := dk_of ((dk_bind (dk_u1 (h 0 _ rfl))).trans rfl)
theorem dk_54 {code : ByteArray} {pc : Nat} (a : UInt8) (h : DkAt code pc [54, a]) : decode code pc = .ok (.istore a.toNat, 2) := dk_of ((dk_bind (dk_u1 (h 0 _ rfl))).trans ((dk_bind (dk_u1 (h 1 _ rfl))).trans rfl))
theorem dk_55 {code : ByteArray} {pc : Nat} (a : UInt8) (h : DkAt code pc [55, a]) : decode code pc = .ok (.lstore a.toNat, 2) := dk_of ((dk_bind (dk_u1 (h 0 _ rfl))).trans ((dk_bind (dk_u1 (h 1 _ rfl))).trans rfl))
theorem dk_58 {code : ByteArray} {pc : Nat} (a : UInt8) (h : DkAt code pc [58, a]) : decode code pc = .ok (.astore a.toNat, 2) := dk_of ((dk_bind (dk_u1 (h 0 _ rfl))).trans ((dk_bind (dk_u1 (h 1 _ rfl))).trans rfl))
theorem dk_59 {code : ByteArray} {pc : Nat} (h : DkAt code pc [59]) : decode code pc = .ok (.istore_n 0, 1) := dk_of ((dk_bind (dk_u1 (h 0 _ rfl))).trans rfl)
theorem dk_60 {code : ByteArray} {pc : Nat} (h : DkAt code pc [60]) : decode code pc = .ok (.istore_n 1, 1) := dk_of ((dk_bind (dk_u1 (h 0 _ rfl))).trans rfl)
theorem dk_61 {code : ByteArray} {pc : Nat} (h : DkAt code pc [61]) : decode code pc = .ok (.istore_n 2, 1) := dk_of ((dk_bind (dk_u1 (h 0 _ rfl))).trans rfl)
theorem dk_62 {code : ByteArray} {pc : Nat} (h : DkAt code pc [62]) : decode code pc = .ok (.istore_n 3, 1) := dk_of ((dk_bind (dk_u1 (h 0 _ rfl))).trans rfl)
theorem dk_66 {code : ByteArray} {pc : Nat} (h : DkAt code pc [66]) : decode code pc = .ok (.lstore_n 3, 1) := dk_of ((dk_bind (dk_u1 (h 0 _ rfl))).trans rfl)
theorem dk_76 {code : ByteArray} {pc : Nat} (h : DkAt code pc [76]) : decode code pc = .ok (.astore_n 1, 1) := dk_of ((dk_bind (dk_u1 (h 0 _ rfl))).trans rfl)
theorem dk_77 {code : ByteArray} {pc : Nat} (h : DkAt code pc [77]) : decode code pc = .ok (.astore_n 2, 1) := dk_of ((dk_bind (dk_u1 (h 0 _ rfl))).trans rfl)
theorem dk_78 {code : ByteArray} {pc : Nat} (h : DkAt code pc [78]) : decode code pc = .ok (.astore_n 3, 1) := dk_of ((dk_bind (dk_u1 (h 0 _ rfl))).trans rfl)
theorem dk_83 {code : ByteArray} {pc : Nat} (h : DkAt code pc [83]) : decode code pc = .ok (.aastore, 1) := dk_of ((dk_bind (dk_u1 (h 0 _ rfl))).trans rfl)
theorem dk_89 {code : ByteArray} {pc : Nat} (h : DkAt code pc [89]) : decode code pc = .ok (.dup, 1) := dk_of ((dk_bind (dk_u1 (h 0 _ rfl))).trans rfl)
theorem dk_96 {code : ByteArray} {pc : Nat} (h : DkAt code pc [96]) : decode code pc = .ok (.iadd, 1) := dk_of ((dk_bind (dk_u1 (h 0 _ rfl))).trans rfl)
theorem dk_100 {code : ByteArray} {pc : Nat} (h : DkAt code pc [100]) : decode code pc = .ok (.isub, 1) := dk_of ((dk_bind (dk_u1 (h 0 _ rfl))).trans rfl)
theorem dk_104 {code : ByteArray} {pc : Nat} (h : DkAt code pc [104]) : decode code pc = .ok (.imul, 1) := dk_of ((dk_bind (dk_u1 (h 0 _ rfl))).trans rfl)
theorem dk_105 {code : ByteArray} {pc : Nat} (h : DkAt code pc [105]) : decode code pc = .ok (.lmul, 1) := dk_of ((dk_bind (dk_u1 (h 0 _ rfl))).trans rfl)
theorem dk_120 {code : ByteArray} {pc : Nat} (h : DkAt code pc [120]) : decode code pc = .ok (.ishl, 1) := dk_of ((dk_bind (dk_u1 (h 0 _ rfl))).trans rfl)
theorem dk_121 {code : ByteArray} {pc : Nat} (h : DkAt code pc [121]) : decode code pc = .ok (.lshl, 1) := dk_of ((dk_bind (dk_u1 (h 0 _ rfl))).trans rfl)
theorem dk_122 {code : ByteArray} {pc : Nat} (h : DkAt code pc [122]) : decode code pc = .ok (.ishr, 1) := dk_of ((dk_bind (dk_u1 (h 0 _ rfl))).trans rfl)
theorem dk_124 {code : ByteArray} {pc : Nat} (h : DkAt code pc [124]) : decode code pc = .ok (.iushr, 1) := dk_of ((dk_bind (dk_u1 (h 0 _ rfl))).trans rfl)
theorem dk_125 {code : ByteArray} {pc : Nat} (h : DkAt code pc [125]) : decode code pc = .ok (.lushr, 1) := dk_of ((dk_bind (dk_u1 (h 0 _ rfl))).trans rfl)
theorem dk_126 {code : ByteArray} {pc : Nat} (h : DkAt code pc [126]) : decode code pc = .ok (.iand, 1) := dk_of ((dk_bind (dk_u1 (h 0 _ rfl))).trans rfl)
theorem dk_127 {code : ByteArray} {pc : Nat} (h : DkAt code pc [127]) : decode code pc = .ok (.land, 1) := dk_of ((dk_bind (dk_u1 (h 0 _ rfl))).trans rfl)
theorem dk_128 {code : ByteArray} {pc : Nat} (h : DkAt code pc [128]) : decode code pc = .ok (.ior, 1) := dk_of ((dk_bind (dk_u1 (h 0 _ rfl))).trans rfl)
theorem dk_130 {code : ByteArray} {pc : Nat} (h : DkAt code pc [130]) : decode code pc = .ok (.ixor, 1) := dk_of ((dk_bind (dk_u1 (h 0 _ rfl))).trans rfl)
theorem dk_131 {code : ByteArray} {pc : Nat} (h : DkAt code pc [131]) : decode code pc = .ok (.lxor, 1) := dk_of ((dk_bind (dk_u1 (h 0 _ rfl))).trans rfl)
theorem dk_132 {code : ByteArray} {pc : Nat} (a b : UInt8) (h : DkAt code pc [132, a, b]) : decode code pc = .ok (.iinc a.toNat (Reader.signed 8 b.toNat), 3) := dk_of ((dk_bind (dk_u1 (h 0 _ rfl))).trans ((dk_bind (dk_u1 (h 1 _ rfl))).trans ((dk_bind (dk_map (dk_u1 (h 2 _ rfl)))).trans rfl)))
theorem dk_133 {code : ByteArray} {pc : Nat} (h : DkAt code pc [133]) : decode code pc = .ok (.i2l, 1) := dk_of ((dk_bind (dk_u1 (h 0 _ rfl))).trans rfl)
theorem dk_136 {code : ByteArray} {pc : Nat} (h : DkAt code pc [136]) : decode code pc = .ok (.l2i, 1) := dk_of ((dk_bind (dk_u1 (h 0 _ rfl))).trans rfl)
theorem dk_147 {code : ByteArray} {pc : Nat} (h : DkAt code pc [147]) : decode code pc = .ok (.i2s, 1) := dk_of ((dk_bind (dk_u1 (h 0 _ rfl))).trans rfl)
theorem dk_153 {code : ByteArray} {pc : Nat} (a b : UInt8) (h : DkAt code pc [153, a, b]) : decode code pc = .ok (.ifCond .eq (Reader.signed 16 (a.toNat * 256 + b.toNat)), 3) := dk_of ((dk_bind (dk_u1 (h 0 _ rfl))).trans ((dk_bind (dk_map (dk_u2 (h 1 _ rfl) (h 2 _ rfl)))).trans rfl))
theorem dk_154 {code : ByteArray} {pc : Nat} (a b : UInt8) (h : DkAt code pc [154, a, b]) : decode code pc = .ok (.ifCond .ne (Reader.signed 16 (a.toNat * 256 + b.toNat)), 3) := dk_of ((dk_bind (dk_u1 (h 0 _ rfl))).trans ((dk_bind (dk_map (dk_u2 (h 1 _ rfl) (h 2 _ rfl)))).trans rfl))
theorem dk_155 {code : ByteArray} {pc : Nat} (a b : UInt8) (h : DkAt code pc [155, a, b]) : decode code pc = .ok (.ifCond .lt (Reader.signed 16 (a.toNat * 256 + b.toNat)), 3) := dk_of ((dk_bind (dk_u1 (h 0 _ rfl))).trans ((dk_bind (dk_map (dk_u2 (h 1 _ rfl) (h 2 _ rfl)))).trans rfl))
theorem dk_159 {code : ByteArray} {pc : Nat} (a b : UInt8) (h : DkAt code pc [159, a, b]) : decode code pc = .ok (.if_icmp .eq (Reader.signed 16 (a.toNat * 256 + b.toNat)), 3) := dk_of ((dk_bind (dk_u1 (h 0 _ rfl))).trans ((dk_bind (dk_map (dk_u2 (h 1 _ rfl) (h 2 _ rfl)))).trans rfl))
theorem dk_160 {code : ByteArray} {pc : Nat} (a b : UInt8) (h : DkAt code pc [160, a, b]) : decode code pc = .ok (.if_icmp .ne (Reader.signed 16 (a.toNat * 256 + b.toNat)), 3) := dk_of ((dk_bind (dk_u1 (h 0 _ rfl))).trans ((dk_bind (dk_map (dk_u2 (h 1 _ rfl) (h 2 _ rfl)))).trans rfl))
theorem dk_162 {code : ByteArray} {pc : Nat} (a b : UInt8) (h : DkAt code pc [162, a, b]) : decode code pc = .ok (.if_icmp .ge (Reader.signed 16 (a.toNat * 256 + b.toNat)), 3) := dk_of ((dk_bind (dk_u1 (h 0 _ rfl))).trans ((dk_bind (dk_map (dk_u2 (h 1 _ rfl) (h 2 _ rfl)))).trans rfl))
theorem dk_163 {code : ByteArray} {pc : Nat} (a b : UInt8) (h : DkAt code pc [163, a, b]) : decode code pc = .ok (.if_icmp .gt (Reader.signed 16 (a.toNat * 256 + b.toNat)), 3) := dk_of ((dk_bind (dk_u1 (h 0 _ rfl))).trans ((dk_bind (dk_map (dk_u2 (h 1 _ rfl) (h 2 _ rfl)))).trans rfl))
theorem dk_167 {code : ByteArray} {pc : Nat} (a b : UInt8) (h : DkAt code pc [167, a, b]) : decode code pc = .ok (.goto (Reader.signed 16 (a.toNat * 256 + b.toNat)), 3) := dk_of ((dk_bind (dk_u1 (h 0 _ rfl))).trans ((dk_bind (dk_map (dk_u2 (h 1 _ rfl) (h 2 _ rfl)))).trans rfl))
theorem dk_172 {code : ByteArray} {pc : Nat} (h : DkAt code pc [172]) : decode code pc = .ok (.ireturn, 1) := dk_of ((dk_bind (dk_u1 (h 0 _ rfl))).trans rfl)
theorem dk_177 {code : ByteArray} {pc : Nat} (h : DkAt code pc [177]) : decode code pc = .ok (.return_, 1) := dk_of ((dk_bind (dk_u1 (h 0 _ rfl))).trans rfl)
theorem dk_180 {code : ByteArray} {pc : Nat} (a b : UInt8) (h : DkAt code pc [180, a, b]) : decode code pc = .ok (.getfield (a.toNat * 256 + b.toNat), 3) := dk_of ((dk_bind (dk_u1 (h 0 _ rfl))).trans ((dk_bind (dk_u2 (h 1 _ rfl) (h 2 _ rfl))).trans rfl))
theorem dk_181 {code : ByteArray} {pc : Nat} (a b : UInt8) (h : DkAt code pc [181, a, b]) : decode code pc = .ok (.putfield (a.toNat * 256 + b.toNat), 3) := dk_of ((dk_bind (dk_u1 (h 0 _ rfl))).trans ((dk_bind (dk_u2 (h 1 _ rfl) (h 2 _ rfl))).trans rfl))
theorem dk_182 {code : ByteArray} {pc : Nat} (a b : UInt8) (h : DkAt code pc [182, a, b]) : decode code pc = .ok (.invokevirtual (a.toNat * 256 + b.toNat), 3) := dk_of ((dk_bind (dk_u1 (h 0 _ rfl))).trans ((dk_bind (dk_u2 (h 1 _ rfl) (h 2 _ rfl))).trans rfl))
theorem dk_183 {code : ByteArray} {pc : Nat} (a b : UInt8) (h : DkAt code pc [183, a, b]) : decode code pc = .ok (.invokespecial (a.toNat * 256 + b.toNat), 3) := dk_of ((dk_bind (dk_u1 (h 0 _ rfl))).trans ((dk_bind (dk_u2 (h 1 _ rfl) (h 2 _ rfl))).trans rfl))
theorem dk_184 {code : ByteArray} {pc : Nat} (a b : UInt8) (h : DkAt code pc [184, a, b]) : decode code pc = .ok (.invokestatic (a.toNat * 256 + b.toNat), 3) := dk_of ((dk_bind (dk_u1 (h 0 _ rfl))).trans ((dk_bind (dk_u2 (h 1 _ rfl) (h 2 _ rfl))).trans rfl))
theorem dk_187 {code : ByteArray} {pc : Nat} (a b : UInt8) (h : DkAt code pc [187, a, b]) : decode code pc = .ok (.new (a.toNat * 256 + b.toNat), 3) := dk_of ((dk_bind (dk_u1 (h 0 _ rfl))).trans ((dk_bind (dk_u2 (h 1 _ rfl) (h 2 _ rfl))).trans rfl))
theorem dk_189 {code : ByteArray} {pc : Nat} (a b : UInt8) (h : DkAt code pc [189, a, b]) : decode code pc = .ok (.anewarray (a.toNat * 256 + b.toNat), 3) := dk_of ((dk_bind (dk_u1 (h 0 _ rfl))).trans ((dk_bind (dk_u2 (h 1 _ rfl) (h 2 _ rfl))).trans rfl))
theorem dk_190 {code : ByteArray} {pc : Nat} (h : DkAt code pc [190]) : decode code pc = .ok (.arraylength, 1) := dk_of ((dk_bind (dk_u1 (h 0 _ rfl))).trans rfl)
end
section
/-! java/lang/Object -/
set_option maxRecDepth 100000
def RJ0 : String := "java/lang/Object"
abbrev cJ0_init : ByteArray := object_method_1_code
def yJ0_init : MethodName := ⟨RJ0, "<init>", "()V"⟩
theorem dJ0_init_0 : decode cJ0_init 0 = .ok (.return_, 1) := by decide +kernel
theorem q16 : (Jvm.Cond.instanceMethod ({ cls := "java/lang/Object", name := "<init>", desc := "()V" } : Jvm.MethodName)) ∈ lw_all := lw_g (lw_at lw_m0 13 rfl) rfl
theorem q17 : (Jvm.Cond.code ({ cls := "java/lang/Object", name := "<init>", desc := "()V" } : Jvm.MethodName) object_method_1_code (1 : Nat) (Option.none : Option Jvm.ClassFile.FieldType)) ∈ lw_all := lw_g (lw_at lw_m0 14 rfl) rfl
/-! GF -/
set_option maxRecDepth 100000
def RX1 : String := "GF"
abbrev cX1_init : ByteArray := prog_1_method_1_code
def yX1_init : MethodName := ⟨RX1, "<init>", "()V"⟩
theorem dX1_init_0 : decode cX1_init 0 = .ok (.aload_n 0, 1) := by decide +kernel
theorem dX1_init_1 : decode cX1_init 1 = .ok (.invokespecial 1, 3) := by decide +kernel
theorem dX1_init_4 : decode cX1_init 4 = .ok (.return_, 1) := by decide +kernel
abbrev cX1_gf_iszero : ByteArray := prog_1_method_2_code
def yX1_gf_iszero : MethodName := ⟨RX1, "gf_iszero", "(S)S"⟩
def dkwX1_gf_iszero_0 : List UInt8 := [27, 4, 100, 16, 31, 122, 147, 172]
abbrev dktX1_gf_iszero_0 : List UInt8 := dkwX1_gf_iszero_0 ++ []
theorem dksX1_gf_iszero_0 : cX1_gf_iszero.data.toList.drop 0 = dktX1_gf_iszero_0 := by decide +kernel
theorem dX1_gf_iszero_0 : decode cX1_gf_iszero 0 = .ok (.iload_n 1, 1) := dk_27 (dk_at dksX1_gf_iszero_0 0 rfl rfl)
theorem dX1_gf_iszero_1 : decode cX1_gf_iszero 1 = .ok (.iconst 1, 1) := dk_4 (dk_at dksX1_gf_iszero_0 1 rfl rfl)
theorem dX1_gf_iszero_2 : decode cX1_gf_iszero 2 = .ok (.isub, 1) := dk_100 (dk_at dksX1_gf_iszero_0 2 rfl rfl)
theorem dX1_gf_iszero_3 : decode cX1_gf_iszero 3 = .ok (.bipush 31, 2) := dk_16 31 (dk_at dksX1_gf_iszero_0 3 rfl rfl)
theorem dX1_gf_iszero_5 : decode cX1_gf_iszero 5 = .ok (.ishr, 1) := dk_122 (dk_at dksX1_gf_iszero_0 5 rfl rfl)
theorem dX1_gf_iszero_6 : decode cX1_gf_iszero 6 = .ok (.i2s, 1) := dk_147 (dk_at dksX1_gf_iszero_0 6 rfl rfl)
theorem dX1_gf_iszero_7 : decode cX1_gf_iszero 7 = .ok (.ireturn, 1) := dk_172 (dk_at dksX1_gf_iszero_0 7 rfl rfl)
theorem q5 : (Jvm.Cond.initialized "GF") ∈ lw_all := lw_g (lw_at lw_m0 2 rfl) rfl
theorem q26 : (Jvm.Cond.instanceMethod ({ cls := "GF", name := "<init>", desc := "()V" } : Jvm.MethodName)) ∈ lw_all := lw_g (lw_at lw_m0 23 rfl) rfl
theorem q27 : (Jvm.Cond.code ({ cls := "GF", name := "<init>", desc := "()V" } : Jvm.MethodName) prog_1_method_1_code (1 : Nat) (Option.none : Option Jvm.ClassFile.FieldType)) ∈ lw_all := lw_g (lw_at lw_m0 24 rfl) rfl
theorem q28 : (Jvm.Cond.methodLink "GF" (1 : Nat) ({ cls := "java/lang/Object", name := "<init>", desc := "()V" } : Jvm.MethodName)) ∈ lw_all := lw_g (lw_at lw_m0 25 rfl) rfl
theorem q49 : (Jvm.Cond.declares ({ cls := "GF", name := "gf_mul", desc := "(SS)S" } : Jvm.MethodName)) ∈ lw_tbl := lw_at lw_m0 46 rfl
theorem q50 : (Jvm.Cond.sameMethod "GF" "GF" "gf_mul" "(SS)S") ∈ lw_all := lw_g (lw_at lw_m0 47 rfl) rfl
theorem q72 : (Jvm.Cond.declares ({ cls := "GF", name := "gf_sq", desc := "(S)S" } : Jvm.MethodName)) ∈ lw_tbl := lw_at lw_m0 69 rfl
theorem q73 : (Jvm.Cond.sameMethod "GF" "GF" "gf_sq" "(S)S") ∈ lw_all := lw_g (lw_at lw_m0 70 rfl) rfl
theorem q94 : (Jvm.Cond.declares ({ cls := "GF", name := "gf_inv", desc := "(S)S" } : Jvm.MethodName)) ∈ lw_tbl := lw_at lw_m0 91 rfl
theorem q95 : (Jvm.Cond.sameMethod "GF" "GF" "gf_inv" "(S)S") ∈ lw_all := lw_g (lw_at lw_m0 92 rfl) rfl
theorem q142 : (Jvm.Cond.declares ({ cls := "GF", name := "gf_frac", desc := "(SS)S" } : Jvm.MethodName)) ∈ lw_tbl := lw_at lw_m0 139 rfl
theorem q143 : (Jvm.Cond.sameMethod "GF" "GF" "gf_frac" "(SS)S") ∈ lw_all := lw_g (lw_at lw_m0 140 rfl) rfl
theorem q154 : (Jvm.Cond.declares ({ cls := "GF", name := "gf_mul_ext", desc := "(SS)I" } : Jvm.MethodName)) ∈ lw_tbl := lw_at lw_m0 151 rfl
theorem q155 : (Jvm.Cond.sameMethod "GF" "GF" "gf_mul_ext" "(SS)I") ∈ lw_all := lw_g (lw_at lw_m0 152 rfl) rfl
theorem q163 : (Jvm.Cond.declares ({ cls := "GF", name := "gf_reduce", desc := "(I)S" } : Jvm.MethodName)) ∈ lw_tbl := lw_at lw_m0 160 rfl
theorem q164 : (Jvm.Cond.sameMethod "GF" "GF" "gf_reduce" "(I)S") ∈ lw_all := lw_g (lw_at lw_m0 161 rfl) rfl
theorem q172 : (Jvm.Cond.declares ({ cls := "GF", name := "gf_sq_ext", desc := "(S)I" } : Jvm.MethodName)) ∈ lw_tbl := lw_at lw_m0 169 rfl
theorem q173 : (Jvm.Cond.sameMethod "GF" "GF" "gf_sq_ext" "(S)I") ∈ lw_all := lw_g (lw_at lw_m0 170 rfl) rfl
theorem q185 : (Jvm.Cond.instanceMethod ({ cls := "GF", name := "gf_iszero", desc := "(S)S" } : Jvm.MethodName)) ∈ lw_all := lw_g (lw_at lw_m0 182 rfl) rfl
theorem q186 : (Jvm.Cond.sameMethod "GF" "GF" "gf_iszero" "(S)S") ∈ lw_all := lw_g (lw_at lw_m0 183 rfl) rfl
theorem q189 : (Jvm.Cond.code ({ cls := "GF", name := "gf_iszero", desc := "(S)S" } : Jvm.MethodName) prog_1_method_2_code (2 : Nat) (Option.some Jvm.ClassFile.FieldType.short)) ∈ lw_all := lw_g (lw_at lw_m0 186 rfl) rfl
/-! Interleave -/
set_option maxRecDepth 100000
def RX5 : String := "Interleave"
abbrev cX5_expand16to32 : ByteArray := prog_4_method_2_code
def yX5_expand16to32 : MethodName := ⟨RX5, "expand16to32", "(I)I"⟩
def dkwX5_expand16to32_1 : List UInt8 := [26, 26, 5, 120, 128, 18, 10, 126, 59, 26, 26, 4, 120, 128, 18, 11, 126, 59, 26, 172]
abbrev dktX5_expand16to32_1 : List UInt8 := dkwX5_expand16to32_1 ++ []
def dkwX5_expand16to32_0 : List UInt8 := [26, 18, 7, 126, 59, 26, 26, 16, 8, 120, 128, 18, 8, 126, 59, 26, 26, 7, 120, 128, 18, 9, 126, 59]
abbrev dktX5_expand16to32_0 : List UInt8 := dkwX5_expand16to32_0 ++ dktX5_expand16to32_1
theorem dksX5_expand16to32_0 : cX5_expand16to32.data.toList.drop 0 = dktX5_expand16to32_0 := by decide +kernel
theorem dksX5_expand16to32_1 : cX5_expand16to32.data.toList.drop 24 = dktX5_expand16to32_1 := dk_seg dksX5_expand16to32_0 24 rfl rfl
theorem dX5_expand16to32_0 : decode cX5_expand16to32 0 = .ok (.iload_n 0, 1) := dk_26 (dk_at dksX5_expand16to32_0 0 rfl rfl)
theorem dX5_expand16to32_1 : decode cX5_expand16to32 1 = .ok (.ldc 7, 2) := dk_18 7 (dk_at dksX5_expand16to32_0 1 rfl rfl)
theorem dX5_expand16to32_3 : decode cX5_expand16to32 3 = .ok (.iand, 1) := dk_126 (dk_at dksX5_expand16to32_0 3 rfl rfl)
theorem dX5_expand16to32_4 : decode cX5_expand16to32 4 = .ok (.istore_n 0, 1) := dk_59 (dk_at dksX5_expand16to32_0 4 rfl rfl)
theorem dX5_expand16to32_5 : decode cX5_expand16to32 5 = .ok (.iload_n 0, 1) := dk_26 (dk_at dksX5_expand16to32_0 5 rfl rfl)
theorem dX5_expand16to32_6 : decode cX5_expand16to32 6 = .ok (.iload_n 0, 1) := dk_26 (dk_at dksX5_expand16to32_0 6 rfl rfl)
theorem dX5_expand16to32_7 : decode cX5_expand16to32 7 = .ok (.bipush 8, 2) := dk_16 8 (dk_at dksX5_expand16to32_0 7 rfl rfl)
theorem dX5_expand16to32_9 : decode cX5_expand16to32 9 = .ok (.ishl, 1) := dk_120 (dk_at dksX5_expand16to32_0 9 rfl rfl)
theorem dX5_expand16to32_10 : decode cX5_expand16to32 10 = .ok (.ior, 1) := dk_128 (dk_at dksX5_expand16to32_0 10 rfl rfl)
theorem dX5_expand16to32_11 : decode cX5_expand16to32 11 = .ok (.ldc 8, 2) := dk_18 8 (dk_at dksX5_expand16to32_0 11 rfl rfl)
theorem dX5_expand16to32_13 : decode cX5_expand16to32 13 = .ok (.iand, 1) := dk_126 (dk_at dksX5_expand16to32_0 13 rfl rfl)
theorem dX5_expand16to32_14 : decode cX5_expand16to32 14 = .ok (.istore_n 0, 1) := dk_59 (dk_at dksX5_expand16to32_0 14 rfl rfl)
theorem dX5_expand16to32_15 : decode cX5_expand16to32 15 = .ok (.iload_n 0, 1) := dk_26 (dk_at dksX5_expand16to32_0 15 rfl rfl)
theorem dX5_expand16to32_16 : decode cX5_expand16to32 16 = .ok (.iload_n 0, 1) := dk_26 (dk_at dksX5_expand16to32_0 16 rfl rfl)
theorem dX5_expand16to32_17 : decode cX5_expand16to32 17 = .ok (.iconst 4, 1) := dk_7 (dk_at dksX5_expand16to32_0 17 rfl rfl)
theorem dX5_expand16to32_18 : decode cX5_expand16to32 18 = .ok (.ishl, 1) := dk_120 (dk_at dksX5_expand16to32_0 18 rfl rfl)
theorem dX5_expand16to32_19 : decode cX5_expand16to32 19 = .ok (.ior, 1) := dk_128 (dk_at dksX5_expand16to32_0 19 rfl rfl)
theorem dX5_expand16to32_20 : decode cX5_expand16to32 20 = .ok (.ldc 9, 2) := dk_18 9 (dk_at dksX5_expand16to32_0 20 rfl rfl)
theorem dX5_expand16to32_22 : decode cX5_expand16to32 22 = .ok (.iand, 1) := dk_126 (dk_at dksX5_expand16to32_0 22 rfl rfl)
theorem dX5_expand16to32_23 : decode cX5_expand16to32 23 = .ok (.istore_n 0, 1) := dk_59 (dk_at dksX5_expand16to32_0 23 rfl rfl)
theorem dX5_expand16to32_24 : decode cX5_expand16to32 24 = .ok (.iload_n 0, 1) := dk_26 (dk_at dksX5_expand16to32_1 0 rfl rfl)
theorem dX5_expand16to32_25 : decode cX5_expand16to32 25 = .ok (.iload_n 0, 1) := dk_26 (dk_at dksX5_expand16to32_1 1 rfl rfl)
theorem dX5_expand16to32_26 : decode cX5_expand16to32 26 = .ok (.iconst 2, 1) := dk_5 (dk_at dksX5_expand16to32_1 2 rfl rfl)
theorem dX5_expand16to32_27 : decode cX5_expand16to32 27 = .ok (.ishl, 1) := dk_120 (dk_at dksX5_expand16to32_1 3 rfl rfl)
theorem dX5_expand16to32_28 : decode cX5_expand16to32 28 = .ok (.ior, 1) := dk_128 (dk_at dksX5_expand16to32_1 4 rfl rfl)
theorem dX5_expand16to32_29 : decode cX5_expand16to32 29 = .ok (.ldc 10, 2) := dk_18 10 (dk_at dksX5_expand16to32_1 5 rfl rfl)
theorem dX5_expand16to32_31 : decode cX5_expand16to32 31 = .ok (.iand, 1) := dk_126 (dk_at dksX5_expand16to32_1 7 rfl rfl)
theorem dX5_expand16to32_32 : decode cX5_expand16to32 32 = .ok (.istore_n 0, 1) := dk_59 (dk_at dksX5_expand16to32_1 8 rfl rfl)
theorem dX5_expand16to32_33 : decode cX5_expand16to32 33 = .ok (.iload_n 0, 1) := dk_26 (dk_at dksX5_expand16to32_1 9 rfl rfl)
theorem dX5_expand16to32_34 : decode cX5_expand16to32 34 = .ok (.iload_n 0, 1) := dk_26 (dk_at dksX5_expand16to32_1 10 rfl rfl)
theorem dX5_expand16to32_35 : decode cX5_expand16to32 35 = .ok (.iconst 1, 1) := dk_4 (dk_at dksX5_expand16to32_1 11 rfl rfl)
theorem dX5_expand16to32_36 : decode cX5_expand16to32 36 = .ok (.ishl, 1) := dk_120 (dk_at dksX5_expand16to32_1 12 rfl rfl)
theorem dX5_expand16to32_37 : decode cX5_expand16to32 37 = .ok (.ior, 1) := dk_128 (dk_at dksX5_expand16to32_1 13 rfl rfl)
theorem dX5_expand16to32_38 : decode cX5_expand16to32 38 = .ok (.ldc 11, 2) := dk_18 11 (dk_at dksX5_expand16to32_1 14 rfl rfl)
theorem dX5_expand16to32_40 : decode cX5_expand16to32 40 = .ok (.iand, 1) := dk_126 (dk_at dksX5_expand16to32_1 16 rfl rfl)
theorem dX5_expand16to32_41 : decode cX5_expand16to32 41 = .ok (.istore_n 0, 1) := dk_59 (dk_at dksX5_expand16to32_1 17 rfl rfl)
theorem dX5_expand16to32_42 : decode cX5_expand16to32 42 = .ok (.iload_n 0, 1) := dk_26 (dk_at dksX5_expand16to32_1 18 rfl rfl)
theorem dX5_expand16to32_43 : decode cX5_expand16to32 43 = .ok (.ireturn, 1) := dk_172 (dk_at dksX5_expand16to32_1 19 rfl rfl)
theorem q9 : (Jvm.Cond.initialized "Interleave") ∈ lw_all := lw_g (lw_at lw_m0 6 rfl) rfl
theorem q78 : (Jvm.Cond.static ({ cls := "Interleave", name := "expand16to32", desc := "(I)I" } : Jvm.MethodName)) ∈ lw_all := lw_g (lw_at lw_m0 75 rfl) rfl
theorem q79 : (Jvm.Cond.code ({ cls := "Interleave", name := "expand16to32", desc := "(I)I" } : Jvm.MethodName) prog_4_method_2_code (1 : Nat) (Option.some Jvm.ClassFile.FieldType.int)) ∈ lw_all := lw_g (lw_at lw_m0 76 rfl) rfl
theorem q80 : (Jvm.Cond.constant "Interleave" (7 : Nat) (65535 : Int32)) ∈ lw_all := lw_g (lw_at lw_m0 77 rfl) rfl
theorem q81 : (Jvm.Cond.constant "Interleave" (8 : Nat) (16711935 : Int32)) ∈ lw_all := lw_g (lw_at lw_m0 78 rfl) rfl
theorem q82 : (Jvm.Cond.constant "Interleave" (9 : Nat) (252645135 : Int32)) ∈ lw_all := lw_g (lw_at lw_m0 79 rfl) rfl
theorem q83 : (Jvm.Cond.constant "Interleave" (10 : Nat) (858993459 : Int32)) ∈ lw_all := lw_g (lw_at lw_m0 80 rfl) rfl
theorem q84 : (Jvm.Cond.constant "Interleave" (11 : Nat) (1431655765 : Int32)) ∈ lw_all := lw_g (lw_at lw_m0 81 rfl) rfl
/-! SmallFields -/
set_option maxRecDepth 100000
def RX0 : String := "SmallFields"
def TX0 : u_T := fun k => match k with
  | _ => ("SmallFields", "fields", "[LGF;", true)
def tyX0 : Nat → FieldType := fun k => match k with
  | _ => .array (.object "GF")
abbrev wsX00 : List Cond := u_ws RX0 TX0 1
theorem nmX0 : ∀ a, a < 1 → ∀ b, b < 1 → a ≠ b → (TX0 a).2.1 ≠ (TX0 b).2.1 := by decide +kernel
theorem tyX0_ok : ∀ k, k < 1 → parseFieldDescriptor (TX0 k).2.2.1 = some (tyX0 k) := by decide +kernel
abbrev cX0_init : ByteArray := prog_5_method_1_code
def yX0_init : MethodName := ⟨RX0, "<init>", "()V"⟩
def dkwX0_init_1 : List UInt8 := [89, 183, 0, 14, 83, 181, 0, 15, 177]
abbrev dktX0_init_1 : List UInt8 := dkwX0_init_1 ++ []
def dkwX0_init_0 : List UInt8 := [42, 183, 0, 1, 42, 5, 189, 0, 7, 89, 3, 187, 0, 9, 89, 183, 0, 11, 83, 89, 4, 187, 0, 12]
abbrev dktX0_init_0 : List UInt8 := dkwX0_init_0 ++ dktX0_init_1
theorem dksX0_init_0 : cX0_init.data.toList.drop 0 = dktX0_init_0 := by decide +kernel
theorem dksX0_init_1 : cX0_init.data.toList.drop 24 = dktX0_init_1 := dk_seg dksX0_init_0 24 rfl rfl
theorem dX0_init_0 : decode cX0_init 0 = .ok (.aload_n 0, 1) := dk_42 (dk_at dksX0_init_0 0 rfl rfl)
theorem dX0_init_1 : decode cX0_init 1 = .ok (.invokespecial 1, 3) := dk_183 0 1 (dk_at dksX0_init_0 1 rfl rfl)
theorem dX0_init_4 : decode cX0_init 4 = .ok (.aload_n 0, 1) := dk_42 (dk_at dksX0_init_0 4 rfl rfl)
theorem dX0_init_5 : decode cX0_init 5 = .ok (.iconst 2, 1) := dk_5 (dk_at dksX0_init_0 5 rfl rfl)
theorem dX0_init_6 : decode cX0_init 6 = .ok (.anewarray 7, 3) := dk_189 0 7 (dk_at dksX0_init_0 6 rfl rfl)
theorem dX0_init_9 : decode cX0_init 9 = .ok (.dup, 1) := dk_89 (dk_at dksX0_init_0 9 rfl rfl)
theorem dX0_init_10 : decode cX0_init 10 = .ok (.iconst 0, 1) := dk_3 (dk_at dksX0_init_0 10 rfl rfl)
theorem dX0_init_11 : decode cX0_init 11 = .ok (.new 9, 3) := dk_187 0 9 (dk_at dksX0_init_0 11 rfl rfl)
theorem dX0_init_14 : decode cX0_init 14 = .ok (.dup, 1) := dk_89 (dk_at dksX0_init_0 14 rfl rfl)
theorem dX0_init_15 : decode cX0_init 15 = .ok (.invokespecial 11, 3) := dk_183 0 11 (dk_at dksX0_init_0 15 rfl rfl)
theorem dX0_init_18 : decode cX0_init 18 = .ok (.aastore, 1) := dk_83 (dk_at dksX0_init_0 18 rfl rfl)
theorem dX0_init_19 : decode cX0_init 19 = .ok (.dup, 1) := dk_89 (dk_at dksX0_init_0 19 rfl rfl)
theorem dX0_init_20 : decode cX0_init 20 = .ok (.iconst 1, 1) := dk_4 (dk_at dksX0_init_0 20 rfl rfl)
theorem dX0_init_21 : decode cX0_init 21 = .ok (.new 12, 3) := dk_187 0 12 (dk_at dksX0_init_0 21 rfl rfl)
theorem dX0_init_24 : decode cX0_init 24 = .ok (.dup, 1) := dk_89 (dk_at dksX0_init_1 0 rfl rfl)
theorem dX0_init_25 : decode cX0_init 25 = .ok (.invokespecial 14, 3) := dk_183 0 14 (dk_at dksX0_init_1 1 rfl rfl)
theorem dX0_init_28 : decode cX0_init 28 = .ok (.aastore, 1) := dk_83 (dk_at dksX0_init_1 4 rfl rfl)
theorem dX0_init_29 : decode cX0_init 29 = .ok (.putfield 15, 3) := dk_181 0 15 (dk_at dksX0_init_1 5 rfl rfl)
theorem dX0_init_32 : decode cX0_init 32 = .ok (.return_, 1) := dk_177 (dk_at dksX0_init_1 8 rfl rfl)
abbrev cX0_multiply : ByteArray := prog_5_method_3_code
def yX0_multiply : MethodName := ⟨RX0, "multiply", "(III)I"⟩
def dkwX0_multiply_0 : List UInt8 := [42, 180, 0, 15, 27, 4, 126, 50, 27, 28, 184, 0, 21, 27, 29, 184, 0, 21, 182, 0, 25, 172]
abbrev dktX0_multiply_0 : List UInt8 := dkwX0_multiply_0 ++ []
theorem dksX0_multiply_0 : cX0_multiply.data.toList.drop 0 = dktX0_multiply_0 := by decide +kernel
theorem dX0_multiply_0 : decode cX0_multiply 0 = .ok (.aload_n 0, 1) := dk_42 (dk_at dksX0_multiply_0 0 rfl rfl)
theorem dX0_multiply_1 : decode cX0_multiply 1 = .ok (.getfield 15, 3) := dk_180 0 15 (dk_at dksX0_multiply_0 1 rfl rfl)
theorem dX0_multiply_4 : decode cX0_multiply 4 = .ok (.iload_n 1, 1) := dk_27 (dk_at dksX0_multiply_0 4 rfl rfl)
theorem dX0_multiply_5 : decode cX0_multiply 5 = .ok (.iconst 1, 1) := dk_4 (dk_at dksX0_multiply_0 5 rfl rfl)
theorem dX0_multiply_6 : decode cX0_multiply 6 = .ok (.iand, 1) := dk_126 (dk_at dksX0_multiply_0 6 rfl rfl)
theorem dX0_multiply_7 : decode cX0_multiply 7 = .ok (.aaload, 1) := dk_50 (dk_at dksX0_multiply_0 7 rfl rfl)
theorem dX0_multiply_8 : decode cX0_multiply 8 = .ok (.iload_n 1, 1) := dk_27 (dk_at dksX0_multiply_0 8 rfl rfl)
theorem dX0_multiply_9 : decode cX0_multiply 9 = .ok (.iload_n 2, 1) := dk_28 (dk_at dksX0_multiply_0 9 rfl rfl)
theorem dX0_multiply_10 : decode cX0_multiply 10 = .ok (.invokestatic 21, 3) := dk_184 0 21 (dk_at dksX0_multiply_0 10 rfl rfl)
theorem dX0_multiply_13 : decode cX0_multiply 13 = .ok (.iload_n 1, 1) := dk_27 (dk_at dksX0_multiply_0 13 rfl rfl)
theorem dX0_multiply_14 : decode cX0_multiply 14 = .ok (.iload_n 3, 1) := dk_29 (dk_at dksX0_multiply_0 14 rfl rfl)
theorem dX0_multiply_15 : decode cX0_multiply 15 = .ok (.invokestatic 21, 3) := dk_184 0 21 (dk_at dksX0_multiply_0 15 rfl rfl)
theorem dX0_multiply_18 : decode cX0_multiply 18 = .ok (.invokevirtual 25, 3) := dk_182 0 25 (dk_at dksX0_multiply_0 18 rfl rfl)
theorem dX0_multiply_21 : decode cX0_multiply 21 = .ok (.ireturn, 1) := dk_172 (dk_at dksX0_multiply_0 21 rfl rfl)
abbrev cX0_fair : ByteArray := prog_5_method_2_code
def yX0_fair : MethodName := ⟨RX0, "fair", "(II)S"⟩
def dkwX0_fair_0 : List UInt8 := [27, 26, 4, 126, 154, 0, 9, 17, 15, 255, 167, 0, 6, 17, 31, 255, 126, 147, 172]
abbrev dktX0_fair_0 : List UInt8 := dkwX0_fair_0 ++ []
theorem dksX0_fair_0 : cX0_fair.data.toList.drop 0 = dktX0_fair_0 := by decide +kernel
theorem dX0_fair_0 : decode cX0_fair 0 = .ok (.iload_n 1, 1) := dk_27 (dk_at dksX0_fair_0 0 rfl rfl)
theorem dX0_fair_1 : decode cX0_fair 1 = .ok (.iload_n 0, 1) := dk_26 (dk_at dksX0_fair_0 1 rfl rfl)
theorem dX0_fair_2 : decode cX0_fair 2 = .ok (.iconst 1, 1) := dk_4 (dk_at dksX0_fair_0 2 rfl rfl)
theorem dX0_fair_3 : decode cX0_fair 3 = .ok (.iand, 1) := dk_126 (dk_at dksX0_fair_0 3 rfl rfl)
theorem dX0_fair_4 : decode cX0_fair 4 = .ok (.ifCond .ne 9, 3) := dk_154 0 9 (dk_at dksX0_fair_0 4 rfl rfl)
theorem dX0_fair_7 : decode cX0_fair 7 = .ok (.sipush 4095, 3) := dk_17 15 255 (dk_at dksX0_fair_0 7 rfl rfl)
theorem dX0_fair_10 : decode cX0_fair 10 = .ok (.goto 6, 3) := dk_167 0 6 (dk_at dksX0_fair_0 10 rfl rfl)
theorem dX0_fair_13 : decode cX0_fair 13 = .ok (.sipush 8191, 3) := dk_17 31 255 (dk_at dksX0_fair_0 13 rfl rfl)
theorem dX0_fair_16 : decode cX0_fair 16 = .ok (.iand, 1) := dk_126 (dk_at dksX0_fair_0 16 rfl rfl)
theorem dX0_fair_17 : decode cX0_fair 17 = .ok (.i2s, 1) := dk_147 (dk_at dksX0_fair_0 17 rfl rfl)
theorem dX0_fair_18 : decode cX0_fair 18 = .ok (.ireturn, 1) := dk_172 (dk_at dksX0_fair_0 18 rfl rfl)
abbrev cX0_square : ByteArray := prog_5_method_4_code
def yX0_square : MethodName := ⟨RX0, "square", "(II)I"⟩
def dkwX0_square_0 : List UInt8 := [42, 180, 0, 15, 27, 4, 126, 50, 27, 28, 184, 0, 21, 182, 0, 29, 172]
abbrev dktX0_square_0 : List UInt8 := dkwX0_square_0 ++ []
theorem dksX0_square_0 : cX0_square.data.toList.drop 0 = dktX0_square_0 := by decide +kernel
theorem dX0_square_0 : decode cX0_square 0 = .ok (.aload_n 0, 1) := dk_42 (dk_at dksX0_square_0 0 rfl rfl)
theorem dX0_square_1 : decode cX0_square 1 = .ok (.getfield 15, 3) := dk_180 0 15 (dk_at dksX0_square_0 1 rfl rfl)
theorem dX0_square_4 : decode cX0_square 4 = .ok (.iload_n 1, 1) := dk_27 (dk_at dksX0_square_0 4 rfl rfl)
theorem dX0_square_5 : decode cX0_square 5 = .ok (.iconst 1, 1) := dk_4 (dk_at dksX0_square_0 5 rfl rfl)
theorem dX0_square_6 : decode cX0_square 6 = .ok (.iand, 1) := dk_126 (dk_at dksX0_square_0 6 rfl rfl)
theorem dX0_square_7 : decode cX0_square 7 = .ok (.aaload, 1) := dk_50 (dk_at dksX0_square_0 7 rfl rfl)
theorem dX0_square_8 : decode cX0_square 8 = .ok (.iload_n 1, 1) := dk_27 (dk_at dksX0_square_0 8 rfl rfl)
theorem dX0_square_9 : decode cX0_square 9 = .ok (.iload_n 2, 1) := dk_28 (dk_at dksX0_square_0 9 rfl rfl)
theorem dX0_square_10 : decode cX0_square 10 = .ok (.invokestatic 21, 3) := dk_184 0 21 (dk_at dksX0_square_0 10 rfl rfl)
theorem dX0_square_13 : decode cX0_square 13 = .ok (.invokevirtual 29, 3) := dk_182 0 29 (dk_at dksX0_square_0 13 rfl rfl)
theorem dX0_square_16 : decode cX0_square 16 = .ok (.ireturn, 1) := dk_172 (dk_at dksX0_square_0 16 rfl rfl)
abbrev cX0_inverse : ByteArray := prog_5_method_5_code
def yX0_inverse : MethodName := ⟨RX0, "inverse", "(II)I"⟩
def dkwX0_inverse_1 : List UInt8 := [182, 0, 33, 172]
abbrev dktX0_inverse_1 : List UInt8 := dkwX0_inverse_1 ++ []
def dkwX0_inverse_0 : List UInt8 := [27, 28, 184, 0, 21, 62, 29, 154, 0, 7, 2, 167, 0, 15, 42, 180, 0, 15, 27, 4, 126, 50, 29]
abbrev dktX0_inverse_0 : List UInt8 := dkwX0_inverse_0 ++ dktX0_inverse_1
theorem dksX0_inverse_0 : cX0_inverse.data.toList.drop 0 = dktX0_inverse_0 := by decide +kernel
theorem dksX0_inverse_1 : cX0_inverse.data.toList.drop 23 = dktX0_inverse_1 := dk_seg dksX0_inverse_0 23 rfl rfl
theorem dX0_inverse_0 : decode cX0_inverse 0 = .ok (.iload_n 1, 1) := dk_27 (dk_at dksX0_inverse_0 0 rfl rfl)
theorem dX0_inverse_1 : decode cX0_inverse 1 = .ok (.iload_n 2, 1) := dk_28 (dk_at dksX0_inverse_0 1 rfl rfl)
theorem dX0_inverse_2 : decode cX0_inverse 2 = .ok (.invokestatic 21, 3) := dk_184 0 21 (dk_at dksX0_inverse_0 2 rfl rfl)
theorem dX0_inverse_5 : decode cX0_inverse 5 = .ok (.istore_n 3, 1) := dk_62 (dk_at dksX0_inverse_0 5 rfl rfl)
theorem dX0_inverse_6 : decode cX0_inverse 6 = .ok (.iload_n 3, 1) := dk_29 (dk_at dksX0_inverse_0 6 rfl rfl)
theorem dX0_inverse_7 : decode cX0_inverse 7 = .ok (.ifCond .ne 7, 3) := dk_154 0 7 (dk_at dksX0_inverse_0 7 rfl rfl)
theorem dX0_inverse_10 : decode cX0_inverse 10 = .ok (.iconst (-1), 1) := dk_2 (dk_at dksX0_inverse_0 10 rfl rfl)
theorem dX0_inverse_11 : decode cX0_inverse 11 = .ok (.goto 15, 3) := dk_167 0 15 (dk_at dksX0_inverse_0 11 rfl rfl)
theorem dX0_inverse_14 : decode cX0_inverse 14 = .ok (.aload_n 0, 1) := dk_42 (dk_at dksX0_inverse_0 14 rfl rfl)
theorem dX0_inverse_15 : decode cX0_inverse 15 = .ok (.getfield 15, 3) := dk_180 0 15 (dk_at dksX0_inverse_0 15 rfl rfl)
theorem dX0_inverse_18 : decode cX0_inverse 18 = .ok (.iload_n 1, 1) := dk_27 (dk_at dksX0_inverse_0 18 rfl rfl)
theorem dX0_inverse_19 : decode cX0_inverse 19 = .ok (.iconst 1, 1) := dk_4 (dk_at dksX0_inverse_0 19 rfl rfl)
theorem dX0_inverse_20 : decode cX0_inverse 20 = .ok (.iand, 1) := dk_126 (dk_at dksX0_inverse_0 20 rfl rfl)
theorem dX0_inverse_21 : decode cX0_inverse 21 = .ok (.aaload, 1) := dk_50 (dk_at dksX0_inverse_0 21 rfl rfl)
theorem dX0_inverse_22 : decode cX0_inverse 22 = .ok (.iload_n 3, 1) := dk_29 (dk_at dksX0_inverse_0 22 rfl rfl)
theorem dX0_inverse_23 : decode cX0_inverse 23 = .ok (.invokevirtual 33, 3) := dk_182 0 33 (dk_at dksX0_inverse_1 0 rfl rfl)
theorem dX0_inverse_26 : decode cX0_inverse 26 = .ok (.ireturn, 1) := dk_172 (dk_at dksX0_inverse_1 3 rfl rfl)
abbrev cX0_quotient : ByteArray := prog_5_method_6_code
def yX0_quotient : MethodName := ⟨RX0, "quotient", "(III)I"⟩
def dkwX0_quotient_1 : List UInt8 := [21, 4, 27, 28, 184, 0, 21, 182, 0, 36, 172]
abbrev dktX0_quotient_1 : List UInt8 := dkwX0_quotient_1 ++ []
def dkwX0_quotient_0 : List UInt8 := [27, 29, 184, 0, 21, 54, 4, 21, 4, 154, 0, 7, 2, 167, 0, 21, 42, 180, 0, 15, 27, 4, 126, 50]
abbrev dktX0_quotient_0 : List UInt8 := dkwX0_quotient_0 ++ dktX0_quotient_1
theorem dksX0_quotient_0 : cX0_quotient.data.toList.drop 0 = dktX0_quotient_0 := by decide +kernel
theorem dksX0_quotient_1 : cX0_quotient.data.toList.drop 24 = dktX0_quotient_1 := dk_seg dksX0_quotient_0 24 rfl rfl
theorem dX0_quotient_0 : decode cX0_quotient 0 = .ok (.iload_n 1, 1) := dk_27 (dk_at dksX0_quotient_0 0 rfl rfl)
theorem dX0_quotient_1 : decode cX0_quotient 1 = .ok (.iload_n 3, 1) := dk_29 (dk_at dksX0_quotient_0 1 rfl rfl)
theorem dX0_quotient_2 : decode cX0_quotient 2 = .ok (.invokestatic 21, 3) := dk_184 0 21 (dk_at dksX0_quotient_0 2 rfl rfl)
theorem dX0_quotient_5 : decode cX0_quotient 5 = .ok (.istore 4, 2) := dk_54 4 (dk_at dksX0_quotient_0 5 rfl rfl)
theorem dX0_quotient_7 : decode cX0_quotient 7 = .ok (.iload 4, 2) := dk_21 4 (dk_at dksX0_quotient_0 7 rfl rfl)
theorem dX0_quotient_9 : decode cX0_quotient 9 = .ok (.ifCond .ne 7, 3) := dk_154 0 7 (dk_at dksX0_quotient_0 9 rfl rfl)
theorem dX0_quotient_12 : decode cX0_quotient 12 = .ok (.iconst (-1), 1) := dk_2 (dk_at dksX0_quotient_0 12 rfl rfl)
theorem dX0_quotient_13 : decode cX0_quotient 13 = .ok (.goto 21, 3) := dk_167 0 21 (dk_at dksX0_quotient_0 13 rfl rfl)
theorem dX0_quotient_16 : decode cX0_quotient 16 = .ok (.aload_n 0, 1) := dk_42 (dk_at dksX0_quotient_0 16 rfl rfl)
theorem dX0_quotient_17 : decode cX0_quotient 17 = .ok (.getfield 15, 3) := dk_180 0 15 (dk_at dksX0_quotient_0 17 rfl rfl)
theorem dX0_quotient_20 : decode cX0_quotient 20 = .ok (.iload_n 1, 1) := dk_27 (dk_at dksX0_quotient_0 20 rfl rfl)
theorem dX0_quotient_21 : decode cX0_quotient 21 = .ok (.iconst 1, 1) := dk_4 (dk_at dksX0_quotient_0 21 rfl rfl)
theorem dX0_quotient_22 : decode cX0_quotient 22 = .ok (.iand, 1) := dk_126 (dk_at dksX0_quotient_0 22 rfl rfl)
theorem dX0_quotient_23 : decode cX0_quotient 23 = .ok (.aaload, 1) := dk_50 (dk_at dksX0_quotient_0 23 rfl rfl)
theorem dX0_quotient_24 : decode cX0_quotient 24 = .ok (.iload 4, 2) := dk_21 4 (dk_at dksX0_quotient_1 0 rfl rfl)
theorem dX0_quotient_26 : decode cX0_quotient 26 = .ok (.iload_n 1, 1) := dk_27 (dk_at dksX0_quotient_1 2 rfl rfl)
theorem dX0_quotient_27 : decode cX0_quotient 27 = .ok (.iload_n 2, 1) := dk_28 (dk_at dksX0_quotient_1 3 rfl rfl)
theorem dX0_quotient_28 : decode cX0_quotient 28 = .ok (.invokestatic 21, 3) := dk_184 0 21 (dk_at dksX0_quotient_1 4 rfl rfl)
theorem dX0_quotient_31 : decode cX0_quotient 31 = .ok (.invokevirtual 36, 3) := dk_182 0 36 (dk_at dksX0_quotient_1 7 rfl rfl)
theorem dX0_quotient_34 : decode cX0_quotient 34 = .ok (.ireturn, 1) := dk_172 (dk_at dksX0_quotient_1 10 rfl rfl)
abbrev cX0_product : ByteArray := prog_5_method_7_code
def yX0_product : MethodName := ⟨RX0, "product", "(IIIII)I"⟩
def dkwX0_product_2 : List UInt8 := [172]
abbrev dktX0_product_2 : List UInt8 := dkwX0_product_2 ++ []
def dkwX0_product_1 : List UInt8 := [182, 0, 39, 25, 6, 27, 21, 4, 184, 0, 21, 27, 21, 5, 184, 0, 21, 182, 0, 39, 130, 182, 0, 43]
abbrev dktX0_product_1 : List UInt8 := dkwX0_product_1 ++ dktX0_product_2
def dkwX0_product_0 : List UInt8 := [42, 180, 0, 15, 27, 4, 126, 50, 58, 6, 25, 6, 25, 6, 27, 28, 184, 0, 21, 27, 29, 184, 0, 21]
abbrev dktX0_product_0 : List UInt8 := dkwX0_product_0 ++ dktX0_product_1
theorem dksX0_product_0 : cX0_product.data.toList.drop 0 = dktX0_product_0 := by decide +kernel
theorem dksX0_product_1 : cX0_product.data.toList.drop 24 = dktX0_product_1 := dk_seg dksX0_product_0 24 rfl rfl
theorem dksX0_product_2 : cX0_product.data.toList.drop 48 = dktX0_product_2 := dk_seg dksX0_product_1 24 rfl rfl
theorem dX0_product_0 : decode cX0_product 0 = .ok (.aload_n 0, 1) := dk_42 (dk_at dksX0_product_0 0 rfl rfl)
theorem dX0_product_1 : decode cX0_product 1 = .ok (.getfield 15, 3) := dk_180 0 15 (dk_at dksX0_product_0 1 rfl rfl)
theorem dX0_product_4 : decode cX0_product 4 = .ok (.iload_n 1, 1) := dk_27 (dk_at dksX0_product_0 4 rfl rfl)
theorem dX0_product_5 : decode cX0_product 5 = .ok (.iconst 1, 1) := dk_4 (dk_at dksX0_product_0 5 rfl rfl)
theorem dX0_product_6 : decode cX0_product 6 = .ok (.iand, 1) := dk_126 (dk_at dksX0_product_0 6 rfl rfl)
theorem dX0_product_7 : decode cX0_product 7 = .ok (.aaload, 1) := dk_50 (dk_at dksX0_product_0 7 rfl rfl)
theorem dX0_product_8 : decode cX0_product 8 = .ok (.astore 6, 2) := dk_58 6 (dk_at dksX0_product_0 8 rfl rfl)
theorem dX0_product_10 : decode cX0_product 10 = .ok (.aload 6, 2) := dk_25 6 (dk_at dksX0_product_0 10 rfl rfl)
theorem dX0_product_12 : decode cX0_product 12 = .ok (.aload 6, 2) := dk_25 6 (dk_at dksX0_product_0 12 rfl rfl)
theorem dX0_product_14 : decode cX0_product 14 = .ok (.iload_n 1, 1) := dk_27 (dk_at dksX0_product_0 14 rfl rfl)
theorem dX0_product_15 : decode cX0_product 15 = .ok (.iload_n 2, 1) := dk_28 (dk_at dksX0_product_0 15 rfl rfl)
theorem dX0_product_16 : decode cX0_product 16 = .ok (.invokestatic 21, 3) := dk_184 0 21 (dk_at dksX0_product_0 16 rfl rfl)
theorem dX0_product_19 : decode cX0_product 19 = .ok (.iload_n 1, 1) := dk_27 (dk_at dksX0_product_0 19 rfl rfl)
theorem dX0_product_20 : decode cX0_product 20 = .ok (.iload_n 3, 1) := dk_29 (dk_at dksX0_product_0 20 rfl rfl)
theorem dX0_product_21 : decode cX0_product 21 = .ok (.invokestatic 21, 3) := dk_184 0 21 (dk_at dksX0_product_0 21 rfl rfl)
theorem dX0_product_24 : decode cX0_product 24 = .ok (.invokevirtual 39, 3) := dk_182 0 39 (dk_at dksX0_product_1 0 rfl rfl)
theorem dX0_product_27 : decode cX0_product 27 = .ok (.aload 6, 2) := dk_25 6 (dk_at dksX0_product_1 3 rfl rfl)
theorem dX0_product_29 : decode cX0_product 29 = .ok (.iload_n 1, 1) := dk_27 (dk_at dksX0_product_1 5 rfl rfl)
theorem dX0_product_30 : decode cX0_product 30 = .ok (.iload 4, 2) := dk_21 4 (dk_at dksX0_product_1 6 rfl rfl)
theorem dX0_product_32 : decode cX0_product 32 = .ok (.invokestatic 21, 3) := dk_184 0 21 (dk_at dksX0_product_1 8 rfl rfl)
theorem dX0_product_35 : decode cX0_product 35 = .ok (.iload_n 1, 1) := dk_27 (dk_at dksX0_product_1 11 rfl rfl)
theorem dX0_product_36 : decode cX0_product 36 = .ok (.iload 5, 2) := dk_21 5 (dk_at dksX0_product_1 12 rfl rfl)
theorem dX0_product_38 : decode cX0_product 38 = .ok (.invokestatic 21, 3) := dk_184 0 21 (dk_at dksX0_product_1 14 rfl rfl)
theorem dX0_product_41 : decode cX0_product 41 = .ok (.invokevirtual 39, 3) := dk_182 0 39 (dk_at dksX0_product_1 17 rfl rfl)
theorem dX0_product_44 : decode cX0_product 44 = .ok (.ixor, 1) := dk_130 (dk_at dksX0_product_1 20 rfl rfl)
theorem dX0_product_45 : decode cX0_product 45 = .ok (.invokevirtual 43, 3) := dk_182 0 43 (dk_at dksX0_product_1 21 rfl rfl)
theorem dX0_product_48 : decode cX0_product 48 = .ok (.ireturn, 1) := dk_172 (dk_at dksX0_product_2 0 rfl rfl)
abbrev cX0_wideSquare : ByteArray := prog_5_method_8_code
def yX0_wideSquare : MethodName := ⟨RX0, "wideSquare", "(II)I"⟩
def dkwX0_wideSquare_0 : List UInt8 := [42, 180, 0, 15, 27, 4, 126, 50, 78, 45, 45, 27, 28, 184, 0, 21, 182, 0, 47, 182, 0, 43, 172]
abbrev dktX0_wideSquare_0 : List UInt8 := dkwX0_wideSquare_0 ++ []
theorem dksX0_wideSquare_0 : cX0_wideSquare.data.toList.drop 0 = dktX0_wideSquare_0 := by decide +kernel
theorem dX0_wideSquare_0 : decode cX0_wideSquare 0 = .ok (.aload_n 0, 1) := dk_42 (dk_at dksX0_wideSquare_0 0 rfl rfl)
theorem dX0_wideSquare_1 : decode cX0_wideSquare 1 = .ok (.getfield 15, 3) := dk_180 0 15 (dk_at dksX0_wideSquare_0 1 rfl rfl)
theorem dX0_wideSquare_4 : decode cX0_wideSquare 4 = .ok (.iload_n 1, 1) := dk_27 (dk_at dksX0_wideSquare_0 4 rfl rfl)
theorem dX0_wideSquare_5 : decode cX0_wideSquare 5 = .ok (.iconst 1, 1) := dk_4 (dk_at dksX0_wideSquare_0 5 rfl rfl)
theorem dX0_wideSquare_6 : decode cX0_wideSquare 6 = .ok (.iand, 1) := dk_126 (dk_at dksX0_wideSquare_0 6 rfl rfl)
theorem dX0_wideSquare_7 : decode cX0_wideSquare 7 = .ok (.aaload, 1) := dk_50 (dk_at dksX0_wideSquare_0 7 rfl rfl)
theorem dX0_wideSquare_8 : decode cX0_wideSquare 8 = .ok (.astore_n 3, 1) := dk_78 (dk_at dksX0_wideSquare_0 8 rfl rfl)
theorem dX0_wideSquare_9 : decode cX0_wideSquare 9 = .ok (.aload_n 3, 1) := dk_45 (dk_at dksX0_wideSquare_0 9 rfl rfl)
theorem dX0_wideSquare_10 : decode cX0_wideSquare 10 = .ok (.aload_n 3, 1) := dk_45 (dk_at dksX0_wideSquare_0 10 rfl rfl)
theorem dX0_wideSquare_11 : decode cX0_wideSquare 11 = .ok (.iload_n 1, 1) := dk_27 (dk_at dksX0_wideSquare_0 11 rfl rfl)
theorem dX0_wideSquare_12 : decode cX0_wideSquare 12 = .ok (.iload_n 2, 1) := dk_28 (dk_at dksX0_wideSquare_0 12 rfl rfl)
theorem dX0_wideSquare_13 : decode cX0_wideSquare 13 = .ok (.invokestatic 21, 3) := dk_184 0 21 (dk_at dksX0_wideSquare_0 13 rfl rfl)
theorem dX0_wideSquare_16 : decode cX0_wideSquare 16 = .ok (.invokevirtual 47, 3) := dk_182 0 47 (dk_at dksX0_wideSquare_0 16 rfl rfl)
theorem dX0_wideSquare_19 : decode cX0_wideSquare 19 = .ok (.invokevirtual 43, 3) := dk_182 0 43 (dk_at dksX0_wideSquare_0 19 rfl rfl)
theorem dX0_wideSquare_22 : decode cX0_wideSquare 22 = .ok (.ireturn, 1) := dk_172 (dk_at dksX0_wideSquare_0 22 rfl rfl)
abbrev cX0_nought : ByteArray := prog_5_method_9_code
def yX0_nought : MethodName := ⟨RX0, "nought", "(II)Z"⟩
def dkwX0_nought_1 : List UInt8 := [172]
abbrev dktX0_nought_1 : List UInt8 := dkwX0_nought_1 ++ []
def dkwX0_nought_0 : List UInt8 := [42, 180, 0, 15, 27, 4, 126, 50, 27, 28, 184, 0, 21, 182, 0, 51, 153, 0, 7, 4, 167, 0, 4, 3]
abbrev dktX0_nought_0 : List UInt8 := dkwX0_nought_0 ++ dktX0_nought_1
theorem dksX0_nought_0 : cX0_nought.data.toList.drop 0 = dktX0_nought_0 := by decide +kernel
theorem dksX0_nought_1 : cX0_nought.data.toList.drop 24 = dktX0_nought_1 := dk_seg dksX0_nought_0 24 rfl rfl
theorem dX0_nought_0 : decode cX0_nought 0 = .ok (.aload_n 0, 1) := dk_42 (dk_at dksX0_nought_0 0 rfl rfl)
theorem dX0_nought_1 : decode cX0_nought 1 = .ok (.getfield 15, 3) := dk_180 0 15 (dk_at dksX0_nought_0 1 rfl rfl)
theorem dX0_nought_4 : decode cX0_nought 4 = .ok (.iload_n 1, 1) := dk_27 (dk_at dksX0_nought_0 4 rfl rfl)
theorem dX0_nought_5 : decode cX0_nought 5 = .ok (.iconst 1, 1) := dk_4 (dk_at dksX0_nought_0 5 rfl rfl)
theorem dX0_nought_6 : decode cX0_nought 6 = .ok (.iand, 1) := dk_126 (dk_at dksX0_nought_0 6 rfl rfl)
theorem dX0_nought_7 : decode cX0_nought 7 = .ok (.aaload, 1) := dk_50 (dk_at dksX0_nought_0 7 rfl rfl)
theorem dX0_nought_8 : decode cX0_nought 8 = .ok (.iload_n 1, 1) := dk_27 (dk_at dksX0_nought_0 8 rfl rfl)
theorem dX0_nought_9 : decode cX0_nought 9 = .ok (.iload_n 2, 1) := dk_28 (dk_at dksX0_nought_0 9 rfl rfl)
theorem dX0_nought_10 : decode cX0_nought 10 = .ok (.invokestatic 21, 3) := dk_184 0 21 (dk_at dksX0_nought_0 10 rfl rfl)
theorem dX0_nought_13 : decode cX0_nought 13 = .ok (.invokevirtual 51, 3) := dk_182 0 51 (dk_at dksX0_nought_0 13 rfl rfl)
theorem dX0_nought_16 : decode cX0_nought 16 = .ok (.ifCond .eq 7, 3) := dk_153 0 7 (dk_at dksX0_nought_0 16 rfl rfl)
theorem dX0_nought_19 : decode cX0_nought 19 = .ok (.iconst 1, 1) := dk_4 (dk_at dksX0_nought_0 19 rfl rfl)
theorem dX0_nought_20 : decode cX0_nought 20 = .ok (.goto 4, 3) := dk_167 0 4 (dk_at dksX0_nought_0 20 rfl rfl)
theorem dX0_nought_23 : decode cX0_nought 23 = .ok (.iconst 0, 1) := dk_3 (dk_at dksX0_nought_0 23 rfl rfl)
theorem dX0_nought_24 : decode cX0_nought 24 = .ok (.ireturn, 1) := dk_172 (dk_at dksX0_nought_1 0 rfl rfl)
theorem q4 : (Jvm.Cond.initialized "SmallFields") ∈ lw_all := lw_g (lw_at lw_m0 1 rfl) rfl
theorem q11 : (Jvm.Cond.instantiable "SmallFields" (1 : Nat)) ∈ lw_all := lw_g (lw_at lw_m0 8 rfl) rfl
theorem q13 : (Jvm.Cond.instanceMethod ({ cls := "SmallFields", name := "<init>", desc := "()V" } : Jvm.MethodName)) ∈ lw_all := lw_g (lw_at lw_m0 10 rfl) rfl
theorem q14 : (Jvm.Cond.code ({ cls := "SmallFields", name := "<init>", desc := "()V" } : Jvm.MethodName) prog_5_method_1_code (1 : Nat) (Option.none : Option Jvm.ClassFile.FieldType)) ∈ lw_all := lw_g (lw_at lw_m0 11 rfl) rfl
theorem q15 : (Jvm.Cond.methodLink "SmallFields" (1 : Nat) ({ cls := "java/lang/Object", name := "<init>", desc := "()V" } : Jvm.MethodName)) ∈ lw_all := lw_g (lw_at lw_m0 12 rfl) rfl
theorem q18 : (Jvm.Cond.classLink "SmallFields" (7 : Nat) "GF") ∈ lw_all := lw_g (lw_at lw_m0 15 rfl) rfl
theorem q20 : (Jvm.Cond.classLink "SmallFields" (9 : Nat) "GF12") ∈ lw_all := lw_g (lw_at lw_m0 17 rfl) rfl
theorem q22 : (Jvm.Cond.methodLink "SmallFields" (11 : Nat) ({ cls := "GF12", name := "<init>", desc := "()V" } : Jvm.MethodName)) ∈ lw_all := lw_g (lw_at lw_m0 19 rfl) rfl
theorem q30 : (Jvm.Cond.classLink "SmallFields" (12 : Nat) "GF13") ∈ lw_all := lw_g (lw_at lw_m0 27 rfl) rfl
theorem q32 : (Jvm.Cond.methodLink "SmallFields" (14 : Nat) ({ cls := "GF13", name := "<init>", desc := "()V" } : Jvm.MethodName)) ∈ lw_all := lw_g (lw_at lw_m0 29 rfl) rfl
theorem q37 : (Jvm.Cond.fieldLink "SmallFields" (15 : Nat) "SmallFields" "fields" "[LGF;") ∈ lw_all := lw_g (lw_at lw_m0 34 rfl) rfl
theorem q38 : (Jvm.Cond.laysFinal "SmallFields" "SmallFields" "fields" "[LGF;") ∈ lw_all := lw_g (lw_at lw_m0 35 rfl) rfl
theorem q39 : (Jvm.Cond.soleField "SmallFields" "fields") ∈ lw_all := lw_g (lw_at lw_m0 36 rfl) rfl
theorem q40 : (Jvm.Cond.superclass "SmallFields" "java/lang/Object") ∈ lw_all := lw_g (lw_at lw_m0 37 rfl) rfl
theorem q42 : (Jvm.Cond.instanceMethod ({ cls := "SmallFields", name := "multiply", desc := "(III)I" } : Jvm.MethodName)) ∈ lw_all := lw_g (lw_at lw_m0 39 rfl) rfl
theorem q43 : (Jvm.Cond.selects "SmallFields" ({ cls := "SmallFields", name := "multiply", desc := "(III)I" } : Jvm.MethodName) ({ cls := "SmallFields", name := "multiply", desc := "(III)I" } : Jvm.MethodName)) ∈ lw_all := lw_g (lw_at lw_m0 40 rfl) rfl
theorem q44 : (Jvm.Cond.code ({ cls := "SmallFields", name := "multiply", desc := "(III)I" } : Jvm.MethodName) prog_5_method_3_code (4 : Nat) (Option.some Jvm.ClassFile.FieldType.int)) ∈ lw_all := lw_g (lw_at lw_m0 41 rfl) rfl
theorem q45 : (Jvm.Cond.methodLink "SmallFields" (21 : Nat) ({ cls := "SmallFields", name := "fair", desc := "(II)S" } : Jvm.MethodName)) ∈ lw_all := lw_g (lw_at lw_m0 42 rfl) rfl
theorem q46 : (Jvm.Cond.static ({ cls := "SmallFields", name := "fair", desc := "(II)S" } : Jvm.MethodName)) ∈ lw_all := lw_g (lw_at lw_m0 43 rfl) rfl
theorem q47 : (Jvm.Cond.code ({ cls := "SmallFields", name := "fair", desc := "(II)S" } : Jvm.MethodName) prog_5_method_2_code (2 : Nat) (Option.some Jvm.ClassFile.FieldType.short)) ∈ lw_all := lw_g (lw_at lw_m0 44 rfl) rfl
theorem q48 : (Jvm.Cond.methodLink "SmallFields" (25 : Nat) ({ cls := "GF", name := "gf_mul", desc := "(SS)S" } : Jvm.MethodName)) ∈ lw_all := lw_g (lw_at lw_m0 45 rfl) rfl
theorem q68 : (Jvm.Cond.instanceMethod ({ cls := "SmallFields", name := "square", desc := "(II)I" } : Jvm.MethodName)) ∈ lw_all := lw_g (lw_at lw_m0 65 rfl) rfl
theorem q69 : (Jvm.Cond.selects "SmallFields" ({ cls := "SmallFields", name := "square", desc := "(II)I" } : Jvm.MethodName) ({ cls := "SmallFields", name := "square", desc := "(II)I" } : Jvm.MethodName)) ∈ lw_all := lw_g (lw_at lw_m0 66 rfl) rfl
theorem q70 : (Jvm.Cond.code ({ cls := "SmallFields", name := "square", desc := "(II)I" } : Jvm.MethodName) prog_5_method_4_code (3 : Nat) (Option.some Jvm.ClassFile.FieldType.int)) ∈ lw_all := lw_g (lw_at lw_m0 67 rfl) rfl
theorem q71 : (Jvm.Cond.methodLink "SmallFields" (29 : Nat) ({ cls := "GF", name := "gf_sq", desc := "(S)S" } : Jvm.MethodName)) ∈ lw_all := lw_g (lw_at lw_m0 68 rfl) rfl
theorem q90 : (Jvm.Cond.instanceMethod ({ cls := "SmallFields", name := "inverse", desc := "(II)I" } : Jvm.MethodName)) ∈ lw_all := lw_g (lw_at lw_m0 87 rfl) rfl
theorem q91 : (Jvm.Cond.selects "SmallFields" ({ cls := "SmallFields", name := "inverse", desc := "(II)I" } : Jvm.MethodName) ({ cls := "SmallFields", name := "inverse", desc := "(II)I" } : Jvm.MethodName)) ∈ lw_all := lw_g (lw_at lw_m0 88 rfl) rfl
theorem q92 : (Jvm.Cond.code ({ cls := "SmallFields", name := "inverse", desc := "(II)I" } : Jvm.MethodName) prog_5_method_5_code (4 : Nat) (Option.some Jvm.ClassFile.FieldType.int)) ∈ lw_all := lw_g (lw_at lw_m0 89 rfl) rfl
theorem q93 : (Jvm.Cond.methodLink "SmallFields" (33 : Nat) ({ cls := "GF", name := "gf_inv", desc := "(S)S" } : Jvm.MethodName)) ∈ lw_all := lw_g (lw_at lw_m0 90 rfl) rfl
theorem q138 : (Jvm.Cond.instanceMethod ({ cls := "SmallFields", name := "quotient", desc := "(III)I" } : Jvm.MethodName)) ∈ lw_all := lw_g (lw_at lw_m0 135 rfl) rfl
theorem q139 : (Jvm.Cond.selects "SmallFields" ({ cls := "SmallFields", name := "quotient", desc := "(III)I" } : Jvm.MethodName) ({ cls := "SmallFields", name := "quotient", desc := "(III)I" } : Jvm.MethodName)) ∈ lw_all := lw_g (lw_at lw_m0 136 rfl) rfl
theorem q140 : (Jvm.Cond.code ({ cls := "SmallFields", name := "quotient", desc := "(III)I" } : Jvm.MethodName) prog_5_method_6_code (5 : Nat) (Option.some Jvm.ClassFile.FieldType.int)) ∈ lw_all := lw_g (lw_at lw_m0 137 rfl) rfl
theorem q141 : (Jvm.Cond.methodLink "SmallFields" (36 : Nat) ({ cls := "GF", name := "gf_frac", desc := "(SS)S" } : Jvm.MethodName)) ∈ lw_all := lw_g (lw_at lw_m0 138 rfl) rfl
theorem q150 : (Jvm.Cond.instanceMethod ({ cls := "SmallFields", name := "product", desc := "(IIIII)I" } : Jvm.MethodName)) ∈ lw_all := lw_g (lw_at lw_m0 147 rfl) rfl
theorem q151 : (Jvm.Cond.selects "SmallFields" ({ cls := "SmallFields", name := "product", desc := "(IIIII)I" } : Jvm.MethodName) ({ cls := "SmallFields", name := "product", desc := "(IIIII)I" } : Jvm.MethodName)) ∈ lw_all := lw_g (lw_at lw_m0 148 rfl) rfl
theorem q152 : (Jvm.Cond.code ({ cls := "SmallFields", name := "product", desc := "(IIIII)I" } : Jvm.MethodName) prog_5_method_7_code (7 : Nat) (Option.some Jvm.ClassFile.FieldType.int)) ∈ lw_all := lw_g (lw_at lw_m0 149 rfl) rfl
theorem q153 : (Jvm.Cond.methodLink "SmallFields" (39 : Nat) ({ cls := "GF", name := "gf_mul_ext", desc := "(SS)I" } : Jvm.MethodName)) ∈ lw_all := lw_g (lw_at lw_m0 150 rfl) rfl
theorem q162 : (Jvm.Cond.methodLink "SmallFields" (43 : Nat) ({ cls := "GF", name := "gf_reduce", desc := "(I)S" } : Jvm.MethodName)) ∈ lw_all := lw_g (lw_at lw_m0 159 rfl) rfl
theorem q168 : (Jvm.Cond.instanceMethod ({ cls := "SmallFields", name := "wideSquare", desc := "(II)I" } : Jvm.MethodName)) ∈ lw_all := lw_g (lw_at lw_m0 165 rfl) rfl
theorem q169 : (Jvm.Cond.selects "SmallFields" ({ cls := "SmallFields", name := "wideSquare", desc := "(II)I" } : Jvm.MethodName) ({ cls := "SmallFields", name := "wideSquare", desc := "(II)I" } : Jvm.MethodName)) ∈ lw_all := lw_g (lw_at lw_m0 166 rfl) rfl
theorem q170 : (Jvm.Cond.code ({ cls := "SmallFields", name := "wideSquare", desc := "(II)I" } : Jvm.MethodName) prog_5_method_8_code (4 : Nat) (Option.some Jvm.ClassFile.FieldType.int)) ∈ lw_all := lw_g (lw_at lw_m0 167 rfl) rfl
theorem q171 : (Jvm.Cond.methodLink "SmallFields" (47 : Nat) ({ cls := "GF", name := "gf_sq_ext", desc := "(S)I" } : Jvm.MethodName)) ∈ lw_all := lw_g (lw_at lw_m0 168 rfl) rfl
theorem q181 : (Jvm.Cond.instanceMethod ({ cls := "SmallFields", name := "nought", desc := "(II)Z" } : Jvm.MethodName)) ∈ lw_all := lw_g (lw_at lw_m0 178 rfl) rfl
theorem q182 : (Jvm.Cond.selects "SmallFields" ({ cls := "SmallFields", name := "nought", desc := "(II)Z" } : Jvm.MethodName) ({ cls := "SmallFields", name := "nought", desc := "(II)Z" } : Jvm.MethodName)) ∈ lw_all := lw_g (lw_at lw_m0 179 rfl) rfl
theorem q183 : (Jvm.Cond.code ({ cls := "SmallFields", name := "nought", desc := "(II)Z" } : Jvm.MethodName) prog_5_method_9_code (3 : Nat) (Option.some Jvm.ClassFile.FieldType.boolean)) ∈ lw_all := lw_g (lw_at lw_m0 180 rfl) rfl
theorem q184 : (Jvm.Cond.methodLink "SmallFields" (51 : Nat) ({ cls := "GF", name := "gf_iszero", desc := "(S)S" } : Jvm.MethodName)) ∈ lw_all := lw_g (lw_at lw_m0 181 rfl) rfl
theorem in_X0 : ∀ w ∈ wsX00, w ∈ lw_all := lw_in wsX00 [38] (by decide +kernel) (by decide +kernel)
theorem q19 : (Jvm.Cond.arrayOver (Jvm.ClassFile.FieldType.object "GF")) ∈ lw_tbl := lw_at lw_m0 16 rfl
set_option maxRecDepth 100000
end
section
/-! GF12 -/
set_option maxRecDepth 100000
def RX2 : String := "GF12"
abbrev cX2_init : ByteArray := prog_2_method_1_code
def yX2_init : MethodName := ⟨RX2, "<init>", "()V"⟩
theorem dX2_init_0 : decode cX2_init 0 = .ok (.aload_n 0, 1) := by decide +kernel
theorem dX2_init_1 : decode cX2_init 1 = .ok (.invokespecial 1, 3) := by decide +kernel
theorem dX2_init_4 : decode cX2_init 4 = .ok (.return_, 1) := by decide +kernel
abbrev cX2_gf_mul : ByteArray := prog_2_method_4_code
def yX2_gf_mul : MethodName := ⟨RX2, "gf_mul", "(SS)S"⟩
def dkwX2_gf_mul_2 : List UInt8 := [182, 0, 20, 172]
abbrev dktX2_gf_mul_2 : List UInt8 := dkwX2_gf_mul_2 ++ []
def dkwX2_gf_mul_1 : List UInt8 := [21, 5, 29, 21, 4, 4, 21, 6, 120, 126, 104, 130, 54, 5, 132, 6, 1, 167, 255, 232, 42, 21, 5]
abbrev dktX2_gf_mul_1 : List UInt8 := dkwX2_gf_mul_1 ++ dktX2_gf_mul_2
def dkwX2_gf_mul_0 : List UInt8 := [27, 62, 28, 54, 4, 29, 21, 4, 4, 126, 104, 54, 5, 4, 54, 6, 21, 6, 16, 12, 162, 0, 23]
abbrev dktX2_gf_mul_0 : List UInt8 := dkwX2_gf_mul_0 ++ dktX2_gf_mul_1
theorem dksX2_gf_mul_0 : cX2_gf_mul.data.toList.drop 0 = dktX2_gf_mul_0 := by decide +kernel
theorem dksX2_gf_mul_1 : cX2_gf_mul.data.toList.drop 23 = dktX2_gf_mul_1 := dk_seg dksX2_gf_mul_0 23 rfl rfl
theorem dksX2_gf_mul_2 : cX2_gf_mul.data.toList.drop 46 = dktX2_gf_mul_2 := dk_seg dksX2_gf_mul_1 23 rfl rfl
theorem dX2_gf_mul_0 : decode cX2_gf_mul 0 = .ok (.iload_n 1, 1) := dk_27 (dk_at dksX2_gf_mul_0 0 rfl rfl)
theorem dX2_gf_mul_1 : decode cX2_gf_mul 1 = .ok (.istore_n 3, 1) := dk_62 (dk_at dksX2_gf_mul_0 1 rfl rfl)
theorem dX2_gf_mul_2 : decode cX2_gf_mul 2 = .ok (.iload_n 2, 1) := dk_28 (dk_at dksX2_gf_mul_0 2 rfl rfl)
theorem dX2_gf_mul_3 : decode cX2_gf_mul 3 = .ok (.istore 4, 2) := dk_54 4 (dk_at dksX2_gf_mul_0 3 rfl rfl)
theorem dX2_gf_mul_5 : decode cX2_gf_mul 5 = .ok (.iload_n 3, 1) := dk_29 (dk_at dksX2_gf_mul_0 5 rfl rfl)
theorem dX2_gf_mul_6 : decode cX2_gf_mul 6 = .ok (.iload 4, 2) := dk_21 4 (dk_at dksX2_gf_mul_0 6 rfl rfl)
theorem dX2_gf_mul_8 : decode cX2_gf_mul 8 = .ok (.iconst 1, 1) := dk_4 (dk_at dksX2_gf_mul_0 8 rfl rfl)
theorem dX2_gf_mul_9 : decode cX2_gf_mul 9 = .ok (.iand, 1) := dk_126 (dk_at dksX2_gf_mul_0 9 rfl rfl)
theorem dX2_gf_mul_10 : decode cX2_gf_mul 10 = .ok (.imul, 1) := dk_104 (dk_at dksX2_gf_mul_0 10 rfl rfl)
theorem dX2_gf_mul_11 : decode cX2_gf_mul 11 = .ok (.istore 5, 2) := dk_54 5 (dk_at dksX2_gf_mul_0 11 rfl rfl)
theorem dX2_gf_mul_13 : decode cX2_gf_mul 13 = .ok (.iconst 1, 1) := dk_4 (dk_at dksX2_gf_mul_0 13 rfl rfl)
theorem dX2_gf_mul_14 : decode cX2_gf_mul 14 = .ok (.istore 6, 2) := dk_54 6 (dk_at dksX2_gf_mul_0 14 rfl rfl)
theorem dX2_gf_mul_16 : decode cX2_gf_mul 16 = .ok (.iload 6, 2) := dk_21 6 (dk_at dksX2_gf_mul_0 16 rfl rfl)
theorem dX2_gf_mul_18 : decode cX2_gf_mul 18 = .ok (.bipush 12, 2) := dk_16 12 (dk_at dksX2_gf_mul_0 18 rfl rfl)
theorem dX2_gf_mul_20 : decode cX2_gf_mul 20 = .ok (.if_icmp .ge 23, 3) := dk_162 0 23 (dk_at dksX2_gf_mul_0 20 rfl rfl)
theorem dX2_gf_mul_23 : decode cX2_gf_mul 23 = .ok (.iload 5, 2) := dk_21 5 (dk_at dksX2_gf_mul_1 0 rfl rfl)
theorem dX2_gf_mul_25 : decode cX2_gf_mul 25 = .ok (.iload_n 3, 1) := dk_29 (dk_at dksX2_gf_mul_1 2 rfl rfl)
theorem dX2_gf_mul_26 : decode cX2_gf_mul 26 = .ok (.iload 4, 2) := dk_21 4 (dk_at dksX2_gf_mul_1 3 rfl rfl)
theorem dX2_gf_mul_28 : decode cX2_gf_mul 28 = .ok (.iconst 1, 1) := dk_4 (dk_at dksX2_gf_mul_1 5 rfl rfl)
theorem dX2_gf_mul_29 : decode cX2_gf_mul 29 = .ok (.iload 6, 2) := dk_21 6 (dk_at dksX2_gf_mul_1 6 rfl rfl)
theorem dX2_gf_mul_31 : decode cX2_gf_mul 31 = .ok (.ishl, 1) := dk_120 (dk_at dksX2_gf_mul_1 8 rfl rfl)
theorem dX2_gf_mul_32 : decode cX2_gf_mul 32 = .ok (.iand, 1) := dk_126 (dk_at dksX2_gf_mul_1 9 rfl rfl)
theorem dX2_gf_mul_33 : decode cX2_gf_mul 33 = .ok (.imul, 1) := dk_104 (dk_at dksX2_gf_mul_1 10 rfl rfl)
theorem dX2_gf_mul_34 : decode cX2_gf_mul 34 = .ok (.ixor, 1) := dk_130 (dk_at dksX2_gf_mul_1 11 rfl rfl)
theorem dX2_gf_mul_35 : decode cX2_gf_mul 35 = .ok (.istore 5, 2) := dk_54 5 (dk_at dksX2_gf_mul_1 12 rfl rfl)
theorem dX2_gf_mul_37 : decode cX2_gf_mul 37 = .ok (.iinc 6 1, 3) := dk_132 6 1 (dk_at dksX2_gf_mul_1 14 rfl rfl)
theorem dX2_gf_mul_40 : decode cX2_gf_mul 40 = .ok (.goto (-24), 3) := dk_167 255 232 (dk_at dksX2_gf_mul_1 17 rfl rfl)
theorem dX2_gf_mul_43 : decode cX2_gf_mul 43 = .ok (.aload_n 0, 1) := dk_42 (dk_at dksX2_gf_mul_1 20 rfl rfl)
theorem dX2_gf_mul_44 : decode cX2_gf_mul 44 = .ok (.iload 5, 2) := dk_21 5 (dk_at dksX2_gf_mul_1 21 rfl rfl)
theorem dX2_gf_mul_46 : decode cX2_gf_mul 46 = .ok (.invokevirtual 20, 3) := dk_182 0 20 (dk_at dksX2_gf_mul_2 0 rfl rfl)
theorem dX2_gf_mul_49 : decode cX2_gf_mul 49 = .ok (.ireturn, 1) := dk_172 (dk_at dksX2_gf_mul_2 3 rfl rfl)
abbrev cX2_gf_reduce : ByteArray := prog_2_method_6_code
def yX2_gf_reduce : MethodName := ⟨RX2, "gf_reduce", "(I)S"⟩
def dkwX2_gf_reduce_2 : List UInt8 := [172]
abbrev dktX2_gf_reduce_2 : List UInt8 := dkwX2_gf_reduce_2 ++ []
def dkwX2_gf_reduce_1 : List UInt8 := [16, 18, 124, 54, 5, 27, 16, 21, 124, 54, 6, 28, 29, 130, 21, 4, 130, 21, 5, 130, 21, 6, 130, 147]
abbrev dktX2_gf_reduce_1 : List UInt8 := dkwX2_gf_reduce_1 ++ dktX2_gf_reduce_2
def dkwX2_gf_reduce_0 : List UInt8 := [27, 17, 15, 255, 126, 61, 27, 16, 12, 124, 62, 27, 18, 24, 126, 16, 9, 124, 54, 4, 27, 18, 25, 126]
abbrev dktX2_gf_reduce_0 : List UInt8 := dkwX2_gf_reduce_0 ++ dktX2_gf_reduce_1
theorem dksX2_gf_reduce_0 : cX2_gf_reduce.data.toList.drop 0 = dktX2_gf_reduce_0 := by decide +kernel
theorem dksX2_gf_reduce_1 : cX2_gf_reduce.data.toList.drop 24 = dktX2_gf_reduce_1 := dk_seg dksX2_gf_reduce_0 24 rfl rfl
theorem dksX2_gf_reduce_2 : cX2_gf_reduce.data.toList.drop 48 = dktX2_gf_reduce_2 := dk_seg dksX2_gf_reduce_1 24 rfl rfl
theorem dX2_gf_reduce_0 : decode cX2_gf_reduce 0 = .ok (.iload_n 1, 1) := dk_27 (dk_at dksX2_gf_reduce_0 0 rfl rfl)
theorem dX2_gf_reduce_1 : decode cX2_gf_reduce 1 = .ok (.sipush 4095, 3) := dk_17 15 255 (dk_at dksX2_gf_reduce_0 1 rfl rfl)
theorem dX2_gf_reduce_4 : decode cX2_gf_reduce 4 = .ok (.iand, 1) := dk_126 (dk_at dksX2_gf_reduce_0 4 rfl rfl)
theorem dX2_gf_reduce_5 : decode cX2_gf_reduce 5 = .ok (.istore_n 2, 1) := dk_61 (dk_at dksX2_gf_reduce_0 5 rfl rfl)
theorem dX2_gf_reduce_6 : decode cX2_gf_reduce 6 = .ok (.iload_n 1, 1) := dk_27 (dk_at dksX2_gf_reduce_0 6 rfl rfl)
theorem dX2_gf_reduce_7 : decode cX2_gf_reduce 7 = .ok (.bipush 12, 2) := dk_16 12 (dk_at dksX2_gf_reduce_0 7 rfl rfl)
theorem dX2_gf_reduce_9 : decode cX2_gf_reduce 9 = .ok (.iushr, 1) := dk_124 (dk_at dksX2_gf_reduce_0 9 rfl rfl)
theorem dX2_gf_reduce_10 : decode cX2_gf_reduce 10 = .ok (.istore_n 3, 1) := dk_62 (dk_at dksX2_gf_reduce_0 10 rfl rfl)
theorem dX2_gf_reduce_11 : decode cX2_gf_reduce 11 = .ok (.iload_n 1, 1) := dk_27 (dk_at dksX2_gf_reduce_0 11 rfl rfl)
theorem dX2_gf_reduce_12 : decode cX2_gf_reduce 12 = .ok (.ldc 24, 2) := dk_18 24 (dk_at dksX2_gf_reduce_0 12 rfl rfl)
theorem dX2_gf_reduce_14 : decode cX2_gf_reduce 14 = .ok (.iand, 1) := dk_126 (dk_at dksX2_gf_reduce_0 14 rfl rfl)
theorem dX2_gf_reduce_15 : decode cX2_gf_reduce 15 = .ok (.bipush 9, 2) := dk_16 9 (dk_at dksX2_gf_reduce_0 15 rfl rfl)
theorem dX2_gf_reduce_17 : decode cX2_gf_reduce 17 = .ok (.iushr, 1) := dk_124 (dk_at dksX2_gf_reduce_0 17 rfl rfl)
theorem dX2_gf_reduce_18 : decode cX2_gf_reduce 18 = .ok (.istore 4, 2) := dk_54 4 (dk_at dksX2_gf_reduce_0 18 rfl rfl)
theorem dX2_gf_reduce_20 : decode cX2_gf_reduce 20 = .ok (.iload_n 1, 1) := dk_27 (dk_at dksX2_gf_reduce_0 20 rfl rfl)
theorem dX2_gf_reduce_21 : decode cX2_gf_reduce 21 = .ok (.ldc 25, 2) := dk_18 25 (dk_at dksX2_gf_reduce_0 21 rfl rfl)
theorem dX2_gf_reduce_23 : decode cX2_gf_reduce 23 = .ok (.iand, 1) := dk_126 (dk_at dksX2_gf_reduce_0 23 rfl rfl)
theorem dX2_gf_reduce_24 : decode cX2_gf_reduce 24 = .ok (.bipush 18, 2) := dk_16 18 (dk_at dksX2_gf_reduce_1 0 rfl rfl)
theorem dX2_gf_reduce_26 : decode cX2_gf_reduce 26 = .ok (.iushr, 1) := dk_124 (dk_at dksX2_gf_reduce_1 2 rfl rfl)
theorem dX2_gf_reduce_27 : decode cX2_gf_reduce 27 = .ok (.istore 5, 2) := dk_54 5 (dk_at dksX2_gf_reduce_1 3 rfl rfl)
theorem dX2_gf_reduce_29 : decode cX2_gf_reduce 29 = .ok (.iload_n 1, 1) := dk_27 (dk_at dksX2_gf_reduce_1 5 rfl rfl)
theorem dX2_gf_reduce_30 : decode cX2_gf_reduce 30 = .ok (.bipush 21, 2) := dk_16 21 (dk_at dksX2_gf_reduce_1 6 rfl rfl)
theorem dX2_gf_reduce_32 : decode cX2_gf_reduce 32 = .ok (.iushr, 1) := dk_124 (dk_at dksX2_gf_reduce_1 8 rfl rfl)
theorem dX2_gf_reduce_33 : decode cX2_gf_reduce 33 = .ok (.istore 6, 2) := dk_54 6 (dk_at dksX2_gf_reduce_1 9 rfl rfl)
theorem dX2_gf_reduce_35 : decode cX2_gf_reduce 35 = .ok (.iload_n 2, 1) := dk_28 (dk_at dksX2_gf_reduce_1 11 rfl rfl)
theorem dX2_gf_reduce_36 : decode cX2_gf_reduce 36 = .ok (.iload_n 3, 1) := dk_29 (dk_at dksX2_gf_reduce_1 12 rfl rfl)
theorem dX2_gf_reduce_37 : decode cX2_gf_reduce 37 = .ok (.ixor, 1) := dk_130 (dk_at dksX2_gf_reduce_1 13 rfl rfl)
theorem dX2_gf_reduce_38 : decode cX2_gf_reduce 38 = .ok (.iload 4, 2) := dk_21 4 (dk_at dksX2_gf_reduce_1 14 rfl rfl)
theorem dX2_gf_reduce_40 : decode cX2_gf_reduce 40 = .ok (.ixor, 1) := dk_130 (dk_at dksX2_gf_reduce_1 16 rfl rfl)
theorem dX2_gf_reduce_41 : decode cX2_gf_reduce 41 = .ok (.iload 5, 2) := dk_21 5 (dk_at dksX2_gf_reduce_1 17 rfl rfl)
theorem dX2_gf_reduce_43 : decode cX2_gf_reduce 43 = .ok (.ixor, 1) := dk_130 (dk_at dksX2_gf_reduce_1 19 rfl rfl)
theorem dX2_gf_reduce_44 : decode cX2_gf_reduce 44 = .ok (.iload 6, 2) := dk_21 6 (dk_at dksX2_gf_reduce_1 20 rfl rfl)
theorem dX2_gf_reduce_46 : decode cX2_gf_reduce 46 = .ok (.ixor, 1) := dk_130 (dk_at dksX2_gf_reduce_1 22 rfl rfl)
theorem dX2_gf_reduce_47 : decode cX2_gf_reduce 47 = .ok (.i2s, 1) := dk_147 (dk_at dksX2_gf_reduce_1 23 rfl rfl)
theorem dX2_gf_reduce_48 : decode cX2_gf_reduce 48 = .ok (.ireturn, 1) := dk_172 (dk_at dksX2_gf_reduce_2 0 rfl rfl)
abbrev cX2_gf_sq : ByteArray := prog_2_method_7_code
def yX2_gf_sq : MethodName := ⟨RX2, "gf_sq", "(S)S"⟩
def dkwX2_gf_sq_0 : List UInt8 := [27, 184, 0, 26, 61, 42, 28, 182, 0, 20, 172]
abbrev dktX2_gf_sq_0 : List UInt8 := dkwX2_gf_sq_0 ++ []
theorem dksX2_gf_sq_0 : cX2_gf_sq.data.toList.drop 0 = dktX2_gf_sq_0 := by decide +kernel
theorem dX2_gf_sq_0 : decode cX2_gf_sq 0 = .ok (.iload_n 1, 1) := dk_27 (dk_at dksX2_gf_sq_0 0 rfl rfl)
theorem dX2_gf_sq_1 : decode cX2_gf_sq 1 = .ok (.invokestatic 26, 3) := dk_184 0 26 (dk_at dksX2_gf_sq_0 1 rfl rfl)
theorem dX2_gf_sq_4 : decode cX2_gf_sq 4 = .ok (.istore_n 2, 1) := dk_61 (dk_at dksX2_gf_sq_0 4 rfl rfl)
theorem dX2_gf_sq_5 : decode cX2_gf_sq 5 = .ok (.aload_n 0, 1) := dk_42 (dk_at dksX2_gf_sq_0 5 rfl rfl)
theorem dX2_gf_sq_6 : decode cX2_gf_sq 6 = .ok (.iload_n 2, 1) := dk_28 (dk_at dksX2_gf_sq_0 6 rfl rfl)
theorem dX2_gf_sq_7 : decode cX2_gf_sq 7 = .ok (.invokevirtual 20, 3) := dk_182 0 20 (dk_at dksX2_gf_sq_0 7 rfl rfl)
theorem dX2_gf_sq_10 : decode cX2_gf_sq 10 = .ok (.ireturn, 1) := dk_172 (dk_at dksX2_gf_sq_0 10 rfl rfl)
abbrev cX2_gf_inv : ByteArray := prog_2_method_3_code
def yX2_gf_inv : MethodName := ⟨RX2, "gf_inv", "(S)S"⟩
def dkwX2_gf_inv_5 : List UInt8 := [21, 4, 27, 182, 0, 13, 54, 4, 42, 21, 4, 182, 0, 17, 172]
abbrev dktX2_gf_inv_5 : List UInt8 := dkwX2_gf_inv_5 ++ []
def dkwX2_gf_inv_4 : List UInt8 := [182, 0, 17, 54, 4, 42, 21, 4, 28, 182, 0, 13, 54, 4, 42, 21, 4, 182, 0, 17, 54, 4, 42]
abbrev dktX2_gf_inv_4 : List UInt8 := dkwX2_gf_inv_4 ++ dktX2_gf_inv_5
def dkwX2_gf_inv_3 : List UInt8 := [54, 4, 42, 21, 4, 29, 182, 0, 13, 54, 4, 42, 21, 4, 182, 0, 17, 54, 4, 42, 21, 4]
abbrev dktX2_gf_inv_3 : List UInt8 := dkwX2_gf_inv_3 ++ dktX2_gf_inv_4
def dkwX2_gf_inv_2 : List UInt8 := [54, 4, 42, 21, 4, 182, 0, 17, 54, 4, 42, 21, 4, 182, 0, 17, 54, 4, 42, 21, 4, 182, 0, 17]
abbrev dktX2_gf_inv_2 : List UInt8 := dkwX2_gf_inv_2 ++ dktX2_gf_inv_3
def dkwX2_gf_inv_1 : List UInt8 := [54, 4, 42, 21, 4, 182, 0, 17, 54, 4, 42, 21, 4, 28, 182, 0, 13, 62, 42, 29, 182, 0, 17]
abbrev dktX2_gf_inv_1 : List UInt8 := dkwX2_gf_inv_1 ++ dktX2_gf_inv_2
def dkwX2_gf_inv_0 : List UInt8 := [27, 54, 4, 42, 21, 4, 182, 0, 17, 54, 4, 42, 21, 4, 27, 182, 0, 13, 61, 42, 28, 182, 0, 17]
abbrev dktX2_gf_inv_0 : List UInt8 := dkwX2_gf_inv_0 ++ dktX2_gf_inv_1
theorem dksX2_gf_inv_0 : cX2_gf_inv.data.toList.drop 0 = dktX2_gf_inv_0 := by decide +kernel
theorem dksX2_gf_inv_1 : cX2_gf_inv.data.toList.drop 24 = dktX2_gf_inv_1 := dk_seg dksX2_gf_inv_0 24 rfl rfl
theorem dksX2_gf_inv_2 : cX2_gf_inv.data.toList.drop 47 = dktX2_gf_inv_2 := dk_seg dksX2_gf_inv_1 23 rfl rfl
theorem dksX2_gf_inv_3 : cX2_gf_inv.data.toList.drop 71 = dktX2_gf_inv_3 := dk_seg dksX2_gf_inv_2 24 rfl rfl
theorem dksX2_gf_inv_4 : cX2_gf_inv.data.toList.drop 93 = dktX2_gf_inv_4 := dk_seg dksX2_gf_inv_3 22 rfl rfl
theorem dksX2_gf_inv_5 : cX2_gf_inv.data.toList.drop 116 = dktX2_gf_inv_5 := dk_seg dksX2_gf_inv_4 23 rfl rfl
theorem dX2_gf_inv_0 : decode cX2_gf_inv 0 = .ok (.iload_n 1, 1) := dk_27 (dk_at dksX2_gf_inv_0 0 rfl rfl)
theorem dX2_gf_inv_1 : decode cX2_gf_inv 1 = .ok (.istore 4, 2) := dk_54 4 (dk_at dksX2_gf_inv_0 1 rfl rfl)
theorem dX2_gf_inv_3 : decode cX2_gf_inv 3 = .ok (.aload_n 0, 1) := dk_42 (dk_at dksX2_gf_inv_0 3 rfl rfl)
theorem dX2_gf_inv_4 : decode cX2_gf_inv 4 = .ok (.iload 4, 2) := dk_21 4 (dk_at dksX2_gf_inv_0 4 rfl rfl)
theorem dX2_gf_inv_6 : decode cX2_gf_inv 6 = .ok (.invokevirtual 17, 3) := dk_182 0 17 (dk_at dksX2_gf_inv_0 6 rfl rfl)
theorem dX2_gf_inv_9 : decode cX2_gf_inv 9 = .ok (.istore 4, 2) := dk_54 4 (dk_at dksX2_gf_inv_0 9 rfl rfl)
theorem dX2_gf_inv_11 : decode cX2_gf_inv 11 = .ok (.aload_n 0, 1) := dk_42 (dk_at dksX2_gf_inv_0 11 rfl rfl)
theorem dX2_gf_inv_12 : decode cX2_gf_inv 12 = .ok (.iload 4, 2) := dk_21 4 (dk_at dksX2_gf_inv_0 12 rfl rfl)
theorem dX2_gf_inv_14 : decode cX2_gf_inv 14 = .ok (.iload_n 1, 1) := dk_27 (dk_at dksX2_gf_inv_0 14 rfl rfl)
theorem dX2_gf_inv_15 : decode cX2_gf_inv 15 = .ok (.invokevirtual 13, 3) := dk_182 0 13 (dk_at dksX2_gf_inv_0 15 rfl rfl)
theorem dX2_gf_inv_18 : decode cX2_gf_inv 18 = .ok (.istore_n 2, 1) := dk_61 (dk_at dksX2_gf_inv_0 18 rfl rfl)
theorem dX2_gf_inv_19 : decode cX2_gf_inv 19 = .ok (.aload_n 0, 1) := dk_42 (dk_at dksX2_gf_inv_0 19 rfl rfl)
theorem dX2_gf_inv_20 : decode cX2_gf_inv 20 = .ok (.iload_n 2, 1) := dk_28 (dk_at dksX2_gf_inv_0 20 rfl rfl)
theorem dX2_gf_inv_21 : decode cX2_gf_inv 21 = .ok (.invokevirtual 17, 3) := dk_182 0 17 (dk_at dksX2_gf_inv_0 21 rfl rfl)
theorem dX2_gf_inv_24 : decode cX2_gf_inv 24 = .ok (.istore 4, 2) := dk_54 4 (dk_at dksX2_gf_inv_1 0 rfl rfl)
theorem dX2_gf_inv_26 : decode cX2_gf_inv 26 = .ok (.aload_n 0, 1) := dk_42 (dk_at dksX2_gf_inv_1 2 rfl rfl)
theorem dX2_gf_inv_27 : decode cX2_gf_inv 27 = .ok (.iload 4, 2) := dk_21 4 (dk_at dksX2_gf_inv_1 3 rfl rfl)
theorem dX2_gf_inv_29 : decode cX2_gf_inv 29 = .ok (.invokevirtual 17, 3) := dk_182 0 17 (dk_at dksX2_gf_inv_1 5 rfl rfl)
theorem dX2_gf_inv_32 : decode cX2_gf_inv 32 = .ok (.istore 4, 2) := dk_54 4 (dk_at dksX2_gf_inv_1 8 rfl rfl)
theorem dX2_gf_inv_34 : decode cX2_gf_inv 34 = .ok (.aload_n 0, 1) := dk_42 (dk_at dksX2_gf_inv_1 10 rfl rfl)
theorem dX2_gf_inv_35 : decode cX2_gf_inv 35 = .ok (.iload 4, 2) := dk_21 4 (dk_at dksX2_gf_inv_1 11 rfl rfl)
theorem dX2_gf_inv_37 : decode cX2_gf_inv 37 = .ok (.iload_n 2, 1) := dk_28 (dk_at dksX2_gf_inv_1 13 rfl rfl)
theorem dX2_gf_inv_38 : decode cX2_gf_inv 38 = .ok (.invokevirtual 13, 3) := dk_182 0 13 (dk_at dksX2_gf_inv_1 14 rfl rfl)
theorem dX2_gf_inv_41 : decode cX2_gf_inv 41 = .ok (.istore_n 3, 1) := dk_62 (dk_at dksX2_gf_inv_1 17 rfl rfl)
theorem dX2_gf_inv_42 : decode cX2_gf_inv 42 = .ok (.aload_n 0, 1) := dk_42 (dk_at dksX2_gf_inv_1 18 rfl rfl)
theorem dX2_gf_inv_43 : decode cX2_gf_inv 43 = .ok (.iload_n 3, 1) := dk_29 (dk_at dksX2_gf_inv_1 19 rfl rfl)
theorem dX2_gf_inv_44 : decode cX2_gf_inv 44 = .ok (.invokevirtual 17, 3) := dk_182 0 17 (dk_at dksX2_gf_inv_1 20 rfl rfl)
theorem dX2_gf_inv_47 : decode cX2_gf_inv 47 = .ok (.istore 4, 2) := dk_54 4 (dk_at dksX2_gf_inv_2 0 rfl rfl)
theorem dX2_gf_inv_49 : decode cX2_gf_inv 49 = .ok (.aload_n 0, 1) := dk_42 (dk_at dksX2_gf_inv_2 2 rfl rfl)
theorem dX2_gf_inv_50 : decode cX2_gf_inv 50 = .ok (.iload 4, 2) := dk_21 4 (dk_at dksX2_gf_inv_2 3 rfl rfl)
theorem dX2_gf_inv_52 : decode cX2_gf_inv 52 = .ok (.invokevirtual 17, 3) := dk_182 0 17 (dk_at dksX2_gf_inv_2 5 rfl rfl)
theorem dX2_gf_inv_55 : decode cX2_gf_inv 55 = .ok (.istore 4, 2) := dk_54 4 (dk_at dksX2_gf_inv_2 8 rfl rfl)
theorem dX2_gf_inv_57 : decode cX2_gf_inv 57 = .ok (.aload_n 0, 1) := dk_42 (dk_at dksX2_gf_inv_2 10 rfl rfl)
theorem dX2_gf_inv_58 : decode cX2_gf_inv 58 = .ok (.iload 4, 2) := dk_21 4 (dk_at dksX2_gf_inv_2 11 rfl rfl)
theorem dX2_gf_inv_60 : decode cX2_gf_inv 60 = .ok (.invokevirtual 17, 3) := dk_182 0 17 (dk_at dksX2_gf_inv_2 13 rfl rfl)
theorem dX2_gf_inv_63 : decode cX2_gf_inv 63 = .ok (.istore 4, 2) := dk_54 4 (dk_at dksX2_gf_inv_2 16 rfl rfl)
theorem dX2_gf_inv_65 : decode cX2_gf_inv 65 = .ok (.aload_n 0, 1) := dk_42 (dk_at dksX2_gf_inv_2 18 rfl rfl)
theorem dX2_gf_inv_66 : decode cX2_gf_inv 66 = .ok (.iload 4, 2) := dk_21 4 (dk_at dksX2_gf_inv_2 19 rfl rfl)
theorem dX2_gf_inv_68 : decode cX2_gf_inv 68 = .ok (.invokevirtual 17, 3) := dk_182 0 17 (dk_at dksX2_gf_inv_2 21 rfl rfl)
theorem dX2_gf_inv_71 : decode cX2_gf_inv 71 = .ok (.istore 4, 2) := dk_54 4 (dk_at dksX2_gf_inv_3 0 rfl rfl)
theorem dX2_gf_inv_73 : decode cX2_gf_inv 73 = .ok (.aload_n 0, 1) := dk_42 (dk_at dksX2_gf_inv_3 2 rfl rfl)
theorem dX2_gf_inv_74 : decode cX2_gf_inv 74 = .ok (.iload 4, 2) := dk_21 4 (dk_at dksX2_gf_inv_3 3 rfl rfl)
theorem dX2_gf_inv_76 : decode cX2_gf_inv 76 = .ok (.iload_n 3, 1) := dk_29 (dk_at dksX2_gf_inv_3 5 rfl rfl)
theorem dX2_gf_inv_77 : decode cX2_gf_inv 77 = .ok (.invokevirtual 13, 3) := dk_182 0 13 (dk_at dksX2_gf_inv_3 6 rfl rfl)
theorem dX2_gf_inv_80 : decode cX2_gf_inv 80 = .ok (.istore 4, 2) := dk_54 4 (dk_at dksX2_gf_inv_3 9 rfl rfl)
theorem dX2_gf_inv_82 : decode cX2_gf_inv 82 = .ok (.aload_n 0, 1) := dk_42 (dk_at dksX2_gf_inv_3 11 rfl rfl)
theorem dX2_gf_inv_83 : decode cX2_gf_inv 83 = .ok (.iload 4, 2) := dk_21 4 (dk_at dksX2_gf_inv_3 12 rfl rfl)
theorem dX2_gf_inv_85 : decode cX2_gf_inv 85 = .ok (.invokevirtual 17, 3) := dk_182 0 17 (dk_at dksX2_gf_inv_3 14 rfl rfl)
theorem dX2_gf_inv_88 : decode cX2_gf_inv 88 = .ok (.istore 4, 2) := dk_54 4 (dk_at dksX2_gf_inv_3 17 rfl rfl)
theorem dX2_gf_inv_90 : decode cX2_gf_inv 90 = .ok (.aload_n 0, 1) := dk_42 (dk_at dksX2_gf_inv_3 19 rfl rfl)
theorem dX2_gf_inv_91 : decode cX2_gf_inv 91 = .ok (.iload 4, 2) := dk_21 4 (dk_at dksX2_gf_inv_3 20 rfl rfl)
theorem dX2_gf_inv_93 : decode cX2_gf_inv 93 = .ok (.invokevirtual 17, 3) := dk_182 0 17 (dk_at dksX2_gf_inv_4 0 rfl rfl)
theorem dX2_gf_inv_96 : decode cX2_gf_inv 96 = .ok (.istore 4, 2) := dk_54 4 (dk_at dksX2_gf_inv_4 3 rfl rfl)
theorem dX2_gf_inv_98 : decode cX2_gf_inv 98 = .ok (.aload_n 0, 1) := dk_42 (dk_at dksX2_gf_inv_4 5 rfl rfl)
theorem dX2_gf_inv_99 : decode cX2_gf_inv 99 = .ok (.iload 4, 2) := dk_21 4 (dk_at dksX2_gf_inv_4 6 rfl rfl)
theorem dX2_gf_inv_101 : decode cX2_gf_inv 101 = .ok (.iload_n 2, 1) := dk_28 (dk_at dksX2_gf_inv_4 8 rfl rfl)
theorem dX2_gf_inv_102 : decode cX2_gf_inv 102 = .ok (.invokevirtual 13, 3) := dk_182 0 13 (dk_at dksX2_gf_inv_4 9 rfl rfl)
theorem dX2_gf_inv_105 : decode cX2_gf_inv 105 = .ok (.istore 4, 2) := dk_54 4 (dk_at dksX2_gf_inv_4 12 rfl rfl)
theorem dX2_gf_inv_107 : decode cX2_gf_inv 107 = .ok (.aload_n 0, 1) := dk_42 (dk_at dksX2_gf_inv_4 14 rfl rfl)
theorem dX2_gf_inv_108 : decode cX2_gf_inv 108 = .ok (.iload 4, 2) := dk_21 4 (dk_at dksX2_gf_inv_4 15 rfl rfl)
theorem dX2_gf_inv_110 : decode cX2_gf_inv 110 = .ok (.invokevirtual 17, 3) := dk_182 0 17 (dk_at dksX2_gf_inv_4 17 rfl rfl)
theorem dX2_gf_inv_113 : decode cX2_gf_inv 113 = .ok (.istore 4, 2) := dk_54 4 (dk_at dksX2_gf_inv_4 20 rfl rfl)
theorem dX2_gf_inv_115 : decode cX2_gf_inv 115 = .ok (.aload_n 0, 1) := dk_42 (dk_at dksX2_gf_inv_4 22 rfl rfl)
theorem dX2_gf_inv_116 : decode cX2_gf_inv 116 = .ok (.iload 4, 2) := dk_21 4 (dk_at dksX2_gf_inv_5 0 rfl rfl)
theorem dX2_gf_inv_118 : decode cX2_gf_inv 118 = .ok (.iload_n 1, 1) := dk_27 (dk_at dksX2_gf_inv_5 2 rfl rfl)
theorem dX2_gf_inv_119 : decode cX2_gf_inv 119 = .ok (.invokevirtual 13, 3) := dk_182 0 13 (dk_at dksX2_gf_inv_5 3 rfl rfl)
theorem dX2_gf_inv_122 : decode cX2_gf_inv 122 = .ok (.istore 4, 2) := dk_54 4 (dk_at dksX2_gf_inv_5 6 rfl rfl)
theorem dX2_gf_inv_124 : decode cX2_gf_inv 124 = .ok (.aload_n 0, 1) := dk_42 (dk_at dksX2_gf_inv_5 8 rfl rfl)
theorem dX2_gf_inv_125 : decode cX2_gf_inv 125 = .ok (.iload 4, 2) := dk_21 4 (dk_at dksX2_gf_inv_5 9 rfl rfl)
theorem dX2_gf_inv_127 : decode cX2_gf_inv 127 = .ok (.invokevirtual 17, 3) := dk_182 0 17 (dk_at dksX2_gf_inv_5 11 rfl rfl)
theorem dX2_gf_inv_130 : decode cX2_gf_inv 130 = .ok (.ireturn, 1) := dk_172 (dk_at dksX2_gf_inv_5 14 rfl rfl)
abbrev cX2_gf_frac : ByteArray := prog_2_method_2_code
def yX2_gf_frac : MethodName := ⟨RX2, "gf_frac", "(SS)S"⟩
def dkwX2_gf_frac_0 : List UInt8 := [42, 42, 27, 182, 0, 7, 28, 182, 0, 13, 172]
abbrev dktX2_gf_frac_0 : List UInt8 := dkwX2_gf_frac_0 ++ []
theorem dksX2_gf_frac_0 : cX2_gf_frac.data.toList.drop 0 = dktX2_gf_frac_0 := by decide +kernel
theorem dX2_gf_frac_0 : decode cX2_gf_frac 0 = .ok (.aload_n 0, 1) := dk_42 (dk_at dksX2_gf_frac_0 0 rfl rfl)
theorem dX2_gf_frac_1 : decode cX2_gf_frac 1 = .ok (.aload_n 0, 1) := dk_42 (dk_at dksX2_gf_frac_0 1 rfl rfl)
theorem dX2_gf_frac_2 : decode cX2_gf_frac 2 = .ok (.iload_n 1, 1) := dk_27 (dk_at dksX2_gf_frac_0 2 rfl rfl)
theorem dX2_gf_frac_3 : decode cX2_gf_frac 3 = .ok (.invokevirtual 7, 3) := dk_182 0 7 (dk_at dksX2_gf_frac_0 3 rfl rfl)
theorem dX2_gf_frac_6 : decode cX2_gf_frac 6 = .ok (.iload_n 2, 1) := dk_28 (dk_at dksX2_gf_frac_0 6 rfl rfl)
theorem dX2_gf_frac_7 : decode cX2_gf_frac 7 = .ok (.invokevirtual 13, 3) := dk_182 0 13 (dk_at dksX2_gf_frac_0 7 rfl rfl)
theorem dX2_gf_frac_10 : decode cX2_gf_frac 10 = .ok (.ireturn, 1) := dk_172 (dk_at dksX2_gf_frac_0 10 rfl rfl)
abbrev cX2_gf_mul_ext : ByteArray := prog_2_method_5_code
def yX2_gf_mul_ext : MethodName := ⟨RX2, "gf_mul_ext", "(SS)I"⟩
def dkwX2_gf_mul_ext_1 : List UInt8 := [21, 5, 29, 21, 4, 4, 21, 6, 120, 126, 104, 130, 54, 5, 132, 6, 1, 167, 255, 232, 21, 5, 172]
abbrev dktX2_gf_mul_ext_1 : List UInt8 := dkwX2_gf_mul_ext_1 ++ []
def dkwX2_gf_mul_ext_0 : List UInt8 := [27, 62, 28, 54, 4, 29, 21, 4, 4, 126, 104, 54, 5, 4, 54, 6, 21, 6, 16, 12, 162, 0, 23]
abbrev dktX2_gf_mul_ext_0 : List UInt8 := dkwX2_gf_mul_ext_0 ++ dktX2_gf_mul_ext_1
theorem dksX2_gf_mul_ext_0 : cX2_gf_mul_ext.data.toList.drop 0 = dktX2_gf_mul_ext_0 := by decide +kernel
theorem dksX2_gf_mul_ext_1 : cX2_gf_mul_ext.data.toList.drop 23 = dktX2_gf_mul_ext_1 := dk_seg dksX2_gf_mul_ext_0 23 rfl rfl
theorem dX2_gf_mul_ext_0 : decode cX2_gf_mul_ext 0 = .ok (.iload_n 1, 1) := dk_27 (dk_at dksX2_gf_mul_ext_0 0 rfl rfl)
theorem dX2_gf_mul_ext_1 : decode cX2_gf_mul_ext 1 = .ok (.istore_n 3, 1) := dk_62 (dk_at dksX2_gf_mul_ext_0 1 rfl rfl)
theorem dX2_gf_mul_ext_2 : decode cX2_gf_mul_ext 2 = .ok (.iload_n 2, 1) := dk_28 (dk_at dksX2_gf_mul_ext_0 2 rfl rfl)
theorem dX2_gf_mul_ext_3 : decode cX2_gf_mul_ext 3 = .ok (.istore 4, 2) := dk_54 4 (dk_at dksX2_gf_mul_ext_0 3 rfl rfl)
theorem dX2_gf_mul_ext_5 : decode cX2_gf_mul_ext 5 = .ok (.iload_n 3, 1) := dk_29 (dk_at dksX2_gf_mul_ext_0 5 rfl rfl)
theorem dX2_gf_mul_ext_6 : decode cX2_gf_mul_ext 6 = .ok (.iload 4, 2) := dk_21 4 (dk_at dksX2_gf_mul_ext_0 6 rfl rfl)
theorem dX2_gf_mul_ext_8 : decode cX2_gf_mul_ext 8 = .ok (.iconst 1, 1) := dk_4 (dk_at dksX2_gf_mul_ext_0 8 rfl rfl)
theorem dX2_gf_mul_ext_9 : decode cX2_gf_mul_ext 9 = .ok (.iand, 1) := dk_126 (dk_at dksX2_gf_mul_ext_0 9 rfl rfl)
theorem dX2_gf_mul_ext_10 : decode cX2_gf_mul_ext 10 = .ok (.imul, 1) := dk_104 (dk_at dksX2_gf_mul_ext_0 10 rfl rfl)
theorem dX2_gf_mul_ext_11 : decode cX2_gf_mul_ext 11 = .ok (.istore 5, 2) := dk_54 5 (dk_at dksX2_gf_mul_ext_0 11 rfl rfl)
theorem dX2_gf_mul_ext_13 : decode cX2_gf_mul_ext 13 = .ok (.iconst 1, 1) := dk_4 (dk_at dksX2_gf_mul_ext_0 13 rfl rfl)
theorem dX2_gf_mul_ext_14 : decode cX2_gf_mul_ext 14 = .ok (.istore 6, 2) := dk_54 6 (dk_at dksX2_gf_mul_ext_0 14 rfl rfl)
theorem dX2_gf_mul_ext_16 : decode cX2_gf_mul_ext 16 = .ok (.iload 6, 2) := dk_21 6 (dk_at dksX2_gf_mul_ext_0 16 rfl rfl)
theorem dX2_gf_mul_ext_18 : decode cX2_gf_mul_ext 18 = .ok (.bipush 12, 2) := dk_16 12 (dk_at dksX2_gf_mul_ext_0 18 rfl rfl)
theorem dX2_gf_mul_ext_20 : decode cX2_gf_mul_ext 20 = .ok (.if_icmp .ge 23, 3) := dk_162 0 23 (dk_at dksX2_gf_mul_ext_0 20 rfl rfl)
theorem dX2_gf_mul_ext_23 : decode cX2_gf_mul_ext 23 = .ok (.iload 5, 2) := dk_21 5 (dk_at dksX2_gf_mul_ext_1 0 rfl rfl)
theorem dX2_gf_mul_ext_25 : decode cX2_gf_mul_ext 25 = .ok (.iload_n 3, 1) := dk_29 (dk_at dksX2_gf_mul_ext_1 2 rfl rfl)
theorem dX2_gf_mul_ext_26 : decode cX2_gf_mul_ext 26 = .ok (.iload 4, 2) := dk_21 4 (dk_at dksX2_gf_mul_ext_1 3 rfl rfl)
theorem dX2_gf_mul_ext_28 : decode cX2_gf_mul_ext 28 = .ok (.iconst 1, 1) := dk_4 (dk_at dksX2_gf_mul_ext_1 5 rfl rfl)
theorem dX2_gf_mul_ext_29 : decode cX2_gf_mul_ext 29 = .ok (.iload 6, 2) := dk_21 6 (dk_at dksX2_gf_mul_ext_1 6 rfl rfl)
theorem dX2_gf_mul_ext_31 : decode cX2_gf_mul_ext 31 = .ok (.ishl, 1) := dk_120 (dk_at dksX2_gf_mul_ext_1 8 rfl rfl)
theorem dX2_gf_mul_ext_32 : decode cX2_gf_mul_ext 32 = .ok (.iand, 1) := dk_126 (dk_at dksX2_gf_mul_ext_1 9 rfl rfl)
theorem dX2_gf_mul_ext_33 : decode cX2_gf_mul_ext 33 = .ok (.imul, 1) := dk_104 (dk_at dksX2_gf_mul_ext_1 10 rfl rfl)
theorem dX2_gf_mul_ext_34 : decode cX2_gf_mul_ext 34 = .ok (.ixor, 1) := dk_130 (dk_at dksX2_gf_mul_ext_1 11 rfl rfl)
theorem dX2_gf_mul_ext_35 : decode cX2_gf_mul_ext 35 = .ok (.istore 5, 2) := dk_54 5 (dk_at dksX2_gf_mul_ext_1 12 rfl rfl)
theorem dX2_gf_mul_ext_37 : decode cX2_gf_mul_ext 37 = .ok (.iinc 6 1, 3) := dk_132 6 1 (dk_at dksX2_gf_mul_ext_1 14 rfl rfl)
theorem dX2_gf_mul_ext_40 : decode cX2_gf_mul_ext 40 = .ok (.goto (-24), 3) := dk_167 255 232 (dk_at dksX2_gf_mul_ext_1 17 rfl rfl)
theorem dX2_gf_mul_ext_43 : decode cX2_gf_mul_ext 43 = .ok (.iload 5, 2) := dk_21 5 (dk_at dksX2_gf_mul_ext_1 20 rfl rfl)
theorem dX2_gf_mul_ext_45 : decode cX2_gf_mul_ext 45 = .ok (.ireturn, 1) := dk_172 (dk_at dksX2_gf_mul_ext_1 22 rfl rfl)
abbrev cX2_gf_sq_ext : ByteArray := prog_2_method_8_code
def yX2_gf_sq_ext : MethodName := ⟨RX2, "gf_sq_ext", "(S)I"⟩
theorem dX2_gf_sq_ext_0 : decode cX2_gf_sq_ext 0 = .ok (.iload_n 1, 1) := by decide +kernel
theorem dX2_gf_sq_ext_1 : decode cX2_gf_sq_ext 1 = .ok (.invokestatic 26, 3) := by decide +kernel
theorem dX2_gf_sq_ext_4 : decode cX2_gf_sq_ext 4 = .ok (.ireturn, 1) := by decide +kernel
theorem q6 : (Jvm.Cond.initialized "GF12") ∈ lw_all := lw_g (lw_at lw_m0 3 rfl) rfl
theorem q21 : (Jvm.Cond.instantiable "GF12" (0 : Nat)) ∈ lw_all := lw_g (lw_at lw_m0 18 rfl) rfl
theorem q23 : (Jvm.Cond.instanceMethod ({ cls := "GF12", name := "<init>", desc := "()V" } : Jvm.MethodName)) ∈ lw_all := lw_g (lw_at lw_m0 20 rfl) rfl
theorem q24 : (Jvm.Cond.code ({ cls := "GF12", name := "<init>", desc := "()V" } : Jvm.MethodName) prog_2_method_1_code (1 : Nat) (Option.none : Option Jvm.ClassFile.FieldType)) ∈ lw_all := lw_g (lw_at lw_m0 21 rfl) rfl
theorem q25 : (Jvm.Cond.methodLink "GF12" (1 : Nat) ({ cls := "GF", name := "<init>", desc := "()V" } : Jvm.MethodName)) ∈ lw_all := lw_g (lw_at lw_m0 22 rfl) rfl
theorem q29 : (Jvm.Cond.superclass "GF12" "GF") ∈ lw_all := lw_g (lw_at lw_m0 26 rfl) rfl
theorem q51 : (Jvm.Cond.selects "GF12" ({ cls := "GF", name := "gf_mul", desc := "(SS)S" } : Jvm.MethodName) ({ cls := "GF12", name := "gf_mul", desc := "(SS)S" } : Jvm.MethodName)) ∈ lw_all := lw_g (lw_at lw_m0 48 rfl) rfl
theorem q52 : (Jvm.Cond.instanceMethod ({ cls := "GF12", name := "gf_mul", desc := "(SS)S" } : Jvm.MethodName)) ∈ lw_all := lw_g (lw_at lw_m0 49 rfl) rfl
theorem q53 : (Jvm.Cond.code ({ cls := "GF12", name := "gf_mul", desc := "(SS)S" } : Jvm.MethodName) prog_2_method_4_code (7 : Nat) (Option.some Jvm.ClassFile.FieldType.short)) ∈ lw_all := lw_g (lw_at lw_m0 50 rfl) rfl
theorem q54 : (Jvm.Cond.methodLink "GF12" (20 : Nat) ({ cls := "GF12", name := "gf_reduce", desc := "(I)S" } : Jvm.MethodName)) ∈ lw_all := lw_g (lw_at lw_m0 51 rfl) rfl
theorem q55 : (Jvm.Cond.instanceMethod ({ cls := "GF12", name := "gf_reduce", desc := "(I)S" } : Jvm.MethodName)) ∈ lw_all := lw_g (lw_at lw_m0 52 rfl) rfl
theorem q56 : (Jvm.Cond.selects "GF12" ({ cls := "GF12", name := "gf_reduce", desc := "(I)S" } : Jvm.MethodName) ({ cls := "GF12", name := "gf_reduce", desc := "(I)S" } : Jvm.MethodName)) ∈ lw_all := lw_g (lw_at lw_m0 53 rfl) rfl
theorem q57 : (Jvm.Cond.code ({ cls := "GF12", name := "gf_reduce", desc := "(I)S" } : Jvm.MethodName) prog_2_method_6_code (7 : Nat) (Option.some Jvm.ClassFile.FieldType.short)) ∈ lw_all := lw_g (lw_at lw_m0 54 rfl) rfl
theorem q58 : (Jvm.Cond.constant "GF12" (24 : Nat) (2093056 : Int32)) ∈ lw_all := lw_g (lw_at lw_m0 55 rfl) rfl
theorem q59 : (Jvm.Cond.constant "GF12" (25 : Nat) (14680064 : Int32)) ∈ lw_all := lw_g (lw_at lw_m0 56 rfl) rfl
theorem q74 : (Jvm.Cond.selects "GF12" ({ cls := "GF", name := "gf_sq", desc := "(S)S" } : Jvm.MethodName) ({ cls := "GF12", name := "gf_sq", desc := "(S)S" } : Jvm.MethodName)) ∈ lw_all := lw_g (lw_at lw_m0 71 rfl) rfl
theorem q75 : (Jvm.Cond.instanceMethod ({ cls := "GF12", name := "gf_sq", desc := "(S)S" } : Jvm.MethodName)) ∈ lw_all := lw_g (lw_at lw_m0 72 rfl) rfl
theorem q76 : (Jvm.Cond.code ({ cls := "GF12", name := "gf_sq", desc := "(S)S" } : Jvm.MethodName) prog_2_method_7_code (3 : Nat) (Option.some Jvm.ClassFile.FieldType.short)) ∈ lw_all := lw_g (lw_at lw_m0 73 rfl) rfl
theorem q77 : (Jvm.Cond.methodLink "GF12" (26 : Nat) ({ cls := "Interleave", name := "expand16to32", desc := "(I)I" } : Jvm.MethodName)) ∈ lw_all := lw_g (lw_at lw_m0 74 rfl) rfl
theorem q96 : (Jvm.Cond.selects "GF12" ({ cls := "GF", name := "gf_inv", desc := "(S)S" } : Jvm.MethodName) ({ cls := "GF12", name := "gf_inv", desc := "(S)S" } : Jvm.MethodName)) ∈ lw_all := lw_g (lw_at lw_m0 93 rfl) rfl
theorem q97 : (Jvm.Cond.instanceMethod ({ cls := "GF12", name := "gf_inv", desc := "(S)S" } : Jvm.MethodName)) ∈ lw_all := lw_g (lw_at lw_m0 94 rfl) rfl
theorem q98 : (Jvm.Cond.code ({ cls := "GF12", name := "gf_inv", desc := "(S)S" } : Jvm.MethodName) prog_2_method_3_code (5 : Nat) (Option.some Jvm.ClassFile.FieldType.short)) ∈ lw_all := lw_g (lw_at lw_m0 95 rfl) rfl
theorem q99 : (Jvm.Cond.methodLink "GF12" (17 : Nat) ({ cls := "GF12", name := "gf_sq", desc := "(S)S" } : Jvm.MethodName)) ∈ lw_all := lw_g (lw_at lw_m0 96 rfl) rfl
theorem q100 : (Jvm.Cond.methodLink "GF12" (13 : Nat) ({ cls := "GF12", name := "gf_mul", desc := "(SS)S" } : Jvm.MethodName)) ∈ lw_all := lw_g (lw_at lw_m0 97 rfl) rfl
theorem q144 : (Jvm.Cond.selects "GF12" ({ cls := "GF", name := "gf_frac", desc := "(SS)S" } : Jvm.MethodName) ({ cls := "GF12", name := "gf_frac", desc := "(SS)S" } : Jvm.MethodName)) ∈ lw_all := lw_g (lw_at lw_m0 141 rfl) rfl
theorem q145 : (Jvm.Cond.instanceMethod ({ cls := "GF12", name := "gf_frac", desc := "(SS)S" } : Jvm.MethodName)) ∈ lw_all := lw_g (lw_at lw_m0 142 rfl) rfl
theorem q146 : (Jvm.Cond.code ({ cls := "GF12", name := "gf_frac", desc := "(SS)S" } : Jvm.MethodName) prog_2_method_2_code (3 : Nat) (Option.some Jvm.ClassFile.FieldType.short)) ∈ lw_all := lw_g (lw_at lw_m0 143 rfl) rfl
theorem q147 : (Jvm.Cond.methodLink "GF12" (7 : Nat) ({ cls := "GF12", name := "gf_inv", desc := "(S)S" } : Jvm.MethodName)) ∈ lw_all := lw_g (lw_at lw_m0 144 rfl) rfl
theorem q156 : (Jvm.Cond.selects "GF12" ({ cls := "GF", name := "gf_mul_ext", desc := "(SS)I" } : Jvm.MethodName) ({ cls := "GF12", name := "gf_mul_ext", desc := "(SS)I" } : Jvm.MethodName)) ∈ lw_all := lw_g (lw_at lw_m0 153 rfl) rfl
theorem q157 : (Jvm.Cond.instanceMethod ({ cls := "GF12", name := "gf_mul_ext", desc := "(SS)I" } : Jvm.MethodName)) ∈ lw_all := lw_g (lw_at lw_m0 154 rfl) rfl
theorem q158 : (Jvm.Cond.code ({ cls := "GF12", name := "gf_mul_ext", desc := "(SS)I" } : Jvm.MethodName) prog_2_method_5_code (7 : Nat) (Option.some Jvm.ClassFile.FieldType.int)) ∈ lw_all := lw_g (lw_at lw_m0 155 rfl) rfl
theorem q165 : (Jvm.Cond.selects "GF12" ({ cls := "GF", name := "gf_reduce", desc := "(I)S" } : Jvm.MethodName) ({ cls := "GF12", name := "gf_reduce", desc := "(I)S" } : Jvm.MethodName)) ∈ lw_all := lw_g (lw_at lw_m0 162 rfl) rfl
theorem q174 : (Jvm.Cond.selects "GF12" ({ cls := "GF", name := "gf_sq_ext", desc := "(S)I" } : Jvm.MethodName) ({ cls := "GF12", name := "gf_sq_ext", desc := "(S)I" } : Jvm.MethodName)) ∈ lw_all := lw_g (lw_at lw_m0 171 rfl) rfl
theorem q175 : (Jvm.Cond.instanceMethod ({ cls := "GF12", name := "gf_sq_ext", desc := "(S)I" } : Jvm.MethodName)) ∈ lw_all := lw_g (lw_at lw_m0 172 rfl) rfl
theorem q176 : (Jvm.Cond.code ({ cls := "GF12", name := "gf_sq_ext", desc := "(S)I" } : Jvm.MethodName) prog_2_method_8_code (2 : Nat) (Option.some Jvm.ClassFile.FieldType.int)) ∈ lw_all := lw_g (lw_at lw_m0 173 rfl) rfl
theorem q187 : (Jvm.Cond.selects "GF12" ({ cls := "GF", name := "gf_iszero", desc := "(S)S" } : Jvm.MethodName) ({ cls := "GF", name := "gf_iszero", desc := "(S)S" } : Jvm.MethodName)) ∈ lw_all := lw_g (lw_at lw_m0 184 rfl) rfl
theorem q232 : (Jvm.Cond.selects "GF12" ({ cls := "GF12", name := "gf_sq", desc := "(S)S" } : Jvm.MethodName) ({ cls := "GF12", name := "gf_sq", desc := "(S)S" } : Jvm.MethodName)) ∈ lw_all := lw_g (lw_at lw_m0 229 rfl) rfl
theorem q233 : (Jvm.Cond.selects "GF12" ({ cls := "GF12", name := "gf_mul", desc := "(SS)S" } : Jvm.MethodName) ({ cls := "GF12", name := "gf_mul", desc := "(SS)S" } : Jvm.MethodName)) ∈ lw_all := lw_g (lw_at lw_m0 230 rfl) rfl
theorem q234 : (Jvm.Cond.selects "GF12" ({ cls := "GF12", name := "gf_inv", desc := "(S)S" } : Jvm.MethodName) ({ cls := "GF12", name := "gf_inv", desc := "(S)S" } : Jvm.MethodName)) ∈ lw_all := lw_g (lw_at lw_m0 231 rfl) rfl
theorem q235 : (Jvm.Cond.castable "GF12" "GF") ∈ lw_tbl := lw_at lw_m0 232 rfl
/-! SmallFieldsModel -/
set_option maxRecDepth 100000
def RX4 : String := "SmallFieldsModel"
abbrev cX4_init : ByteArray := prog_7_method_1_code
def yX4_init : MethodName := ⟨RX4, "<init>", "()V"⟩
theorem dX4_init_0 : decode cX4_init 0 = .ok (.aload_n 0, 1) := by decide +kernel
theorem dX4_init_1 : decode cX4_init 1 = .ok (.invokespecial 1, 3) := by decide +kernel
theorem dX4_init_4 : decode cX4_init 4 = .ok (.return_, 1) := by decide +kernel
abbrev cX4_multiply : ByteArray := prog_7_method_4_code
def yX4_multiply : MethodName := ⟨RX4, "multiply", "(III)I"⟩
def dkwX4_multiply_0 : List UInt8 := [27, 28, 29, 184, 0, 7, 172]
abbrev dktX4_multiply_0 : List UInt8 := dkwX4_multiply_0 ++ []
theorem dksX4_multiply_0 : cX4_multiply.data.toList.drop 0 = dktX4_multiply_0 := by decide +kernel
theorem dX4_multiply_0 : decode cX4_multiply 0 = .ok (.iload_n 1, 1) := dk_27 (dk_at dksX4_multiply_0 0 rfl rfl)
theorem dX4_multiply_1 : decode cX4_multiply 1 = .ok (.iload_n 2, 1) := dk_28 (dk_at dksX4_multiply_0 1 rfl rfl)
theorem dX4_multiply_2 : decode cX4_multiply 2 = .ok (.iload_n 3, 1) := dk_29 (dk_at dksX4_multiply_0 2 rfl rfl)
theorem dX4_multiply_3 : decode cX4_multiply 3 = .ok (.invokestatic 7, 3) := dk_184 0 7 (dk_at dksX4_multiply_0 3 rfl rfl)
theorem dX4_multiply_6 : decode cX4_multiply 6 = .ok (.ireturn, 1) := dk_172 (dk_at dksX4_multiply_0 6 rfl rfl)
abbrev cX4_times : ByteArray := prog_7_method_2_code
def yX4_times : MethodName := ⟨RX4, "times", "(III)I"⟩
def dkwX4_times_4 : List UInt8 := [54, 8, 132, 9, 255, 167, 255, 207, 21, 8, 172]
abbrev dktX4_times_4 : List UInt8 := dkwX4_times_4 ++ []
def dkwX4_times_3 : List UInt8 := [21, 8, 21, 4, 130, 54, 8, 21, 7, 21, 9, 122, 4, 126, 4, 160, 0, 10, 21, 8, 21, 6, 130]
abbrev dktX4_times_3 : List UInt8 := dkwX4_times_3 ++ dktX4_times_4
def dkwX4_times_2 : List UInt8 := [100, 54, 9, 21, 9, 155, 0, 50, 21, 8, 4, 120, 54, 8, 21, 8, 29, 122, 4, 126, 4, 160, 0, 10]
abbrev dktX4_times_2 : List UInt8 := dkwX4_times_2 ++ dktX4_times_3
def dkwX4_times_1 : List UInt8 := [4, 29, 120, 4, 100, 54, 5, 27, 21, 5, 126, 54, 6, 28, 21, 5, 126, 54, 7, 3, 54, 8, 29, 4]
abbrev dktX4_times_1 : List UInt8 := dkwX4_times_1 ++ dktX4_times_2
def dkwX4_times_0 : List UInt8 := [16, 12, 26, 4, 126, 96, 62, 29, 16, 12, 160, 0, 9, 17, 16, 9, 167, 0, 6, 17, 32, 27, 54, 4]
abbrev dktX4_times_0 : List UInt8 := dkwX4_times_0 ++ dktX4_times_1
theorem dksX4_times_0 : cX4_times.data.toList.drop 0 = dktX4_times_0 := by decide +kernel
theorem dksX4_times_1 : cX4_times.data.toList.drop 24 = dktX4_times_1 := dk_seg dksX4_times_0 24 rfl rfl
theorem dksX4_times_2 : cX4_times.data.toList.drop 48 = dktX4_times_2 := dk_seg dksX4_times_1 24 rfl rfl
theorem dksX4_times_3 : cX4_times.data.toList.drop 72 = dktX4_times_3 := dk_seg dksX4_times_2 24 rfl rfl
theorem dksX4_times_4 : cX4_times.data.toList.drop 95 = dktX4_times_4 := dk_seg dksX4_times_3 23 rfl rfl
theorem dX4_times_0 : decode cX4_times 0 = .ok (.bipush 12, 2) := dk_16 12 (dk_at dksX4_times_0 0 rfl rfl)
theorem dX4_times_2 : decode cX4_times 2 = .ok (.iload_n 0, 1) := dk_26 (dk_at dksX4_times_0 2 rfl rfl)
theorem dX4_times_3 : decode cX4_times 3 = .ok (.iconst 1, 1) := dk_4 (dk_at dksX4_times_0 3 rfl rfl)
theorem dX4_times_4 : decode cX4_times 4 = .ok (.iand, 1) := dk_126 (dk_at dksX4_times_0 4 rfl rfl)
theorem dX4_times_5 : decode cX4_times 5 = .ok (.iadd, 1) := dk_96 (dk_at dksX4_times_0 5 rfl rfl)
theorem dX4_times_6 : decode cX4_times 6 = .ok (.istore_n 3, 1) := dk_62 (dk_at dksX4_times_0 6 rfl rfl)
theorem dX4_times_7 : decode cX4_times 7 = .ok (.iload_n 3, 1) := dk_29 (dk_at dksX4_times_0 7 rfl rfl)
theorem dX4_times_8 : decode cX4_times 8 = .ok (.bipush 12, 2) := dk_16 12 (dk_at dksX4_times_0 8 rfl rfl)
theorem dX4_times_10 : decode cX4_times 10 = .ok (.if_icmp .ne 9, 3) := dk_160 0 9 (dk_at dksX4_times_0 10 rfl rfl)
theorem dX4_times_13 : decode cX4_times 13 = .ok (.sipush 4105, 3) := dk_17 16 9 (dk_at dksX4_times_0 13 rfl rfl)
theorem dX4_times_16 : decode cX4_times 16 = .ok (.goto 6, 3) := dk_167 0 6 (dk_at dksX4_times_0 16 rfl rfl)
theorem dX4_times_19 : decode cX4_times 19 = .ok (.sipush 8219, 3) := dk_17 32 27 (dk_at dksX4_times_0 19 rfl rfl)
theorem dX4_times_22 : decode cX4_times 22 = .ok (.istore 4, 2) := dk_54 4 (dk_at dksX4_times_0 22 rfl rfl)
theorem dX4_times_24 : decode cX4_times 24 = .ok (.iconst 1, 1) := dk_4 (dk_at dksX4_times_1 0 rfl rfl)
theorem dX4_times_25 : decode cX4_times 25 = .ok (.iload_n 3, 1) := dk_29 (dk_at dksX4_times_1 1 rfl rfl)
theorem dX4_times_26 : decode cX4_times 26 = .ok (.ishl, 1) := dk_120 (dk_at dksX4_times_1 2 rfl rfl)
theorem dX4_times_27 : decode cX4_times 27 = .ok (.iconst 1, 1) := dk_4 (dk_at dksX4_times_1 3 rfl rfl)
theorem dX4_times_28 : decode cX4_times 28 = .ok (.isub, 1) := dk_100 (dk_at dksX4_times_1 4 rfl rfl)
theorem dX4_times_29 : decode cX4_times 29 = .ok (.istore 5, 2) := dk_54 5 (dk_at dksX4_times_1 5 rfl rfl)
theorem dX4_times_31 : decode cX4_times 31 = .ok (.iload_n 1, 1) := dk_27 (dk_at dksX4_times_1 7 rfl rfl)
theorem dX4_times_32 : decode cX4_times 32 = .ok (.iload 5, 2) := dk_21 5 (dk_at dksX4_times_1 8 rfl rfl)
theorem dX4_times_34 : decode cX4_times 34 = .ok (.iand, 1) := dk_126 (dk_at dksX4_times_1 10 rfl rfl)
theorem dX4_times_35 : decode cX4_times 35 = .ok (.istore 6, 2) := dk_54 6 (dk_at dksX4_times_1 11 rfl rfl)
theorem dX4_times_37 : decode cX4_times 37 = .ok (.iload_n 2, 1) := dk_28 (dk_at dksX4_times_1 13 rfl rfl)
theorem dX4_times_38 : decode cX4_times 38 = .ok (.iload 5, 2) := dk_21 5 (dk_at dksX4_times_1 14 rfl rfl)
theorem dX4_times_40 : decode cX4_times 40 = .ok (.iand, 1) := dk_126 (dk_at dksX4_times_1 16 rfl rfl)
theorem dX4_times_41 : decode cX4_times 41 = .ok (.istore 7, 2) := dk_54 7 (dk_at dksX4_times_1 17 rfl rfl)
theorem dX4_times_43 : decode cX4_times 43 = .ok (.iconst 0, 1) := dk_3 (dk_at dksX4_times_1 19 rfl rfl)
theorem dX4_times_44 : decode cX4_times 44 = .ok (.istore 8, 2) := dk_54 8 (dk_at dksX4_times_1 20 rfl rfl)
theorem dX4_times_46 : decode cX4_times 46 = .ok (.iload_n 3, 1) := dk_29 (dk_at dksX4_times_1 22 rfl rfl)
theorem dX4_times_47 : decode cX4_times 47 = .ok (.iconst 1, 1) := dk_4 (dk_at dksX4_times_1 23 rfl rfl)
theorem dX4_times_48 : decode cX4_times 48 = .ok (.isub, 1) := dk_100 (dk_at dksX4_times_2 0 rfl rfl)
theorem dX4_times_49 : decode cX4_times 49 = .ok (.istore 9, 2) := dk_54 9 (dk_at dksX4_times_2 1 rfl rfl)
theorem dX4_times_51 : decode cX4_times 51 = .ok (.iload 9, 2) := dk_21 9 (dk_at dksX4_times_2 3 rfl rfl)
theorem dX4_times_53 : decode cX4_times 53 = .ok (.ifCond .lt 50, 3) := dk_155 0 50 (dk_at dksX4_times_2 5 rfl rfl)
theorem dX4_times_56 : decode cX4_times 56 = .ok (.iload 8, 2) := dk_21 8 (dk_at dksX4_times_2 8 rfl rfl)
theorem dX4_times_58 : decode cX4_times 58 = .ok (.iconst 1, 1) := dk_4 (dk_at dksX4_times_2 10 rfl rfl)
theorem dX4_times_59 : decode cX4_times 59 = .ok (.ishl, 1) := dk_120 (dk_at dksX4_times_2 11 rfl rfl)
theorem dX4_times_60 : decode cX4_times 60 = .ok (.istore 8, 2) := dk_54 8 (dk_at dksX4_times_2 12 rfl rfl)
theorem dX4_times_62 : decode cX4_times 62 = .ok (.iload 8, 2) := dk_21 8 (dk_at dksX4_times_2 14 rfl rfl)
theorem dX4_times_64 : decode cX4_times 64 = .ok (.iload_n 3, 1) := dk_29 (dk_at dksX4_times_2 16 rfl rfl)
theorem dX4_times_65 : decode cX4_times 65 = .ok (.ishr, 1) := dk_122 (dk_at dksX4_times_2 17 rfl rfl)
theorem dX4_times_66 : decode cX4_times 66 = .ok (.iconst 1, 1) := dk_4 (dk_at dksX4_times_2 18 rfl rfl)
theorem dX4_times_67 : decode cX4_times 67 = .ok (.iand, 1) := dk_126 (dk_at dksX4_times_2 19 rfl rfl)
theorem dX4_times_68 : decode cX4_times 68 = .ok (.iconst 1, 1) := dk_4 (dk_at dksX4_times_2 20 rfl rfl)
theorem dX4_times_69 : decode cX4_times 69 = .ok (.if_icmp .ne 10, 3) := dk_160 0 10 (dk_at dksX4_times_2 21 rfl rfl)
theorem dX4_times_72 : decode cX4_times 72 = .ok (.iload 8, 2) := dk_21 8 (dk_at dksX4_times_3 0 rfl rfl)
theorem dX4_times_74 : decode cX4_times 74 = .ok (.iload 4, 2) := dk_21 4 (dk_at dksX4_times_3 2 rfl rfl)
theorem dX4_times_76 : decode cX4_times 76 = .ok (.ixor, 1) := dk_130 (dk_at dksX4_times_3 4 rfl rfl)
theorem dX4_times_77 : decode cX4_times 77 = .ok (.istore 8, 2) := dk_54 8 (dk_at dksX4_times_3 5 rfl rfl)
theorem dX4_times_79 : decode cX4_times 79 = .ok (.iload 7, 2) := dk_21 7 (dk_at dksX4_times_3 7 rfl rfl)
theorem dX4_times_81 : decode cX4_times 81 = .ok (.iload 9, 2) := dk_21 9 (dk_at dksX4_times_3 9 rfl rfl)
theorem dX4_times_83 : decode cX4_times 83 = .ok (.ishr, 1) := dk_122 (dk_at dksX4_times_3 11 rfl rfl)
theorem dX4_times_84 : decode cX4_times 84 = .ok (.iconst 1, 1) := dk_4 (dk_at dksX4_times_3 12 rfl rfl)
theorem dX4_times_85 : decode cX4_times 85 = .ok (.iand, 1) := dk_126 (dk_at dksX4_times_3 13 rfl rfl)
theorem dX4_times_86 : decode cX4_times 86 = .ok (.iconst 1, 1) := dk_4 (dk_at dksX4_times_3 14 rfl rfl)
theorem dX4_times_87 : decode cX4_times 87 = .ok (.if_icmp .ne 10, 3) := dk_160 0 10 (dk_at dksX4_times_3 15 rfl rfl)
theorem dX4_times_90 : decode cX4_times 90 = .ok (.iload 8, 2) := dk_21 8 (dk_at dksX4_times_3 18 rfl rfl)
theorem dX4_times_92 : decode cX4_times 92 = .ok (.iload 6, 2) := dk_21 6 (dk_at dksX4_times_3 20 rfl rfl)
theorem dX4_times_94 : decode cX4_times 94 = .ok (.ixor, 1) := dk_130 (dk_at dksX4_times_3 22 rfl rfl)
theorem dX4_times_95 : decode cX4_times 95 = .ok (.istore 8, 2) := dk_54 8 (dk_at dksX4_times_4 0 rfl rfl)
theorem dX4_times_97 : decode cX4_times 97 = .ok (.iinc 9 (-1), 3) := dk_132 9 255 (dk_at dksX4_times_4 2 rfl rfl)
theorem dX4_times_100 : decode cX4_times 100 = .ok (.goto (-49), 3) := dk_167 255 207 (dk_at dksX4_times_4 5 rfl rfl)
theorem dX4_times_103 : decode cX4_times 103 = .ok (.iload 8, 2) := dk_21 8 (dk_at dksX4_times_4 8 rfl rfl)
theorem dX4_times_105 : decode cX4_times 105 = .ok (.ireturn, 1) := dk_172 (dk_at dksX4_times_4 10 rfl rfl)
abbrev cX4_square : ByteArray := prog_7_method_5_code
def yX4_square : MethodName := ⟨RX4, "square", "(II)I"⟩
def dkwX4_square_0 : List UInt8 := [27, 28, 28, 184, 0, 7, 172]
abbrev dktX4_square_0 : List UInt8 := dkwX4_square_0 ++ []
theorem dksX4_square_0 : cX4_square.data.toList.drop 0 = dktX4_square_0 := by decide +kernel
theorem dX4_square_0 : decode cX4_square 0 = .ok (.iload_n 1, 1) := dk_27 (dk_at dksX4_square_0 0 rfl rfl)
theorem dX4_square_1 : decode cX4_square 1 = .ok (.iload_n 2, 1) := dk_28 (dk_at dksX4_square_0 1 rfl rfl)
theorem dX4_square_2 : decode cX4_square 2 = .ok (.iload_n 2, 1) := dk_28 (dk_at dksX4_square_0 2 rfl rfl)
theorem dX4_square_3 : decode cX4_square 3 = .ok (.invokestatic 7, 3) := dk_184 0 7 (dk_at dksX4_square_0 3 rfl rfl)
theorem dX4_square_6 : decode cX4_square 6 = .ok (.ireturn, 1) := dk_172 (dk_at dksX4_square_0 6 rfl rfl)
abbrev cX4_inverse : ByteArray := prog_7_method_6_code
def yX4_inverse : MethodName := ⟨RX4, "inverse", "(II)I"⟩
def dkwX4_inverse_2 : List UInt8 := [184, 0, 7, 62, 132, 5, 1, 167, 255, 224, 29, 172]
abbrev dktX4_inverse_2 : List UInt8 := dkwX4_inverse_2 ++ []
def dkwX4_inverse_1 : List UInt8 := [16, 12, 27, 4, 126, 96, 162, 0, 27, 27, 21, 4, 21, 4, 184, 0, 7, 54, 4, 27, 29, 21, 4]
abbrev dktX4_inverse_1 : List UInt8 := dkwX4_inverse_1 ++ dktX4_inverse_2
def dkwX4_inverse_0 : List UInt8 := [27, 28, 184, 0, 13, 154, 0, 5, 2, 172, 4, 62, 27, 28, 184, 0, 13, 54, 4, 4, 54, 5, 21, 5]
abbrev dktX4_inverse_0 : List UInt8 := dkwX4_inverse_0 ++ dktX4_inverse_1
theorem dksX4_inverse_0 : cX4_inverse.data.toList.drop 0 = dktX4_inverse_0 := by decide +kernel
theorem dksX4_inverse_1 : cX4_inverse.data.toList.drop 24 = dktX4_inverse_1 := dk_seg dksX4_inverse_0 24 rfl rfl
theorem dksX4_inverse_2 : cX4_inverse.data.toList.drop 47 = dktX4_inverse_2 := dk_seg dksX4_inverse_1 23 rfl rfl
theorem dX4_inverse_0 : decode cX4_inverse 0 = .ok (.iload_n 1, 1) := dk_27 (dk_at dksX4_inverse_0 0 rfl rfl)
theorem dX4_inverse_1 : decode cX4_inverse 1 = .ok (.iload_n 2, 1) := dk_28 (dk_at dksX4_inverse_0 1 rfl rfl)
theorem dX4_inverse_2 : decode cX4_inverse 2 = .ok (.invokestatic 13, 3) := dk_184 0 13 (dk_at dksX4_inverse_0 2 rfl rfl)
theorem dX4_inverse_5 : decode cX4_inverse 5 = .ok (.ifCond .ne 5, 3) := dk_154 0 5 (dk_at dksX4_inverse_0 5 rfl rfl)
theorem dX4_inverse_8 : decode cX4_inverse 8 = .ok (.iconst (-1), 1) := dk_2 (dk_at dksX4_inverse_0 8 rfl rfl)
theorem dX4_inverse_9 : decode cX4_inverse 9 = .ok (.ireturn, 1) := dk_172 (dk_at dksX4_inverse_0 9 rfl rfl)
theorem dX4_inverse_10 : decode cX4_inverse 10 = .ok (.iconst 1, 1) := dk_4 (dk_at dksX4_inverse_0 10 rfl rfl)
theorem dX4_inverse_11 : decode cX4_inverse 11 = .ok (.istore_n 3, 1) := dk_62 (dk_at dksX4_inverse_0 11 rfl rfl)
theorem dX4_inverse_12 : decode cX4_inverse 12 = .ok (.iload_n 1, 1) := dk_27 (dk_at dksX4_inverse_0 12 rfl rfl)
theorem dX4_inverse_13 : decode cX4_inverse 13 = .ok (.iload_n 2, 1) := dk_28 (dk_at dksX4_inverse_0 13 rfl rfl)
theorem dX4_inverse_14 : decode cX4_inverse 14 = .ok (.invokestatic 13, 3) := dk_184 0 13 (dk_at dksX4_inverse_0 14 rfl rfl)
theorem dX4_inverse_17 : decode cX4_inverse 17 = .ok (.istore 4, 2) := dk_54 4 (dk_at dksX4_inverse_0 17 rfl rfl)
theorem dX4_inverse_19 : decode cX4_inverse 19 = .ok (.iconst 1, 1) := dk_4 (dk_at dksX4_inverse_0 19 rfl rfl)
theorem dX4_inverse_20 : decode cX4_inverse 20 = .ok (.istore 5, 2) := dk_54 5 (dk_at dksX4_inverse_0 20 rfl rfl)
theorem dX4_inverse_22 : decode cX4_inverse 22 = .ok (.iload 5, 2) := dk_21 5 (dk_at dksX4_inverse_0 22 rfl rfl)
theorem dX4_inverse_24 : decode cX4_inverse 24 = .ok (.bipush 12, 2) := dk_16 12 (dk_at dksX4_inverse_1 0 rfl rfl)
theorem dX4_inverse_26 : decode cX4_inverse 26 = .ok (.iload_n 1, 1) := dk_27 (dk_at dksX4_inverse_1 2 rfl rfl)
theorem dX4_inverse_27 : decode cX4_inverse 27 = .ok (.iconst 1, 1) := dk_4 (dk_at dksX4_inverse_1 3 rfl rfl)
theorem dX4_inverse_28 : decode cX4_inverse 28 = .ok (.iand, 1) := dk_126 (dk_at dksX4_inverse_1 4 rfl rfl)
theorem dX4_inverse_29 : decode cX4_inverse 29 = .ok (.iadd, 1) := dk_96 (dk_at dksX4_inverse_1 5 rfl rfl)
theorem dX4_inverse_30 : decode cX4_inverse 30 = .ok (.if_icmp .ge 27, 3) := dk_162 0 27 (dk_at dksX4_inverse_1 6 rfl rfl)
theorem dX4_inverse_33 : decode cX4_inverse 33 = .ok (.iload_n 1, 1) := dk_27 (dk_at dksX4_inverse_1 9 rfl rfl)
theorem dX4_inverse_34 : decode cX4_inverse 34 = .ok (.iload 4, 2) := dk_21 4 (dk_at dksX4_inverse_1 10 rfl rfl)
theorem dX4_inverse_36 : decode cX4_inverse 36 = .ok (.iload 4, 2) := dk_21 4 (dk_at dksX4_inverse_1 12 rfl rfl)
theorem dX4_inverse_38 : decode cX4_inverse 38 = .ok (.invokestatic 7, 3) := dk_184 0 7 (dk_at dksX4_inverse_1 14 rfl rfl)
theorem dX4_inverse_41 : decode cX4_inverse 41 = .ok (.istore 4, 2) := dk_54 4 (dk_at dksX4_inverse_1 17 rfl rfl)
theorem dX4_inverse_43 : decode cX4_inverse 43 = .ok (.iload_n 1, 1) := dk_27 (dk_at dksX4_inverse_1 19 rfl rfl)
theorem dX4_inverse_44 : decode cX4_inverse 44 = .ok (.iload_n 3, 1) := dk_29 (dk_at dksX4_inverse_1 20 rfl rfl)
theorem dX4_inverse_45 : decode cX4_inverse 45 = .ok (.iload 4, 2) := dk_21 4 (dk_at dksX4_inverse_1 21 rfl rfl)
theorem dX4_inverse_47 : decode cX4_inverse 47 = .ok (.invokestatic 7, 3) := dk_184 0 7 (dk_at dksX4_inverse_2 0 rfl rfl)
theorem dX4_inverse_50 : decode cX4_inverse 50 = .ok (.istore_n 3, 1) := dk_62 (dk_at dksX4_inverse_2 3 rfl rfl)
theorem dX4_inverse_51 : decode cX4_inverse 51 = .ok (.iinc 5 1, 3) := dk_132 5 1 (dk_at dksX4_inverse_2 4 rfl rfl)
theorem dX4_inverse_54 : decode cX4_inverse 54 = .ok (.goto (-32), 3) := dk_167 255 224 (dk_at dksX4_inverse_2 7 rfl rfl)
theorem dX4_inverse_57 : decode cX4_inverse 57 = .ok (.iload_n 3, 1) := dk_29 (dk_at dksX4_inverse_2 10 rfl rfl)
theorem dX4_inverse_58 : decode cX4_inverse 58 = .ok (.ireturn, 1) := dk_172 (dk_at dksX4_inverse_2 11 rfl rfl)
abbrev cX4_one : ByteArray := prog_7_method_3_code
def yX4_one : MethodName := ⟨RX4, "one", "(II)I"⟩
def dkwX4_one_0 : List UInt8 := [27, 4, 16, 12, 26, 4, 126, 96, 120, 4, 100, 126, 172]
abbrev dktX4_one_0 : List UInt8 := dkwX4_one_0 ++ []
theorem dksX4_one_0 : cX4_one.data.toList.drop 0 = dktX4_one_0 := by decide +kernel
theorem dX4_one_0 : decode cX4_one 0 = .ok (.iload_n 1, 1) := dk_27 (dk_at dksX4_one_0 0 rfl rfl)
theorem dX4_one_1 : decode cX4_one 1 = .ok (.iconst 1, 1) := dk_4 (dk_at dksX4_one_0 1 rfl rfl)
theorem dX4_one_2 : decode cX4_one 2 = .ok (.bipush 12, 2) := dk_16 12 (dk_at dksX4_one_0 2 rfl rfl)
theorem dX4_one_4 : decode cX4_one 4 = .ok (.iload_n 0, 1) := dk_26 (dk_at dksX4_one_0 4 rfl rfl)
theorem dX4_one_5 : decode cX4_one 5 = .ok (.iconst 1, 1) := dk_4 (dk_at dksX4_one_0 5 rfl rfl)
theorem dX4_one_6 : decode cX4_one 6 = .ok (.iand, 1) := dk_126 (dk_at dksX4_one_0 6 rfl rfl)
theorem dX4_one_7 : decode cX4_one 7 = .ok (.iadd, 1) := dk_96 (dk_at dksX4_one_0 7 rfl rfl)
theorem dX4_one_8 : decode cX4_one 8 = .ok (.ishl, 1) := dk_120 (dk_at dksX4_one_0 8 rfl rfl)
theorem dX4_one_9 : decode cX4_one 9 = .ok (.iconst 1, 1) := dk_4 (dk_at dksX4_one_0 9 rfl rfl)
theorem dX4_one_10 : decode cX4_one 10 = .ok (.isub, 1) := dk_100 (dk_at dksX4_one_0 10 rfl rfl)
theorem dX4_one_11 : decode cX4_one 11 = .ok (.iand, 1) := dk_126 (dk_at dksX4_one_0 11 rfl rfl)
theorem dX4_one_12 : decode cX4_one 12 = .ok (.ireturn, 1) := dk_172 (dk_at dksX4_one_0 12 rfl rfl)
abbrev cX4_quotient : ByteArray := prog_7_method_7_code
def yX4_quotient : MethodName := ⟨RX4, "quotient", "(III)I"⟩
def dkwX4_quotient_1 : List UInt8 := [184, 0, 7, 172]
abbrev dktX4_quotient_1 : List UInt8 := dkwX4_quotient_1 ++ []
def dkwX4_quotient_0 : List UInt8 := [42, 27, 29, 182, 0, 17, 54, 4, 21, 4, 2, 160, 0, 7, 2, 167, 0, 10, 27, 28, 21, 4]
abbrev dktX4_quotient_0 : List UInt8 := dkwX4_quotient_0 ++ dktX4_quotient_1
theorem dksX4_quotient_0 : cX4_quotient.data.toList.drop 0 = dktX4_quotient_0 := by decide +kernel
theorem dksX4_quotient_1 : cX4_quotient.data.toList.drop 22 = dktX4_quotient_1 := dk_seg dksX4_quotient_0 22 rfl rfl
theorem dX4_quotient_0 : decode cX4_quotient 0 = .ok (.aload_n 0, 1) := dk_42 (dk_at dksX4_quotient_0 0 rfl rfl)
theorem dX4_quotient_1 : decode cX4_quotient 1 = .ok (.iload_n 1, 1) := dk_27 (dk_at dksX4_quotient_0 1 rfl rfl)
theorem dX4_quotient_2 : decode cX4_quotient 2 = .ok (.iload_n 3, 1) := dk_29 (dk_at dksX4_quotient_0 2 rfl rfl)
theorem dX4_quotient_3 : decode cX4_quotient 3 = .ok (.invokevirtual 17, 3) := dk_182 0 17 (dk_at dksX4_quotient_0 3 rfl rfl)
theorem dX4_quotient_6 : decode cX4_quotient 6 = .ok (.istore 4, 2) := dk_54 4 (dk_at dksX4_quotient_0 6 rfl rfl)
theorem dX4_quotient_8 : decode cX4_quotient 8 = .ok (.iload 4, 2) := dk_21 4 (dk_at dksX4_quotient_0 8 rfl rfl)
theorem dX4_quotient_10 : decode cX4_quotient 10 = .ok (.iconst (-1), 1) := dk_2 (dk_at dksX4_quotient_0 10 rfl rfl)
theorem dX4_quotient_11 : decode cX4_quotient 11 = .ok (.if_icmp .ne 7, 3) := dk_160 0 7 (dk_at dksX4_quotient_0 11 rfl rfl)
theorem dX4_quotient_14 : decode cX4_quotient 14 = .ok (.iconst (-1), 1) := dk_2 (dk_at dksX4_quotient_0 14 rfl rfl)
theorem dX4_quotient_15 : decode cX4_quotient 15 = .ok (.goto 10, 3) := dk_167 0 10 (dk_at dksX4_quotient_0 15 rfl rfl)
theorem dX4_quotient_18 : decode cX4_quotient 18 = .ok (.iload_n 1, 1) := dk_27 (dk_at dksX4_quotient_0 18 rfl rfl)
theorem dX4_quotient_19 : decode cX4_quotient 19 = .ok (.iload_n 2, 1) := dk_28 (dk_at dksX4_quotient_0 19 rfl rfl)
theorem dX4_quotient_20 : decode cX4_quotient 20 = .ok (.iload 4, 2) := dk_21 4 (dk_at dksX4_quotient_0 20 rfl rfl)
theorem dX4_quotient_22 : decode cX4_quotient 22 = .ok (.invokestatic 7, 3) := dk_184 0 7 (dk_at dksX4_quotient_1 0 rfl rfl)
theorem dX4_quotient_25 : decode cX4_quotient 25 = .ok (.ireturn, 1) := dk_172 (dk_at dksX4_quotient_1 3 rfl rfl)
abbrev cX4_product : ByteArray := prog_7_method_8_code
def yX4_product : MethodName := ⟨RX4, "product", "(IIIII)I"⟩
def dkwX4_product_0 : List UInt8 := [27, 28, 29, 184, 0, 7, 27, 21, 4, 21, 5, 184, 0, 7, 130, 172]
abbrev dktX4_product_0 : List UInt8 := dkwX4_product_0 ++ []
theorem dksX4_product_0 : cX4_product.data.toList.drop 0 = dktX4_product_0 := by decide +kernel
theorem dX4_product_0 : decode cX4_product 0 = .ok (.iload_n 1, 1) := dk_27 (dk_at dksX4_product_0 0 rfl rfl)
theorem dX4_product_1 : decode cX4_product 1 = .ok (.iload_n 2, 1) := dk_28 (dk_at dksX4_product_0 1 rfl rfl)
theorem dX4_product_2 : decode cX4_product 2 = .ok (.iload_n 3, 1) := dk_29 (dk_at dksX4_product_0 2 rfl rfl)
theorem dX4_product_3 : decode cX4_product 3 = .ok (.invokestatic 7, 3) := dk_184 0 7 (dk_at dksX4_product_0 3 rfl rfl)
theorem dX4_product_6 : decode cX4_product 6 = .ok (.iload_n 1, 1) := dk_27 (dk_at dksX4_product_0 6 rfl rfl)
theorem dX4_product_7 : decode cX4_product 7 = .ok (.iload 4, 2) := dk_21 4 (dk_at dksX4_product_0 7 rfl rfl)
theorem dX4_product_9 : decode cX4_product 9 = .ok (.iload 5, 2) := dk_21 5 (dk_at dksX4_product_0 9 rfl rfl)
theorem dX4_product_11 : decode cX4_product 11 = .ok (.invokestatic 7, 3) := dk_184 0 7 (dk_at dksX4_product_0 11 rfl rfl)
theorem dX4_product_14 : decode cX4_product 14 = .ok (.ixor, 1) := dk_130 (dk_at dksX4_product_0 14 rfl rfl)
theorem dX4_product_15 : decode cX4_product 15 = .ok (.ireturn, 1) := dk_172 (dk_at dksX4_product_0 15 rfl rfl)
abbrev cX4_wideSquare : ByteArray := prog_7_method_9_code
def yX4_wideSquare : MethodName := ⟨RX4, "wideSquare", "(II)I"⟩
def dkwX4_wideSquare_0 : List UInt8 := [27, 28, 28, 184, 0, 7, 172]
abbrev dktX4_wideSquare_0 : List UInt8 := dkwX4_wideSquare_0 ++ []
theorem dksX4_wideSquare_0 : cX4_wideSquare.data.toList.drop 0 = dktX4_wideSquare_0 := by decide +kernel
theorem dX4_wideSquare_0 : decode cX4_wideSquare 0 = .ok (.iload_n 1, 1) := dk_27 (dk_at dksX4_wideSquare_0 0 rfl rfl)
theorem dX4_wideSquare_1 : decode cX4_wideSquare 1 = .ok (.iload_n 2, 1) := dk_28 (dk_at dksX4_wideSquare_0 1 rfl rfl)
theorem dX4_wideSquare_2 : decode cX4_wideSquare 2 = .ok (.iload_n 2, 1) := dk_28 (dk_at dksX4_wideSquare_0 2 rfl rfl)
theorem dX4_wideSquare_3 : decode cX4_wideSquare 3 = .ok (.invokestatic 7, 3) := dk_184 0 7 (dk_at dksX4_wideSquare_0 3 rfl rfl)
theorem dX4_wideSquare_6 : decode cX4_wideSquare 6 = .ok (.ireturn, 1) := dk_172 (dk_at dksX4_wideSquare_0 6 rfl rfl)
abbrev cX4_nought : ByteArray := prog_7_method_10_code
def yX4_nought : MethodName := ⟨RX4, "nought", "(II)Z"⟩
def dkwX4_nought_0 : List UInt8 := [27, 28, 184, 0, 13, 154, 0, 7, 4, 167, 0, 4, 3, 172]
abbrev dktX4_nought_0 : List UInt8 := dkwX4_nought_0 ++ []
theorem dksX4_nought_0 : cX4_nought.data.toList.drop 0 = dktX4_nought_0 := by decide +kernel
theorem dX4_nought_0 : decode cX4_nought 0 = .ok (.iload_n 1, 1) := dk_27 (dk_at dksX4_nought_0 0 rfl rfl)
theorem dX4_nought_1 : decode cX4_nought 1 = .ok (.iload_n 2, 1) := dk_28 (dk_at dksX4_nought_0 1 rfl rfl)
theorem dX4_nought_2 : decode cX4_nought 2 = .ok (.invokestatic 13, 3) := dk_184 0 13 (dk_at dksX4_nought_0 2 rfl rfl)
theorem dX4_nought_5 : decode cX4_nought 5 = .ok (.ifCond .ne 7, 3) := dk_154 0 7 (dk_at dksX4_nought_0 5 rfl rfl)
theorem dX4_nought_8 : decode cX4_nought 8 = .ok (.iconst 1, 1) := dk_4 (dk_at dksX4_nought_0 8 rfl rfl)
theorem dX4_nought_9 : decode cX4_nought 9 = .ok (.goto 4, 3) := dk_167 0 4 (dk_at dksX4_nought_0 9 rfl rfl)
theorem dX4_nought_12 : decode cX4_nought 12 = .ok (.iconst 0, 1) := dk_3 (dk_at dksX4_nought_0 12 rfl rfl)
theorem dX4_nought_13 : decode cX4_nought 13 = .ok (.ireturn, 1) := dk_172 (dk_at dksX4_nought_0 13 rfl rfl)
theorem q8 : (Jvm.Cond.initialized "SmallFieldsModel") ∈ lw_all := lw_g (lw_at lw_m0 5 rfl) rfl
theorem q191 : (Jvm.Cond.instantiable "SmallFieldsModel" (0 : Nat)) ∈ lw_all := lw_g (lw_at lw_m0 188 rfl) rfl
theorem q193 : (Jvm.Cond.instanceMethod ({ cls := "SmallFieldsModel", name := "<init>", desc := "()V" } : Jvm.MethodName)) ∈ lw_all := lw_g (lw_at lw_m0 190 rfl) rfl
theorem q194 : (Jvm.Cond.code ({ cls := "SmallFieldsModel", name := "<init>", desc := "()V" } : Jvm.MethodName) prog_7_method_1_code (1 : Nat) (Option.none : Option Jvm.ClassFile.FieldType)) ∈ lw_all := lw_g (lw_at lw_m0 191 rfl) rfl
theorem q195 : (Jvm.Cond.methodLink "SmallFieldsModel" (1 : Nat) ({ cls := "java/lang/Object", name := "<init>", desc := "()V" } : Jvm.MethodName)) ∈ lw_all := lw_g (lw_at lw_m0 192 rfl) rfl
theorem q196 : (Jvm.Cond.superclass "SmallFieldsModel" "java/lang/Object") ∈ lw_all := lw_g (lw_at lw_m0 193 rfl) rfl
theorem q198 : (Jvm.Cond.instanceMethod ({ cls := "SmallFieldsModel", name := "multiply", desc := "(III)I" } : Jvm.MethodName)) ∈ lw_all := lw_g (lw_at lw_m0 195 rfl) rfl
theorem q199 : (Jvm.Cond.selects "SmallFieldsModel" ({ cls := "SmallFieldsModel", name := "multiply", desc := "(III)I" } : Jvm.MethodName) ({ cls := "SmallFieldsModel", name := "multiply", desc := "(III)I" } : Jvm.MethodName)) ∈ lw_all := lw_g (lw_at lw_m0 196 rfl) rfl
theorem q200 : (Jvm.Cond.code ({ cls := "SmallFieldsModel", name := "multiply", desc := "(III)I" } : Jvm.MethodName) prog_7_method_4_code (4 : Nat) (Option.some Jvm.ClassFile.FieldType.int)) ∈ lw_all := lw_g (lw_at lw_m0 197 rfl) rfl
theorem q201 : (Jvm.Cond.methodLink "SmallFieldsModel" (7 : Nat) ({ cls := "SmallFieldsModel", name := "times", desc := "(III)I" } : Jvm.MethodName)) ∈ lw_all := lw_g (lw_at lw_m0 198 rfl) rfl
theorem q202 : (Jvm.Cond.static ({ cls := "SmallFieldsModel", name := "times", desc := "(III)I" } : Jvm.MethodName)) ∈ lw_all := lw_g (lw_at lw_m0 199 rfl) rfl
theorem q203 : (Jvm.Cond.code ({ cls := "SmallFieldsModel", name := "times", desc := "(III)I" } : Jvm.MethodName) prog_7_method_2_code (10 : Nat) (Option.some Jvm.ClassFile.FieldType.int)) ∈ lw_all := lw_g (lw_at lw_m0 200 rfl) rfl
theorem q205 : (Jvm.Cond.instanceMethod ({ cls := "SmallFieldsModel", name := "square", desc := "(II)I" } : Jvm.MethodName)) ∈ lw_all := lw_g (lw_at lw_m0 202 rfl) rfl
theorem q206 : (Jvm.Cond.selects "SmallFieldsModel" ({ cls := "SmallFieldsModel", name := "square", desc := "(II)I" } : Jvm.MethodName) ({ cls := "SmallFieldsModel", name := "square", desc := "(II)I" } : Jvm.MethodName)) ∈ lw_all := lw_g (lw_at lw_m0 203 rfl) rfl
theorem q207 : (Jvm.Cond.code ({ cls := "SmallFieldsModel", name := "square", desc := "(II)I" } : Jvm.MethodName) prog_7_method_5_code (3 : Nat) (Option.some Jvm.ClassFile.FieldType.int)) ∈ lw_all := lw_g (lw_at lw_m0 204 rfl) rfl
theorem q209 : (Jvm.Cond.instanceMethod ({ cls := "SmallFieldsModel", name := "inverse", desc := "(II)I" } : Jvm.MethodName)) ∈ lw_all := lw_g (lw_at lw_m0 206 rfl) rfl
theorem q210 : (Jvm.Cond.selects "SmallFieldsModel" ({ cls := "SmallFieldsModel", name := "inverse", desc := "(II)I" } : Jvm.MethodName) ({ cls := "SmallFieldsModel", name := "inverse", desc := "(II)I" } : Jvm.MethodName)) ∈ lw_all := lw_g (lw_at lw_m0 207 rfl) rfl
theorem q211 : (Jvm.Cond.code ({ cls := "SmallFieldsModel", name := "inverse", desc := "(II)I" } : Jvm.MethodName) prog_7_method_6_code (6 : Nat) (Option.some Jvm.ClassFile.FieldType.int)) ∈ lw_all := lw_g (lw_at lw_m0 208 rfl) rfl
theorem q212 : (Jvm.Cond.methodLink "SmallFieldsModel" (13 : Nat) ({ cls := "SmallFieldsModel", name := "one", desc := "(II)I" } : Jvm.MethodName)) ∈ lw_all := lw_g (lw_at lw_m0 209 rfl) rfl
theorem q213 : (Jvm.Cond.static ({ cls := "SmallFieldsModel", name := "one", desc := "(II)I" } : Jvm.MethodName)) ∈ lw_all := lw_g (lw_at lw_m0 210 rfl) rfl
theorem q214 : (Jvm.Cond.code ({ cls := "SmallFieldsModel", name := "one", desc := "(II)I" } : Jvm.MethodName) prog_7_method_3_code (2 : Nat) (Option.some Jvm.ClassFile.FieldType.int)) ∈ lw_all := lw_g (lw_at lw_m0 211 rfl) rfl
theorem q216 : (Jvm.Cond.instanceMethod ({ cls := "SmallFieldsModel", name := "quotient", desc := "(III)I" } : Jvm.MethodName)) ∈ lw_all := lw_g (lw_at lw_m0 213 rfl) rfl
theorem q217 : (Jvm.Cond.selects "SmallFieldsModel" ({ cls := "SmallFieldsModel", name := "quotient", desc := "(III)I" } : Jvm.MethodName) ({ cls := "SmallFieldsModel", name := "quotient", desc := "(III)I" } : Jvm.MethodName)) ∈ lw_all := lw_g (lw_at lw_m0 214 rfl) rfl
theorem q218 : (Jvm.Cond.code ({ cls := "SmallFieldsModel", name := "quotient", desc := "(III)I" } : Jvm.MethodName) prog_7_method_7_code (5 : Nat) (Option.some Jvm.ClassFile.FieldType.int)) ∈ lw_all := lw_g (lw_at lw_m0 215 rfl) rfl
theorem q219 : (Jvm.Cond.methodLink "SmallFieldsModel" (17 : Nat) ({ cls := "SmallFieldsModel", name := "inverse", desc := "(II)I" } : Jvm.MethodName)) ∈ lw_all := lw_g (lw_at lw_m0 216 rfl) rfl
theorem q221 : (Jvm.Cond.instanceMethod ({ cls := "SmallFieldsModel", name := "product", desc := "(IIIII)I" } : Jvm.MethodName)) ∈ lw_all := lw_g (lw_at lw_m0 218 rfl) rfl
theorem q222 : (Jvm.Cond.selects "SmallFieldsModel" ({ cls := "SmallFieldsModel", name := "product", desc := "(IIIII)I" } : Jvm.MethodName) ({ cls := "SmallFieldsModel", name := "product", desc := "(IIIII)I" } : Jvm.MethodName)) ∈ lw_all := lw_g (lw_at lw_m0 219 rfl) rfl
theorem q223 : (Jvm.Cond.code ({ cls := "SmallFieldsModel", name := "product", desc := "(IIIII)I" } : Jvm.MethodName) prog_7_method_8_code (6 : Nat) (Option.some Jvm.ClassFile.FieldType.int)) ∈ lw_all := lw_g (lw_at lw_m0 220 rfl) rfl
theorem q225 : (Jvm.Cond.instanceMethod ({ cls := "SmallFieldsModel", name := "wideSquare", desc := "(II)I" } : Jvm.MethodName)) ∈ lw_all := lw_g (lw_at lw_m0 222 rfl) rfl
theorem q226 : (Jvm.Cond.selects "SmallFieldsModel" ({ cls := "SmallFieldsModel", name := "wideSquare", desc := "(II)I" } : Jvm.MethodName) ({ cls := "SmallFieldsModel", name := "wideSquare", desc := "(II)I" } : Jvm.MethodName)) ∈ lw_all := lw_g (lw_at lw_m0 223 rfl) rfl
theorem q227 : (Jvm.Cond.code ({ cls := "SmallFieldsModel", name := "wideSquare", desc := "(II)I" } : Jvm.MethodName) prog_7_method_9_code (3 : Nat) (Option.some Jvm.ClassFile.FieldType.int)) ∈ lw_all := lw_g (lw_at lw_m0 224 rfl) rfl
theorem q229 : (Jvm.Cond.instanceMethod ({ cls := "SmallFieldsModel", name := "nought", desc := "(II)Z" } : Jvm.MethodName)) ∈ lw_all := lw_g (lw_at lw_m0 226 rfl) rfl
theorem q230 : (Jvm.Cond.selects "SmallFieldsModel" ({ cls := "SmallFieldsModel", name := "nought", desc := "(II)Z" } : Jvm.MethodName) ({ cls := "SmallFieldsModel", name := "nought", desc := "(II)Z" } : Jvm.MethodName)) ∈ lw_all := lw_g (lw_at lw_m0 227 rfl) rfl
theorem q231 : (Jvm.Cond.code ({ cls := "SmallFieldsModel", name := "nought", desc := "(II)Z" } : Jvm.MethodName) prog_7_method_10_code (3 : Nat) (Option.some Jvm.ClassFile.FieldType.boolean)) ∈ lw_all := lw_g (lw_at lw_m0 228 rfl) rfl
end
section
/-! GF13 -/
set_option maxRecDepth 100000
def RX3 : String := "GF13"
abbrev cX3_init : ByteArray := prog_3_method_1_code
def yX3_init : MethodName := ⟨RX3, "<init>", "()V"⟩
theorem dX3_init_0 : decode cX3_init 0 = .ok (.aload_n 0, 1) := by decide +kernel
theorem dX3_init_1 : decode cX3_init 1 = .ok (.invokespecial 1, 3) := by decide +kernel
theorem dX3_init_4 : decode cX3_init 4 = .ok (.return_, 1) := by decide +kernel
abbrev cX3_gf_mul : ByteArray := prog_3_method_4_code
def yX3_gf_mul : MethodName := ⟨RX3, "gf_mul", "(SS)S"⟩
def dkwX3_gf_mul_2 : List UInt8 := [182, 0, 23, 172]
abbrev dktX3_gf_mul_2 : List UInt8 := dkwX3_gf_mul_2 ++ []
def dkwX3_gf_mul_1 : List UInt8 := [21, 5, 29, 21, 4, 4, 21, 6, 120, 126, 104, 130, 54, 5, 132, 6, 1, 167, 255, 232, 42, 21, 5]
abbrev dktX3_gf_mul_1 : List UInt8 := dkwX3_gf_mul_1 ++ dktX3_gf_mul_2
def dkwX3_gf_mul_0 : List UInt8 := [27, 62, 28, 54, 4, 29, 21, 4, 4, 126, 104, 54, 5, 4, 54, 6, 21, 6, 16, 13, 162, 0, 23]
abbrev dktX3_gf_mul_0 : List UInt8 := dkwX3_gf_mul_0 ++ dktX3_gf_mul_1
theorem dksX3_gf_mul_0 : cX3_gf_mul.data.toList.drop 0 = dktX3_gf_mul_0 := by decide +kernel
theorem dksX3_gf_mul_1 : cX3_gf_mul.data.toList.drop 23 = dktX3_gf_mul_1 := dk_seg dksX3_gf_mul_0 23 rfl rfl
theorem dksX3_gf_mul_2 : cX3_gf_mul.data.toList.drop 46 = dktX3_gf_mul_2 := dk_seg dksX3_gf_mul_1 23 rfl rfl
theorem dX3_gf_mul_0 : decode cX3_gf_mul 0 = .ok (.iload_n 1, 1) := dk_27 (dk_at dksX3_gf_mul_0 0 rfl rfl)
theorem dX3_gf_mul_1 : decode cX3_gf_mul 1 = .ok (.istore_n 3, 1) := dk_62 (dk_at dksX3_gf_mul_0 1 rfl rfl)
theorem dX3_gf_mul_2 : decode cX3_gf_mul 2 = .ok (.iload_n 2, 1) := dk_28 (dk_at dksX3_gf_mul_0 2 rfl rfl)
theorem dX3_gf_mul_3 : decode cX3_gf_mul 3 = .ok (.istore 4, 2) := dk_54 4 (dk_at dksX3_gf_mul_0 3 rfl rfl)
theorem dX3_gf_mul_5 : decode cX3_gf_mul 5 = .ok (.iload_n 3, 1) := dk_29 (dk_at dksX3_gf_mul_0 5 rfl rfl)
theorem dX3_gf_mul_6 : decode cX3_gf_mul 6 = .ok (.iload 4, 2) := dk_21 4 (dk_at dksX3_gf_mul_0 6 rfl rfl)
theorem dX3_gf_mul_8 : decode cX3_gf_mul 8 = .ok (.iconst 1, 1) := dk_4 (dk_at dksX3_gf_mul_0 8 rfl rfl)
theorem dX3_gf_mul_9 : decode cX3_gf_mul 9 = .ok (.iand, 1) := dk_126 (dk_at dksX3_gf_mul_0 9 rfl rfl)
theorem dX3_gf_mul_10 : decode cX3_gf_mul 10 = .ok (.imul, 1) := dk_104 (dk_at dksX3_gf_mul_0 10 rfl rfl)
theorem dX3_gf_mul_11 : decode cX3_gf_mul 11 = .ok (.istore 5, 2) := dk_54 5 (dk_at dksX3_gf_mul_0 11 rfl rfl)
theorem dX3_gf_mul_13 : decode cX3_gf_mul 13 = .ok (.iconst 1, 1) := dk_4 (dk_at dksX3_gf_mul_0 13 rfl rfl)
theorem dX3_gf_mul_14 : decode cX3_gf_mul 14 = .ok (.istore 6, 2) := dk_54 6 (dk_at dksX3_gf_mul_0 14 rfl rfl)
theorem dX3_gf_mul_16 : decode cX3_gf_mul 16 = .ok (.iload 6, 2) := dk_21 6 (dk_at dksX3_gf_mul_0 16 rfl rfl)
theorem dX3_gf_mul_18 : decode cX3_gf_mul 18 = .ok (.bipush 13, 2) := dk_16 13 (dk_at dksX3_gf_mul_0 18 rfl rfl)
theorem dX3_gf_mul_20 : decode cX3_gf_mul 20 = .ok (.if_icmp .ge 23, 3) := dk_162 0 23 (dk_at dksX3_gf_mul_0 20 rfl rfl)
theorem dX3_gf_mul_23 : decode cX3_gf_mul 23 = .ok (.iload 5, 2) := dk_21 5 (dk_at dksX3_gf_mul_1 0 rfl rfl)
theorem dX3_gf_mul_25 : decode cX3_gf_mul 25 = .ok (.iload_n 3, 1) := dk_29 (dk_at dksX3_gf_mul_1 2 rfl rfl)
theorem dX3_gf_mul_26 : decode cX3_gf_mul 26 = .ok (.iload 4, 2) := dk_21 4 (dk_at dksX3_gf_mul_1 3 rfl rfl)
theorem dX3_gf_mul_28 : decode cX3_gf_mul 28 = .ok (.iconst 1, 1) := dk_4 (dk_at dksX3_gf_mul_1 5 rfl rfl)
theorem dX3_gf_mul_29 : decode cX3_gf_mul 29 = .ok (.iload 6, 2) := dk_21 6 (dk_at dksX3_gf_mul_1 6 rfl rfl)
theorem dX3_gf_mul_31 : decode cX3_gf_mul 31 = .ok (.ishl, 1) := dk_120 (dk_at dksX3_gf_mul_1 8 rfl rfl)
theorem dX3_gf_mul_32 : decode cX3_gf_mul 32 = .ok (.iand, 1) := dk_126 (dk_at dksX3_gf_mul_1 9 rfl rfl)
theorem dX3_gf_mul_33 : decode cX3_gf_mul 33 = .ok (.imul, 1) := dk_104 (dk_at dksX3_gf_mul_1 10 rfl rfl)
theorem dX3_gf_mul_34 : decode cX3_gf_mul 34 = .ok (.ixor, 1) := dk_130 (dk_at dksX3_gf_mul_1 11 rfl rfl)
theorem dX3_gf_mul_35 : decode cX3_gf_mul 35 = .ok (.istore 5, 2) := dk_54 5 (dk_at dksX3_gf_mul_1 12 rfl rfl)
theorem dX3_gf_mul_37 : decode cX3_gf_mul 37 = .ok (.iinc 6 1, 3) := dk_132 6 1 (dk_at dksX3_gf_mul_1 14 rfl rfl)
theorem dX3_gf_mul_40 : decode cX3_gf_mul 40 = .ok (.goto (-24), 3) := dk_167 255 232 (dk_at dksX3_gf_mul_1 17 rfl rfl)
theorem dX3_gf_mul_43 : decode cX3_gf_mul 43 = .ok (.aload_n 0, 1) := dk_42 (dk_at dksX3_gf_mul_1 20 rfl rfl)
theorem dX3_gf_mul_44 : decode cX3_gf_mul 44 = .ok (.iload 5, 2) := dk_21 5 (dk_at dksX3_gf_mul_1 21 rfl rfl)
theorem dX3_gf_mul_46 : decode cX3_gf_mul 46 = .ok (.invokevirtual 23, 3) := dk_182 0 23 (dk_at dksX3_gf_mul_2 0 rfl rfl)
theorem dX3_gf_mul_49 : decode cX3_gf_mul 49 = .ok (.ireturn, 1) := dk_172 (dk_at dksX3_gf_mul_2 3 rfl rfl)
abbrev cX3_gf_reduce : ByteArray := prog_3_method_6_code
def yX3_gf_reduce : MethodName := ⟨RX3, "gf_reduce", "(I)S"⟩
def dkwX3_gf_reduce_2 : List UInt8 := [21, 5, 4, 120, 130, 54, 7, 28, 29, 130, 21, 5, 130, 21, 6, 130, 21, 7, 130, 147, 172]
abbrev dktX3_gf_reduce_2 : List UInt8 := dkwX3_gf_reduce_2 ++ []
def dkwX3_gf_reduce_1 : List UInt8 := [21, 4, 16, 13, 124, 54, 5, 21, 4, 17, 31, 255, 126, 54, 6, 21, 5, 7, 120, 21, 5, 6, 120, 130]
abbrev dktX3_gf_reduce_1 : List UInt8 := dkwX3_gf_reduce_1 ++ dktX3_gf_reduce_2
def dkwX3_gf_reduce_0 : List UInt8 := [27, 17, 31, 255, 126, 61, 27, 16, 13, 124, 62, 29, 7, 120, 29, 6, 120, 130, 29, 4, 120, 130, 54, 4]
abbrev dktX3_gf_reduce_0 : List UInt8 := dkwX3_gf_reduce_0 ++ dktX3_gf_reduce_1
theorem dksX3_gf_reduce_0 : cX3_gf_reduce.data.toList.drop 0 = dktX3_gf_reduce_0 := by decide +kernel
theorem dksX3_gf_reduce_1 : cX3_gf_reduce.data.toList.drop 24 = dktX3_gf_reduce_1 := dk_seg dksX3_gf_reduce_0 24 rfl rfl
theorem dksX3_gf_reduce_2 : cX3_gf_reduce.data.toList.drop 48 = dktX3_gf_reduce_2 := dk_seg dksX3_gf_reduce_1 24 rfl rfl
theorem dX3_gf_reduce_0 : decode cX3_gf_reduce 0 = .ok (.iload_n 1, 1) := dk_27 (dk_at dksX3_gf_reduce_0 0 rfl rfl)
theorem dX3_gf_reduce_1 : decode cX3_gf_reduce 1 = .ok (.sipush 8191, 3) := dk_17 31 255 (dk_at dksX3_gf_reduce_0 1 rfl rfl)
theorem dX3_gf_reduce_4 : decode cX3_gf_reduce 4 = .ok (.iand, 1) := dk_126 (dk_at dksX3_gf_reduce_0 4 rfl rfl)
theorem dX3_gf_reduce_5 : decode cX3_gf_reduce 5 = .ok (.istore_n 2, 1) := dk_61 (dk_at dksX3_gf_reduce_0 5 rfl rfl)
theorem dX3_gf_reduce_6 : decode cX3_gf_reduce 6 = .ok (.iload_n 1, 1) := dk_27 (dk_at dksX3_gf_reduce_0 6 rfl rfl)
theorem dX3_gf_reduce_7 : decode cX3_gf_reduce 7 = .ok (.bipush 13, 2) := dk_16 13 (dk_at dksX3_gf_reduce_0 7 rfl rfl)
theorem dX3_gf_reduce_9 : decode cX3_gf_reduce 9 = .ok (.iushr, 1) := dk_124 (dk_at dksX3_gf_reduce_0 9 rfl rfl)
theorem dX3_gf_reduce_10 : decode cX3_gf_reduce 10 = .ok (.istore_n 3, 1) := dk_62 (dk_at dksX3_gf_reduce_0 10 rfl rfl)
theorem dX3_gf_reduce_11 : decode cX3_gf_reduce 11 = .ok (.iload_n 3, 1) := dk_29 (dk_at dksX3_gf_reduce_0 11 rfl rfl)
theorem dX3_gf_reduce_12 : decode cX3_gf_reduce 12 = .ok (.iconst 4, 1) := dk_7 (dk_at dksX3_gf_reduce_0 12 rfl rfl)
theorem dX3_gf_reduce_13 : decode cX3_gf_reduce 13 = .ok (.ishl, 1) := dk_120 (dk_at dksX3_gf_reduce_0 13 rfl rfl)
theorem dX3_gf_reduce_14 : decode cX3_gf_reduce 14 = .ok (.iload_n 3, 1) := dk_29 (dk_at dksX3_gf_reduce_0 14 rfl rfl)
theorem dX3_gf_reduce_15 : decode cX3_gf_reduce 15 = .ok (.iconst 3, 1) := dk_6 (dk_at dksX3_gf_reduce_0 15 rfl rfl)
theorem dX3_gf_reduce_16 : decode cX3_gf_reduce 16 = .ok (.ishl, 1) := dk_120 (dk_at dksX3_gf_reduce_0 16 rfl rfl)
theorem dX3_gf_reduce_17 : decode cX3_gf_reduce 17 = .ok (.ixor, 1) := dk_130 (dk_at dksX3_gf_reduce_0 17 rfl rfl)
theorem dX3_gf_reduce_18 : decode cX3_gf_reduce 18 = .ok (.iload_n 3, 1) := dk_29 (dk_at dksX3_gf_reduce_0 18 rfl rfl)
theorem dX3_gf_reduce_19 : decode cX3_gf_reduce 19 = .ok (.iconst 1, 1) := dk_4 (dk_at dksX3_gf_reduce_0 19 rfl rfl)
theorem dX3_gf_reduce_20 : decode cX3_gf_reduce 20 = .ok (.ishl, 1) := dk_120 (dk_at dksX3_gf_reduce_0 20 rfl rfl)
theorem dX3_gf_reduce_21 : decode cX3_gf_reduce 21 = .ok (.ixor, 1) := dk_130 (dk_at dksX3_gf_reduce_0 21 rfl rfl)
theorem dX3_gf_reduce_22 : decode cX3_gf_reduce 22 = .ok (.istore 4, 2) := dk_54 4 (dk_at dksX3_gf_reduce_0 22 rfl rfl)
theorem dX3_gf_reduce_24 : decode cX3_gf_reduce 24 = .ok (.iload 4, 2) := dk_21 4 (dk_at dksX3_gf_reduce_1 0 rfl rfl)
theorem dX3_gf_reduce_26 : decode cX3_gf_reduce 26 = .ok (.bipush 13, 2) := dk_16 13 (dk_at dksX3_gf_reduce_1 2 rfl rfl)
theorem dX3_gf_reduce_28 : decode cX3_gf_reduce 28 = .ok (.iushr, 1) := dk_124 (dk_at dksX3_gf_reduce_1 4 rfl rfl)
theorem dX3_gf_reduce_29 : decode cX3_gf_reduce 29 = .ok (.istore 5, 2) := dk_54 5 (dk_at dksX3_gf_reduce_1 5 rfl rfl)
theorem dX3_gf_reduce_31 : decode cX3_gf_reduce 31 = .ok (.iload 4, 2) := dk_21 4 (dk_at dksX3_gf_reduce_1 7 rfl rfl)
theorem dX3_gf_reduce_33 : decode cX3_gf_reduce 33 = .ok (.sipush 8191, 3) := dk_17 31 255 (dk_at dksX3_gf_reduce_1 9 rfl rfl)
theorem dX3_gf_reduce_36 : decode cX3_gf_reduce 36 = .ok (.iand, 1) := dk_126 (dk_at dksX3_gf_reduce_1 12 rfl rfl)
theorem dX3_gf_reduce_37 : decode cX3_gf_reduce 37 = .ok (.istore 6, 2) := dk_54 6 (dk_at dksX3_gf_reduce_1 13 rfl rfl)
theorem dX3_gf_reduce_39 : decode cX3_gf_reduce 39 = .ok (.iload 5, 2) := dk_21 5 (dk_at dksX3_gf_reduce_1 15 rfl rfl)
theorem dX3_gf_reduce_41 : decode cX3_gf_reduce 41 = .ok (.iconst 4, 1) := dk_7 (dk_at dksX3_gf_reduce_1 17 rfl rfl)
theorem dX3_gf_reduce_42 : decode cX3_gf_reduce 42 = .ok (.ishl, 1) := dk_120 (dk_at dksX3_gf_reduce_1 18 rfl rfl)
theorem dX3_gf_reduce_43 : decode cX3_gf_reduce 43 = .ok (.iload 5, 2) := dk_21 5 (dk_at dksX3_gf_reduce_1 19 rfl rfl)
theorem dX3_gf_reduce_45 : decode cX3_gf_reduce 45 = .ok (.iconst 3, 1) := dk_6 (dk_at dksX3_gf_reduce_1 21 rfl rfl)
theorem dX3_gf_reduce_46 : decode cX3_gf_reduce 46 = .ok (.ishl, 1) := dk_120 (dk_at dksX3_gf_reduce_1 22 rfl rfl)
theorem dX3_gf_reduce_47 : decode cX3_gf_reduce 47 = .ok (.ixor, 1) := dk_130 (dk_at dksX3_gf_reduce_1 23 rfl rfl)
theorem dX3_gf_reduce_48 : decode cX3_gf_reduce 48 = .ok (.iload 5, 2) := dk_21 5 (dk_at dksX3_gf_reduce_2 0 rfl rfl)
theorem dX3_gf_reduce_50 : decode cX3_gf_reduce 50 = .ok (.iconst 1, 1) := dk_4 (dk_at dksX3_gf_reduce_2 2 rfl rfl)
theorem dX3_gf_reduce_51 : decode cX3_gf_reduce 51 = .ok (.ishl, 1) := dk_120 (dk_at dksX3_gf_reduce_2 3 rfl rfl)
theorem dX3_gf_reduce_52 : decode cX3_gf_reduce 52 = .ok (.ixor, 1) := dk_130 (dk_at dksX3_gf_reduce_2 4 rfl rfl)
theorem dX3_gf_reduce_53 : decode cX3_gf_reduce 53 = .ok (.istore 7, 2) := dk_54 7 (dk_at dksX3_gf_reduce_2 5 rfl rfl)
theorem dX3_gf_reduce_55 : decode cX3_gf_reduce 55 = .ok (.iload_n 2, 1) := dk_28 (dk_at dksX3_gf_reduce_2 7 rfl rfl)
theorem dX3_gf_reduce_56 : decode cX3_gf_reduce 56 = .ok (.iload_n 3, 1) := dk_29 (dk_at dksX3_gf_reduce_2 8 rfl rfl)
theorem dX3_gf_reduce_57 : decode cX3_gf_reduce 57 = .ok (.ixor, 1) := dk_130 (dk_at dksX3_gf_reduce_2 9 rfl rfl)
theorem dX3_gf_reduce_58 : decode cX3_gf_reduce 58 = .ok (.iload 5, 2) := dk_21 5 (dk_at dksX3_gf_reduce_2 10 rfl rfl)
theorem dX3_gf_reduce_60 : decode cX3_gf_reduce 60 = .ok (.ixor, 1) := dk_130 (dk_at dksX3_gf_reduce_2 12 rfl rfl)
theorem dX3_gf_reduce_61 : decode cX3_gf_reduce 61 = .ok (.iload 6, 2) := dk_21 6 (dk_at dksX3_gf_reduce_2 13 rfl rfl)
theorem dX3_gf_reduce_63 : decode cX3_gf_reduce 63 = .ok (.ixor, 1) := dk_130 (dk_at dksX3_gf_reduce_2 15 rfl rfl)
theorem dX3_gf_reduce_64 : decode cX3_gf_reduce 64 = .ok (.iload 7, 2) := dk_21 7 (dk_at dksX3_gf_reduce_2 16 rfl rfl)
theorem dX3_gf_reduce_66 : decode cX3_gf_reduce 66 = .ok (.ixor, 1) := dk_130 (dk_at dksX3_gf_reduce_2 18 rfl rfl)
theorem dX3_gf_reduce_67 : decode cX3_gf_reduce 67 = .ok (.i2s, 1) := dk_147 (dk_at dksX3_gf_reduce_2 19 rfl rfl)
theorem dX3_gf_reduce_68 : decode cX3_gf_reduce 68 = .ok (.ireturn, 1) := dk_172 (dk_at dksX3_gf_reduce_2 20 rfl rfl)
abbrev cX3_gf_sq : ByteArray := prog_3_method_7_code
def yX3_gf_sq : MethodName := ⟨RX3, "gf_sq", "(S)S"⟩
def dkwX3_gf_sq_0 : List UInt8 := [27, 184, 0, 27, 61, 42, 28, 182, 0, 23, 172]
abbrev dktX3_gf_sq_0 : List UInt8 := dkwX3_gf_sq_0 ++ []
theorem dksX3_gf_sq_0 : cX3_gf_sq.data.toList.drop 0 = dktX3_gf_sq_0 := by decide +kernel
theorem dX3_gf_sq_0 : decode cX3_gf_sq 0 = .ok (.iload_n 1, 1) := dk_27 (dk_at dksX3_gf_sq_0 0 rfl rfl)
theorem dX3_gf_sq_1 : decode cX3_gf_sq 1 = .ok (.invokestatic 27, 3) := dk_184 0 27 (dk_at dksX3_gf_sq_0 1 rfl rfl)
theorem dX3_gf_sq_4 : decode cX3_gf_sq 4 = .ok (.istore_n 2, 1) := dk_61 (dk_at dksX3_gf_sq_0 4 rfl rfl)
theorem dX3_gf_sq_5 : decode cX3_gf_sq 5 = .ok (.aload_n 0, 1) := dk_42 (dk_at dksX3_gf_sq_0 5 rfl rfl)
theorem dX3_gf_sq_6 : decode cX3_gf_sq 6 = .ok (.iload_n 2, 1) := dk_28 (dk_at dksX3_gf_sq_0 6 rfl rfl)
theorem dX3_gf_sq_7 : decode cX3_gf_sq 7 = .ok (.invokevirtual 23, 3) := dk_182 0 23 (dk_at dksX3_gf_sq_0 7 rfl rfl)
theorem dX3_gf_sq_10 : decode cX3_gf_sq 10 = .ok (.ireturn, 1) := dk_172 (dk_at dksX3_gf_sq_0 10 rfl rfl)
abbrev cX3_gf_inv : ByteArray := prog_3_method_3_code
def yX3_gf_inv : MethodName := ⟨RX3, "gf_inv", "(S)S"⟩
def dkwX3_gf_inv_0 : List UInt8 := [42, 27, 4, 182, 0, 20, 172]
abbrev dktX3_gf_inv_0 : List UInt8 := dkwX3_gf_inv_0 ++ []
theorem dksX3_gf_inv_0 : cX3_gf_inv.data.toList.drop 0 = dktX3_gf_inv_0 := by decide +kernel
theorem dX3_gf_inv_0 : decode cX3_gf_inv 0 = .ok (.aload_n 0, 1) := dk_42 (dk_at dksX3_gf_inv_0 0 rfl rfl)
theorem dX3_gf_inv_1 : decode cX3_gf_inv 1 = .ok (.iload_n 1, 1) := dk_27 (dk_at dksX3_gf_inv_0 1 rfl rfl)
theorem dX3_gf_inv_2 : decode cX3_gf_inv 2 = .ok (.iconst 1, 1) := dk_4 (dk_at dksX3_gf_inv_0 2 rfl rfl)
theorem dX3_gf_inv_3 : decode cX3_gf_inv 3 = .ok (.invokevirtual 20, 3) := dk_182 0 20 (dk_at dksX3_gf_inv_0 3 rfl rfl)
theorem dX3_gf_inv_6 : decode cX3_gf_inv 6 = .ok (.ireturn, 1) := dk_172 (dk_at dksX3_gf_inv_0 6 rfl rfl)
abbrev cX3_gf_frac : ByteArray := prog_3_method_2_code
def yX3_gf_frac : MethodName := ⟨RX3, "gf_frac", "(SS)S"⟩
def dkwX3_gf_frac_2 : List UInt8 := [182, 0, 13, 54, 5, 42, 21, 5, 28, 182, 0, 7, 172]
abbrev dktX3_gf_frac_2 : List UInt8 := dkwX3_gf_frac_2 ++ []
def dkwX3_gf_frac_1 : List UInt8 := [21, 5, 21, 4, 182, 0, 13, 54, 5, 42, 21, 5, 182, 0, 16, 54, 5, 42, 21, 5, 21, 4]
abbrev dktX3_gf_frac_1 : List UInt8 := dkwX3_gf_frac_1 ++ dktX3_gf_frac_2
def dkwX3_gf_frac_0 : List UInt8 := [42, 27, 27, 182, 0, 7, 62, 42, 29, 29, 182, 0, 13, 54, 4, 42, 21, 4, 182, 0, 16, 54, 5, 42]
abbrev dktX3_gf_frac_0 : List UInt8 := dkwX3_gf_frac_0 ++ dktX3_gf_frac_1
theorem dksX3_gf_frac_0 : cX3_gf_frac.data.toList.drop 0 = dktX3_gf_frac_0 := by decide +kernel
theorem dksX3_gf_frac_1 : cX3_gf_frac.data.toList.drop 24 = dktX3_gf_frac_1 := dk_seg dksX3_gf_frac_0 24 rfl rfl
theorem dksX3_gf_frac_2 : cX3_gf_frac.data.toList.drop 46 = dktX3_gf_frac_2 := dk_seg dksX3_gf_frac_1 22 rfl rfl
theorem dX3_gf_frac_0 : decode cX3_gf_frac 0 = .ok (.aload_n 0, 1) := dk_42 (dk_at dksX3_gf_frac_0 0 rfl rfl)
theorem dX3_gf_frac_1 : decode cX3_gf_frac 1 = .ok (.iload_n 1, 1) := dk_27 (dk_at dksX3_gf_frac_0 1 rfl rfl)
theorem dX3_gf_frac_2 : decode cX3_gf_frac 2 = .ok (.iload_n 1, 1) := dk_27 (dk_at dksX3_gf_frac_0 2 rfl rfl)
theorem dX3_gf_frac_3 : decode cX3_gf_frac 3 = .ok (.invokevirtual 7, 3) := dk_182 0 7 (dk_at dksX3_gf_frac_0 3 rfl rfl)
theorem dX3_gf_frac_6 : decode cX3_gf_frac 6 = .ok (.istore_n 3, 1) := dk_62 (dk_at dksX3_gf_frac_0 6 rfl rfl)
theorem dX3_gf_frac_7 : decode cX3_gf_frac 7 = .ok (.aload_n 0, 1) := dk_42 (dk_at dksX3_gf_frac_0 7 rfl rfl)
theorem dX3_gf_frac_8 : decode cX3_gf_frac 8 = .ok (.iload_n 3, 1) := dk_29 (dk_at dksX3_gf_frac_0 8 rfl rfl)
theorem dX3_gf_frac_9 : decode cX3_gf_frac 9 = .ok (.iload_n 3, 1) := dk_29 (dk_at dksX3_gf_frac_0 9 rfl rfl)
theorem dX3_gf_frac_10 : decode cX3_gf_frac 10 = .ok (.invokevirtual 13, 3) := dk_182 0 13 (dk_at dksX3_gf_frac_0 10 rfl rfl)
theorem dX3_gf_frac_13 : decode cX3_gf_frac 13 = .ok (.istore 4, 2) := dk_54 4 (dk_at dksX3_gf_frac_0 13 rfl rfl)
theorem dX3_gf_frac_15 : decode cX3_gf_frac 15 = .ok (.aload_n 0, 1) := dk_42 (dk_at dksX3_gf_frac_0 15 rfl rfl)
theorem dX3_gf_frac_16 : decode cX3_gf_frac 16 = .ok (.iload 4, 2) := dk_21 4 (dk_at dksX3_gf_frac_0 16 rfl rfl)
theorem dX3_gf_frac_18 : decode cX3_gf_frac 18 = .ok (.invokevirtual 16, 3) := dk_182 0 16 (dk_at dksX3_gf_frac_0 18 rfl rfl)
theorem dX3_gf_frac_21 : decode cX3_gf_frac 21 = .ok (.istore 5, 2) := dk_54 5 (dk_at dksX3_gf_frac_0 21 rfl rfl)
theorem dX3_gf_frac_23 : decode cX3_gf_frac 23 = .ok (.aload_n 0, 1) := dk_42 (dk_at dksX3_gf_frac_0 23 rfl rfl)
theorem dX3_gf_frac_24 : decode cX3_gf_frac 24 = .ok (.iload 5, 2) := dk_21 5 (dk_at dksX3_gf_frac_1 0 rfl rfl)
theorem dX3_gf_frac_26 : decode cX3_gf_frac 26 = .ok (.iload 4, 2) := dk_21 4 (dk_at dksX3_gf_frac_1 2 rfl rfl)
theorem dX3_gf_frac_28 : decode cX3_gf_frac 28 = .ok (.invokevirtual 13, 3) := dk_182 0 13 (dk_at dksX3_gf_frac_1 4 rfl rfl)
theorem dX3_gf_frac_31 : decode cX3_gf_frac 31 = .ok (.istore 5, 2) := dk_54 5 (dk_at dksX3_gf_frac_1 7 rfl rfl)
theorem dX3_gf_frac_33 : decode cX3_gf_frac 33 = .ok (.aload_n 0, 1) := dk_42 (dk_at dksX3_gf_frac_1 9 rfl rfl)
theorem dX3_gf_frac_34 : decode cX3_gf_frac 34 = .ok (.iload 5, 2) := dk_21 5 (dk_at dksX3_gf_frac_1 10 rfl rfl)
theorem dX3_gf_frac_36 : decode cX3_gf_frac 36 = .ok (.invokevirtual 16, 3) := dk_182 0 16 (dk_at dksX3_gf_frac_1 12 rfl rfl)
theorem dX3_gf_frac_39 : decode cX3_gf_frac 39 = .ok (.istore 5, 2) := dk_54 5 (dk_at dksX3_gf_frac_1 15 rfl rfl)
theorem dX3_gf_frac_41 : decode cX3_gf_frac 41 = .ok (.aload_n 0, 1) := dk_42 (dk_at dksX3_gf_frac_1 17 rfl rfl)
theorem dX3_gf_frac_42 : decode cX3_gf_frac 42 = .ok (.iload 5, 2) := dk_21 5 (dk_at dksX3_gf_frac_1 18 rfl rfl)
theorem dX3_gf_frac_44 : decode cX3_gf_frac 44 = .ok (.iload 4, 2) := dk_21 4 (dk_at dksX3_gf_frac_1 20 rfl rfl)
theorem dX3_gf_frac_46 : decode cX3_gf_frac 46 = .ok (.invokevirtual 13, 3) := dk_182 0 13 (dk_at dksX3_gf_frac_2 0 rfl rfl)
theorem dX3_gf_frac_49 : decode cX3_gf_frac 49 = .ok (.istore 5, 2) := dk_54 5 (dk_at dksX3_gf_frac_2 3 rfl rfl)
theorem dX3_gf_frac_51 : decode cX3_gf_frac 51 = .ok (.aload_n 0, 1) := dk_42 (dk_at dksX3_gf_frac_2 5 rfl rfl)
theorem dX3_gf_frac_52 : decode cX3_gf_frac 52 = .ok (.iload 5, 2) := dk_21 5 (dk_at dksX3_gf_frac_2 6 rfl rfl)
theorem dX3_gf_frac_54 : decode cX3_gf_frac 54 = .ok (.iload_n 2, 1) := dk_28 (dk_at dksX3_gf_frac_2 8 rfl rfl)
theorem dX3_gf_frac_55 : decode cX3_gf_frac 55 = .ok (.invokevirtual 7, 3) := dk_182 0 7 (dk_at dksX3_gf_frac_2 9 rfl rfl)
theorem dX3_gf_frac_58 : decode cX3_gf_frac 58 = .ok (.ireturn, 1) := dk_172 (dk_at dksX3_gf_frac_2 12 rfl rfl)
abbrev cX3_gf_sqmul : ByteArray := prog_3_method_10_code
def yX3_gf_sqmul : MethodName := ⟨RX3, "gf_sqmul", "(SS)S"⟩
def dkwX3_gf_sqmul_6 : List UInt8 := [16, 24, 125, 131, 22, 9, 16, 26, 125, 131, 131, 55, 7, 42, 22, 7, 136, 18, 49, 126, 182, 0, 23, 172]
abbrev dktX3_gf_sqmul_6 : List UInt8 := dkwX3_gf_sqmul_6 ++ []
def dkwX3_gf_sqmul_5 : List UInt8 := [22, 7, 20, 0, 47, 127, 55, 9, 22, 7, 22, 9, 16, 18, 125, 22, 9, 16, 20, 125, 131, 22, 9]
abbrev dktX3_gf_sqmul_5 : List UInt8 := dkwX3_gf_sqmul_5 ++ dktX3_gf_sqmul_6
def dkwX3_gf_sqmul_4 : List UInt8 := [20, 0, 43, 127, 105, 131, 55, 7, 22, 7, 22, 5, 8, 121, 33, 20, 0, 45, 127, 105, 131, 55, 7]
abbrev dktX3_gf_sqmul_4 : List UInt8 := dkwX3_gf_sqmul_4 ++ dktX3_gf_sqmul_5
def dkwX3_gf_sqmul_3 : List UInt8 := [22, 7, 22, 5, 6, 121, 33, 20, 0, 41, 127, 105, 131, 55, 7, 22, 7, 22, 5, 7, 121, 33]
abbrev dktX3_gf_sqmul_3 : List UInt8 := dkwX3_gf_sqmul_3 ++ dktX3_gf_sqmul_4
def dkwX3_gf_sqmul_2 : List UInt8 := [33, 20, 0, 37, 127, 105, 131, 55, 7, 22, 7, 22, 5, 5, 121, 33, 20, 0, 39, 127, 105, 131, 55, 7]
abbrev dktX3_gf_sqmul_2 : List UInt8 := dkwX3_gf_sqmul_2 ++ dktX3_gf_sqmul_3
def dkwX3_gf_sqmul_1 : List UInt8 := [121, 131, 66, 22, 7, 22, 5, 3, 121, 33, 20, 0, 35, 127, 105, 131, 55, 7, 22, 7, 22, 5, 4, 121]
abbrev dktX3_gf_sqmul_1 : List UInt8 := dkwX3_gf_sqmul_1 ++ dktX3_gf_sqmul_2
def dkwX3_gf_sqmul_0 : List UInt8 := [27, 133, 66, 28, 133, 55, 5, 22, 5, 16, 6, 121, 33, 20, 0, 33, 127, 105, 55, 7, 33, 33, 16, 7]
abbrev dktX3_gf_sqmul_0 : List UInt8 := dkwX3_gf_sqmul_0 ++ dktX3_gf_sqmul_1
theorem dksX3_gf_sqmul_0 : cX3_gf_sqmul.data.toList.drop 0 = dktX3_gf_sqmul_0 := by decide +kernel
theorem dksX3_gf_sqmul_1 : cX3_gf_sqmul.data.toList.drop 24 = dktX3_gf_sqmul_1 := dk_seg dksX3_gf_sqmul_0 24 rfl rfl
theorem dksX3_gf_sqmul_2 : cX3_gf_sqmul.data.toList.drop 48 = dktX3_gf_sqmul_2 := dk_seg dksX3_gf_sqmul_1 24 rfl rfl
theorem dksX3_gf_sqmul_3 : cX3_gf_sqmul.data.toList.drop 72 = dktX3_gf_sqmul_3 := dk_seg dksX3_gf_sqmul_2 24 rfl rfl
theorem dksX3_gf_sqmul_4 : cX3_gf_sqmul.data.toList.drop 94 = dktX3_gf_sqmul_4 := dk_seg dksX3_gf_sqmul_3 22 rfl rfl
theorem dksX3_gf_sqmul_5 : cX3_gf_sqmul.data.toList.drop 117 = dktX3_gf_sqmul_5 := dk_seg dksX3_gf_sqmul_4 23 rfl rfl
theorem dksX3_gf_sqmul_6 : cX3_gf_sqmul.data.toList.drop 140 = dktX3_gf_sqmul_6 := dk_seg dksX3_gf_sqmul_5 23 rfl rfl
theorem dX3_gf_sqmul_0 : decode cX3_gf_sqmul 0 = .ok (.iload_n 1, 1) := dk_27 (dk_at dksX3_gf_sqmul_0 0 rfl rfl)
theorem dX3_gf_sqmul_1 : decode cX3_gf_sqmul 1 = .ok (.i2l, 1) := dk_133 (dk_at dksX3_gf_sqmul_0 1 rfl rfl)
theorem dX3_gf_sqmul_2 : decode cX3_gf_sqmul 2 = .ok (.lstore_n 3, 1) := dk_66 (dk_at dksX3_gf_sqmul_0 2 rfl rfl)
theorem dX3_gf_sqmul_3 : decode cX3_gf_sqmul 3 = .ok (.iload_n 2, 1) := dk_28 (dk_at dksX3_gf_sqmul_0 3 rfl rfl)
theorem dX3_gf_sqmul_4 : decode cX3_gf_sqmul 4 = .ok (.i2l, 1) := dk_133 (dk_at dksX3_gf_sqmul_0 4 rfl rfl)
theorem dX3_gf_sqmul_5 : decode cX3_gf_sqmul 5 = .ok (.lstore 5, 2) := dk_55 5 (dk_at dksX3_gf_sqmul_0 5 rfl rfl)
theorem dX3_gf_sqmul_7 : decode cX3_gf_sqmul 7 = .ok (.lload 5, 2) := dk_22 5 (dk_at dksX3_gf_sqmul_0 7 rfl rfl)
theorem dX3_gf_sqmul_9 : decode cX3_gf_sqmul 9 = .ok (.bipush 6, 2) := dk_16 6 (dk_at dksX3_gf_sqmul_0 9 rfl rfl)
theorem dX3_gf_sqmul_11 : decode cX3_gf_sqmul 11 = .ok (.lshl, 1) := dk_121 (dk_at dksX3_gf_sqmul_0 11 rfl rfl)
theorem dX3_gf_sqmul_12 : decode cX3_gf_sqmul 12 = .ok (.lload_n 3, 1) := dk_33 (dk_at dksX3_gf_sqmul_0 12 rfl rfl)
theorem dX3_gf_sqmul_13 : decode cX3_gf_sqmul 13 = .ok (.ldc2_w 33, 3) := dk_20 0 33 (dk_at dksX3_gf_sqmul_0 13 rfl rfl)
theorem dX3_gf_sqmul_16 : decode cX3_gf_sqmul 16 = .ok (.land, 1) := dk_127 (dk_at dksX3_gf_sqmul_0 16 rfl rfl)
theorem dX3_gf_sqmul_17 : decode cX3_gf_sqmul 17 = .ok (.lmul, 1) := dk_105 (dk_at dksX3_gf_sqmul_0 17 rfl rfl)
theorem dX3_gf_sqmul_18 : decode cX3_gf_sqmul 18 = .ok (.lstore 7, 2) := dk_55 7 (dk_at dksX3_gf_sqmul_0 18 rfl rfl)
theorem dX3_gf_sqmul_20 : decode cX3_gf_sqmul 20 = .ok (.lload_n 3, 1) := dk_33 (dk_at dksX3_gf_sqmul_0 20 rfl rfl)
theorem dX3_gf_sqmul_21 : decode cX3_gf_sqmul 21 = .ok (.lload_n 3, 1) := dk_33 (dk_at dksX3_gf_sqmul_0 21 rfl rfl)
theorem dX3_gf_sqmul_22 : decode cX3_gf_sqmul 22 = .ok (.bipush 7, 2) := dk_16 7 (dk_at dksX3_gf_sqmul_0 22 rfl rfl)
theorem dX3_gf_sqmul_24 : decode cX3_gf_sqmul 24 = .ok (.lshl, 1) := dk_121 (dk_at dksX3_gf_sqmul_1 0 rfl rfl)
theorem dX3_gf_sqmul_25 : decode cX3_gf_sqmul 25 = .ok (.lxor, 1) := dk_131 (dk_at dksX3_gf_sqmul_1 1 rfl rfl)
theorem dX3_gf_sqmul_26 : decode cX3_gf_sqmul 26 = .ok (.lstore_n 3, 1) := dk_66 (dk_at dksX3_gf_sqmul_1 2 rfl rfl)
theorem dX3_gf_sqmul_27 : decode cX3_gf_sqmul 27 = .ok (.lload 7, 2) := dk_22 7 (dk_at dksX3_gf_sqmul_1 3 rfl rfl)
theorem dX3_gf_sqmul_29 : decode cX3_gf_sqmul 29 = .ok (.lload 5, 2) := dk_22 5 (dk_at dksX3_gf_sqmul_1 5 rfl rfl)
theorem dX3_gf_sqmul_31 : decode cX3_gf_sqmul 31 = .ok (.iconst 0, 1) := dk_3 (dk_at dksX3_gf_sqmul_1 7 rfl rfl)
theorem dX3_gf_sqmul_32 : decode cX3_gf_sqmul 32 = .ok (.lshl, 1) := dk_121 (dk_at dksX3_gf_sqmul_1 8 rfl rfl)
theorem dX3_gf_sqmul_33 : decode cX3_gf_sqmul 33 = .ok (.lload_n 3, 1) := dk_33 (dk_at dksX3_gf_sqmul_1 9 rfl rfl)
theorem dX3_gf_sqmul_34 : decode cX3_gf_sqmul 34 = .ok (.ldc2_w 35, 3) := dk_20 0 35 (dk_at dksX3_gf_sqmul_1 10 rfl rfl)
theorem dX3_gf_sqmul_37 : decode cX3_gf_sqmul 37 = .ok (.land, 1) := dk_127 (dk_at dksX3_gf_sqmul_1 13 rfl rfl)
theorem dX3_gf_sqmul_38 : decode cX3_gf_sqmul 38 = .ok (.lmul, 1) := dk_105 (dk_at dksX3_gf_sqmul_1 14 rfl rfl)
theorem dX3_gf_sqmul_39 : decode cX3_gf_sqmul 39 = .ok (.lxor, 1) := dk_131 (dk_at dksX3_gf_sqmul_1 15 rfl rfl)
theorem dX3_gf_sqmul_40 : decode cX3_gf_sqmul 40 = .ok (.lstore 7, 2) := dk_55 7 (dk_at dksX3_gf_sqmul_1 16 rfl rfl)
theorem dX3_gf_sqmul_42 : decode cX3_gf_sqmul 42 = .ok (.lload 7, 2) := dk_22 7 (dk_at dksX3_gf_sqmul_1 18 rfl rfl)
theorem dX3_gf_sqmul_44 : decode cX3_gf_sqmul 44 = .ok (.lload 5, 2) := dk_22 5 (dk_at dksX3_gf_sqmul_1 20 rfl rfl)
theorem dX3_gf_sqmul_46 : decode cX3_gf_sqmul 46 = .ok (.iconst 1, 1) := dk_4 (dk_at dksX3_gf_sqmul_1 22 rfl rfl)
theorem dX3_gf_sqmul_47 : decode cX3_gf_sqmul 47 = .ok (.lshl, 1) := dk_121 (dk_at dksX3_gf_sqmul_1 23 rfl rfl)
theorem dX3_gf_sqmul_48 : decode cX3_gf_sqmul 48 = .ok (.lload_n 3, 1) := dk_33 (dk_at dksX3_gf_sqmul_2 0 rfl rfl)
theorem dX3_gf_sqmul_49 : decode cX3_gf_sqmul 49 = .ok (.ldc2_w 37, 3) := dk_20 0 37 (dk_at dksX3_gf_sqmul_2 1 rfl rfl)
theorem dX3_gf_sqmul_52 : decode cX3_gf_sqmul 52 = .ok (.land, 1) := dk_127 (dk_at dksX3_gf_sqmul_2 4 rfl rfl)
theorem dX3_gf_sqmul_53 : decode cX3_gf_sqmul 53 = .ok (.lmul, 1) := dk_105 (dk_at dksX3_gf_sqmul_2 5 rfl rfl)
theorem dX3_gf_sqmul_54 : decode cX3_gf_sqmul 54 = .ok (.lxor, 1) := dk_131 (dk_at dksX3_gf_sqmul_2 6 rfl rfl)
theorem dX3_gf_sqmul_55 : decode cX3_gf_sqmul 55 = .ok (.lstore 7, 2) := dk_55 7 (dk_at dksX3_gf_sqmul_2 7 rfl rfl)
theorem dX3_gf_sqmul_57 : decode cX3_gf_sqmul 57 = .ok (.lload 7, 2) := dk_22 7 (dk_at dksX3_gf_sqmul_2 9 rfl rfl)
theorem dX3_gf_sqmul_59 : decode cX3_gf_sqmul 59 = .ok (.lload 5, 2) := dk_22 5 (dk_at dksX3_gf_sqmul_2 11 rfl rfl)
theorem dX3_gf_sqmul_61 : decode cX3_gf_sqmul 61 = .ok (.iconst 2, 1) := dk_5 (dk_at dksX3_gf_sqmul_2 13 rfl rfl)
theorem dX3_gf_sqmul_62 : decode cX3_gf_sqmul 62 = .ok (.lshl, 1) := dk_121 (dk_at dksX3_gf_sqmul_2 14 rfl rfl)
theorem dX3_gf_sqmul_63 : decode cX3_gf_sqmul 63 = .ok (.lload_n 3, 1) := dk_33 (dk_at dksX3_gf_sqmul_2 15 rfl rfl)
theorem dX3_gf_sqmul_64 : decode cX3_gf_sqmul 64 = .ok (.ldc2_w 39, 3) := dk_20 0 39 (dk_at dksX3_gf_sqmul_2 16 rfl rfl)
theorem dX3_gf_sqmul_67 : decode cX3_gf_sqmul 67 = .ok (.land, 1) := dk_127 (dk_at dksX3_gf_sqmul_2 19 rfl rfl)
theorem dX3_gf_sqmul_68 : decode cX3_gf_sqmul 68 = .ok (.lmul, 1) := dk_105 (dk_at dksX3_gf_sqmul_2 20 rfl rfl)
theorem dX3_gf_sqmul_69 : decode cX3_gf_sqmul 69 = .ok (.lxor, 1) := dk_131 (dk_at dksX3_gf_sqmul_2 21 rfl rfl)
theorem dX3_gf_sqmul_70 : decode cX3_gf_sqmul 70 = .ok (.lstore 7, 2) := dk_55 7 (dk_at dksX3_gf_sqmul_2 22 rfl rfl)
theorem dX3_gf_sqmul_72 : decode cX3_gf_sqmul 72 = .ok (.lload 7, 2) := dk_22 7 (dk_at dksX3_gf_sqmul_3 0 rfl rfl)
theorem dX3_gf_sqmul_74 : decode cX3_gf_sqmul 74 = .ok (.lload 5, 2) := dk_22 5 (dk_at dksX3_gf_sqmul_3 2 rfl rfl)
theorem dX3_gf_sqmul_76 : decode cX3_gf_sqmul 76 = .ok (.iconst 3, 1) := dk_6 (dk_at dksX3_gf_sqmul_3 4 rfl rfl)
theorem dX3_gf_sqmul_77 : decode cX3_gf_sqmul 77 = .ok (.lshl, 1) := dk_121 (dk_at dksX3_gf_sqmul_3 5 rfl rfl)
theorem dX3_gf_sqmul_78 : decode cX3_gf_sqmul 78 = .ok (.lload_n 3, 1) := dk_33 (dk_at dksX3_gf_sqmul_3 6 rfl rfl)
theorem dX3_gf_sqmul_79 : decode cX3_gf_sqmul 79 = .ok (.ldc2_w 41, 3) := dk_20 0 41 (dk_at dksX3_gf_sqmul_3 7 rfl rfl)
theorem dX3_gf_sqmul_82 : decode cX3_gf_sqmul 82 = .ok (.land, 1) := dk_127 (dk_at dksX3_gf_sqmul_3 10 rfl rfl)
theorem dX3_gf_sqmul_83 : decode cX3_gf_sqmul 83 = .ok (.lmul, 1) := dk_105 (dk_at dksX3_gf_sqmul_3 11 rfl rfl)
theorem dX3_gf_sqmul_84 : decode cX3_gf_sqmul 84 = .ok (.lxor, 1) := dk_131 (dk_at dksX3_gf_sqmul_3 12 rfl rfl)
theorem dX3_gf_sqmul_85 : decode cX3_gf_sqmul 85 = .ok (.lstore 7, 2) := dk_55 7 (dk_at dksX3_gf_sqmul_3 13 rfl rfl)
theorem dX3_gf_sqmul_87 : decode cX3_gf_sqmul 87 = .ok (.lload 7, 2) := dk_22 7 (dk_at dksX3_gf_sqmul_3 15 rfl rfl)
theorem dX3_gf_sqmul_89 : decode cX3_gf_sqmul 89 = .ok (.lload 5, 2) := dk_22 5 (dk_at dksX3_gf_sqmul_3 17 rfl rfl)
theorem dX3_gf_sqmul_91 : decode cX3_gf_sqmul 91 = .ok (.iconst 4, 1) := dk_7 (dk_at dksX3_gf_sqmul_3 19 rfl rfl)
theorem dX3_gf_sqmul_92 : decode cX3_gf_sqmul 92 = .ok (.lshl, 1) := dk_121 (dk_at dksX3_gf_sqmul_3 20 rfl rfl)
theorem dX3_gf_sqmul_93 : decode cX3_gf_sqmul 93 = .ok (.lload_n 3, 1) := dk_33 (dk_at dksX3_gf_sqmul_3 21 rfl rfl)
theorem dX3_gf_sqmul_94 : decode cX3_gf_sqmul 94 = .ok (.ldc2_w 43, 3) := dk_20 0 43 (dk_at dksX3_gf_sqmul_4 0 rfl rfl)
theorem dX3_gf_sqmul_97 : decode cX3_gf_sqmul 97 = .ok (.land, 1) := dk_127 (dk_at dksX3_gf_sqmul_4 3 rfl rfl)
theorem dX3_gf_sqmul_98 : decode cX3_gf_sqmul 98 = .ok (.lmul, 1) := dk_105 (dk_at dksX3_gf_sqmul_4 4 rfl rfl)
theorem dX3_gf_sqmul_99 : decode cX3_gf_sqmul 99 = .ok (.lxor, 1) := dk_131 (dk_at dksX3_gf_sqmul_4 5 rfl rfl)
theorem dX3_gf_sqmul_100 : decode cX3_gf_sqmul 100 = .ok (.lstore 7, 2) := dk_55 7 (dk_at dksX3_gf_sqmul_4 6 rfl rfl)
theorem dX3_gf_sqmul_102 : decode cX3_gf_sqmul 102 = .ok (.lload 7, 2) := dk_22 7 (dk_at dksX3_gf_sqmul_4 8 rfl rfl)
theorem dX3_gf_sqmul_104 : decode cX3_gf_sqmul 104 = .ok (.lload 5, 2) := dk_22 5 (dk_at dksX3_gf_sqmul_4 10 rfl rfl)
theorem dX3_gf_sqmul_106 : decode cX3_gf_sqmul 106 = .ok (.iconst 5, 1) := dk_8 (dk_at dksX3_gf_sqmul_4 12 rfl rfl)
theorem dX3_gf_sqmul_107 : decode cX3_gf_sqmul 107 = .ok (.lshl, 1) := dk_121 (dk_at dksX3_gf_sqmul_4 13 rfl rfl)
theorem dX3_gf_sqmul_108 : decode cX3_gf_sqmul 108 = .ok (.lload_n 3, 1) := dk_33 (dk_at dksX3_gf_sqmul_4 14 rfl rfl)
theorem dX3_gf_sqmul_109 : decode cX3_gf_sqmul 109 = .ok (.ldc2_w 45, 3) := dk_20 0 45 (dk_at dksX3_gf_sqmul_4 15 rfl rfl)
theorem dX3_gf_sqmul_112 : decode cX3_gf_sqmul 112 = .ok (.land, 1) := dk_127 (dk_at dksX3_gf_sqmul_4 18 rfl rfl)
theorem dX3_gf_sqmul_113 : decode cX3_gf_sqmul 113 = .ok (.lmul, 1) := dk_105 (dk_at dksX3_gf_sqmul_4 19 rfl rfl)
theorem dX3_gf_sqmul_114 : decode cX3_gf_sqmul 114 = .ok (.lxor, 1) := dk_131 (dk_at dksX3_gf_sqmul_4 20 rfl rfl)
theorem dX3_gf_sqmul_115 : decode cX3_gf_sqmul 115 = .ok (.lstore 7, 2) := dk_55 7 (dk_at dksX3_gf_sqmul_4 21 rfl rfl)
theorem dX3_gf_sqmul_117 : decode cX3_gf_sqmul 117 = .ok (.lload 7, 2) := dk_22 7 (dk_at dksX3_gf_sqmul_5 0 rfl rfl)
theorem dX3_gf_sqmul_119 : decode cX3_gf_sqmul 119 = .ok (.ldc2_w 47, 3) := dk_20 0 47 (dk_at dksX3_gf_sqmul_5 2 rfl rfl)
theorem dX3_gf_sqmul_122 : decode cX3_gf_sqmul 122 = .ok (.land, 1) := dk_127 (dk_at dksX3_gf_sqmul_5 5 rfl rfl)
theorem dX3_gf_sqmul_123 : decode cX3_gf_sqmul 123 = .ok (.lstore 9, 2) := dk_55 9 (dk_at dksX3_gf_sqmul_5 6 rfl rfl)
theorem dX3_gf_sqmul_125 : decode cX3_gf_sqmul 125 = .ok (.lload 7, 2) := dk_22 7 (dk_at dksX3_gf_sqmul_5 8 rfl rfl)
theorem dX3_gf_sqmul_127 : decode cX3_gf_sqmul 127 = .ok (.lload 9, 2) := dk_22 9 (dk_at dksX3_gf_sqmul_5 10 rfl rfl)
theorem dX3_gf_sqmul_129 : decode cX3_gf_sqmul 129 = .ok (.bipush 18, 2) := dk_16 18 (dk_at dksX3_gf_sqmul_5 12 rfl rfl)
theorem dX3_gf_sqmul_131 : decode cX3_gf_sqmul 131 = .ok (.lushr, 1) := dk_125 (dk_at dksX3_gf_sqmul_5 14 rfl rfl)
theorem dX3_gf_sqmul_132 : decode cX3_gf_sqmul 132 = .ok (.lload 9, 2) := dk_22 9 (dk_at dksX3_gf_sqmul_5 15 rfl rfl)
theorem dX3_gf_sqmul_134 : decode cX3_gf_sqmul 134 = .ok (.bipush 20, 2) := dk_16 20 (dk_at dksX3_gf_sqmul_5 17 rfl rfl)
theorem dX3_gf_sqmul_136 : decode cX3_gf_sqmul 136 = .ok (.lushr, 1) := dk_125 (dk_at dksX3_gf_sqmul_5 19 rfl rfl)
theorem dX3_gf_sqmul_137 : decode cX3_gf_sqmul 137 = .ok (.lxor, 1) := dk_131 (dk_at dksX3_gf_sqmul_5 20 rfl rfl)
theorem dX3_gf_sqmul_138 : decode cX3_gf_sqmul 138 = .ok (.lload 9, 2) := dk_22 9 (dk_at dksX3_gf_sqmul_5 21 rfl rfl)
theorem dX3_gf_sqmul_140 : decode cX3_gf_sqmul 140 = .ok (.bipush 24, 2) := dk_16 24 (dk_at dksX3_gf_sqmul_6 0 rfl rfl)
theorem dX3_gf_sqmul_142 : decode cX3_gf_sqmul 142 = .ok (.lushr, 1) := dk_125 (dk_at dksX3_gf_sqmul_6 2 rfl rfl)
theorem dX3_gf_sqmul_143 : decode cX3_gf_sqmul 143 = .ok (.lxor, 1) := dk_131 (dk_at dksX3_gf_sqmul_6 3 rfl rfl)
theorem dX3_gf_sqmul_144 : decode cX3_gf_sqmul 144 = .ok (.lload 9, 2) := dk_22 9 (dk_at dksX3_gf_sqmul_6 4 rfl rfl)
theorem dX3_gf_sqmul_146 : decode cX3_gf_sqmul 146 = .ok (.bipush 26, 2) := dk_16 26 (dk_at dksX3_gf_sqmul_6 6 rfl rfl)
theorem dX3_gf_sqmul_148 : decode cX3_gf_sqmul 148 = .ok (.lushr, 1) := dk_125 (dk_at dksX3_gf_sqmul_6 8 rfl rfl)
theorem dX3_gf_sqmul_149 : decode cX3_gf_sqmul 149 = .ok (.lxor, 1) := dk_131 (dk_at dksX3_gf_sqmul_6 9 rfl rfl)
theorem dX3_gf_sqmul_150 : decode cX3_gf_sqmul 150 = .ok (.lxor, 1) := dk_131 (dk_at dksX3_gf_sqmul_6 10 rfl rfl)
theorem dX3_gf_sqmul_151 : decode cX3_gf_sqmul 151 = .ok (.lstore 7, 2) := dk_55 7 (dk_at dksX3_gf_sqmul_6 11 rfl rfl)
theorem dX3_gf_sqmul_153 : decode cX3_gf_sqmul 153 = .ok (.aload_n 0, 1) := dk_42 (dk_at dksX3_gf_sqmul_6 13 rfl rfl)
theorem dX3_gf_sqmul_154 : decode cX3_gf_sqmul 154 = .ok (.lload 7, 2) := dk_22 7 (dk_at dksX3_gf_sqmul_6 14 rfl rfl)
theorem dX3_gf_sqmul_156 : decode cX3_gf_sqmul 156 = .ok (.l2i, 1) := dk_136 (dk_at dksX3_gf_sqmul_6 16 rfl rfl)
theorem dX3_gf_sqmul_157 : decode cX3_gf_sqmul 157 = .ok (.ldc 49, 2) := dk_18 49 (dk_at dksX3_gf_sqmul_6 17 rfl rfl)
theorem dX3_gf_sqmul_159 : decode cX3_gf_sqmul 159 = .ok (.iand, 1) := dk_126 (dk_at dksX3_gf_sqmul_6 19 rfl rfl)
theorem dX3_gf_sqmul_160 : decode cX3_gf_sqmul 160 = .ok (.invokevirtual 23, 3) := dk_182 0 23 (dk_at dksX3_gf_sqmul_6 20 rfl rfl)
theorem dX3_gf_sqmul_163 : decode cX3_gf_sqmul 163 = .ok (.ireturn, 1) := dk_172 (dk_at dksX3_gf_sqmul_6 23 rfl rfl)
abbrev cX3_gf_sq2mul : ByteArray := prog_3_method_11_code
def yX3_gf_sq2mul : MethodName := ⟨RX3, "gf_sq2mul", "(SS)S"⟩
def dkwX3_gf_sq2mul_8 : List UInt8 := [131, 131, 55, 7, 42, 22, 7, 136, 18, 49, 126, 182, 0, 23, 172]
abbrev dktX3_gf_sq2mul_8 : List UInt8 := dkwX3_gf_sq2mul_8 ++ []
def dkwX3_gf_sq2mul_7 : List UInt8 := [22, 7, 22, 9, 16, 18, 125, 22, 9, 16, 20, 125, 131, 22, 9, 16, 24, 125, 131, 22, 9, 16, 26, 125]
abbrev dktX3_gf_sq2mul_7 : List UInt8 := dkwX3_gf_sq2mul_7 ++ dktX3_gf_sq2mul_8
def dkwX3_gf_sq2mul_6 : List UInt8 := [22, 9, 16, 24, 125, 131, 22, 9, 16, 26, 125, 131, 131, 55, 7, 22, 7, 20, 0, 64, 127, 55, 9]
abbrev dktX3_gf_sq2mul_6 : List UInt8 := dkwX3_gf_sq2mul_6 ++ dktX3_gf_sq2mul_7
def dkwX3_gf_sq2mul_5 : List UInt8 := [55, 7, 22, 7, 20, 0, 62, 127, 55, 9, 22, 7, 22, 9, 16, 18, 125, 22, 9, 16, 20, 125, 131]
abbrev dktX3_gf_sq2mul_5 : List UInt8 := dkwX3_gf_sq2mul_5 ++ dktX3_gf_sq2mul_6
def dkwX3_gf_sq2mul_4 : List UInt8 := [121, 33, 20, 0, 58, 127, 105, 131, 55, 7, 22, 7, 22, 5, 16, 15, 121, 33, 20, 0, 60, 127, 105, 131]
abbrev dktX3_gf_sq2mul_4 : List UInt8 := dkwX3_gf_sq2mul_4 ++ dktX3_gf_sq2mul_5
def dkwX3_gf_sq2mul_3 : List UInt8 := [55, 7, 22, 7, 22, 5, 16, 9, 121, 33, 20, 0, 56, 127, 105, 131, 55, 7, 22, 7, 22, 5, 16, 12]
abbrev dktX3_gf_sq2mul_3 : List UInt8 := dkwX3_gf_sq2mul_3 ++ dktX3_gf_sq2mul_4
def dkwX3_gf_sq2mul_2 : List UInt8 := [33, 20, 0, 52, 127, 105, 131, 55, 7, 22, 7, 22, 5, 16, 6, 121, 33, 20, 0, 54, 127, 105, 131]
abbrev dktX3_gf_sq2mul_2 : List UInt8 := dkwX3_gf_sq2mul_2 ++ dktX3_gf_sq2mul_3
def dkwX3_gf_sq2mul_1 : List UInt8 := [121, 131, 66, 22, 7, 22, 5, 3, 121, 33, 20, 0, 50, 127, 105, 131, 55, 7, 22, 7, 22, 5, 6, 121]
abbrev dktX3_gf_sq2mul_1 : List UInt8 := dkwX3_gf_sq2mul_1 ++ dktX3_gf_sq2mul_2
def dkwX3_gf_sq2mul_0 : List UInt8 := [27, 133, 66, 28, 133, 55, 5, 22, 5, 16, 18, 121, 33, 20, 0, 33, 127, 105, 55, 7, 33, 33, 16, 21]
abbrev dktX3_gf_sq2mul_0 : List UInt8 := dkwX3_gf_sq2mul_0 ++ dktX3_gf_sq2mul_1
theorem dksX3_gf_sq2mul_0 : cX3_gf_sq2mul.data.toList.drop 0 = dktX3_gf_sq2mul_0 := by decide +kernel
theorem dksX3_gf_sq2mul_1 : cX3_gf_sq2mul.data.toList.drop 24 = dktX3_gf_sq2mul_1 := dk_seg dksX3_gf_sq2mul_0 24 rfl rfl
theorem dksX3_gf_sq2mul_2 : cX3_gf_sq2mul.data.toList.drop 48 = dktX3_gf_sq2mul_2 := dk_seg dksX3_gf_sq2mul_1 24 rfl rfl
theorem dksX3_gf_sq2mul_3 : cX3_gf_sq2mul.data.toList.drop 71 = dktX3_gf_sq2mul_3 := dk_seg dksX3_gf_sq2mul_2 23 rfl rfl
theorem dksX3_gf_sq2mul_4 : cX3_gf_sq2mul.data.toList.drop 95 = dktX3_gf_sq2mul_4 := dk_seg dksX3_gf_sq2mul_3 24 rfl rfl
theorem dksX3_gf_sq2mul_5 : cX3_gf_sq2mul.data.toList.drop 119 = dktX3_gf_sq2mul_5 := dk_seg dksX3_gf_sq2mul_4 24 rfl rfl
theorem dksX3_gf_sq2mul_6 : cX3_gf_sq2mul.data.toList.drop 142 = dktX3_gf_sq2mul_6 := dk_seg dksX3_gf_sq2mul_5 23 rfl rfl
theorem dksX3_gf_sq2mul_7 : cX3_gf_sq2mul.data.toList.drop 165 = dktX3_gf_sq2mul_7 := dk_seg dksX3_gf_sq2mul_6 23 rfl rfl
theorem dksX3_gf_sq2mul_8 : cX3_gf_sq2mul.data.toList.drop 189 = dktX3_gf_sq2mul_8 := dk_seg dksX3_gf_sq2mul_7 24 rfl rfl
theorem dX3_gf_sq2mul_0 : decode cX3_gf_sq2mul 0 = .ok (.iload_n 1, 1) := dk_27 (dk_at dksX3_gf_sq2mul_0 0 rfl rfl)
theorem dX3_gf_sq2mul_1 : decode cX3_gf_sq2mul 1 = .ok (.i2l, 1) := dk_133 (dk_at dksX3_gf_sq2mul_0 1 rfl rfl)
theorem dX3_gf_sq2mul_2 : decode cX3_gf_sq2mul 2 = .ok (.lstore_n 3, 1) := dk_66 (dk_at dksX3_gf_sq2mul_0 2 rfl rfl)
theorem dX3_gf_sq2mul_3 : decode cX3_gf_sq2mul 3 = .ok (.iload_n 2, 1) := dk_28 (dk_at dksX3_gf_sq2mul_0 3 rfl rfl)
theorem dX3_gf_sq2mul_4 : decode cX3_gf_sq2mul 4 = .ok (.i2l, 1) := dk_133 (dk_at dksX3_gf_sq2mul_0 4 rfl rfl)
theorem dX3_gf_sq2mul_5 : decode cX3_gf_sq2mul 5 = .ok (.lstore 5, 2) := dk_55 5 (dk_at dksX3_gf_sq2mul_0 5 rfl rfl)
theorem dX3_gf_sq2mul_7 : decode cX3_gf_sq2mul 7 = .ok (.lload 5, 2) := dk_22 5 (dk_at dksX3_gf_sq2mul_0 7 rfl rfl)
theorem dX3_gf_sq2mul_9 : decode cX3_gf_sq2mul 9 = .ok (.bipush 18, 2) := dk_16 18 (dk_at dksX3_gf_sq2mul_0 9 rfl rfl)
theorem dX3_gf_sq2mul_11 : decode cX3_gf_sq2mul 11 = .ok (.lshl, 1) := dk_121 (dk_at dksX3_gf_sq2mul_0 11 rfl rfl)
theorem dX3_gf_sq2mul_12 : decode cX3_gf_sq2mul 12 = .ok (.lload_n 3, 1) := dk_33 (dk_at dksX3_gf_sq2mul_0 12 rfl rfl)
theorem dX3_gf_sq2mul_13 : decode cX3_gf_sq2mul 13 = .ok (.ldc2_w 33, 3) := dk_20 0 33 (dk_at dksX3_gf_sq2mul_0 13 rfl rfl)
theorem dX3_gf_sq2mul_16 : decode cX3_gf_sq2mul 16 = .ok (.land, 1) := dk_127 (dk_at dksX3_gf_sq2mul_0 16 rfl rfl)
theorem dX3_gf_sq2mul_17 : decode cX3_gf_sq2mul 17 = .ok (.lmul, 1) := dk_105 (dk_at dksX3_gf_sq2mul_0 17 rfl rfl)
theorem dX3_gf_sq2mul_18 : decode cX3_gf_sq2mul 18 = .ok (.lstore 7, 2) := dk_55 7 (dk_at dksX3_gf_sq2mul_0 18 rfl rfl)
theorem dX3_gf_sq2mul_20 : decode cX3_gf_sq2mul 20 = .ok (.lload_n 3, 1) := dk_33 (dk_at dksX3_gf_sq2mul_0 20 rfl rfl)
theorem dX3_gf_sq2mul_21 : decode cX3_gf_sq2mul 21 = .ok (.lload_n 3, 1) := dk_33 (dk_at dksX3_gf_sq2mul_0 21 rfl rfl)
theorem dX3_gf_sq2mul_22 : decode cX3_gf_sq2mul 22 = .ok (.bipush 21, 2) := dk_16 21 (dk_at dksX3_gf_sq2mul_0 22 rfl rfl)
theorem dX3_gf_sq2mul_24 : decode cX3_gf_sq2mul 24 = .ok (.lshl, 1) := dk_121 (dk_at dksX3_gf_sq2mul_1 0 rfl rfl)
theorem dX3_gf_sq2mul_25 : decode cX3_gf_sq2mul 25 = .ok (.lxor, 1) := dk_131 (dk_at dksX3_gf_sq2mul_1 1 rfl rfl)
theorem dX3_gf_sq2mul_26 : decode cX3_gf_sq2mul 26 = .ok (.lstore_n 3, 1) := dk_66 (dk_at dksX3_gf_sq2mul_1 2 rfl rfl)
theorem dX3_gf_sq2mul_27 : decode cX3_gf_sq2mul 27 = .ok (.lload 7, 2) := dk_22 7 (dk_at dksX3_gf_sq2mul_1 3 rfl rfl)
theorem dX3_gf_sq2mul_29 : decode cX3_gf_sq2mul 29 = .ok (.lload 5, 2) := dk_22 5 (dk_at dksX3_gf_sq2mul_1 5 rfl rfl)
theorem dX3_gf_sq2mul_31 : decode cX3_gf_sq2mul 31 = .ok (.iconst 0, 1) := dk_3 (dk_at dksX3_gf_sq2mul_1 7 rfl rfl)
theorem dX3_gf_sq2mul_32 : decode cX3_gf_sq2mul 32 = .ok (.lshl, 1) := dk_121 (dk_at dksX3_gf_sq2mul_1 8 rfl rfl)
theorem dX3_gf_sq2mul_33 : decode cX3_gf_sq2mul 33 = .ok (.lload_n 3, 1) := dk_33 (dk_at dksX3_gf_sq2mul_1 9 rfl rfl)
theorem dX3_gf_sq2mul_34 : decode cX3_gf_sq2mul 34 = .ok (.ldc2_w 50, 3) := dk_20 0 50 (dk_at dksX3_gf_sq2mul_1 10 rfl rfl)
theorem dX3_gf_sq2mul_37 : decode cX3_gf_sq2mul 37 = .ok (.land, 1) := dk_127 (dk_at dksX3_gf_sq2mul_1 13 rfl rfl)
theorem dX3_gf_sq2mul_38 : decode cX3_gf_sq2mul 38 = .ok (.lmul, 1) := dk_105 (dk_at dksX3_gf_sq2mul_1 14 rfl rfl)
theorem dX3_gf_sq2mul_39 : decode cX3_gf_sq2mul 39 = .ok (.lxor, 1) := dk_131 (dk_at dksX3_gf_sq2mul_1 15 rfl rfl)
theorem dX3_gf_sq2mul_40 : decode cX3_gf_sq2mul 40 = .ok (.lstore 7, 2) := dk_55 7 (dk_at dksX3_gf_sq2mul_1 16 rfl rfl)
theorem dX3_gf_sq2mul_42 : decode cX3_gf_sq2mul 42 = .ok (.lload 7, 2) := dk_22 7 (dk_at dksX3_gf_sq2mul_1 18 rfl rfl)
theorem dX3_gf_sq2mul_44 : decode cX3_gf_sq2mul 44 = .ok (.lload 5, 2) := dk_22 5 (dk_at dksX3_gf_sq2mul_1 20 rfl rfl)
theorem dX3_gf_sq2mul_46 : decode cX3_gf_sq2mul 46 = .ok (.iconst 3, 1) := dk_6 (dk_at dksX3_gf_sq2mul_1 22 rfl rfl)
theorem dX3_gf_sq2mul_47 : decode cX3_gf_sq2mul 47 = .ok (.lshl, 1) := dk_121 (dk_at dksX3_gf_sq2mul_1 23 rfl rfl)
theorem dX3_gf_sq2mul_48 : decode cX3_gf_sq2mul 48 = .ok (.lload_n 3, 1) := dk_33 (dk_at dksX3_gf_sq2mul_2 0 rfl rfl)
theorem dX3_gf_sq2mul_49 : decode cX3_gf_sq2mul 49 = .ok (.ldc2_w 52, 3) := dk_20 0 52 (dk_at dksX3_gf_sq2mul_2 1 rfl rfl)
theorem dX3_gf_sq2mul_52 : decode cX3_gf_sq2mul 52 = .ok (.land, 1) := dk_127 (dk_at dksX3_gf_sq2mul_2 4 rfl rfl)
theorem dX3_gf_sq2mul_53 : decode cX3_gf_sq2mul 53 = .ok (.lmul, 1) := dk_105 (dk_at dksX3_gf_sq2mul_2 5 rfl rfl)
theorem dX3_gf_sq2mul_54 : decode cX3_gf_sq2mul 54 = .ok (.lxor, 1) := dk_131 (dk_at dksX3_gf_sq2mul_2 6 rfl rfl)
theorem dX3_gf_sq2mul_55 : decode cX3_gf_sq2mul 55 = .ok (.lstore 7, 2) := dk_55 7 (dk_at dksX3_gf_sq2mul_2 7 rfl rfl)
theorem dX3_gf_sq2mul_57 : decode cX3_gf_sq2mul 57 = .ok (.lload 7, 2) := dk_22 7 (dk_at dksX3_gf_sq2mul_2 9 rfl rfl)
theorem dX3_gf_sq2mul_59 : decode cX3_gf_sq2mul 59 = .ok (.lload 5, 2) := dk_22 5 (dk_at dksX3_gf_sq2mul_2 11 rfl rfl)
theorem dX3_gf_sq2mul_61 : decode cX3_gf_sq2mul 61 = .ok (.bipush 6, 2) := dk_16 6 (dk_at dksX3_gf_sq2mul_2 13 rfl rfl)
theorem dX3_gf_sq2mul_63 : decode cX3_gf_sq2mul 63 = .ok (.lshl, 1) := dk_121 (dk_at dksX3_gf_sq2mul_2 15 rfl rfl)
theorem dX3_gf_sq2mul_64 : decode cX3_gf_sq2mul 64 = .ok (.lload_n 3, 1) := dk_33 (dk_at dksX3_gf_sq2mul_2 16 rfl rfl)
theorem dX3_gf_sq2mul_65 : decode cX3_gf_sq2mul 65 = .ok (.ldc2_w 54, 3) := dk_20 0 54 (dk_at dksX3_gf_sq2mul_2 17 rfl rfl)
theorem dX3_gf_sq2mul_68 : decode cX3_gf_sq2mul 68 = .ok (.land, 1) := dk_127 (dk_at dksX3_gf_sq2mul_2 20 rfl rfl)
theorem dX3_gf_sq2mul_69 : decode cX3_gf_sq2mul 69 = .ok (.lmul, 1) := dk_105 (dk_at dksX3_gf_sq2mul_2 21 rfl rfl)
theorem dX3_gf_sq2mul_70 : decode cX3_gf_sq2mul 70 = .ok (.lxor, 1) := dk_131 (dk_at dksX3_gf_sq2mul_2 22 rfl rfl)
theorem dX3_gf_sq2mul_71 : decode cX3_gf_sq2mul 71 = .ok (.lstore 7, 2) := dk_55 7 (dk_at dksX3_gf_sq2mul_3 0 rfl rfl)
theorem dX3_gf_sq2mul_73 : decode cX3_gf_sq2mul 73 = .ok (.lload 7, 2) := dk_22 7 (dk_at dksX3_gf_sq2mul_3 2 rfl rfl)
theorem dX3_gf_sq2mul_75 : decode cX3_gf_sq2mul 75 = .ok (.lload 5, 2) := dk_22 5 (dk_at dksX3_gf_sq2mul_3 4 rfl rfl)
theorem dX3_gf_sq2mul_77 : decode cX3_gf_sq2mul 77 = .ok (.bipush 9, 2) := dk_16 9 (dk_at dksX3_gf_sq2mul_3 6 rfl rfl)
theorem dX3_gf_sq2mul_79 : decode cX3_gf_sq2mul 79 = .ok (.lshl, 1) := dk_121 (dk_at dksX3_gf_sq2mul_3 8 rfl rfl)
theorem dX3_gf_sq2mul_80 : decode cX3_gf_sq2mul 80 = .ok (.lload_n 3, 1) := dk_33 (dk_at dksX3_gf_sq2mul_3 9 rfl rfl)
theorem dX3_gf_sq2mul_81 : decode cX3_gf_sq2mul 81 = .ok (.ldc2_w 56, 3) := dk_20 0 56 (dk_at dksX3_gf_sq2mul_3 10 rfl rfl)
theorem dX3_gf_sq2mul_84 : decode cX3_gf_sq2mul 84 = .ok (.land, 1) := dk_127 (dk_at dksX3_gf_sq2mul_3 13 rfl rfl)
theorem dX3_gf_sq2mul_85 : decode cX3_gf_sq2mul 85 = .ok (.lmul, 1) := dk_105 (dk_at dksX3_gf_sq2mul_3 14 rfl rfl)
theorem dX3_gf_sq2mul_86 : decode cX3_gf_sq2mul 86 = .ok (.lxor, 1) := dk_131 (dk_at dksX3_gf_sq2mul_3 15 rfl rfl)
theorem dX3_gf_sq2mul_87 : decode cX3_gf_sq2mul 87 = .ok (.lstore 7, 2) := dk_55 7 (dk_at dksX3_gf_sq2mul_3 16 rfl rfl)
theorem dX3_gf_sq2mul_89 : decode cX3_gf_sq2mul 89 = .ok (.lload 7, 2) := dk_22 7 (dk_at dksX3_gf_sq2mul_3 18 rfl rfl)
theorem dX3_gf_sq2mul_91 : decode cX3_gf_sq2mul 91 = .ok (.lload 5, 2) := dk_22 5 (dk_at dksX3_gf_sq2mul_3 20 rfl rfl)
theorem dX3_gf_sq2mul_93 : decode cX3_gf_sq2mul 93 = .ok (.bipush 12, 2) := dk_16 12 (dk_at dksX3_gf_sq2mul_3 22 rfl rfl)
theorem dX3_gf_sq2mul_95 : decode cX3_gf_sq2mul 95 = .ok (.lshl, 1) := dk_121 (dk_at dksX3_gf_sq2mul_4 0 rfl rfl)
theorem dX3_gf_sq2mul_96 : decode cX3_gf_sq2mul 96 = .ok (.lload_n 3, 1) := dk_33 (dk_at dksX3_gf_sq2mul_4 1 rfl rfl)
theorem dX3_gf_sq2mul_97 : decode cX3_gf_sq2mul 97 = .ok (.ldc2_w 58, 3) := dk_20 0 58 (dk_at dksX3_gf_sq2mul_4 2 rfl rfl)
theorem dX3_gf_sq2mul_100 : decode cX3_gf_sq2mul 100 = .ok (.land, 1) := dk_127 (dk_at dksX3_gf_sq2mul_4 5 rfl rfl)
theorem dX3_gf_sq2mul_101 : decode cX3_gf_sq2mul 101 = .ok (.lmul, 1) := dk_105 (dk_at dksX3_gf_sq2mul_4 6 rfl rfl)
theorem dX3_gf_sq2mul_102 : decode cX3_gf_sq2mul 102 = .ok (.lxor, 1) := dk_131 (dk_at dksX3_gf_sq2mul_4 7 rfl rfl)
theorem dX3_gf_sq2mul_103 : decode cX3_gf_sq2mul 103 = .ok (.lstore 7, 2) := dk_55 7 (dk_at dksX3_gf_sq2mul_4 8 rfl rfl)
theorem dX3_gf_sq2mul_105 : decode cX3_gf_sq2mul 105 = .ok (.lload 7, 2) := dk_22 7 (dk_at dksX3_gf_sq2mul_4 10 rfl rfl)
theorem dX3_gf_sq2mul_107 : decode cX3_gf_sq2mul 107 = .ok (.lload 5, 2) := dk_22 5 (dk_at dksX3_gf_sq2mul_4 12 rfl rfl)
theorem dX3_gf_sq2mul_109 : decode cX3_gf_sq2mul 109 = .ok (.bipush 15, 2) := dk_16 15 (dk_at dksX3_gf_sq2mul_4 14 rfl rfl)
theorem dX3_gf_sq2mul_111 : decode cX3_gf_sq2mul 111 = .ok (.lshl, 1) := dk_121 (dk_at dksX3_gf_sq2mul_4 16 rfl rfl)
theorem dX3_gf_sq2mul_112 : decode cX3_gf_sq2mul 112 = .ok (.lload_n 3, 1) := dk_33 (dk_at dksX3_gf_sq2mul_4 17 rfl rfl)
theorem dX3_gf_sq2mul_113 : decode cX3_gf_sq2mul 113 = .ok (.ldc2_w 60, 3) := dk_20 0 60 (dk_at dksX3_gf_sq2mul_4 18 rfl rfl)
theorem dX3_gf_sq2mul_116 : decode cX3_gf_sq2mul 116 = .ok (.land, 1) := dk_127 (dk_at dksX3_gf_sq2mul_4 21 rfl rfl)
theorem dX3_gf_sq2mul_117 : decode cX3_gf_sq2mul 117 = .ok (.lmul, 1) := dk_105 (dk_at dksX3_gf_sq2mul_4 22 rfl rfl)
theorem dX3_gf_sq2mul_118 : decode cX3_gf_sq2mul 118 = .ok (.lxor, 1) := dk_131 (dk_at dksX3_gf_sq2mul_4 23 rfl rfl)
theorem dX3_gf_sq2mul_119 : decode cX3_gf_sq2mul 119 = .ok (.lstore 7, 2) := dk_55 7 (dk_at dksX3_gf_sq2mul_5 0 rfl rfl)
theorem dX3_gf_sq2mul_121 : decode cX3_gf_sq2mul 121 = .ok (.lload 7, 2) := dk_22 7 (dk_at dksX3_gf_sq2mul_5 2 rfl rfl)
theorem dX3_gf_sq2mul_123 : decode cX3_gf_sq2mul 123 = .ok (.ldc2_w 62, 3) := dk_20 0 62 (dk_at dksX3_gf_sq2mul_5 4 rfl rfl)
theorem dX3_gf_sq2mul_126 : decode cX3_gf_sq2mul 126 = .ok (.land, 1) := dk_127 (dk_at dksX3_gf_sq2mul_5 7 rfl rfl)
theorem dX3_gf_sq2mul_127 : decode cX3_gf_sq2mul 127 = .ok (.lstore 9, 2) := dk_55 9 (dk_at dksX3_gf_sq2mul_5 8 rfl rfl)
theorem dX3_gf_sq2mul_129 : decode cX3_gf_sq2mul 129 = .ok (.lload 7, 2) := dk_22 7 (dk_at dksX3_gf_sq2mul_5 10 rfl rfl)
theorem dX3_gf_sq2mul_131 : decode cX3_gf_sq2mul 131 = .ok (.lload 9, 2) := dk_22 9 (dk_at dksX3_gf_sq2mul_5 12 rfl rfl)
theorem dX3_gf_sq2mul_133 : decode cX3_gf_sq2mul 133 = .ok (.bipush 18, 2) := dk_16 18 (dk_at dksX3_gf_sq2mul_5 14 rfl rfl)
theorem dX3_gf_sq2mul_135 : decode cX3_gf_sq2mul 135 = .ok (.lushr, 1) := dk_125 (dk_at dksX3_gf_sq2mul_5 16 rfl rfl)
theorem dX3_gf_sq2mul_136 : decode cX3_gf_sq2mul 136 = .ok (.lload 9, 2) := dk_22 9 (dk_at dksX3_gf_sq2mul_5 17 rfl rfl)
theorem dX3_gf_sq2mul_138 : decode cX3_gf_sq2mul 138 = .ok (.bipush 20, 2) := dk_16 20 (dk_at dksX3_gf_sq2mul_5 19 rfl rfl)
theorem dX3_gf_sq2mul_140 : decode cX3_gf_sq2mul 140 = .ok (.lushr, 1) := dk_125 (dk_at dksX3_gf_sq2mul_5 21 rfl rfl)
theorem dX3_gf_sq2mul_141 : decode cX3_gf_sq2mul 141 = .ok (.lxor, 1) := dk_131 (dk_at dksX3_gf_sq2mul_5 22 rfl rfl)
theorem dX3_gf_sq2mul_142 : decode cX3_gf_sq2mul 142 = .ok (.lload 9, 2) := dk_22 9 (dk_at dksX3_gf_sq2mul_6 0 rfl rfl)
theorem dX3_gf_sq2mul_144 : decode cX3_gf_sq2mul 144 = .ok (.bipush 24, 2) := dk_16 24 (dk_at dksX3_gf_sq2mul_6 2 rfl rfl)
theorem dX3_gf_sq2mul_146 : decode cX3_gf_sq2mul 146 = .ok (.lushr, 1) := dk_125 (dk_at dksX3_gf_sq2mul_6 4 rfl rfl)
theorem dX3_gf_sq2mul_147 : decode cX3_gf_sq2mul 147 = .ok (.lxor, 1) := dk_131 (dk_at dksX3_gf_sq2mul_6 5 rfl rfl)
theorem dX3_gf_sq2mul_148 : decode cX3_gf_sq2mul 148 = .ok (.lload 9, 2) := dk_22 9 (dk_at dksX3_gf_sq2mul_6 6 rfl rfl)
theorem dX3_gf_sq2mul_150 : decode cX3_gf_sq2mul 150 = .ok (.bipush 26, 2) := dk_16 26 (dk_at dksX3_gf_sq2mul_6 8 rfl rfl)
theorem dX3_gf_sq2mul_152 : decode cX3_gf_sq2mul 152 = .ok (.lushr, 1) := dk_125 (dk_at dksX3_gf_sq2mul_6 10 rfl rfl)
theorem dX3_gf_sq2mul_153 : decode cX3_gf_sq2mul 153 = .ok (.lxor, 1) := dk_131 (dk_at dksX3_gf_sq2mul_6 11 rfl rfl)
theorem dX3_gf_sq2mul_154 : decode cX3_gf_sq2mul 154 = .ok (.lxor, 1) := dk_131 (dk_at dksX3_gf_sq2mul_6 12 rfl rfl)
theorem dX3_gf_sq2mul_155 : decode cX3_gf_sq2mul 155 = .ok (.lstore 7, 2) := dk_55 7 (dk_at dksX3_gf_sq2mul_6 13 rfl rfl)
theorem dX3_gf_sq2mul_157 : decode cX3_gf_sq2mul 157 = .ok (.lload 7, 2) := dk_22 7 (dk_at dksX3_gf_sq2mul_6 15 rfl rfl)
theorem dX3_gf_sq2mul_159 : decode cX3_gf_sq2mul 159 = .ok (.ldc2_w 64, 3) := dk_20 0 64 (dk_at dksX3_gf_sq2mul_6 17 rfl rfl)
theorem dX3_gf_sq2mul_162 : decode cX3_gf_sq2mul 162 = .ok (.land, 1) := dk_127 (dk_at dksX3_gf_sq2mul_6 20 rfl rfl)
theorem dX3_gf_sq2mul_163 : decode cX3_gf_sq2mul 163 = .ok (.lstore 9, 2) := dk_55 9 (dk_at dksX3_gf_sq2mul_6 21 rfl rfl)
theorem dX3_gf_sq2mul_165 : decode cX3_gf_sq2mul 165 = .ok (.lload 7, 2) := dk_22 7 (dk_at dksX3_gf_sq2mul_7 0 rfl rfl)
theorem dX3_gf_sq2mul_167 : decode cX3_gf_sq2mul 167 = .ok (.lload 9, 2) := dk_22 9 (dk_at dksX3_gf_sq2mul_7 2 rfl rfl)
theorem dX3_gf_sq2mul_169 : decode cX3_gf_sq2mul 169 = .ok (.bipush 18, 2) := dk_16 18 (dk_at dksX3_gf_sq2mul_7 4 rfl rfl)
theorem dX3_gf_sq2mul_171 : decode cX3_gf_sq2mul 171 = .ok (.lushr, 1) := dk_125 (dk_at dksX3_gf_sq2mul_7 6 rfl rfl)
theorem dX3_gf_sq2mul_172 : decode cX3_gf_sq2mul 172 = .ok (.lload 9, 2) := dk_22 9 (dk_at dksX3_gf_sq2mul_7 7 rfl rfl)
theorem dX3_gf_sq2mul_174 : decode cX3_gf_sq2mul 174 = .ok (.bipush 20, 2) := dk_16 20 (dk_at dksX3_gf_sq2mul_7 9 rfl rfl)
theorem dX3_gf_sq2mul_176 : decode cX3_gf_sq2mul 176 = .ok (.lushr, 1) := dk_125 (dk_at dksX3_gf_sq2mul_7 11 rfl rfl)
theorem dX3_gf_sq2mul_177 : decode cX3_gf_sq2mul 177 = .ok (.lxor, 1) := dk_131 (dk_at dksX3_gf_sq2mul_7 12 rfl rfl)
theorem dX3_gf_sq2mul_178 : decode cX3_gf_sq2mul 178 = .ok (.lload 9, 2) := dk_22 9 (dk_at dksX3_gf_sq2mul_7 13 rfl rfl)
theorem dX3_gf_sq2mul_180 : decode cX3_gf_sq2mul 180 = .ok (.bipush 24, 2) := dk_16 24 (dk_at dksX3_gf_sq2mul_7 15 rfl rfl)
theorem dX3_gf_sq2mul_182 : decode cX3_gf_sq2mul 182 = .ok (.lushr, 1) := dk_125 (dk_at dksX3_gf_sq2mul_7 17 rfl rfl)
theorem dX3_gf_sq2mul_183 : decode cX3_gf_sq2mul 183 = .ok (.lxor, 1) := dk_131 (dk_at dksX3_gf_sq2mul_7 18 rfl rfl)
theorem dX3_gf_sq2mul_184 : decode cX3_gf_sq2mul 184 = .ok (.lload 9, 2) := dk_22 9 (dk_at dksX3_gf_sq2mul_7 19 rfl rfl)
theorem dX3_gf_sq2mul_186 : decode cX3_gf_sq2mul 186 = .ok (.bipush 26, 2) := dk_16 26 (dk_at dksX3_gf_sq2mul_7 21 rfl rfl)
theorem dX3_gf_sq2mul_188 : decode cX3_gf_sq2mul 188 = .ok (.lushr, 1) := dk_125 (dk_at dksX3_gf_sq2mul_7 23 rfl rfl)
theorem dX3_gf_sq2mul_189 : decode cX3_gf_sq2mul 189 = .ok (.lxor, 1) := dk_131 (dk_at dksX3_gf_sq2mul_8 0 rfl rfl)
theorem dX3_gf_sq2mul_190 : decode cX3_gf_sq2mul 190 = .ok (.lxor, 1) := dk_131 (dk_at dksX3_gf_sq2mul_8 1 rfl rfl)
theorem dX3_gf_sq2mul_191 : decode cX3_gf_sq2mul 191 = .ok (.lstore 7, 2) := dk_55 7 (dk_at dksX3_gf_sq2mul_8 2 rfl rfl)
theorem dX3_gf_sq2mul_193 : decode cX3_gf_sq2mul 193 = .ok (.aload_n 0, 1) := dk_42 (dk_at dksX3_gf_sq2mul_8 4 rfl rfl)
theorem dX3_gf_sq2mul_194 : decode cX3_gf_sq2mul 194 = .ok (.lload 7, 2) := dk_22 7 (dk_at dksX3_gf_sq2mul_8 5 rfl rfl)
theorem dX3_gf_sq2mul_196 : decode cX3_gf_sq2mul 196 = .ok (.l2i, 1) := dk_136 (dk_at dksX3_gf_sq2mul_8 7 rfl rfl)
theorem dX3_gf_sq2mul_197 : decode cX3_gf_sq2mul 197 = .ok (.ldc 49, 2) := dk_18 49 (dk_at dksX3_gf_sq2mul_8 8 rfl rfl)
theorem dX3_gf_sq2mul_199 : decode cX3_gf_sq2mul 199 = .ok (.iand, 1) := dk_126 (dk_at dksX3_gf_sq2mul_8 10 rfl rfl)
theorem dX3_gf_sq2mul_200 : decode cX3_gf_sq2mul 200 = .ok (.invokevirtual 23, 3) := dk_182 0 23 (dk_at dksX3_gf_sq2mul_8 11 rfl rfl)
theorem dX3_gf_sq2mul_203 : decode cX3_gf_sq2mul 203 = .ok (.ireturn, 1) := dk_172 (dk_at dksX3_gf_sq2mul_8 14 rfl rfl)
abbrev cX3_gf_sq2 : ByteArray := prog_3_method_9_code
def yX3_gf_sq2 : MethodName := ⟨RX3, "gf_sq2", "(S)S"⟩
def dkwX3_gf_sq2_0 : List UInt8 := [27, 184, 0, 27, 61, 42, 28, 182, 0, 23, 60, 27, 184, 0, 27, 62, 42, 29, 182, 0, 23, 172]
abbrev dktX3_gf_sq2_0 : List UInt8 := dkwX3_gf_sq2_0 ++ []
theorem dksX3_gf_sq2_0 : cX3_gf_sq2.data.toList.drop 0 = dktX3_gf_sq2_0 := by decide +kernel
theorem dX3_gf_sq2_0 : decode cX3_gf_sq2 0 = .ok (.iload_n 1, 1) := dk_27 (dk_at dksX3_gf_sq2_0 0 rfl rfl)
theorem dX3_gf_sq2_1 : decode cX3_gf_sq2 1 = .ok (.invokestatic 27, 3) := dk_184 0 27 (dk_at dksX3_gf_sq2_0 1 rfl rfl)
theorem dX3_gf_sq2_4 : decode cX3_gf_sq2 4 = .ok (.istore_n 2, 1) := dk_61 (dk_at dksX3_gf_sq2_0 4 rfl rfl)
theorem dX3_gf_sq2_5 : decode cX3_gf_sq2 5 = .ok (.aload_n 0, 1) := dk_42 (dk_at dksX3_gf_sq2_0 5 rfl rfl)
theorem dX3_gf_sq2_6 : decode cX3_gf_sq2 6 = .ok (.iload_n 2, 1) := dk_28 (dk_at dksX3_gf_sq2_0 6 rfl rfl)
theorem dX3_gf_sq2_7 : decode cX3_gf_sq2 7 = .ok (.invokevirtual 23, 3) := dk_182 0 23 (dk_at dksX3_gf_sq2_0 7 rfl rfl)
theorem dX3_gf_sq2_10 : decode cX3_gf_sq2 10 = .ok (.istore_n 1, 1) := dk_60 (dk_at dksX3_gf_sq2_0 10 rfl rfl)
theorem dX3_gf_sq2_11 : decode cX3_gf_sq2 11 = .ok (.iload_n 1, 1) := dk_27 (dk_at dksX3_gf_sq2_0 11 rfl rfl)
theorem dX3_gf_sq2_12 : decode cX3_gf_sq2 12 = .ok (.invokestatic 27, 3) := dk_184 0 27 (dk_at dksX3_gf_sq2_0 12 rfl rfl)
theorem dX3_gf_sq2_15 : decode cX3_gf_sq2 15 = .ok (.istore_n 3, 1) := dk_62 (dk_at dksX3_gf_sq2_0 15 rfl rfl)
theorem dX3_gf_sq2_16 : decode cX3_gf_sq2 16 = .ok (.aload_n 0, 1) := dk_42 (dk_at dksX3_gf_sq2_0 16 rfl rfl)
theorem dX3_gf_sq2_17 : decode cX3_gf_sq2 17 = .ok (.iload_n 3, 1) := dk_29 (dk_at dksX3_gf_sq2_0 17 rfl rfl)
theorem dX3_gf_sq2_18 : decode cX3_gf_sq2 18 = .ok (.invokevirtual 23, 3) := dk_182 0 23 (dk_at dksX3_gf_sq2_0 18 rfl rfl)
theorem dX3_gf_sq2_21 : decode cX3_gf_sq2 21 = .ok (.ireturn, 1) := dk_172 (dk_at dksX3_gf_sq2_0 21 rfl rfl)
abbrev cX3_gf_mul_ext : ByteArray := prog_3_method_5_code
def yX3_gf_mul_ext : MethodName := ⟨RX3, "gf_mul_ext", "(SS)I"⟩
def dkwX3_gf_mul_ext_1 : List UInt8 := [21, 5, 29, 21, 4, 4, 21, 6, 120, 126, 104, 130, 54, 5, 132, 6, 1, 167, 255, 232, 21, 5, 172]
abbrev dktX3_gf_mul_ext_1 : List UInt8 := dkwX3_gf_mul_ext_1 ++ []
def dkwX3_gf_mul_ext_0 : List UInt8 := [27, 62, 28, 54, 4, 29, 21, 4, 4, 126, 104, 54, 5, 4, 54, 6, 21, 6, 16, 13, 162, 0, 23]
abbrev dktX3_gf_mul_ext_0 : List UInt8 := dkwX3_gf_mul_ext_0 ++ dktX3_gf_mul_ext_1
theorem dksX3_gf_mul_ext_0 : cX3_gf_mul_ext.data.toList.drop 0 = dktX3_gf_mul_ext_0 := by decide +kernel
theorem dksX3_gf_mul_ext_1 : cX3_gf_mul_ext.data.toList.drop 23 = dktX3_gf_mul_ext_1 := dk_seg dksX3_gf_mul_ext_0 23 rfl rfl
theorem dX3_gf_mul_ext_0 : decode cX3_gf_mul_ext 0 = .ok (.iload_n 1, 1) := dk_27 (dk_at dksX3_gf_mul_ext_0 0 rfl rfl)
theorem dX3_gf_mul_ext_1 : decode cX3_gf_mul_ext 1 = .ok (.istore_n 3, 1) := dk_62 (dk_at dksX3_gf_mul_ext_0 1 rfl rfl)
theorem dX3_gf_mul_ext_2 : decode cX3_gf_mul_ext 2 = .ok (.iload_n 2, 1) := dk_28 (dk_at dksX3_gf_mul_ext_0 2 rfl rfl)
theorem dX3_gf_mul_ext_3 : decode cX3_gf_mul_ext 3 = .ok (.istore 4, 2) := dk_54 4 (dk_at dksX3_gf_mul_ext_0 3 rfl rfl)
theorem dX3_gf_mul_ext_5 : decode cX3_gf_mul_ext 5 = .ok (.iload_n 3, 1) := dk_29 (dk_at dksX3_gf_mul_ext_0 5 rfl rfl)
theorem dX3_gf_mul_ext_6 : decode cX3_gf_mul_ext 6 = .ok (.iload 4, 2) := dk_21 4 (dk_at dksX3_gf_mul_ext_0 6 rfl rfl)
theorem dX3_gf_mul_ext_8 : decode cX3_gf_mul_ext 8 = .ok (.iconst 1, 1) := dk_4 (dk_at dksX3_gf_mul_ext_0 8 rfl rfl)
theorem dX3_gf_mul_ext_9 : decode cX3_gf_mul_ext 9 = .ok (.iand, 1) := dk_126 (dk_at dksX3_gf_mul_ext_0 9 rfl rfl)
theorem dX3_gf_mul_ext_10 : decode cX3_gf_mul_ext 10 = .ok (.imul, 1) := dk_104 (dk_at dksX3_gf_mul_ext_0 10 rfl rfl)
theorem dX3_gf_mul_ext_11 : decode cX3_gf_mul_ext 11 = .ok (.istore 5, 2) := dk_54 5 (dk_at dksX3_gf_mul_ext_0 11 rfl rfl)
theorem dX3_gf_mul_ext_13 : decode cX3_gf_mul_ext 13 = .ok (.iconst 1, 1) := dk_4 (dk_at dksX3_gf_mul_ext_0 13 rfl rfl)
theorem dX3_gf_mul_ext_14 : decode cX3_gf_mul_ext 14 = .ok (.istore 6, 2) := dk_54 6 (dk_at dksX3_gf_mul_ext_0 14 rfl rfl)
theorem dX3_gf_mul_ext_16 : decode cX3_gf_mul_ext 16 = .ok (.iload 6, 2) := dk_21 6 (dk_at dksX3_gf_mul_ext_0 16 rfl rfl)
theorem dX3_gf_mul_ext_18 : decode cX3_gf_mul_ext 18 = .ok (.bipush 13, 2) := dk_16 13 (dk_at dksX3_gf_mul_ext_0 18 rfl rfl)
theorem dX3_gf_mul_ext_20 : decode cX3_gf_mul_ext 20 = .ok (.if_icmp .ge 23, 3) := dk_162 0 23 (dk_at dksX3_gf_mul_ext_0 20 rfl rfl)
theorem dX3_gf_mul_ext_23 : decode cX3_gf_mul_ext 23 = .ok (.iload 5, 2) := dk_21 5 (dk_at dksX3_gf_mul_ext_1 0 rfl rfl)
theorem dX3_gf_mul_ext_25 : decode cX3_gf_mul_ext 25 = .ok (.iload_n 3, 1) := dk_29 (dk_at dksX3_gf_mul_ext_1 2 rfl rfl)
theorem dX3_gf_mul_ext_26 : decode cX3_gf_mul_ext 26 = .ok (.iload 4, 2) := dk_21 4 (dk_at dksX3_gf_mul_ext_1 3 rfl rfl)
theorem dX3_gf_mul_ext_28 : decode cX3_gf_mul_ext 28 = .ok (.iconst 1, 1) := dk_4 (dk_at dksX3_gf_mul_ext_1 5 rfl rfl)
theorem dX3_gf_mul_ext_29 : decode cX3_gf_mul_ext 29 = .ok (.iload 6, 2) := dk_21 6 (dk_at dksX3_gf_mul_ext_1 6 rfl rfl)
theorem dX3_gf_mul_ext_31 : decode cX3_gf_mul_ext 31 = .ok (.ishl, 1) := dk_120 (dk_at dksX3_gf_mul_ext_1 8 rfl rfl)
theorem dX3_gf_mul_ext_32 : decode cX3_gf_mul_ext 32 = .ok (.iand, 1) := dk_126 (dk_at dksX3_gf_mul_ext_1 9 rfl rfl)
theorem dX3_gf_mul_ext_33 : decode cX3_gf_mul_ext 33 = .ok (.imul, 1) := dk_104 (dk_at dksX3_gf_mul_ext_1 10 rfl rfl)
theorem dX3_gf_mul_ext_34 : decode cX3_gf_mul_ext 34 = .ok (.ixor, 1) := dk_130 (dk_at dksX3_gf_mul_ext_1 11 rfl rfl)
theorem dX3_gf_mul_ext_35 : decode cX3_gf_mul_ext 35 = .ok (.istore 5, 2) := dk_54 5 (dk_at dksX3_gf_mul_ext_1 12 rfl rfl)
theorem dX3_gf_mul_ext_37 : decode cX3_gf_mul_ext 37 = .ok (.iinc 6 1, 3) := dk_132 6 1 (dk_at dksX3_gf_mul_ext_1 14 rfl rfl)
theorem dX3_gf_mul_ext_40 : decode cX3_gf_mul_ext 40 = .ok (.goto (-24), 3) := dk_167 255 232 (dk_at dksX3_gf_mul_ext_1 17 rfl rfl)
theorem dX3_gf_mul_ext_43 : decode cX3_gf_mul_ext 43 = .ok (.iload 5, 2) := dk_21 5 (dk_at dksX3_gf_mul_ext_1 20 rfl rfl)
theorem dX3_gf_mul_ext_45 : decode cX3_gf_mul_ext 45 = .ok (.ireturn, 1) := dk_172 (dk_at dksX3_gf_mul_ext_1 22 rfl rfl)
abbrev cX3_gf_sq_ext : ByteArray := prog_3_method_8_code
def yX3_gf_sq_ext : MethodName := ⟨RX3, "gf_sq_ext", "(S)I"⟩
theorem dX3_gf_sq_ext_0 : decode cX3_gf_sq_ext 0 = .ok (.iload_n 1, 1) := by decide +kernel
theorem dX3_gf_sq_ext_1 : decode cX3_gf_sq_ext 1 = .ok (.invokestatic 27, 3) := by decide +kernel
theorem dX3_gf_sq_ext_4 : decode cX3_gf_sq_ext 4 = .ok (.ireturn, 1) := by decide +kernel
theorem q7 : (Jvm.Cond.initialized "GF13") ∈ lw_all := lw_g (lw_at lw_m0 4 rfl) rfl
theorem q31 : (Jvm.Cond.instantiable "GF13" (0 : Nat)) ∈ lw_all := lw_g (lw_at lw_m0 28 rfl) rfl
theorem q33 : (Jvm.Cond.instanceMethod ({ cls := "GF13", name := "<init>", desc := "()V" } : Jvm.MethodName)) ∈ lw_all := lw_g (lw_at lw_m0 30 rfl) rfl
theorem q34 : (Jvm.Cond.code ({ cls := "GF13", name := "<init>", desc := "()V" } : Jvm.MethodName) prog_3_method_1_code (1 : Nat) (Option.none : Option Jvm.ClassFile.FieldType)) ∈ lw_all := lw_g (lw_at lw_m0 31 rfl) rfl
theorem q35 : (Jvm.Cond.methodLink "GF13" (1 : Nat) ({ cls := "GF", name := "<init>", desc := "()V" } : Jvm.MethodName)) ∈ lw_all := lw_g (lw_at lw_m0 32 rfl) rfl
theorem q36 : (Jvm.Cond.superclass "GF13" "GF") ∈ lw_all := lw_g (lw_at lw_m0 33 rfl) rfl
theorem q60 : (Jvm.Cond.selects "GF13" ({ cls := "GF", name := "gf_mul", desc := "(SS)S" } : Jvm.MethodName) ({ cls := "GF13", name := "gf_mul", desc := "(SS)S" } : Jvm.MethodName)) ∈ lw_all := lw_g (lw_at lw_m0 57 rfl) rfl
theorem q61 : (Jvm.Cond.instanceMethod ({ cls := "GF13", name := "gf_mul", desc := "(SS)S" } : Jvm.MethodName)) ∈ lw_all := lw_g (lw_at lw_m0 58 rfl) rfl
theorem q62 : (Jvm.Cond.code ({ cls := "GF13", name := "gf_mul", desc := "(SS)S" } : Jvm.MethodName) prog_3_method_4_code (7 : Nat) (Option.some Jvm.ClassFile.FieldType.short)) ∈ lw_all := lw_g (lw_at lw_m0 59 rfl) rfl
theorem q63 : (Jvm.Cond.methodLink "GF13" (23 : Nat) ({ cls := "GF13", name := "gf_reduce", desc := "(I)S" } : Jvm.MethodName)) ∈ lw_all := lw_g (lw_at lw_m0 60 rfl) rfl
theorem q64 : (Jvm.Cond.instanceMethod ({ cls := "GF13", name := "gf_reduce", desc := "(I)S" } : Jvm.MethodName)) ∈ lw_all := lw_g (lw_at lw_m0 61 rfl) rfl
theorem q65 : (Jvm.Cond.selects "GF13" ({ cls := "GF13", name := "gf_reduce", desc := "(I)S" } : Jvm.MethodName) ({ cls := "GF13", name := "gf_reduce", desc := "(I)S" } : Jvm.MethodName)) ∈ lw_all := lw_g (lw_at lw_m0 62 rfl) rfl
theorem q66 : (Jvm.Cond.code ({ cls := "GF13", name := "gf_reduce", desc := "(I)S" } : Jvm.MethodName) prog_3_method_6_code (8 : Nat) (Option.some Jvm.ClassFile.FieldType.short)) ∈ lw_all := lw_g (lw_at lw_m0 63 rfl) rfl
theorem q85 : (Jvm.Cond.selects "GF13" ({ cls := "GF", name := "gf_sq", desc := "(S)S" } : Jvm.MethodName) ({ cls := "GF13", name := "gf_sq", desc := "(S)S" } : Jvm.MethodName)) ∈ lw_all := lw_g (lw_at lw_m0 82 rfl) rfl
theorem q86 : (Jvm.Cond.instanceMethod ({ cls := "GF13", name := "gf_sq", desc := "(S)S" } : Jvm.MethodName)) ∈ lw_all := lw_g (lw_at lw_m0 83 rfl) rfl
theorem q87 : (Jvm.Cond.code ({ cls := "GF13", name := "gf_sq", desc := "(S)S" } : Jvm.MethodName) prog_3_method_7_code (3 : Nat) (Option.some Jvm.ClassFile.FieldType.short)) ∈ lw_all := lw_g (lw_at lw_m0 84 rfl) rfl
theorem q88 : (Jvm.Cond.methodLink "GF13" (27 : Nat) ({ cls := "Interleave", name := "expand16to32", desc := "(I)I" } : Jvm.MethodName)) ∈ lw_all := lw_g (lw_at lw_m0 85 rfl) rfl
theorem q101 : (Jvm.Cond.selects "GF13" ({ cls := "GF", name := "gf_inv", desc := "(S)S" } : Jvm.MethodName) ({ cls := "GF13", name := "gf_inv", desc := "(S)S" } : Jvm.MethodName)) ∈ lw_all := lw_g (lw_at lw_m0 98 rfl) rfl
theorem q102 : (Jvm.Cond.instanceMethod ({ cls := "GF13", name := "gf_inv", desc := "(S)S" } : Jvm.MethodName)) ∈ lw_all := lw_g (lw_at lw_m0 99 rfl) rfl
theorem q103 : (Jvm.Cond.code ({ cls := "GF13", name := "gf_inv", desc := "(S)S" } : Jvm.MethodName) prog_3_method_3_code (2 : Nat) (Option.some Jvm.ClassFile.FieldType.short)) ∈ lw_all := lw_g (lw_at lw_m0 100 rfl) rfl
theorem q104 : (Jvm.Cond.methodLink "GF13" (20 : Nat) ({ cls := "GF13", name := "gf_frac", desc := "(SS)S" } : Jvm.MethodName)) ∈ lw_all := lw_g (lw_at lw_m0 101 rfl) rfl
theorem q105 : (Jvm.Cond.instanceMethod ({ cls := "GF13", name := "gf_frac", desc := "(SS)S" } : Jvm.MethodName)) ∈ lw_all := lw_g (lw_at lw_m0 102 rfl) rfl
theorem q106 : (Jvm.Cond.selects "GF13" ({ cls := "GF13", name := "gf_frac", desc := "(SS)S" } : Jvm.MethodName) ({ cls := "GF13", name := "gf_frac", desc := "(SS)S" } : Jvm.MethodName)) ∈ lw_all := lw_g (lw_at lw_m0 103 rfl) rfl
theorem q107 : (Jvm.Cond.code ({ cls := "GF13", name := "gf_frac", desc := "(SS)S" } : Jvm.MethodName) prog_3_method_2_code (6 : Nat) (Option.some Jvm.ClassFile.FieldType.short)) ∈ lw_all := lw_g (lw_at lw_m0 104 rfl) rfl
theorem q108 : (Jvm.Cond.methodLink "GF13" (7 : Nat) ({ cls := "GF13", name := "gf_sqmul", desc := "(SS)S" } : Jvm.MethodName)) ∈ lw_all := lw_g (lw_at lw_m0 105 rfl) rfl
theorem q109 : (Jvm.Cond.privateMethod ({ cls := "GF13", name := "gf_sqmul", desc := "(SS)S" } : Jvm.MethodName)) ∈ lw_tbl := lw_at lw_m0 106 rfl
theorem q110 : (Jvm.Cond.instanceMethod ({ cls := "GF13", name := "gf_sqmul", desc := "(SS)S" } : Jvm.MethodName)) ∈ lw_all := lw_g (lw_at lw_m0 107 rfl) rfl
theorem q111 : (Jvm.Cond.code ({ cls := "GF13", name := "gf_sqmul", desc := "(SS)S" } : Jvm.MethodName) prog_3_method_10_code (11 : Nat) (Option.some Jvm.ClassFile.FieldType.short)) ∈ lw_all := lw_g (lw_at lw_m0 108 rfl) rfl
theorem q112 : (Jvm.Cond.constantLong "GF13" (33 : Nat) (64 : Int64)) ∈ lw_all := lw_g (lw_at lw_m0 109 rfl) rfl
theorem q113 : (Jvm.Cond.constantLong "GF13" (35 : Nat) (16385 : Int64)) ∈ lw_all := lw_g (lw_at lw_m0 110 rfl) rfl
theorem q114 : (Jvm.Cond.constantLong "GF13" (37 : Nat) (32770 : Int64)) ∈ lw_all := lw_g (lw_at lw_m0 111 rfl) rfl
theorem q115 : (Jvm.Cond.constantLong "GF13" (39 : Nat) (65540 : Int64)) ∈ lw_all := lw_g (lw_at lw_m0 112 rfl) rfl
theorem q116 : (Jvm.Cond.constantLong "GF13" (41 : Nat) (131080 : Int64)) ∈ lw_all := lw_g (lw_at lw_m0 113 rfl) rfl
theorem q117 : (Jvm.Cond.constantLong "GF13" (43 : Nat) (262160 : Int64)) ∈ lw_all := lw_g (lw_at lw_m0 114 rfl) rfl
theorem q118 : (Jvm.Cond.constantLong "GF13" (45 : Nat) (524320 : Int64)) ∈ lw_all := lw_g (lw_at lw_m0 115 rfl) rfl
theorem q119 : (Jvm.Cond.constantLong "GF13" (47 : Nat) (137371844608 : Int64)) ∈ lw_all := lw_g (lw_at lw_m0 116 rfl) rfl
theorem q120 : (Jvm.Cond.constant "GF13" (49 : Nat) (67108863 : Int32)) ∈ lw_all := lw_g (lw_at lw_m0 117 rfl) rfl
theorem q121 : (Jvm.Cond.methodLink "GF13" (13 : Nat) ({ cls := "GF13", name := "gf_sq2mul", desc := "(SS)S" } : Jvm.MethodName)) ∈ lw_all := lw_g (lw_at lw_m0 118 rfl) rfl
theorem q122 : (Jvm.Cond.privateMethod ({ cls := "GF13", name := "gf_sq2mul", desc := "(SS)S" } : Jvm.MethodName)) ∈ lw_tbl := lw_at lw_m0 119 rfl
theorem q123 : (Jvm.Cond.instanceMethod ({ cls := "GF13", name := "gf_sq2mul", desc := "(SS)S" } : Jvm.MethodName)) ∈ lw_all := lw_g (lw_at lw_m0 120 rfl) rfl
theorem q124 : (Jvm.Cond.code ({ cls := "GF13", name := "gf_sq2mul", desc := "(SS)S" } : Jvm.MethodName) prog_3_method_11_code (11 : Nat) (Option.some Jvm.ClassFile.FieldType.short)) ∈ lw_all := lw_g (lw_at lw_m0 121 rfl) rfl
theorem q125 : (Jvm.Cond.constantLong "GF13" (50 : Nat) (268435457 : Int64)) ∈ lw_all := lw_g (lw_at lw_m0 122 rfl) rfl
theorem q126 : (Jvm.Cond.constantLong "GF13" (52 : Nat) (536870914 : Int64)) ∈ lw_all := lw_g (lw_at lw_m0 123 rfl) rfl
theorem q127 : (Jvm.Cond.constantLong "GF13" (54 : Nat) (1073741828 : Int64)) ∈ lw_all := lw_g (lw_at lw_m0 124 rfl) rfl
theorem q128 : (Jvm.Cond.constantLong "GF13" (56 : Nat) (2147483656 : Int64)) ∈ lw_all := lw_g (lw_at lw_m0 125 rfl) rfl
theorem q129 : (Jvm.Cond.constantLong "GF13" (58 : Nat) (4294967312 : Int64)) ∈ lw_all := lw_g (lw_at lw_m0 126 rfl) rfl
theorem q130 : (Jvm.Cond.constantLong "GF13" (60 : Nat) (8589934624 : Int64)) ∈ lw_all := lw_g (lw_at lw_m0 127 rfl) rfl
theorem q131 : (Jvm.Cond.constantLong "GF13" (62 : Nat) (2305834213120671744 : Int64)) ∈ lw_all := lw_g (lw_at lw_m0 128 rfl) rfl
theorem q132 : (Jvm.Cond.constantLong "GF13" (64 : Nat) (8796025913344 : Int64)) ∈ lw_all := lw_g (lw_at lw_m0 129 rfl) rfl
theorem q133 : (Jvm.Cond.methodLink "GF13" (16 : Nat) ({ cls := "GF13", name := "gf_sq2", desc := "(S)S" } : Jvm.MethodName)) ∈ lw_all := lw_g (lw_at lw_m0 130 rfl) rfl
theorem q134 : (Jvm.Cond.privateMethod ({ cls := "GF13", name := "gf_sq2", desc := "(S)S" } : Jvm.MethodName)) ∈ lw_tbl := lw_at lw_m0 131 rfl
theorem q135 : (Jvm.Cond.instanceMethod ({ cls := "GF13", name := "gf_sq2", desc := "(S)S" } : Jvm.MethodName)) ∈ lw_all := lw_g (lw_at lw_m0 132 rfl) rfl
theorem q136 : (Jvm.Cond.code ({ cls := "GF13", name := "gf_sq2", desc := "(S)S" } : Jvm.MethodName) prog_3_method_9_code (4 : Nat) (Option.some Jvm.ClassFile.FieldType.short)) ∈ lw_all := lw_g (lw_at lw_m0 133 rfl) rfl
theorem q148 : (Jvm.Cond.selects "GF13" ({ cls := "GF", name := "gf_frac", desc := "(SS)S" } : Jvm.MethodName) ({ cls := "GF13", name := "gf_frac", desc := "(SS)S" } : Jvm.MethodName)) ∈ lw_all := lw_g (lw_at lw_m0 145 rfl) rfl
theorem q159 : (Jvm.Cond.selects "GF13" ({ cls := "GF", name := "gf_mul_ext", desc := "(SS)I" } : Jvm.MethodName) ({ cls := "GF13", name := "gf_mul_ext", desc := "(SS)I" } : Jvm.MethodName)) ∈ lw_all := lw_g (lw_at lw_m0 156 rfl) rfl
theorem q160 : (Jvm.Cond.instanceMethod ({ cls := "GF13", name := "gf_mul_ext", desc := "(SS)I" } : Jvm.MethodName)) ∈ lw_all := lw_g (lw_at lw_m0 157 rfl) rfl
theorem q161 : (Jvm.Cond.code ({ cls := "GF13", name := "gf_mul_ext", desc := "(SS)I" } : Jvm.MethodName) prog_3_method_5_code (7 : Nat) (Option.some Jvm.ClassFile.FieldType.int)) ∈ lw_all := lw_g (lw_at lw_m0 158 rfl) rfl
theorem q166 : (Jvm.Cond.selects "GF13" ({ cls := "GF", name := "gf_reduce", desc := "(I)S" } : Jvm.MethodName) ({ cls := "GF13", name := "gf_reduce", desc := "(I)S" } : Jvm.MethodName)) ∈ lw_all := lw_g (lw_at lw_m0 163 rfl) rfl
theorem q177 : (Jvm.Cond.selects "GF13" ({ cls := "GF", name := "gf_sq_ext", desc := "(S)I" } : Jvm.MethodName) ({ cls := "GF13", name := "gf_sq_ext", desc := "(S)I" } : Jvm.MethodName)) ∈ lw_all := lw_g (lw_at lw_m0 174 rfl) rfl
theorem q178 : (Jvm.Cond.instanceMethod ({ cls := "GF13", name := "gf_sq_ext", desc := "(S)I" } : Jvm.MethodName)) ∈ lw_all := lw_g (lw_at lw_m0 175 rfl) rfl
theorem q179 : (Jvm.Cond.code ({ cls := "GF13", name := "gf_sq_ext", desc := "(S)I" } : Jvm.MethodName) prog_3_method_8_code (2 : Nat) (Option.some Jvm.ClassFile.FieldType.int)) ∈ lw_all := lw_g (lw_at lw_m0 176 rfl) rfl
theorem q188 : (Jvm.Cond.selects "GF13" ({ cls := "GF", name := "gf_iszero", desc := "(S)S" } : Jvm.MethodName) ({ cls := "GF", name := "gf_iszero", desc := "(S)S" } : Jvm.MethodName)) ∈ lw_all := lw_g (lw_at lw_m0 185 rfl) rfl
theorem q236 : (Jvm.Cond.castable "GF13" "GF") ∈ lw_tbl := lw_at lw_m0 233 rfl
end
section
theorem q3 : (Jvm.Cond.initialized "SmallFieldsLaw") ∈ lw_all := lw_g (lw_at lw_m0 0 rfl) rfl
set_option maxRecDepth 100000
theorem q10 : (Jvm.Cond.classLink "SmallFieldsLaw" (7 : Nat) "SmallFields") ∈ lw_all := lw_g (lw_at lw_m0 7 rfl) rfl
theorem q12 : (Jvm.Cond.methodLink "SmallFieldsLaw" (9 : Nat) ({ cls := "SmallFields", name := "<init>", desc := "()V" } : Jvm.MethodName)) ∈ lw_all := lw_g (lw_at lw_m0 9 rfl) rfl
theorem q41 : (Jvm.Cond.methodLink "SmallFieldsLaw" (13 : Nat) ({ cls := "SmallFields", name := "multiply", desc := "(III)I" } : Jvm.MethodName)) ∈ lw_all := lw_g (lw_at lw_m0 38 rfl) rfl
theorem q67 : (Jvm.Cond.methodLink "SmallFieldsLaw" (18 : Nat) ({ cls := "SmallFields", name := "square", desc := "(II)I" } : Jvm.MethodName)) ∈ lw_all := lw_g (lw_at lw_m0 64 rfl) rfl
theorem q89 : (Jvm.Cond.methodLink "SmallFieldsLaw" (23 : Nat) ({ cls := "SmallFields", name := "inverse", desc := "(II)I" } : Jvm.MethodName)) ∈ lw_all := lw_g (lw_at lw_m0 86 rfl) rfl
theorem q137 : (Jvm.Cond.methodLink "SmallFieldsLaw" (27 : Nat) ({ cls := "SmallFields", name := "quotient", desc := "(III)I" } : Jvm.MethodName)) ∈ lw_all := lw_g (lw_at lw_m0 134 rfl) rfl
theorem q149 : (Jvm.Cond.methodLink "SmallFieldsLaw" (31 : Nat) ({ cls := "SmallFields", name := "product", desc := "(IIIII)I" } : Jvm.MethodName)) ∈ lw_all := lw_g (lw_at lw_m0 146 rfl) rfl
theorem q167 : (Jvm.Cond.methodLink "SmallFieldsLaw" (36 : Nat) ({ cls := "SmallFields", name := "wideSquare", desc := "(II)I" } : Jvm.MethodName)) ∈ lw_all := lw_g (lw_at lw_m0 164 rfl) rfl
theorem q180 : (Jvm.Cond.methodLink "SmallFieldsLaw" (40 : Nat) ({ cls := "SmallFields", name := "nought", desc := "(II)Z" } : Jvm.MethodName)) ∈ lw_all := lw_g (lw_at lw_m0 177 rfl) rfl
theorem q190 : (Jvm.Cond.classLink "SmallFieldsLaw" (10 : Nat) "SmallFieldsModel") ∈ lw_all := lw_g (lw_at lw_m0 187 rfl) rfl
theorem q192 : (Jvm.Cond.methodLink "SmallFieldsLaw" (12 : Nat) ({ cls := "SmallFieldsModel", name := "<init>", desc := "()V" } : Jvm.MethodName)) ∈ lw_all := lw_g (lw_at lw_m0 189 rfl) rfl
theorem q197 : (Jvm.Cond.methodLink "SmallFieldsLaw" (17 : Nat) ({ cls := "SmallFieldsModel", name := "multiply", desc := "(III)I" } : Jvm.MethodName)) ∈ lw_all := lw_g (lw_at lw_m0 194 rfl) rfl
theorem q204 : (Jvm.Cond.methodLink "SmallFieldsLaw" (22 : Nat) ({ cls := "SmallFieldsModel", name := "square", desc := "(II)I" } : Jvm.MethodName)) ∈ lw_all := lw_g (lw_at lw_m0 201 rfl) rfl
theorem q208 : (Jvm.Cond.methodLink "SmallFieldsLaw" (26 : Nat) ({ cls := "SmallFieldsModel", name := "inverse", desc := "(II)I" } : Jvm.MethodName)) ∈ lw_all := lw_g (lw_at lw_m0 205 rfl) rfl
theorem q215 : (Jvm.Cond.methodLink "SmallFieldsLaw" (30 : Nat) ({ cls := "SmallFieldsModel", name := "quotient", desc := "(III)I" } : Jvm.MethodName)) ∈ lw_all := lw_g (lw_at lw_m0 212 rfl) rfl
theorem q220 : (Jvm.Cond.methodLink "SmallFieldsLaw" (35 : Nat) ({ cls := "SmallFieldsModel", name := "product", desc := "(IIIII)I" } : Jvm.MethodName)) ∈ lw_all := lw_g (lw_at lw_m0 217 rfl) rfl
theorem q224 : (Jvm.Cond.methodLink "SmallFieldsLaw" (39 : Nat) ({ cls := "SmallFieldsModel", name := "wideSquare", desc := "(II)I" } : Jvm.MethodName)) ∈ lw_all := lw_g (lw_at lw_m0 221 rfl) rfl
theorem q228 : (Jvm.Cond.methodLink "SmallFieldsLaw" (44 : Nat) ({ cls := "SmallFieldsModel", name := "nought", desc := "(II)Z" } : Jvm.MethodName)) ∈ lw_all := lw_g (lw_at lw_m0 225 rfl) rfl
/-! the law's own entry -/
set_option maxRecDepth 100000
abbrev cL_law : ByteArray := code
def dkwL_law_15 : List UInt8 := [4, 172]
abbrev dktL_law_15 : List UInt8 := dkwL_law_15 ++ []
def dkwL_law_14 : List UInt8 := [42, 29, 4, 96, 46, 42, 29, 5, 96, 46, 182, 0, 44, 159, 0, 5, 3, 172, 132, 3, 6, 167, 254, 170]
abbrev dktL_law_14 : List UInt8 := dkwL_law_14 ++ dktL_law_15
def dkwL_law_13 : List UInt8 := [46, 182, 0, 39, 159, 0, 38, 3, 172, 43, 42, 29, 4, 96, 46, 42, 29, 5, 96, 46, 182, 0, 40, 44]
abbrev dktL_law_13 : List UInt8 := dkwL_law_13 ++ dktL_law_14
def dkwL_law_12 : List UInt8 := [43, 42, 29, 4, 96, 46, 42, 29, 5, 96, 46, 182, 0, 36, 44, 42, 29, 4, 96, 46, 42, 29, 5, 96]
abbrev dktL_law_12 : List UInt8 := dkwL_law_12 ++ dktL_law_13
def dkwL_law_11 : List UInt8 := [46, 42, 29, 6, 96, 46, 42, 29, 7, 96, 46, 42, 29, 8, 96, 46, 182, 0, 35, 159, 0, 71, 3, 172]
abbrev dktL_law_11 : List UInt8 := dkwL_law_11 ++ dktL_law_12
def dkwL_law_10 : List UInt8 := [46, 42, 29, 7, 96, 46, 42, 29, 8, 96, 46, 182, 0, 31, 44, 42, 29, 4, 96, 46, 42, 29, 5, 96]
abbrev dktL_law_10 : List UInt8 := dkwL_law_10 ++ dktL_law_11
def dkwL_law_9 : List UInt8 := [46, 182, 0, 30, 159, 0, 134, 3, 172, 43, 42, 29, 4, 96, 46, 42, 29, 5, 96, 46, 42, 29, 6, 96]
abbrev dktL_law_9 : List UInt8 := dkwL_law_9 ++ dktL_law_10
def dkwL_law_8 : List UInt8 := [46, 42, 29, 6, 96, 46, 182, 0, 27, 44, 42, 29, 4, 96, 46, 42, 29, 5, 96, 46, 42, 29, 6, 96]
abbrev dktL_law_8 : List UInt8 := dkwL_law_8 ++ dktL_law_9
def dkwL_law_7 : List UInt8 := [46, 42, 29, 5, 96, 46, 182, 0, 26, 159, 0, 177, 3, 172, 43, 42, 29, 4, 96, 46, 42, 29, 5, 96]
abbrev dktL_law_7 : List UInt8 := dkwL_law_7 ++ dktL_law_8
def dkwL_law_6 : List UInt8 := [159, 0, 210, 3, 172, 43, 42, 29, 4, 96, 46, 42, 29, 5, 96, 46, 182, 0, 23, 44, 42, 29, 4, 96]
abbrev dktL_law_6 : List UInt8 := dkwL_law_6 ++ dktL_law_7
def dkwL_law_5 : List UInt8 := [46, 42, 29, 5, 96, 46, 182, 0, 18, 44, 42, 29, 4, 96, 46, 42, 29, 5, 96, 46, 182, 0, 22]
abbrev dktL_law_5 : List UInt8 := dkwL_law_5 ++ dktL_law_6
def dkwL_law_4 : List UInt8 := [46, 42, 29, 5, 96, 46, 42, 29, 6, 96, 46, 182, 0, 17, 159, 0, 243, 3, 172, 43, 42, 29, 4, 96]
abbrev dktL_law_4 : List UInt8 := dkwL_law_4 ++ dktL_law_5
def dkwL_law_3 : List UInt8 := [43, 42, 29, 4, 96, 46, 42, 29, 5, 96, 46, 42, 29, 6, 96, 46, 182, 0, 13, 44, 42, 29, 4, 96]
abbrev dktL_law_3 : List UInt8 := dkwL_law_3 ++ dktL_law_4
def dkwL_law_2 : List UInt8 := [170, 0, 0, 0, 0, 1, 68, 0, 0, 0, 0, 0, 0, 0, 6, 0, 0, 0, 43, 0, 0, 0, 86, 0, 0, 0, 119, 0, 0, 0, 152, 0, 0, 0, 195, 0, 0, 1, 2, 0, 0, 1, 35]
abbrev dktL_law_2 : List UInt8 := dkwL_law_2 ++ dktL_law_3
def dkwL_law_1 : List UInt8 := [163, 1, 83, 42, 29, 46, 16, 7, 126]
abbrev dktL_law_1 : List UInt8 := dkwL_law_1 ++ dktL_law_2
def dkwL_law_0 : List UInt8 := [187, 0, 7, 89, 183, 0, 9, 76, 187, 0, 10, 89, 183, 0, 12, 77, 3, 62, 29, 42, 190, 16, 6, 100]
abbrev dktL_law_0 : List UInt8 := dkwL_law_0 ++ dktL_law_1
theorem dksL_law_0 : cL_law.data.toList.drop 0 = dktL_law_0 := by decide +kernel
theorem dksL_law_1 : cL_law.data.toList.drop 24 = dktL_law_1 := dk_seg dksL_law_0 24 rfl rfl
theorem dksL_law_2 : cL_law.data.toList.drop 33 = dktL_law_2 := dk_seg dksL_law_1 9 rfl rfl
theorem dksL_law_3 : cL_law.data.toList.drop 76 = dktL_law_3 := dk_seg dksL_law_2 43 rfl rfl
theorem dksL_law_4 : cL_law.data.toList.drop 100 = dktL_law_4 := dk_seg dksL_law_3 24 rfl rfl
theorem dksL_law_5 : cL_law.data.toList.drop 124 = dktL_law_5 := dk_seg dksL_law_4 24 rfl rfl
theorem dksL_law_6 : cL_law.data.toList.drop 147 = dktL_law_6 := dk_seg dksL_law_5 23 rfl rfl
theorem dksL_law_7 : cL_law.data.toList.drop 171 = dktL_law_7 := dk_seg dksL_law_6 24 rfl rfl
theorem dksL_law_8 : cL_law.data.toList.drop 195 = dktL_law_8 := dk_seg dksL_law_7 24 rfl rfl
theorem dksL_law_9 : cL_law.data.toList.drop 219 = dktL_law_9 := dk_seg dksL_law_8 24 rfl rfl
theorem dksL_law_10 : cL_law.data.toList.drop 243 = dktL_law_10 := dk_seg dksL_law_9 24 rfl rfl
theorem dksL_law_11 : cL_law.data.toList.drop 267 = dktL_law_11 := dk_seg dksL_law_10 24 rfl rfl
theorem dksL_law_12 : cL_law.data.toList.drop 291 = dktL_law_12 := dk_seg dksL_law_11 24 rfl rfl
theorem dksL_law_13 : cL_law.data.toList.drop 315 = dktL_law_13 := dk_seg dksL_law_12 24 rfl rfl
theorem dksL_law_14 : cL_law.data.toList.drop 339 = dktL_law_14 := dk_seg dksL_law_13 24 rfl rfl
theorem dksL_law_15 : cL_law.data.toList.drop 363 = dktL_law_15 := dk_seg dksL_law_14 24 rfl rfl
theorem dL_law_0 : decode cL_law 0 = .ok (.new 7, 3) := dk_187 0 7 (dk_at dksL_law_0 0 rfl rfl)
theorem dL_law_3 : decode cL_law 3 = .ok (.dup, 1) := dk_89 (dk_at dksL_law_0 3 rfl rfl)
theorem dL_law_4 : decode cL_law 4 = .ok (.invokespecial 9, 3) := dk_183 0 9 (dk_at dksL_law_0 4 rfl rfl)
theorem dL_law_7 : decode cL_law 7 = .ok (.astore_n 1, 1) := dk_76 (dk_at dksL_law_0 7 rfl rfl)
theorem dL_law_8 : decode cL_law 8 = .ok (.new 10, 3) := dk_187 0 10 (dk_at dksL_law_0 8 rfl rfl)
theorem dL_law_11 : decode cL_law 11 = .ok (.dup, 1) := dk_89 (dk_at dksL_law_0 11 rfl rfl)
theorem dL_law_12 : decode cL_law 12 = .ok (.invokespecial 12, 3) := dk_183 0 12 (dk_at dksL_law_0 12 rfl rfl)
theorem dL_law_15 : decode cL_law 15 = .ok (.astore_n 2, 1) := dk_77 (dk_at dksL_law_0 15 rfl rfl)
theorem dL_law_16 : decode cL_law 16 = .ok (.iconst 0, 1) := dk_3 (dk_at dksL_law_0 16 rfl rfl)
theorem dL_law_17 : decode cL_law 17 = .ok (.istore_n 3, 1) := dk_62 (dk_at dksL_law_0 17 rfl rfl)
theorem dL_law_18 : decode cL_law 18 = .ok (.iload_n 3, 1) := dk_29 (dk_at dksL_law_0 18 rfl rfl)
theorem dL_law_19 : decode cL_law 19 = .ok (.aload_n 0, 1) := dk_42 (dk_at dksL_law_0 19 rfl rfl)
theorem dL_law_20 : decode cL_law 20 = .ok (.arraylength, 1) := dk_190 (dk_at dksL_law_0 20 rfl rfl)
theorem dL_law_21 : decode cL_law 21 = .ok (.bipush 6, 2) := dk_16 6 (dk_at dksL_law_0 21 rfl rfl)
theorem dL_law_23 : decode cL_law 23 = .ok (.isub, 1) := dk_100 (dk_at dksL_law_0 23 rfl rfl)
theorem dL_law_24 : decode cL_law 24 = .ok (.if_icmp .gt 339, 3) := dk_163 1 83 (dk_at dksL_law_1 0 rfl rfl)
theorem dL_law_27 : decode cL_law 27 = .ok (.aload_n 0, 1) := dk_42 (dk_at dksL_law_1 3 rfl rfl)
theorem dL_law_28 : decode cL_law 28 = .ok (.iload_n 3, 1) := dk_29 (dk_at dksL_law_1 4 rfl rfl)
theorem dL_law_29 : decode cL_law 29 = .ok (.iaload, 1) := dk_46 (dk_at dksL_law_1 5 rfl rfl)
theorem dL_law_30 : decode cL_law 30 = .ok (.bipush 7, 2) := dk_16 7 (dk_at dksL_law_1 6 rfl rfl)
theorem dL_law_32 : decode cL_law 32 = .ok (.iand, 1) := dk_126 (dk_at dksL_law_1 8 rfl rfl)
theorem dL_law_33 : decode cL_law 33 = .ok (.tableswitch 324 0 6 #[43, 86, 119, 152, 195, 258, 291], 43) := by decide +kernel
theorem dL_law_76 : decode cL_law 76 = .ok (.aload_n 1, 1) := dk_43 (dk_at dksL_law_3 0 rfl rfl)
theorem dL_law_77 : decode cL_law 77 = .ok (.aload_n 0, 1) := dk_42 (dk_at dksL_law_3 1 rfl rfl)
theorem dL_law_78 : decode cL_law 78 = .ok (.iload_n 3, 1) := dk_29 (dk_at dksL_law_3 2 rfl rfl)
theorem dL_law_79 : decode cL_law 79 = .ok (.iconst 1, 1) := dk_4 (dk_at dksL_law_3 3 rfl rfl)
theorem dL_law_80 : decode cL_law 80 = .ok (.iadd, 1) := dk_96 (dk_at dksL_law_3 4 rfl rfl)
theorem dL_law_81 : decode cL_law 81 = .ok (.iaload, 1) := dk_46 (dk_at dksL_law_3 5 rfl rfl)
theorem dL_law_82 : decode cL_law 82 = .ok (.aload_n 0, 1) := dk_42 (dk_at dksL_law_3 6 rfl rfl)
theorem dL_law_83 : decode cL_law 83 = .ok (.iload_n 3, 1) := dk_29 (dk_at dksL_law_3 7 rfl rfl)
theorem dL_law_84 : decode cL_law 84 = .ok (.iconst 2, 1) := dk_5 (dk_at dksL_law_3 8 rfl rfl)
theorem dL_law_85 : decode cL_law 85 = .ok (.iadd, 1) := dk_96 (dk_at dksL_law_3 9 rfl rfl)
theorem dL_law_86 : decode cL_law 86 = .ok (.iaload, 1) := dk_46 (dk_at dksL_law_3 10 rfl rfl)
theorem dL_law_87 : decode cL_law 87 = .ok (.aload_n 0, 1) := dk_42 (dk_at dksL_law_3 11 rfl rfl)
theorem dL_law_88 : decode cL_law 88 = .ok (.iload_n 3, 1) := dk_29 (dk_at dksL_law_3 12 rfl rfl)
theorem dL_law_89 : decode cL_law 89 = .ok (.iconst 3, 1) := dk_6 (dk_at dksL_law_3 13 rfl rfl)
theorem dL_law_90 : decode cL_law 90 = .ok (.iadd, 1) := dk_96 (dk_at dksL_law_3 14 rfl rfl)
theorem dL_law_91 : decode cL_law 91 = .ok (.iaload, 1) := dk_46 (dk_at dksL_law_3 15 rfl rfl)
theorem dL_law_92 : decode cL_law 92 = .ok (.invokevirtual 13, 3) := dk_182 0 13 (dk_at dksL_law_3 16 rfl rfl)
theorem dL_law_95 : decode cL_law 95 = .ok (.aload_n 2, 1) := dk_44 (dk_at dksL_law_3 19 rfl rfl)
theorem dL_law_96 : decode cL_law 96 = .ok (.aload_n 0, 1) := dk_42 (dk_at dksL_law_3 20 rfl rfl)
theorem dL_law_97 : decode cL_law 97 = .ok (.iload_n 3, 1) := dk_29 (dk_at dksL_law_3 21 rfl rfl)
theorem dL_law_98 : decode cL_law 98 = .ok (.iconst 1, 1) := dk_4 (dk_at dksL_law_3 22 rfl rfl)
theorem dL_law_99 : decode cL_law 99 = .ok (.iadd, 1) := dk_96 (dk_at dksL_law_3 23 rfl rfl)
theorem dL_law_100 : decode cL_law 100 = .ok (.iaload, 1) := dk_46 (dk_at dksL_law_4 0 rfl rfl)
theorem dL_law_101 : decode cL_law 101 = .ok (.aload_n 0, 1) := dk_42 (dk_at dksL_law_4 1 rfl rfl)
theorem dL_law_102 : decode cL_law 102 = .ok (.iload_n 3, 1) := dk_29 (dk_at dksL_law_4 2 rfl rfl)
theorem dL_law_103 : decode cL_law 103 = .ok (.iconst 2, 1) := dk_5 (dk_at dksL_law_4 3 rfl rfl)
theorem dL_law_104 : decode cL_law 104 = .ok (.iadd, 1) := dk_96 (dk_at dksL_law_4 4 rfl rfl)
theorem dL_law_105 : decode cL_law 105 = .ok (.iaload, 1) := dk_46 (dk_at dksL_law_4 5 rfl rfl)
theorem dL_law_106 : decode cL_law 106 = .ok (.aload_n 0, 1) := dk_42 (dk_at dksL_law_4 6 rfl rfl)
theorem dL_law_107 : decode cL_law 107 = .ok (.iload_n 3, 1) := dk_29 (dk_at dksL_law_4 7 rfl rfl)
theorem dL_law_108 : decode cL_law 108 = .ok (.iconst 3, 1) := dk_6 (dk_at dksL_law_4 8 rfl rfl)
theorem dL_law_109 : decode cL_law 109 = .ok (.iadd, 1) := dk_96 (dk_at dksL_law_4 9 rfl rfl)
theorem dL_law_110 : decode cL_law 110 = .ok (.iaload, 1) := dk_46 (dk_at dksL_law_4 10 rfl rfl)
theorem dL_law_111 : decode cL_law 111 = .ok (.invokevirtual 17, 3) := dk_182 0 17 (dk_at dksL_law_4 11 rfl rfl)
theorem dL_law_114 : decode cL_law 114 = .ok (.if_icmp .eq 243, 3) := dk_159 0 243 (dk_at dksL_law_4 14 rfl rfl)
theorem dL_law_117 : decode cL_law 117 = .ok (.iconst 0, 1) := dk_3 (dk_at dksL_law_4 17 rfl rfl)
theorem dL_law_118 : decode cL_law 118 = .ok (.ireturn, 1) := dk_172 (dk_at dksL_law_4 18 rfl rfl)
theorem dL_law_119 : decode cL_law 119 = .ok (.aload_n 1, 1) := dk_43 (dk_at dksL_law_4 19 rfl rfl)
theorem dL_law_120 : decode cL_law 120 = .ok (.aload_n 0, 1) := dk_42 (dk_at dksL_law_4 20 rfl rfl)
theorem dL_law_121 : decode cL_law 121 = .ok (.iload_n 3, 1) := dk_29 (dk_at dksL_law_4 21 rfl rfl)
theorem dL_law_122 : decode cL_law 122 = .ok (.iconst 1, 1) := dk_4 (dk_at dksL_law_4 22 rfl rfl)
theorem dL_law_123 : decode cL_law 123 = .ok (.iadd, 1) := dk_96 (dk_at dksL_law_4 23 rfl rfl)
theorem dL_law_124 : decode cL_law 124 = .ok (.iaload, 1) := dk_46 (dk_at dksL_law_5 0 rfl rfl)
theorem dL_law_125 : decode cL_law 125 = .ok (.aload_n 0, 1) := dk_42 (dk_at dksL_law_5 1 rfl rfl)
theorem dL_law_126 : decode cL_law 126 = .ok (.iload_n 3, 1) := dk_29 (dk_at dksL_law_5 2 rfl rfl)
theorem dL_law_127 : decode cL_law 127 = .ok (.iconst 2, 1) := dk_5 (dk_at dksL_law_5 3 rfl rfl)
theorem dL_law_128 : decode cL_law 128 = .ok (.iadd, 1) := dk_96 (dk_at dksL_law_5 4 rfl rfl)
theorem dL_law_129 : decode cL_law 129 = .ok (.iaload, 1) := dk_46 (dk_at dksL_law_5 5 rfl rfl)
theorem dL_law_130 : decode cL_law 130 = .ok (.invokevirtual 18, 3) := dk_182 0 18 (dk_at dksL_law_5 6 rfl rfl)
theorem dL_law_133 : decode cL_law 133 = .ok (.aload_n 2, 1) := dk_44 (dk_at dksL_law_5 9 rfl rfl)
theorem dL_law_134 : decode cL_law 134 = .ok (.aload_n 0, 1) := dk_42 (dk_at dksL_law_5 10 rfl rfl)
theorem dL_law_135 : decode cL_law 135 = .ok (.iload_n 3, 1) := dk_29 (dk_at dksL_law_5 11 rfl rfl)
theorem dL_law_136 : decode cL_law 136 = .ok (.iconst 1, 1) := dk_4 (dk_at dksL_law_5 12 rfl rfl)
theorem dL_law_137 : decode cL_law 137 = .ok (.iadd, 1) := dk_96 (dk_at dksL_law_5 13 rfl rfl)
theorem dL_law_138 : decode cL_law 138 = .ok (.iaload, 1) := dk_46 (dk_at dksL_law_5 14 rfl rfl)
theorem dL_law_139 : decode cL_law 139 = .ok (.aload_n 0, 1) := dk_42 (dk_at dksL_law_5 15 rfl rfl)
theorem dL_law_140 : decode cL_law 140 = .ok (.iload_n 3, 1) := dk_29 (dk_at dksL_law_5 16 rfl rfl)
theorem dL_law_141 : decode cL_law 141 = .ok (.iconst 2, 1) := dk_5 (dk_at dksL_law_5 17 rfl rfl)
theorem dL_law_142 : decode cL_law 142 = .ok (.iadd, 1) := dk_96 (dk_at dksL_law_5 18 rfl rfl)
theorem dL_law_143 : decode cL_law 143 = .ok (.iaload, 1) := dk_46 (dk_at dksL_law_5 19 rfl rfl)
theorem dL_law_144 : decode cL_law 144 = .ok (.invokevirtual 22, 3) := dk_182 0 22 (dk_at dksL_law_5 20 rfl rfl)
theorem dL_law_147 : decode cL_law 147 = .ok (.if_icmp .eq 210, 3) := dk_159 0 210 (dk_at dksL_law_6 0 rfl rfl)
theorem dL_law_150 : decode cL_law 150 = .ok (.iconst 0, 1) := dk_3 (dk_at dksL_law_6 3 rfl rfl)
theorem dL_law_151 : decode cL_law 151 = .ok (.ireturn, 1) := dk_172 (dk_at dksL_law_6 4 rfl rfl)
theorem dL_law_152 : decode cL_law 152 = .ok (.aload_n 1, 1) := dk_43 (dk_at dksL_law_6 5 rfl rfl)
theorem dL_law_153 : decode cL_law 153 = .ok (.aload_n 0, 1) := dk_42 (dk_at dksL_law_6 6 rfl rfl)
theorem dL_law_154 : decode cL_law 154 = .ok (.iload_n 3, 1) := dk_29 (dk_at dksL_law_6 7 rfl rfl)
theorem dL_law_155 : decode cL_law 155 = .ok (.iconst 1, 1) := dk_4 (dk_at dksL_law_6 8 rfl rfl)
theorem dL_law_156 : decode cL_law 156 = .ok (.iadd, 1) := dk_96 (dk_at dksL_law_6 9 rfl rfl)
theorem dL_law_157 : decode cL_law 157 = .ok (.iaload, 1) := dk_46 (dk_at dksL_law_6 10 rfl rfl)
theorem dL_law_158 : decode cL_law 158 = .ok (.aload_n 0, 1) := dk_42 (dk_at dksL_law_6 11 rfl rfl)
theorem dL_law_159 : decode cL_law 159 = .ok (.iload_n 3, 1) := dk_29 (dk_at dksL_law_6 12 rfl rfl)
theorem dL_law_160 : decode cL_law 160 = .ok (.iconst 2, 1) := dk_5 (dk_at dksL_law_6 13 rfl rfl)
theorem dL_law_161 : decode cL_law 161 = .ok (.iadd, 1) := dk_96 (dk_at dksL_law_6 14 rfl rfl)
theorem dL_law_162 : decode cL_law 162 = .ok (.iaload, 1) := dk_46 (dk_at dksL_law_6 15 rfl rfl)
theorem dL_law_163 : decode cL_law 163 = .ok (.invokevirtual 23, 3) := dk_182 0 23 (dk_at dksL_law_6 16 rfl rfl)
theorem dL_law_166 : decode cL_law 166 = .ok (.aload_n 2, 1) := dk_44 (dk_at dksL_law_6 19 rfl rfl)
theorem dL_law_167 : decode cL_law 167 = .ok (.aload_n 0, 1) := dk_42 (dk_at dksL_law_6 20 rfl rfl)
theorem dL_law_168 : decode cL_law 168 = .ok (.iload_n 3, 1) := dk_29 (dk_at dksL_law_6 21 rfl rfl)
theorem dL_law_169 : decode cL_law 169 = .ok (.iconst 1, 1) := dk_4 (dk_at dksL_law_6 22 rfl rfl)
theorem dL_law_170 : decode cL_law 170 = .ok (.iadd, 1) := dk_96 (dk_at dksL_law_6 23 rfl rfl)
theorem dL_law_171 : decode cL_law 171 = .ok (.iaload, 1) := dk_46 (dk_at dksL_law_7 0 rfl rfl)
theorem dL_law_172 : decode cL_law 172 = .ok (.aload_n 0, 1) := dk_42 (dk_at dksL_law_7 1 rfl rfl)
theorem dL_law_173 : decode cL_law 173 = .ok (.iload_n 3, 1) := dk_29 (dk_at dksL_law_7 2 rfl rfl)
theorem dL_law_174 : decode cL_law 174 = .ok (.iconst 2, 1) := dk_5 (dk_at dksL_law_7 3 rfl rfl)
theorem dL_law_175 : decode cL_law 175 = .ok (.iadd, 1) := dk_96 (dk_at dksL_law_7 4 rfl rfl)
theorem dL_law_176 : decode cL_law 176 = .ok (.iaload, 1) := dk_46 (dk_at dksL_law_7 5 rfl rfl)
theorem dL_law_177 : decode cL_law 177 = .ok (.invokevirtual 26, 3) := dk_182 0 26 (dk_at dksL_law_7 6 rfl rfl)
theorem dL_law_180 : decode cL_law 180 = .ok (.if_icmp .eq 177, 3) := dk_159 0 177 (dk_at dksL_law_7 9 rfl rfl)
theorem dL_law_183 : decode cL_law 183 = .ok (.iconst 0, 1) := dk_3 (dk_at dksL_law_7 12 rfl rfl)
theorem dL_law_184 : decode cL_law 184 = .ok (.ireturn, 1) := dk_172 (dk_at dksL_law_7 13 rfl rfl)
theorem dL_law_185 : decode cL_law 185 = .ok (.aload_n 1, 1) := dk_43 (dk_at dksL_law_7 14 rfl rfl)
theorem dL_law_186 : decode cL_law 186 = .ok (.aload_n 0, 1) := dk_42 (dk_at dksL_law_7 15 rfl rfl)
theorem dL_law_187 : decode cL_law 187 = .ok (.iload_n 3, 1) := dk_29 (dk_at dksL_law_7 16 rfl rfl)
theorem dL_law_188 : decode cL_law 188 = .ok (.iconst 1, 1) := dk_4 (dk_at dksL_law_7 17 rfl rfl)
theorem dL_law_189 : decode cL_law 189 = .ok (.iadd, 1) := dk_96 (dk_at dksL_law_7 18 rfl rfl)
theorem dL_law_190 : decode cL_law 190 = .ok (.iaload, 1) := dk_46 (dk_at dksL_law_7 19 rfl rfl)
theorem dL_law_191 : decode cL_law 191 = .ok (.aload_n 0, 1) := dk_42 (dk_at dksL_law_7 20 rfl rfl)
theorem dL_law_192 : decode cL_law 192 = .ok (.iload_n 3, 1) := dk_29 (dk_at dksL_law_7 21 rfl rfl)
theorem dL_law_193 : decode cL_law 193 = .ok (.iconst 2, 1) := dk_5 (dk_at dksL_law_7 22 rfl rfl)
theorem dL_law_194 : decode cL_law 194 = .ok (.iadd, 1) := dk_96 (dk_at dksL_law_7 23 rfl rfl)
theorem dL_law_195 : decode cL_law 195 = .ok (.iaload, 1) := dk_46 (dk_at dksL_law_8 0 rfl rfl)
theorem dL_law_196 : decode cL_law 196 = .ok (.aload_n 0, 1) := dk_42 (dk_at dksL_law_8 1 rfl rfl)
theorem dL_law_197 : decode cL_law 197 = .ok (.iload_n 3, 1) := dk_29 (dk_at dksL_law_8 2 rfl rfl)
theorem dL_law_198 : decode cL_law 198 = .ok (.iconst 3, 1) := dk_6 (dk_at dksL_law_8 3 rfl rfl)
theorem dL_law_199 : decode cL_law 199 = .ok (.iadd, 1) := dk_96 (dk_at dksL_law_8 4 rfl rfl)
theorem dL_law_200 : decode cL_law 200 = .ok (.iaload, 1) := dk_46 (dk_at dksL_law_8 5 rfl rfl)
theorem dL_law_201 : decode cL_law 201 = .ok (.invokevirtual 27, 3) := dk_182 0 27 (dk_at dksL_law_8 6 rfl rfl)
theorem dL_law_204 : decode cL_law 204 = .ok (.aload_n 2, 1) := dk_44 (dk_at dksL_law_8 9 rfl rfl)
theorem dL_law_205 : decode cL_law 205 = .ok (.aload_n 0, 1) := dk_42 (dk_at dksL_law_8 10 rfl rfl)
theorem dL_law_206 : decode cL_law 206 = .ok (.iload_n 3, 1) := dk_29 (dk_at dksL_law_8 11 rfl rfl)
theorem dL_law_207 : decode cL_law 207 = .ok (.iconst 1, 1) := dk_4 (dk_at dksL_law_8 12 rfl rfl)
theorem dL_law_208 : decode cL_law 208 = .ok (.iadd, 1) := dk_96 (dk_at dksL_law_8 13 rfl rfl)
theorem dL_law_209 : decode cL_law 209 = .ok (.iaload, 1) := dk_46 (dk_at dksL_law_8 14 rfl rfl)
theorem dL_law_210 : decode cL_law 210 = .ok (.aload_n 0, 1) := dk_42 (dk_at dksL_law_8 15 rfl rfl)
theorem dL_law_211 : decode cL_law 211 = .ok (.iload_n 3, 1) := dk_29 (dk_at dksL_law_8 16 rfl rfl)
theorem dL_law_212 : decode cL_law 212 = .ok (.iconst 2, 1) := dk_5 (dk_at dksL_law_8 17 rfl rfl)
theorem dL_law_213 : decode cL_law 213 = .ok (.iadd, 1) := dk_96 (dk_at dksL_law_8 18 rfl rfl)
theorem dL_law_214 : decode cL_law 214 = .ok (.iaload, 1) := dk_46 (dk_at dksL_law_8 19 rfl rfl)
theorem dL_law_215 : decode cL_law 215 = .ok (.aload_n 0, 1) := dk_42 (dk_at dksL_law_8 20 rfl rfl)
theorem dL_law_216 : decode cL_law 216 = .ok (.iload_n 3, 1) := dk_29 (dk_at dksL_law_8 21 rfl rfl)
theorem dL_law_217 : decode cL_law 217 = .ok (.iconst 3, 1) := dk_6 (dk_at dksL_law_8 22 rfl rfl)
theorem dL_law_218 : decode cL_law 218 = .ok (.iadd, 1) := dk_96 (dk_at dksL_law_8 23 rfl rfl)
theorem dL_law_219 : decode cL_law 219 = .ok (.iaload, 1) := dk_46 (dk_at dksL_law_9 0 rfl rfl)
theorem dL_law_220 : decode cL_law 220 = .ok (.invokevirtual 30, 3) := dk_182 0 30 (dk_at dksL_law_9 1 rfl rfl)
theorem dL_law_223 : decode cL_law 223 = .ok (.if_icmp .eq 134, 3) := dk_159 0 134 (dk_at dksL_law_9 4 rfl rfl)
theorem dL_law_226 : decode cL_law 226 = .ok (.iconst 0, 1) := dk_3 (dk_at dksL_law_9 7 rfl rfl)
theorem dL_law_227 : decode cL_law 227 = .ok (.ireturn, 1) := dk_172 (dk_at dksL_law_9 8 rfl rfl)
theorem dL_law_228 : decode cL_law 228 = .ok (.aload_n 1, 1) := dk_43 (dk_at dksL_law_9 9 rfl rfl)
theorem dL_law_229 : decode cL_law 229 = .ok (.aload_n 0, 1) := dk_42 (dk_at dksL_law_9 10 rfl rfl)
theorem dL_law_230 : decode cL_law 230 = .ok (.iload_n 3, 1) := dk_29 (dk_at dksL_law_9 11 rfl rfl)
theorem dL_law_231 : decode cL_law 231 = .ok (.iconst 1, 1) := dk_4 (dk_at dksL_law_9 12 rfl rfl)
theorem dL_law_232 : decode cL_law 232 = .ok (.iadd, 1) := dk_96 (dk_at dksL_law_9 13 rfl rfl)
theorem dL_law_233 : decode cL_law 233 = .ok (.iaload, 1) := dk_46 (dk_at dksL_law_9 14 rfl rfl)
theorem dL_law_234 : decode cL_law 234 = .ok (.aload_n 0, 1) := dk_42 (dk_at dksL_law_9 15 rfl rfl)
theorem dL_law_235 : decode cL_law 235 = .ok (.iload_n 3, 1) := dk_29 (dk_at dksL_law_9 16 rfl rfl)
theorem dL_law_236 : decode cL_law 236 = .ok (.iconst 2, 1) := dk_5 (dk_at dksL_law_9 17 rfl rfl)
theorem dL_law_237 : decode cL_law 237 = .ok (.iadd, 1) := dk_96 (dk_at dksL_law_9 18 rfl rfl)
theorem dL_law_238 : decode cL_law 238 = .ok (.iaload, 1) := dk_46 (dk_at dksL_law_9 19 rfl rfl)
theorem dL_law_239 : decode cL_law 239 = .ok (.aload_n 0, 1) := dk_42 (dk_at dksL_law_9 20 rfl rfl)
theorem dL_law_240 : decode cL_law 240 = .ok (.iload_n 3, 1) := dk_29 (dk_at dksL_law_9 21 rfl rfl)
theorem dL_law_241 : decode cL_law 241 = .ok (.iconst 3, 1) := dk_6 (dk_at dksL_law_9 22 rfl rfl)
theorem dL_law_242 : decode cL_law 242 = .ok (.iadd, 1) := dk_96 (dk_at dksL_law_9 23 rfl rfl)
theorem dL_law_243 : decode cL_law 243 = .ok (.iaload, 1) := dk_46 (dk_at dksL_law_10 0 rfl rfl)
theorem dL_law_244 : decode cL_law 244 = .ok (.aload_n 0, 1) := dk_42 (dk_at dksL_law_10 1 rfl rfl)
theorem dL_law_245 : decode cL_law 245 = .ok (.iload_n 3, 1) := dk_29 (dk_at dksL_law_10 2 rfl rfl)
theorem dL_law_246 : decode cL_law 246 = .ok (.iconst 4, 1) := dk_7 (dk_at dksL_law_10 3 rfl rfl)
theorem dL_law_247 : decode cL_law 247 = .ok (.iadd, 1) := dk_96 (dk_at dksL_law_10 4 rfl rfl)
theorem dL_law_248 : decode cL_law 248 = .ok (.iaload, 1) := dk_46 (dk_at dksL_law_10 5 rfl rfl)
theorem dL_law_249 : decode cL_law 249 = .ok (.aload_n 0, 1) := dk_42 (dk_at dksL_law_10 6 rfl rfl)
theorem dL_law_250 : decode cL_law 250 = .ok (.iload_n 3, 1) := dk_29 (dk_at dksL_law_10 7 rfl rfl)
theorem dL_law_251 : decode cL_law 251 = .ok (.iconst 5, 1) := dk_8 (dk_at dksL_law_10 8 rfl rfl)
theorem dL_law_252 : decode cL_law 252 = .ok (.iadd, 1) := dk_96 (dk_at dksL_law_10 9 rfl rfl)
theorem dL_law_253 : decode cL_law 253 = .ok (.iaload, 1) := dk_46 (dk_at dksL_law_10 10 rfl rfl)
theorem dL_law_254 : decode cL_law 254 = .ok (.invokevirtual 31, 3) := dk_182 0 31 (dk_at dksL_law_10 11 rfl rfl)
theorem dL_law_257 : decode cL_law 257 = .ok (.aload_n 2, 1) := dk_44 (dk_at dksL_law_10 14 rfl rfl)
theorem dL_law_258 : decode cL_law 258 = .ok (.aload_n 0, 1) := dk_42 (dk_at dksL_law_10 15 rfl rfl)
theorem dL_law_259 : decode cL_law 259 = .ok (.iload_n 3, 1) := dk_29 (dk_at dksL_law_10 16 rfl rfl)
theorem dL_law_260 : decode cL_law 260 = .ok (.iconst 1, 1) := dk_4 (dk_at dksL_law_10 17 rfl rfl)
theorem dL_law_261 : decode cL_law 261 = .ok (.iadd, 1) := dk_96 (dk_at dksL_law_10 18 rfl rfl)
theorem dL_law_262 : decode cL_law 262 = .ok (.iaload, 1) := dk_46 (dk_at dksL_law_10 19 rfl rfl)
theorem dL_law_263 : decode cL_law 263 = .ok (.aload_n 0, 1) := dk_42 (dk_at dksL_law_10 20 rfl rfl)
theorem dL_law_264 : decode cL_law 264 = .ok (.iload_n 3, 1) := dk_29 (dk_at dksL_law_10 21 rfl rfl)
theorem dL_law_265 : decode cL_law 265 = .ok (.iconst 2, 1) := dk_5 (dk_at dksL_law_10 22 rfl rfl)
theorem dL_law_266 : decode cL_law 266 = .ok (.iadd, 1) := dk_96 (dk_at dksL_law_10 23 rfl rfl)
theorem dL_law_267 : decode cL_law 267 = .ok (.iaload, 1) := dk_46 (dk_at dksL_law_11 0 rfl rfl)
theorem dL_law_268 : decode cL_law 268 = .ok (.aload_n 0, 1) := dk_42 (dk_at dksL_law_11 1 rfl rfl)
theorem dL_law_269 : decode cL_law 269 = .ok (.iload_n 3, 1) := dk_29 (dk_at dksL_law_11 2 rfl rfl)
theorem dL_law_270 : decode cL_law 270 = .ok (.iconst 3, 1) := dk_6 (dk_at dksL_law_11 3 rfl rfl)
theorem dL_law_271 : decode cL_law 271 = .ok (.iadd, 1) := dk_96 (dk_at dksL_law_11 4 rfl rfl)
theorem dL_law_272 : decode cL_law 272 = .ok (.iaload, 1) := dk_46 (dk_at dksL_law_11 5 rfl rfl)
theorem dL_law_273 : decode cL_law 273 = .ok (.aload_n 0, 1) := dk_42 (dk_at dksL_law_11 6 rfl rfl)
theorem dL_law_274 : decode cL_law 274 = .ok (.iload_n 3, 1) := dk_29 (dk_at dksL_law_11 7 rfl rfl)
theorem dL_law_275 : decode cL_law 275 = .ok (.iconst 4, 1) := dk_7 (dk_at dksL_law_11 8 rfl rfl)
theorem dL_law_276 : decode cL_law 276 = .ok (.iadd, 1) := dk_96 (dk_at dksL_law_11 9 rfl rfl)
theorem dL_law_277 : decode cL_law 277 = .ok (.iaload, 1) := dk_46 (dk_at dksL_law_11 10 rfl rfl)
theorem dL_law_278 : decode cL_law 278 = .ok (.aload_n 0, 1) := dk_42 (dk_at dksL_law_11 11 rfl rfl)
theorem dL_law_279 : decode cL_law 279 = .ok (.iload_n 3, 1) := dk_29 (dk_at dksL_law_11 12 rfl rfl)
theorem dL_law_280 : decode cL_law 280 = .ok (.iconst 5, 1) := dk_8 (dk_at dksL_law_11 13 rfl rfl)
theorem dL_law_281 : decode cL_law 281 = .ok (.iadd, 1) := dk_96 (dk_at dksL_law_11 14 rfl rfl)
theorem dL_law_282 : decode cL_law 282 = .ok (.iaload, 1) := dk_46 (dk_at dksL_law_11 15 rfl rfl)
theorem dL_law_283 : decode cL_law 283 = .ok (.invokevirtual 35, 3) := dk_182 0 35 (dk_at dksL_law_11 16 rfl rfl)
theorem dL_law_286 : decode cL_law 286 = .ok (.if_icmp .eq 71, 3) := dk_159 0 71 (dk_at dksL_law_11 19 rfl rfl)
theorem dL_law_289 : decode cL_law 289 = .ok (.iconst 0, 1) := dk_3 (dk_at dksL_law_11 22 rfl rfl)
theorem dL_law_290 : decode cL_law 290 = .ok (.ireturn, 1) := dk_172 (dk_at dksL_law_11 23 rfl rfl)
theorem dL_law_291 : decode cL_law 291 = .ok (.aload_n 1, 1) := dk_43 (dk_at dksL_law_12 0 rfl rfl)
theorem dL_law_292 : decode cL_law 292 = .ok (.aload_n 0, 1) := dk_42 (dk_at dksL_law_12 1 rfl rfl)
theorem dL_law_293 : decode cL_law 293 = .ok (.iload_n 3, 1) := dk_29 (dk_at dksL_law_12 2 rfl rfl)
theorem dL_law_294 : decode cL_law 294 = .ok (.iconst 1, 1) := dk_4 (dk_at dksL_law_12 3 rfl rfl)
theorem dL_law_295 : decode cL_law 295 = .ok (.iadd, 1) := dk_96 (dk_at dksL_law_12 4 rfl rfl)
theorem dL_law_296 : decode cL_law 296 = .ok (.iaload, 1) := dk_46 (dk_at dksL_law_12 5 rfl rfl)
theorem dL_law_297 : decode cL_law 297 = .ok (.aload_n 0, 1) := dk_42 (dk_at dksL_law_12 6 rfl rfl)
theorem dL_law_298 : decode cL_law 298 = .ok (.iload_n 3, 1) := dk_29 (dk_at dksL_law_12 7 rfl rfl)
theorem dL_law_299 : decode cL_law 299 = .ok (.iconst 2, 1) := dk_5 (dk_at dksL_law_12 8 rfl rfl)
theorem dL_law_300 : decode cL_law 300 = .ok (.iadd, 1) := dk_96 (dk_at dksL_law_12 9 rfl rfl)
theorem dL_law_301 : decode cL_law 301 = .ok (.iaload, 1) := dk_46 (dk_at dksL_law_12 10 rfl rfl)
theorem dL_law_302 : decode cL_law 302 = .ok (.invokevirtual 36, 3) := dk_182 0 36 (dk_at dksL_law_12 11 rfl rfl)
theorem dL_law_305 : decode cL_law 305 = .ok (.aload_n 2, 1) := dk_44 (dk_at dksL_law_12 14 rfl rfl)
theorem dL_law_306 : decode cL_law 306 = .ok (.aload_n 0, 1) := dk_42 (dk_at dksL_law_12 15 rfl rfl)
theorem dL_law_307 : decode cL_law 307 = .ok (.iload_n 3, 1) := dk_29 (dk_at dksL_law_12 16 rfl rfl)
theorem dL_law_308 : decode cL_law 308 = .ok (.iconst 1, 1) := dk_4 (dk_at dksL_law_12 17 rfl rfl)
theorem dL_law_309 : decode cL_law 309 = .ok (.iadd, 1) := dk_96 (dk_at dksL_law_12 18 rfl rfl)
theorem dL_law_310 : decode cL_law 310 = .ok (.iaload, 1) := dk_46 (dk_at dksL_law_12 19 rfl rfl)
theorem dL_law_311 : decode cL_law 311 = .ok (.aload_n 0, 1) := dk_42 (dk_at dksL_law_12 20 rfl rfl)
theorem dL_law_312 : decode cL_law 312 = .ok (.iload_n 3, 1) := dk_29 (dk_at dksL_law_12 21 rfl rfl)
theorem dL_law_313 : decode cL_law 313 = .ok (.iconst 2, 1) := dk_5 (dk_at dksL_law_12 22 rfl rfl)
theorem dL_law_314 : decode cL_law 314 = .ok (.iadd, 1) := dk_96 (dk_at dksL_law_12 23 rfl rfl)
theorem dL_law_315 : decode cL_law 315 = .ok (.iaload, 1) := dk_46 (dk_at dksL_law_13 0 rfl rfl)
theorem dL_law_316 : decode cL_law 316 = .ok (.invokevirtual 39, 3) := dk_182 0 39 (dk_at dksL_law_13 1 rfl rfl)
theorem dL_law_319 : decode cL_law 319 = .ok (.if_icmp .eq 38, 3) := dk_159 0 38 (dk_at dksL_law_13 4 rfl rfl)
theorem dL_law_322 : decode cL_law 322 = .ok (.iconst 0, 1) := dk_3 (dk_at dksL_law_13 7 rfl rfl)
theorem dL_law_323 : decode cL_law 323 = .ok (.ireturn, 1) := dk_172 (dk_at dksL_law_13 8 rfl rfl)
theorem dL_law_324 : decode cL_law 324 = .ok (.aload_n 1, 1) := dk_43 (dk_at dksL_law_13 9 rfl rfl)
theorem dL_law_325 : decode cL_law 325 = .ok (.aload_n 0, 1) := dk_42 (dk_at dksL_law_13 10 rfl rfl)
theorem dL_law_326 : decode cL_law 326 = .ok (.iload_n 3, 1) := dk_29 (dk_at dksL_law_13 11 rfl rfl)
theorem dL_law_327 : decode cL_law 327 = .ok (.iconst 1, 1) := dk_4 (dk_at dksL_law_13 12 rfl rfl)
theorem dL_law_328 : decode cL_law 328 = .ok (.iadd, 1) := dk_96 (dk_at dksL_law_13 13 rfl rfl)
theorem dL_law_329 : decode cL_law 329 = .ok (.iaload, 1) := dk_46 (dk_at dksL_law_13 14 rfl rfl)
theorem dL_law_330 : decode cL_law 330 = .ok (.aload_n 0, 1) := dk_42 (dk_at dksL_law_13 15 rfl rfl)
theorem dL_law_331 : decode cL_law 331 = .ok (.iload_n 3, 1) := dk_29 (dk_at dksL_law_13 16 rfl rfl)
theorem dL_law_332 : decode cL_law 332 = .ok (.iconst 2, 1) := dk_5 (dk_at dksL_law_13 17 rfl rfl)
theorem dL_law_333 : decode cL_law 333 = .ok (.iadd, 1) := dk_96 (dk_at dksL_law_13 18 rfl rfl)
theorem dL_law_334 : decode cL_law 334 = .ok (.iaload, 1) := dk_46 (dk_at dksL_law_13 19 rfl rfl)
theorem dL_law_335 : decode cL_law 335 = .ok (.invokevirtual 40, 3) := dk_182 0 40 (dk_at dksL_law_13 20 rfl rfl)
theorem dL_law_338 : decode cL_law 338 = .ok (.aload_n 2, 1) := dk_44 (dk_at dksL_law_13 23 rfl rfl)
theorem dL_law_339 : decode cL_law 339 = .ok (.aload_n 0, 1) := dk_42 (dk_at dksL_law_14 0 rfl rfl)
theorem dL_law_340 : decode cL_law 340 = .ok (.iload_n 3, 1) := dk_29 (dk_at dksL_law_14 1 rfl rfl)
theorem dL_law_341 : decode cL_law 341 = .ok (.iconst 1, 1) := dk_4 (dk_at dksL_law_14 2 rfl rfl)
theorem dL_law_342 : decode cL_law 342 = .ok (.iadd, 1) := dk_96 (dk_at dksL_law_14 3 rfl rfl)
theorem dL_law_343 : decode cL_law 343 = .ok (.iaload, 1) := dk_46 (dk_at dksL_law_14 4 rfl rfl)
theorem dL_law_344 : decode cL_law 344 = .ok (.aload_n 0, 1) := dk_42 (dk_at dksL_law_14 5 rfl rfl)
theorem dL_law_345 : decode cL_law 345 = .ok (.iload_n 3, 1) := dk_29 (dk_at dksL_law_14 6 rfl rfl)
theorem dL_law_346 : decode cL_law 346 = .ok (.iconst 2, 1) := dk_5 (dk_at dksL_law_14 7 rfl rfl)
theorem dL_law_347 : decode cL_law 347 = .ok (.iadd, 1) := dk_96 (dk_at dksL_law_14 8 rfl rfl)
theorem dL_law_348 : decode cL_law 348 = .ok (.iaload, 1) := dk_46 (dk_at dksL_law_14 9 rfl rfl)
theorem dL_law_349 : decode cL_law 349 = .ok (.invokevirtual 44, 3) := dk_182 0 44 (dk_at dksL_law_14 10 rfl rfl)
theorem dL_law_352 : decode cL_law 352 = .ok (.if_icmp .eq 5, 3) := dk_159 0 5 (dk_at dksL_law_14 13 rfl rfl)
theorem dL_law_355 : decode cL_law 355 = .ok (.iconst 0, 1) := dk_3 (dk_at dksL_law_14 16 rfl rfl)
theorem dL_law_356 : decode cL_law 356 = .ok (.ireturn, 1) := dk_172 (dk_at dksL_law_14 17 rfl rfl)
theorem dL_law_357 : decode cL_law 357 = .ok (.iinc 3 6, 3) := dk_132 3 6 (dk_at dksL_law_14 18 rfl rfl)
theorem dL_law_360 : decode cL_law 360 = .ok (.goto (-342), 3) := dk_167 254 170 (dk_at dksL_law_14 21 rfl rfl)
theorem dL_law_363 : decode cL_law 363 = .ok (.iconst 1, 1) := dk_4 (dk_at dksL_law_15 0 rfl rfl)
theorem dL_law_364 : decode cL_law 364 = .ok (.ireturn, 1) := dk_172 (dk_at dksL_law_15 1 rfl rfl)
end
section
/-! WHAT THE BYTECODE COMPUTES, as the machine's rows print it (no program in sight) -/
def sf_us (x k : Int32) : Int32 := (x.toUInt32 >>> (k.toUInt32 &&& Int32.toUInt32 31)).toInt32
def sf_sh (x k : Int32) : Int32 := x <<< (k &&& 31)
def sf_sx (x : Int32) : Int32 := x.toInt16.toInt32
def sf_lsh (x : Int64) (k : Int32) : Int64 := x <<< (k.toInt64 &&& 63)
def sf_lus (x : Int64) (k : Int32) : Int64 := (x.toUInt64 >>> (k.toInt64.toUInt64 &&& Int64.toUInt64 63)).toInt64
/-- GF12.gf_reduce -/
def sf_r12 (x : Int32) : Int32 := sf_sx ((x &&& 4095) ^^^ sf_us x 12 ^^^ sf_us (x &&& 2093056) 9 ^^^ sf_us (x &&& 14680064) 18 ^^^ sf_us x 21)
def sf_t (u : Int32) : Int32 := sf_sh u 4 ^^^ sf_sh u 3 ^^^ sf_sh u 1
/-- GF13.gf_reduce -/
def sf_r13 (x : Int32) : Int32 := sf_sx ((x &&& 8191) ^^^ sf_us x 13 ^^^ sf_us (sf_t (sf_us x 13)) 13 ^^^ (sf_t (sf_us x 13) &&& 8191) ^^^ sf_t (sf_us (sf_t (sf_us x 13)) 13))
/-- gf_mul_ext: i + 1 steps of the loop -/
def sf_me (x y : Int32) : Nat → Int32
  | 0 => x * (y &&& 1)
  | i + 1 => sf_me x y i ^^^ x * (y &&& sf_sh 1 (nI (i + 1)))
def sf_e1 (x k c : Int32) : Int32 := (x ||| sf_sh x k) &&& c
/-- Interleave.expand16to32 -/
def sf_ex (x : Int32) : Int32 := sf_e1 (sf_e1 (sf_e1 (sf_e1 (x &&& 65535) 8 16711935) 4 252645135) 2 858993459) 1 1431655765
def sf_mm (t1 t0 : Int64) (k : Int32) (c : Int64) : Int64 := sf_lsh t1 k * (t0 &&& c)
def sf_fold (x t : Int64) : Int64 := x ^^^ (sf_lus t 18 ^^^ sf_lus t 20 ^^^ sf_lus t 24 ^^^ sf_lus t 26)
def sf_qx (t0 t1 t2 : Int64) : Int64 := sf_mm t1 t0 6 64 ^^^ sf_mm t1 t2 0 16385 ^^^ sf_mm t1 t2 1 32770 ^^^ sf_mm t1 t2 2 65540 ^^^ sf_mm t1 t2 3 131080 ^^^ sf_mm t1 t2 4 262160 ^^^ sf_mm t1 t2 5 524320
def sf_qf (x : Int64) : Int32 := (sf_fold x (x &&& 137371844608)).toInt32 &&& 67108863
/-- GF13.gf_sqmul -/
def sf_sqm (a m : Int32) : Int32 := sf_r13 (sf_qf (sf_qx a.toInt64 m.toInt64 (a.toInt64 ^^^ sf_lsh a.toInt64 7)))
def sf_q2x (t0 t1 t2 : Int64) : Int64 := sf_mm t1 t0 18 64 ^^^ sf_mm t1 t2 0 268435457 ^^^ sf_mm t1 t2 3 536870914 ^^^ sf_mm t1 t2 6 1073741828 ^^^ sf_mm t1 t2 9 2147483656 ^^^ sf_mm t1 t2 12 4294967312 ^^^ sf_mm t1 t2 15 8589934624
def sf_q2g (x : Int64) : Int32 := (sf_fold x (x &&& 8796025913344)).toInt32 &&& 67108863
def sf_q2f (x : Int64) : Int32 := sf_q2g (sf_fold x (x &&& 2305834213120671744))
/-- GF13.gf_sq2mul -/
def sf_sq2m (a m : Int32) : Int32 := sf_r13 (sf_q2f (sf_q2x a.toInt64 m.toInt64 (a.toInt64 ^^^ sf_lsh a.toInt64 21)))
/-- gf_sq, gf_mul, gf_inv, gf_frac of GF12 -/
def sf_q12 (x : Int32) : Int32 := sf_r12 (sf_ex x)
def sf_m12 (x y : Int32) : Int32 := sf_r12 (sf_me x y 11)
def sf_i12a (a : Int32) : Int32 := sf_m12 (sf_q12 a) a
def sf_i12b (t : Int32) : Int32 := sf_m12 (sf_q12 (sf_q12 t)) t
def sf_i12c (u : Int32) : Int32 := sf_m12 (sf_q12 (sf_q12 (sf_q12 (sf_q12 u)))) u
def sf_i12d (a t : Int32) : Int32 := sf_q12 (sf_m12 (sf_q12 (sf_m12 (sf_q12 (sf_q12 (sf_i12c (sf_i12b t)))) t)) a)
def sf_i12 (a : Int32) : Int32 := sf_i12d a (sf_i12a a)
def sf_d12 (d n : Int32) : Int32 := sf_m12 (sf_i12 d) n
/-- gf_sq, gf_mul, gf_sq2, gf_inv, gf_frac of GF13 -/
def sf_q13 (x : Int32) : Int32 := sf_r13 (sf_ex x)
def sf_m13 (x y : Int32) : Int32 := sf_r13 (sf_me x y 12)
def sf_qq13 (x : Int32) : Int32 := sf_q13 (sf_q13 x)
def sf_d13a (u n : Int32) : Int32 := sf_sqm (sf_sq2m (sf_qq13 (sf_sq2m (sf_qq13 u) u)) u) n
def sf_d13b (t : Int32) : Int32 := sf_sq2m t t
def sf_d13 (d n : Int32) : Int32 := sf_d13a (sf_d13b (sf_sqm d d)) n
def sf_i13 (d : Int32) : Int32 := sf_d13 d 1
/-- the reference: SmallFieldsModel.times and what stands on it -/
def sf_bit (y n : Int32) : Int32 := (y >>> (n &&& 31)) &&& 1
def sf_tl (n m z : Int32) : Int32 := if sf_bit (sf_sh z 1) n = 1 then sf_sh z 1 ^^^ m else sf_sh z 1
def sf_ts (n m x y : Int32) (i : Nat) (z : Int32) : Int32 := if sf_bit y (nI i) = 1 then sf_tl n m z ^^^ x else sf_tl n m z
def sf_tm (n m x y : Int32) : Nat → Int32 → Int32
  | 0, z => z
  | k + 1, z => sf_tm n m x y k (sf_ts n m x y k z)
def sf_T12 (x y : Int32) : Int32 := sf_tm 12 4105 x y 12 0
def sf_T13 (x y : Int32) : Int32 := sf_tm 13 8219 x y 13 0
def sf_times (k a b : Int32) : Int32 := if k &&& 1 = 0 then sf_T12 (a &&& 4095) (b &&& 4095) else sf_T13 (a &&& 8191) (b &&& 8191)
def sf_one (k a : Int32) : Int32 := if k &&& 1 = 0 then a &&& 4095 else a &&& 8191
def sf_iv (k : Int32) : Nat → Int32 → Int32 → Int32
  | 0, z, _ => z
  | r + 1, z, s => sf_iv k r (sf_times k z (sf_times k s s)) (sf_times k s s)
def sf_minv (k a : Int32) : Int32 := if sf_one k a = 0 then -1 else sf_iv k (if k &&& 1 = 0 then 11 else 12) 1 (sf_one k a)
def sf_mquo (k o u : Int32) : Int32 := if sf_minv k u = -1 then -1 else sf_times k o (sf_minv k u)
def sf_mnou (k a : Int32) : Int32 := if sf_one k a = 0 then 1 else 0
/-- the face: SmallFields -/
def sf_fair (k v : Int32) : Int32 := sf_sx (v &&& (if k &&& 1 = 0 then 4095 else 8191))
def sf_fmul (k a b : Int32) : Int32 := if k &&& 1 = 0 then sf_m12 (sf_fair k a) (sf_fair k b) else sf_m13 (sf_fair k a) (sf_fair k b)
def sf_fsq (k a : Int32) : Int32 := if k &&& 1 = 0 then sf_q12 (sf_fair k a) else sf_q13 (sf_fair k a)
def sf_finv (k a : Int32) : Int32 := if sf_fair k a = 0 then -1 else if k &&& 1 = 0 then sf_i12 (sf_fair k a) else sf_i13 (sf_fair k a)
def sf_fquo (k o u : Int32) : Int32 := if sf_fair k u = 0 then -1 else if k &&& 1 = 0 then sf_d12 (sf_fair k u) (sf_fair k o) else sf_d13 (sf_fair k u) (sf_fair k o)
def sf_fpro (k a b c d : Int32) : Int32 := if k &&& 1 = 0 then sf_r12 (sf_me (sf_fair k a) (sf_fair k b) 11 ^^^ sf_me (sf_fair k c) (sf_fair k d) 11) else sf_r13 (sf_me (sf_fair k a) (sf_fair k b) 12 ^^^ sf_me (sf_fair k c) (sf_fair k d) 12)
def sf_fnou (k a : Int32) : Int32 := if sf_sx ((sf_fair k a - 1) >>> ((31 : Int32) &&& 31)) = 0 then 0 else 1
end
section
/-! CONTRACTS OF METHODS THAT MAKE AND WRITE NOTHING, and their calls -/
set_option maxRecDepth 100000
def sf_T0 : u_T := fun _ => ("", "", "I", false)
abbrev sf_cl : List vw_C := [(RX0, TX0, 1), (RX2, sf_T0, 0), (RX3, sf_T0, 0), (RX4, sf_T0, 0)]
/-- what a method asks of the state: cells, array classes, abstract methods that are declared -/
def sf_Wd (D : va_G) (ws : va_W) (tys : List (ClassId × FieldType)) (xs : List MethodName) (U : State) : Prop := va_P D sf_cl ws U.heap ∧ va_K D sf_cl tys U ∧ ∀ x ∈ xs, va_Nw (.declares x) U
theorem sf_Wd.blind {D : va_G} {ws : va_W} {tys : List (ClassId × FieldType)} {xs : List MethodName} {U : State} (h : sf_Wd D ws tys xs U) (g : JFrame) (mk : MethodId) (a : Array Value) : sf_Wd D ws tys xs (U.calling g mk a) :=
  ⟨h.1, va_K.moved (u := U) (U := U.calling g mk a) (Vm.Alike.refl U.vm) h.2.1, fun x hx => va_Nw.same (u := U) (U := U.calling g mk a) rfl rfl (h.2.2 x hx)⟩
theorem sf_Wd.at {D : va_G} {ws : va_W} {tys : List (ClassId × FieldType)} {xs : List MethodName} {s : State} {H : Heap} (hP : va_P D sf_cl ws H) (hK : va_K D sf_cl tys s) (hN : ∀ x ∈ xs, va_Nw (.declares x) s) : ∀ U : State, U.heap = H → s.WarmedH U.vm → sf_Wd D ws tys xs U :=
  fun U hU hW => ⟨by rw [hU]; exact hP, va_K.moved hW.alike hK, fun x hx => va_Nw.warmD hW (hN x hx)⟩
/-- the method y, called with av where Pw holds, answers v; no cell is made, none changes -/
def sf_Pu (l : Launch) (y : MethodName) (ws : List Cond) (fr lo : Nat) (av : List Value) (Pw : State → Prop) (v : Int32) : Prop :=
  ∀ sz : Nat, Met l y ws ({ frames := fr, cells := 0, slots := 0, locals := lo }) (va_Pc av (fun U => U.heap.size = sz ∧ Pw U)) (va_Qi (fun (r : Int32) (_ : Unit) => r = v) (fun _ _ => True) (va_A [] sz)) 0 0 (va_A [] sz)
theorem sf_keep {D : va_G} {cl : List vw_C} {ws : va_W} {H H1 : Heap} (hk : ∀ q : Nat, q < H.size → ¬ va_A [] H.size q → H1[q]? = H[q]?) (hP : va_P D cl ws H) : va_P D cl ws H1 := by
  intro k q hq
  have hl := (hP k q hq).lt
  refine (hP k q hq).kept (hk q.1 hl (fun h => ?_))
  rcases h with ⟨k2, e, h⟩ | h
  · simp at h
  · exact absurd h (Nat.not_le.mpr hl)
theorem sf_lwU {own : String} {idx : Nat} {C owner : String} {x y : MethodName} {b : ByteArray} {L : Nat} {r : Option FieldType} (h1 : Cond.methodLink own idx x ∈ lw_all) (h2 : Cond.sameMethod x.cls owner x.name x.desc ∈ lw_all) (h3 : Cond.selects C x y ∈ lw_all) (h4 : Cond.instanceMethod y ∈ lw_all) (h5 : Cond.initialized y.cls ∈ lw_all) (h6 : Cond.code y b L r ∈ lw_all) : GoodIn lw_all (va_wsU own idx C owner x y (ws_ y b L r)) := by
  refine lw_app ?_ (lw_meth h6)
  intro w hw
  simp only [List.mem_cons, List.not_mem_nil, or_false] at hw
  rcases hw with e | e | e | e | e
  · rw [e]; exact h1
  · rw [e]; exact h2
  · rw [e]; exact h3
  · rw [e]; exact h4
  · rw [e]; exact h5
section SFC
variable {p : Program} {l : Launch} {e : Env} {R : Room} {s : State} {m : MethodId} {args : Array Value} {below : List Frame} {meth : Method} {c : Code} {H : Heap} {locs : List Loc} {cells slots : Nat} {Q : State → Prop}
variable {pc : Nat} {ls : Array Slot} {rest st0 : List Value} {a : Array Value} {A0 : Nat → Prop} {H0 : Heap} {cc bytes : ByteArray} {D : va_G} {ws0 : va_W} {tys0 : List (ClassId × FieldType)} {xs0 : List MethodName}
variable {x y : MethodName} {maxL nL n index fr lo : Nat} {ret : Option FieldType} {own C owner : String} {As : List Value} {v : Int32} {b : Addr}
theorem sf_call (hr : va_Run p l e R s m args below meth c H locs cells slots 0 0 (F0 m pc ls st0) rest (va_Qi (fun (r : Int32) (_ : Unit) => r = v) (fun _ _ => True) (va_A [] H.size) a) (va_A [] H.size)) (hS : va_S A0 H0 H locs) (hA : ∀ q, H0.size ≤ q → A0 q)
    (kk : ∀ (H1 : Heap) (locs1 : List Loc), (∀ (D : va_G) (cl : List vw_C) (ws : va_W), va_P D cl ws H → va_P D cl ws H1) → va_S A0 H0 H1 locs1 → W p l e R s m args below meth c H1 locs1 cells slots Q (F0 m (pc + 3) ls (.int v :: rest))) : W p l e R s m args below meth c H locs cells slots Q (F0 m pc ls st0) := by
  have hf : ∀ q, va_A [] H.size q → A0 q := fun q h => by
    rcases h with ⟨k, e, h⟩ | h
    · simp at h
    · exact hA q (Nat.le_trans hS.1 h)
  refine va_calli hr hS (fun q _ h => hf q h) hf (fun r u t H1 locs1 ht hvm hw hB hz hk hS1 => ?_)
  have hw : r = v := hw
  subst hw
  exact kk H1 locs1 (fun D cl ws hP => sf_keep hk hP) hS1
theorem sf_preS (hP : va_P D sf_cl ws0 H) (hK : va_K D sf_cl tys0 s) (hN : ∀ x ∈ xs0, va_Nw (.declares x) s) : PreS s H (va_Pc As (fun U => U.heap.size = H.size ∧ sf_Wd D ws0 tys0 xs0 U)) As :=
  ⟨fun a U g mk q => ⟨q.1, q.2.1, q.2.2.blind g mk a⟩, fun U hU hW => ⟨rfl, by rw [hU], sf_Wd.at hP hK hN U hU hW⟩⟩
theorem sf_preV (hP : va_P D sf_cl ws0 H) (hK : va_K D sf_cl tys0 s) (hN : ∀ x ∈ xs0, va_Nw (.declares x) s) (hR : ∃ cellB : Cell, H[b]? = some cellB ∧ cellB.vm.isStatics = false ∧ s.vm.findClass C = some cellB.cls) : PreV s H C b (va_Pc (.ref b :: As) (fun U => U.heap.size = H.size ∧ sf_Wd D ws0 tys0 xs0 U)) As :=
  ⟨fun a U g mk q => ⟨q.1, q.2.1, q.2.2.blind g mk a⟩, hR, fun U hU hW => ⟨rfl, by rw [hU], sf_Wd.at hP hK hN U hU hW⟩⟩
theorem sf_nN {s : State} : ∀ x ∈ ([] : List MethodName), va_Nw (.declares x) s := fun _ h => absurd h List.not_mem_nil
/-- a static call -/
theorem sf_goS (S : CallFix p m c cc nL s args lw_all own) (hM : sf_Pu l y (ws_ y bytes maxL ret) fr lo As (sf_Wd D ws0 tys0 xs0) v) (hT : GoodIn lw_all (va_wsS own index y (ws_ y bytes maxL ret)))
    (hd : y.cls ≠ "java/lang/invoke/MethodHandle" ∧ y.cls ≠ "java/lang/invoke/VarHandle" ∧ (parseMethodDescriptor y.desc).map (fun d => d.parameters.length) = some n) (hR : fr + 1 ≤ R.frames ∧ 8 + (maxL + 11) + lo ≤ R.locals)
    (hP : va_P D sf_cl ws0 H) (hK : va_K D sf_cl tys0 s) (hN : ∀ x ∈ xs0, va_Nw (.declares x) s) (hn : As.length = n) (hsize : ls.size = nL) (hst : st0 = As.reverse ++ rest) (hw : (rest.map fun v => v.category).sum ≤ 8) (hdg : decode cc pc = .ok (.invokestatic index, 3)) (hf : cells ≤ R.cells ∧ slots ≤ R.slots) (hS : va_S A0 H0 H locs) (hA : ∀ q, H0.size ≤ q → A0 q)
    (kk : ∀ (H1 : Heap) (locs1 : List Loc), (∀ (D : va_G) (cl : List vw_C) (ws : va_W), va_P D cl ws H → va_P D cl ws H1) → va_S A0 H0 H1 locs1 → W p l e R s m args below meth c H1 locs1 cells slots Q (F0 m (pc + 3) ls (.int v :: rest))) : W p l e R s m args below meth c H locs cells slots Q (F0 m pc ls st0) :=
  sf_call (va_runS S (hM H.size) (va_cwS n S.2.2.2.2 hT rfl rfl rfl hd hR) (sf_preS hP hK hN) rfl hn hsize hst (lv_room hw) hdg hf) hS hA kk
/-- a call through an object, of the very method that the reference names -/
theorem sf_goV (S : CallFix p m c cc nL s args lw_all own) (hM : sf_Pu l y (ws_ y bytes maxL ret) fr lo (.ref b :: As) (sf_Wd D ws0 tys0 xs0) v) (hT : GoodIn lw_all (wsV own index C y (ws_ y bytes maxL ret)))
    (hd : y.cls = C ∧ y.cls ≠ "java/lang/invoke/MethodHandle" ∧ y.cls ≠ "java/lang/invoke/VarHandle" ∧ (parseMethodDescriptor y.desc).map (fun d => d.parameters.length) = some n) (hR : fr + 1 ≤ R.frames ∧ 8 + (maxL + 11) + lo ≤ R.locals)
    (hP : va_P D sf_cl ws0 H) (hK : va_K D sf_cl tys0 s) (hN : ∀ x ∈ xs0, va_Nw (.declares x) s) (hc : ∃ cellB : Cell, H[b]? = some cellB ∧ cellB.vm.isStatics = false ∧ s.vm.findClass C = some cellB.cls) (hn : As.length = n) (hsize : ls.size = nL) (hst : st0 = As.reverse ++ .ref b :: rest) (hw : (rest.map fun v => v.category).sum ≤ 8) (hdg : decode cc pc = .ok (.invokevirtual index, 3)) (hf : cells ≤ R.cells ∧ slots ≤ R.slots) (hS : va_S A0 H0 H locs) (hA : ∀ q, H0.size ≤ q → A0 q)
    (kk : ∀ (H1 : Heap) (locs1 : List Loc), (∀ (D : va_G) (cl : List vw_C) (ws : va_W), va_P D cl ws H → va_P D cl ws H1) → va_S A0 H0 H1 locs1 → W p l e R s m args below meth c H1 locs1 cells slots Q (F0 m (pc + 3) ls (.int v :: rest))) : W p l e R s m args below meth c H locs cells slots Q (F0 m pc ls st0) :=
  sf_call (va_runV S (hM H.size) (cwV n S.2.2.2.2 hT rfl rfl rfl hd hR) (sf_preV hP hK hN hc) rfl hn hsize hst (lv_room hw) hdg hf) hS hA kk
/-- a call through an object whose class overrides an abstract method -/
theorem sf_goA (S : CallFix p m c cc nL s args lw_all own) (hM : sf_Pu l y (ws_ y bytes maxL ret) fr lo (.ref b :: As) (sf_Wd D ws0 tys0 xs0) v) (hT : GoodIn lw_all (va_wsU own index C owner x y (ws_ y bytes maxL ret))) (hz : va_Nw (.declares ⟨owner, x.name, x.desc⟩) s)
    (hd : owner ≠ "java/lang/invoke/MethodHandle" ∧ owner ≠ "java/lang/invoke/VarHandle" ∧ (parseMethodDescriptor x.desc).map (fun d => d.parameters.length) = some n) (hR : fr + 1 ≤ R.frames ∧ 8 + (maxL + 11) + lo ≤ R.locals)
    (hP : va_P D sf_cl ws0 H) (hK : va_K D sf_cl tys0 s) (hN : ∀ x ∈ xs0, va_Nw (.declares x) s) (hc : ∃ cellB : Cell, H[b]? = some cellB ∧ cellB.vm.isStatics = false ∧ s.vm.findClass C = some cellB.cls) (hn : As.length = n) (hsize : ls.size = nL) (hst : st0 = As.reverse ++ .ref b :: rest) (hw : (rest.map fun v => v.category).sum ≤ 8) (hdg : decode cc pc = .ok (.invokevirtual index, 3)) (hf : cells ≤ R.cells ∧ slots ≤ R.slots) (hS : va_S A0 H0 H locs) (hA : ∀ q, H0.size ≤ q → A0 q)
    (kk : ∀ (H1 : Heap) (locs1 : List Loc), (∀ (D : va_G) (cl : List vw_C) (ws : va_W), va_P D cl ws H → va_P D cl ws H1) → va_S A0 H0 H1 locs1 → W p l e R s m args below meth c H1 locs1 cells slots Q (F0 m (pc + 3) ls (.int v :: rest))) : W p l e R s m args below meth c H locs cells slots Q (F0 m pc ls st0) :=
  sf_call (va_runU S (hM H.size) (va_cwA n S.2.2.2.2 hT rfl rfl rfl hz hd hR) (sf_preV hP hK hN hc) rfl hn hsize hst (lv_room hw) hdg hf) hS hA kk
/-- a call through an object whose class inherits the method -/
theorem sf_goU (S : CallFix p m c cc nL s args lw_all own) (hM : sf_Pu l y (ws_ y bytes maxL ret) fr lo (.ref b :: As) (sf_Wd D ws0 tys0 xs0) v) (hT : GoodIn lw_all (va_wsU own index C owner x y (ws_ y bytes maxL ret))) (hyx : y = ⟨owner, x.name, x.desc⟩)
    (hd : owner ≠ "java/lang/invoke/MethodHandle" ∧ owner ≠ "java/lang/invoke/VarHandle" ∧ (parseMethodDescriptor x.desc).map (fun d => d.parameters.length) = some n) (hR : fr + 1 ≤ R.frames ∧ 8 + (maxL + 11) + lo ≤ R.locals)
    (hP : va_P D sf_cl ws0 H) (hK : va_K D sf_cl tys0 s) (hN : ∀ x ∈ xs0, va_Nw (.declares x) s) (hc : ∃ cellB : Cell, H[b]? = some cellB ∧ cellB.vm.isStatics = false ∧ s.vm.findClass C = some cellB.cls) (hn : As.length = n) (hsize : ls.size = nL) (hst : st0 = As.reverse ++ .ref b :: rest) (hw : (rest.map fun v => v.category).sum ≤ 8) (hdg : decode cc pc = .ok (.invokevirtual index, 3)) (hf : cells ≤ R.cells ∧ slots ≤ R.slots) (hS : va_S A0 H0 H locs) (hA : ∀ q, H0.size ≤ q → A0 q)
    (kk : ∀ (H1 : Heap) (locs1 : List Loc), (∀ (D : va_G) (cl : List vw_C) (ws : va_W), va_P D cl ws H → va_P D cl ws H1) → va_S A0 H0 H1 locs1 → W p l e R s m args below meth c H1 locs1 cells slots Q (F0 m (pc + 3) ls (.int v :: rest))) : W p l e R s m args below meth c H locs cells slots Q (F0 m pc ls st0) :=
  sf_call (va_runU S (hM H.size) (va_cwU n S.2.2.2.2 hT rfl rfl rfl hyx hd hR) (sf_preV hP hK hN hc) rfl hn hsize hst (lv_room hw) hdg hf) hS hA kk
/-- the end of such a method -/
theorem sf_ret {ty : FieldType} {A : Nat → Prop} {v w : Int32} (hx : p.tables.exec = Jvm.exec) (hb : c.code = cc) (hr : meth.sig.returnType = some ty) (hlocks : meth.locks = false) (hn : narrow ty (.int v) = .int v) (hS : va_S A s.heap H locs) (he : v = w) (hdg : decode cc pc = .ok (.ireturn, 1)) :
    W p l e R s m args below meth c H locs cells slots (MQ below (va_Qi (fun (r : Int32) (_ : Unit) => r = w) (fun _ _ => True) A) args s cells slots A) (F0 m pc ls [.int v]) :=
  W.zret hx hb hr hn (fun t ht hW => ⟨⟨v, (), rfl, he, trivial⟩, hS.F ht⟩) hS.2.2 hdg hlocks
end SFC
/-- a contract out of the walk of its body -/
theorem sf_Pu.ofW {l : Launch} {y : MethodName} {fr lo : Nat} {av : List Value} {Pw : State → Prop} {v : Int32} {cc : ByteArray} {maxL : Nat} {ret : Option FieldType} (hy : plainName y.cls = true) (hlen : (lg_sl av).length ≤ maxL)
    (body : ∀ (p : Program) (e : Env) (s : State) (m : MethodId) (below : List Frame) (meth : Method) (c : Code) (A : Nat → Prop) (ls : Array Slot), p.tables.exec = Jvm.exec → c.code = cc → meth.sig.returnType = ret → meth.locks = false → c.maxLocals = maxL → s.vm.findClass y.cls = some m.cls → (∀ w ∈ lw_all, w.before av.toArray s = true) → Pw s → (∀ q, s.heap.size ≤ q → A q) → va_S A s.heap s.heap [] → lv_has ls maxL (lv_args 0 av) →
      W p l e ({ frames := fr, cells := 0, slots := 0, locals := lo }) s m av.toArray below meth c s.heap [] 0 0 (MQ below (va_Qi (fun (r : Int32) (_ : Unit) => r = v) (fun _ _ => True) A) av.toArray s 0 0 A) (F0 m 0 ls [])) : sf_Pu l y (ws_ y cc maxL ret) fr lo av Pw v := by
  intro sz
  refine Met.ofW (cc := cc) (maxL := maxL) (ret := ret) hy rfl ?_
  intro p e s m args below meth c s₁ B hml hv
  obtain ⟨rfl, hsz, hPw⟩ := hv
  have hts := atoms_spec (ws := ws_ y cc maxL ret) B.pre
  have hl := lv_entry av (n := maxL) hlen
  rw [lg_entry_eq]
  subst hsz
  exact body p e s m below meth c (va_A [] s.heap.size) _ B.exec B.bytes B.returns B.notSynchronized hml (findClass_of_methodNamed B.named) (fun w h => hts w (List.mem_cons_of_mem _ h)) hPw (fun q h => Or.inr h) va_S.rf hl
theorem sf_nsx (z : Int32) : narrow .short (.int (sf_sx z)) = .int (sf_sx z) := pk_ns z
theorem sf_n12 (z : Int32) : narrow .short (.int (sf_r12 z)) = .int (sf_r12 z) := sf_nsx _
theorem sf_n13 (z : Int32) : narrow .short (.int (sf_r13 z)) = .int (sf_r13 z) := sf_nsx _
theorem sf_k1 {k : Int32} (h : ¬ k &&& 1 = 0) : k &&& 1 = 1 := by
  obtain ⟨j, h1, h2⟩ := pk_andE k (m := 1) 1 (by decide)
  rw [h2] at h ⊢
  rcases (show j = 0 ∨ j = 1 by omega) with rfl | rfl
  · exact absurd rfl h
  · rfl
end
section
/-! CONTRACTS: the leaves (Interleave, GF.gf_iszero, SmallFields.fair, SmallFieldsModel.one and times) -/
set_option maxRecDepth 100000
set_option maxHeartbeats 4000000 in
set_option maxRecDepth 100000 in
/-- Interleave.expand16to32 -/
theorem sf_c_X5_expand16to32 (l : Launch) (D : va_G) (a : Int32) : sf_Pu l yX5_expand16to32 (ws_ yX5_expand16to32 cX5_expand16to32 1 (some .int)) 0 0 [.int a] (sf_Wd D [] [] []) (sf_ex a) := by
  refine sf_Pu.ofW (by decide) (Nat.le_of_ble_eq_true rfl) ?_
  intro p e s m below meth c A ls hx hb hr hlocks hml hown hts hw hA hS hl
  obtain ⟨hP, hK, hN⟩ := hw
  have hown : s.vm.findClass RX5 = some m.cls := hown
  have hl : lv_has ls 1 [(0, .int a)] := hl
  refine lv_iload_n hx hb dX5_expand16to32_0 rfl (lv_at hl 0 rfl) ?_
  refine lv_ldc (v := 65535) hx hb hown (hts _ q80) dX5_expand16to32_1 ?_
  refine lv_iand hx hb dX5_expand16to32_3 ?_
  refine lv_topi (fun v0_4 ev0_4 => ?_)
  refine lv_istore_n (lv' := [(0, .int v0_4)]) hx hb dX5_expand16to32_4 rfl hl (by decide) rfl (fun ls hl => ?_)
  refine lv_iload_n hx hb dX5_expand16to32_5 rfl (lv_at hl 0 rfl) ?_
  refine lv_iload_n hx hb dX5_expand16to32_6 rfl (lv_at hl 0 rfl) ?_
  refine lv_bipush (v := 8) hx hb dX5_expand16to32_7 (by decide) ?_
  refine lv_ishl hx hb dX5_expand16to32_9 ?_
  refine lv_ior hx hb dX5_expand16to32_10 ?_
  refine lv_ldc (v := 16711935) hx hb hown (hts _ q81) dX5_expand16to32_11 ?_
  refine lv_iand hx hb dX5_expand16to32_13 ?_
  refine lv_topi (fun v0_14 ev0_14 => ?_)
  refine lv_istore_n (lv' := [(0, .int v0_14)]) hx hb dX5_expand16to32_14 rfl hl (by decide) rfl (fun ls hl => ?_)
  refine lv_iload_n hx hb dX5_expand16to32_15 rfl (lv_at hl 0 rfl) ?_
  refine lv_iload_n hx hb dX5_expand16to32_16 rfl (lv_at hl 0 rfl) ?_
  refine lv_iconst (v := 4) hx hb dX5_expand16to32_17 (by decide) ?_
  refine lv_ishl hx hb dX5_expand16to32_18 ?_
  refine lv_ior hx hb dX5_expand16to32_19 ?_
  refine lv_ldc (v := 252645135) hx hb hown (hts _ q82) dX5_expand16to32_20 ?_
  refine lv_iand hx hb dX5_expand16to32_22 ?_
  refine lv_topi (fun v0_23 ev0_23 => ?_)
  refine lv_istore_n (lv' := [(0, .int v0_23)]) hx hb dX5_expand16to32_23 rfl hl (by decide) rfl (fun ls hl => ?_)
  refine lv_iload_n hx hb dX5_expand16to32_24 rfl (lv_at hl 0 rfl) ?_
  refine lv_iload_n hx hb dX5_expand16to32_25 rfl (lv_at hl 0 rfl) ?_
  refine lv_iconst (v := 2) hx hb dX5_expand16to32_26 (by decide) ?_
  refine lv_ishl hx hb dX5_expand16to32_27 ?_
  refine lv_ior hx hb dX5_expand16to32_28 ?_
  refine lv_ldc (v := 858993459) hx hb hown (hts _ q83) dX5_expand16to32_29 ?_
  refine lv_iand hx hb dX5_expand16to32_31 ?_
  refine lv_topi (fun v0_32 ev0_32 => ?_)
  refine lv_istore_n (lv' := [(0, .int v0_32)]) hx hb dX5_expand16to32_32 rfl hl (by decide) rfl (fun ls hl => ?_)
  refine lv_iload_n hx hb dX5_expand16to32_33 rfl (lv_at hl 0 rfl) ?_
  refine lv_iload_n hx hb dX5_expand16to32_34 rfl (lv_at hl 0 rfl) ?_
  refine lv_iconst (v := 1) hx hb dX5_expand16to32_35 (by decide) ?_
  refine lv_ishl hx hb dX5_expand16to32_36 ?_
  refine lv_ior hx hb dX5_expand16to32_37 ?_
  refine lv_ldc (v := 1431655765) hx hb hown (hts _ q84) dX5_expand16to32_38 ?_
  refine lv_iand hx hb dX5_expand16to32_40 ?_
  refine lv_topi (fun v0_41 ev0_41 => ?_)
  refine lv_istore_n (lv' := [(0, .int v0_41)]) hx hb dX5_expand16to32_41 rfl hl (by decide) rfl (fun ls hl => ?_)
  refine lv_iload_n hx hb dX5_expand16to32_42 rfl (lv_at hl 0 rfl) ?_
  exact sf_ret hx hb hr hlocks (vp_nar_int _) hS (by subst ev0_41 ev0_32 ev0_23 ev0_14 ev0_4; rfl) dX5_expand16to32_43
set_option maxHeartbeats 4000000 in
set_option maxRecDepth 100000 in
/-- GF.gf_iszero -/
theorem sf_c_X1_gf_iszero (l : Launch) (D : va_G) (h0 : Nat) (a : Int32) : sf_Pu l yX1_gf_iszero (ws_ yX1_gf_iszero cX1_gf_iszero 2 (some .short)) 0 0 [.ref h0, .int a] (sf_Wd D [] [] []) (sf_sx ((a - 1) >>> ((31 : Int32) &&& 31))) := by
  refine sf_Pu.ofW (by decide) (Nat.le_of_ble_eq_true rfl) ?_
  intro p e s m below meth c A ls hx hb hr hlocks hml hown hts hw hA hS hl
  obtain ⟨hP, hK, hN⟩ := hw
  have hown : s.vm.findClass RX1 = some m.cls := hown
  have hl : lv_has ls 2 [(0, .ref h0), (1, .int a)] := hl
  refine lv_iload_n hx hb dX1_gf_iszero_0 rfl (lv_at hl 1 rfl) ?_
  refine lv_iconst (v := 1) hx hb dX1_gf_iszero_1 (by decide) ?_
  refine lv_isub hx hb dX1_gf_iszero_2 ?_
  refine lv_bipush (v := 31) hx hb dX1_gf_iszero_3 (by decide) ?_
  refine lv_ishr hx hb dX1_gf_iszero_5 ?_
  refine lv_i2s (v := sf_sx ((a - 1) >>> ((31 : Int32) &&& 31))) hx hb dX1_gf_iszero_6 rfl ?_
  exact sf_ret hx hb hr hlocks (sf_nsx _) hS (rfl) dX1_gf_iszero_7
set_option maxHeartbeats 4000000 in
set_option maxRecDepth 100000 in
/-- SmallFields.fair -/
theorem sf_c_X0_fair (l : Launch) (D : va_G) (k v : Int32) : sf_Pu l yX0_fair (ws_ yX0_fair cX0_fair 2 (some .short)) 0 0 [.int k, .int v] (sf_Wd D [] [] []) (sf_fair k v) := by
  refine sf_Pu.ofW (by decide) (Nat.le_of_ble_eq_true rfl) ?_
  intro p e s m below meth c A ls hx hb hr hlocks hml hown hts hw hA hS hl
  obtain ⟨hP, hK, hN⟩ := hw
  have hown : s.vm.findClass RX0 = some m.cls := hown
  have hl : lv_has ls 2 [(0, .int k), (1, .int v)] := hl
  refine lv_iload_n hx hb dX0_fair_0 rfl (lv_at hl 1 rfl) ?_
  refine lv_iload_n hx hb dX0_fair_1 rfl (lv_at hl 0 rfl) ?_
  refine lv_iconst (v := 1) hx hb dX0_fair_2 (by decide) ?_
  refine lv_iand hx hb dX0_fair_3 ?_
  refine lv_if_ne (tgt := 13) hx hb dX0_fair_4 (by decide) (fun h => ?_) (fun h => ?_)
  · refine lv_sipush (v := 8191) hx hb dX0_fair_13 (by decide) ?_
    refine lv_iand hx hb dX0_fair_16 ?_
    refine lv_i2s (v := sf_sx (v &&& 8191)) hx hb dX0_fair_17 rfl ?_
    exact sf_ret hx hb hr hlocks (sf_nsx _) hS (by unfold sf_fair; rw [if_neg h]) dX0_fair_18
  · refine lv_sipush (v := 4095) hx hb dX0_fair_7 (by decide) ?_
    refine lv_goto (tgt := 16) hx hb dX0_fair_10 (by decide) ?_
    refine lv_iand hx hb dX0_fair_16 ?_
    refine lv_i2s (v := sf_sx (v &&& 4095)) hx hb dX0_fair_17 rfl ?_
    exact sf_ret hx hb hr hlocks (sf_nsx _) hS (by unfold sf_fair; rw [if_pos h]) dX0_fair_18
theorem sf_one_eq (k a : Int32) : a &&& ((1 : Int32) <<< (((12 : Int32) + (k &&& 1)) &&& 31) - 1) = sf_one k a := by
  unfold sf_one
  by_cases h : k &&& 1 = 0
  · rw [if_pos h, h, show ((1 : Int32) <<< (((12 : Int32) + 0) &&& 31) - 1) = 4095 from by decide]
  · rw [if_neg h, sf_k1 h, show ((1 : Int32) <<< (((12 : Int32) + 1) &&& 31) - 1) = 8191 from by decide]
set_option maxHeartbeats 4000000 in
set_option maxRecDepth 100000 in
/-- SmallFieldsModel.one -/
theorem sf_c_X4_one (l : Launch) (D : va_G) (k a : Int32) : sf_Pu l yX4_one (ws_ yX4_one cX4_one 2 (some .int)) 0 0 [.int k, .int a] (sf_Wd D [] [] []) (sf_one k a) := by
  refine sf_Pu.ofW (by decide) (Nat.le_of_ble_eq_true rfl) ?_
  intro p e s m below meth c A ls hx hb hr hlocks hml hown hts hw hA hS hl
  obtain ⟨hP, hK, hN⟩ := hw
  have hown : s.vm.findClass RX4 = some m.cls := hown
  have hl : lv_has ls 2 [(0, .int k), (1, .int a)] := hl
  refine lv_iload_n hx hb dX4_one_0 rfl (lv_at hl 1 rfl) ?_
  refine lv_iconst (v := 1) hx hb dX4_one_1 (by decide) ?_
  refine lv_bipush (v := 12) hx hb dX4_one_2 (by decide) ?_
  refine lv_iload_n hx hb dX4_one_4 rfl (lv_at hl 0 rfl) ?_
  refine lv_iconst (v := 1) hx hb dX4_one_5 (by decide) ?_
  refine lv_iand hx hb dX4_one_6 ?_
  refine lv_iadd hx hb dX4_one_7 ?_
  refine lv_ishl hx hb dX4_one_8 ?_
  refine lv_iconst (v := 1) hx hb dX4_one_9 (by decide) ?_
  refine lv_isub hx hb dX4_one_10 ?_
  refine lv_iand hx hb dX4_one_11 ?_
  exact sf_ret hx hb hr hlocks (vp_nar_int _) hS (sf_one_eq k a) dX4_one_12
theorem sf_m1 (x : Int32) : x + Int32.ofInt (-1) = x - 1 := by
  rw [Int32.sub_eq_add_neg]
  rfl
set_option maxHeartbeats 4000000 in
set_option maxRecDepth 100000 in
/-- the loop of times: k steps to go -/
theorem sf_lp_times {p : Program} {l : Launch} {e : Env} {R : Room} {s : State} {m : MethodId} {args : Array Value} {below : List Frame} {meth : Method} {c : Code} {cells slots : Nat} {Q : State → Prop} {H : Heap} {locs : List Loc} (hx : p.tables.exec = Jvm.exec) (hb : c.code = cX4_times) (N M x y : Int32) :
    ∀ (k : Nat) (z iv : Int32), k < 100 → iv = nI k - 1 → (∀ ls, lv_has ls 10 [(8, .int (sf_tm N M x y k z))] → W p l e R s m args below meth c H locs cells slots Q (F0 m 103 ls [])) → ∀ ls, lv_has ls 10 [(9, .int iv), (8, .int z), (7, .int y), (6, .int x), (4, .int M), (3, .int N)] → W p l e R s m args below meth c H locs cells slots Q (F0 m 51 ls []) := by
  intro k
  induction k with
  | zero =>
    intro z iv _ ei K ls hl
    refine lv_iload hx hb dX4_times_51 (lv_at hl 0 rfl) ?_
    refine lv_if_lt (tgt := 103) hx hb dX4_times_53 (by decide) (fun h => ?_) (fun h => ?_)
    · exact K ls (lv_sub hl [1] rfl)
    · exact absurd (by rw [ei]; decide) h
  | succ k ih =>
    intro z iv hk ei K ls hl
    have ei : iv = nI k := ei.trans (nI_pred k)
    subst ei
    have step97 : ∀ (w : Int32), w = sf_ts N M x y k z → ∀ ls, lv_has ls 10 [(8, .int w), (9, .int (nI k)), (7, .int y), (6, .int x), (4, .int M), (3, .int N)] → W p l e R s m args below meth c H locs cells slots Q (F0 m 97 ls []) := by
      intro w ew ls hl
      refine lv_iinc (v := nI k + Int32.ofInt (-1)) (lv' := [(9, .int (nI k + Int32.ofInt (-1))), (8, .int w), (7, .int y), (6, .int x), (4, .int M), (3, .int N)]) hx hb dX4_times_97 hl (k := 1) rfl rfl (by decide) rfl (fun ls hl => ?_)
      refine lv_goto (tgt := 51) hx hb dX4_times_100 (by decide) ?_
      subst ew
      exact ih _ _ (by omega) (sf_m1 _) K ls hl
    have step79 : ∀ (w : Int32), w = sf_tl N M z → ∀ ls, lv_has ls 10 [(8, .int w), (9, .int (nI k)), (7, .int y), (6, .int x), (4, .int M), (3, .int N)] → W p l e R s m args below meth c H locs cells slots Q (F0 m 79 ls []) := by
      intro w ew ls hl
      refine lv_iload hx hb dX4_times_79 (lv_at hl 2 rfl) ?_
      refine lv_iload hx hb dX4_times_81 (lv_at hl 1 rfl) ?_
      refine lv_ishr hx hb dX4_times_83 ?_
      refine lv_iconst (v := 1) hx hb dX4_times_84 (by decide) ?_
      refine lv_iand hx hb dX4_times_85 ?_
      refine lv_iconst (v := 1) hx hb dX4_times_86 (by decide) ?_
      refine lv_icmp_ne (tgt := 97) hx hb dX4_times_87 (by decide) (fun h => ?_) (fun h => ?_)
      · exact step97 w (by unfold sf_ts; rw [if_neg (show ¬ sf_bit y (nI k) = 1 from h)]; exact ew) ls hl
      · refine lv_iload hx hb dX4_times_90 (lv_at hl 0 rfl) ?_
        refine lv_iload hx hb dX4_times_92 (lv_at hl 3 rfl) ?_
        refine lv_ixor hx hb dX4_times_94 ?_
        refine lv_topi (fun v8_95 ev8_95 => ?_)
        refine lv_istore (lv' := [(8, .int v8_95), (9, .int (nI k)), (7, .int y), (6, .int x), (4, .int M), (3, .int N)]) hx hb dX4_times_95 hl (by decide) rfl (fun ls hl => ?_)
        exact step97 v8_95 (by unfold sf_ts; rw [if_pos (show sf_bit y (nI k) = 1 from h), ← ew]; exact ev8_95) ls hl
    refine lv_iload hx hb dX4_times_51 (lv_at hl 0 rfl) ?_
    refine lv_if_lt (tgt := 103) hx hb dX4_times_53 (by decide) (fun h => absurd h (nI_pos (by omega))) (fun h => ?_)
    refine lv_iload hx hb dX4_times_56 (lv_at hl 1 rfl) ?_
    refine lv_iconst (v := 1) hx hb dX4_times_58 (by decide) ?_
    refine lv_ishl hx hb dX4_times_59 ?_
    refine lv_topi (fun v8_60 ev8_60 => ?_)
    refine lv_istore (lv' := [(8, .int v8_60), (9, .int (nI k)), (7, .int y), (6, .int x), (4, .int M), (3, .int N)]) hx hb dX4_times_60 hl (by decide) rfl (fun ls hl => ?_)
    refine lv_iload hx hb dX4_times_62 (lv_at hl 0 rfl) ?_
    refine lv_iload_n hx hb dX4_times_64 rfl (lv_at hl 5 rfl) ?_
    refine lv_ishr hx hb dX4_times_65 ?_
    refine lv_iconst (v := 1) hx hb dX4_times_66 (by decide) ?_
    refine lv_iand hx hb dX4_times_67 ?_
    refine lv_iconst (v := 1) hx hb dX4_times_68 (by decide) ?_
    have ez : v8_60 = sf_sh z 1 := ev8_60
    refine lv_icmp_ne (tgt := 79) hx hb dX4_times_69 (by decide) (fun h => ?_) (fun h => ?_)
    · exact step79 v8_60 (by unfold sf_tl; rw [← ez, if_neg (show ¬ sf_bit v8_60 N = 1 from h)]) ls hl
    · refine lv_iload hx hb dX4_times_72 (lv_at hl 0 rfl) ?_
      refine lv_iload hx hb dX4_times_74 (lv_at hl 4 rfl) ?_
      refine lv_ixor hx hb dX4_times_76 ?_
      refine lv_topi (fun v8_77 ev8_77 => ?_)
      refine lv_istore (lv' := [(8, .int v8_77), (9, .int (nI k)), (7, .int y), (6, .int x), (4, .int M), (3, .int N)]) hx hb dX4_times_77 hl (by decide) rfl (fun ls hl => ?_)
      exact step79 v8_77 (by unfold sf_tl; rw [← ez, if_pos (show sf_bit v8_60 N = 1 from h)]; exact ev8_77) ls hl
set_option maxHeartbeats 4000000 in
set_option maxRecDepth 100000 in
/-- SmallFieldsModel.times -/
theorem sf_c_X4_times (l : Launch) (D : va_G) (k a b : Int32) : sf_Pu l yX4_times (ws_ yX4_times cX4_times 10 (some .int)) 0 0 [.int k, .int a, .int b] (sf_Wd D [] [] []) (sf_times k a b) := by
  refine sf_Pu.ofW (by decide) (Nat.le_of_ble_eq_true rfl) ?_
  intro p e s m below meth c A ls hx hb hr hlocks hml hown hts hw hA hS hl
  obtain ⟨hP, hK, hN⟩ := hw
  have hown : s.vm.findClass RX4 = some m.cls := hown
  have hl : lv_has ls 10 [(0, .int k), (1, .int a), (2, .int b)] := hl
  refine lv_bipush (v := 12) hx hb dX4_times_0 (by decide) ?_
  refine lv_iload_n hx hb dX4_times_2 rfl (lv_at hl 0 rfl) ?_
  refine lv_iconst (v := 1) hx hb dX4_times_3 (by decide) ?_
  refine lv_iand hx hb dX4_times_4 ?_
  refine lv_iadd hx hb dX4_times_5 ?_
  refine lv_topi (fun n3 en3 => ?_)
  by_cases h : k &&& 1 = 0
  · have en3 : n3 = 12 := by rw [en3, h]; decide
    subst en3
    refine lv_istore_n (lv' := [(3, .int 12), (0, .int k), (1, .int a), (2, .int b)]) hx hb dX4_times_6 rfl hl (by decide) rfl (fun ls hl => ?_)
    refine lv_iload_n hx hb dX4_times_7 rfl (lv_at hl 0 rfl) ?_
    refine lv_bipush (v := 12) hx hb dX4_times_8 (by decide) ?_
    refine lv_icmp_ne (tgt := 19) hx hb dX4_times_10 (by decide) (fun h2 => absurd rfl h2) (fun h2 => ?_)
    refine lv_sipush (v := 4105) hx hb dX4_times_13 (by decide) ?_
    refine lv_goto (tgt := 22) hx hb dX4_times_16 (by decide) ?_
    refine lv_istore (lv' := [(4, .int 4105), (3, .int 12), (0, .int k), (1, .int a), (2, .int b)]) hx hb dX4_times_22 hl (by decide) rfl (fun ls hl => ?_)
    refine lv_iconst (v := 1) hx hb dX4_times_24 (by decide) ?_
    refine lv_iload_n hx hb dX4_times_25 rfl (lv_at hl 1 rfl) ?_
    refine lv_ishl hx hb dX4_times_26 ?_
    refine lv_iconst (v := 1) hx hb dX4_times_27 (by decide) ?_
    refine lv_isub hx hb dX4_times_28 ?_
    refine lv_topi (fun m5 em5 => ?_)
    have em5 : m5 = 4095 := by rw [em5]; decide
    subst em5
    refine lv_istore (lv' := [(5, .int 4095), (4, .int 4105), (3, .int 12), (0, .int k), (1, .int a), (2, .int b)]) hx hb dX4_times_29 hl (by decide) rfl (fun ls hl => ?_)
    refine lv_iload_n hx hb dX4_times_31 rfl (lv_at hl 4 rfl) ?_
    refine lv_iload hx hb dX4_times_32 (lv_at hl 0 rfl) ?_
    refine lv_iand hx hb dX4_times_34 ?_
    refine lv_topi (fun v6_35 ev6_35 => ?_)
    refine lv_istore (lv' := [(6, .int v6_35), (5, .int 4095), (4, .int 4105), (3, .int 12), (0, .int k), (1, .int a), (2, .int b)]) hx hb dX4_times_35 hl (by decide) rfl (fun ls hl => ?_)
    refine lv_iload_n hx hb dX4_times_37 rfl (lv_at hl 6 rfl) ?_
    refine lv_iload hx hb dX4_times_38 (lv_at hl 1 rfl) ?_
    refine lv_iand hx hb dX4_times_40 ?_
    refine lv_topi (fun v7_41 ev7_41 => ?_)
    refine lv_istore (lv' := [(7, .int v7_41), (6, .int v6_35), (5, .int 4095), (4, .int 4105), (3, .int 12), (0, .int k), (1, .int a), (2, .int b)]) hx hb dX4_times_41 hl (by decide) rfl (fun ls hl => ?_)
    refine lv_iconst (v := 0) hx hb dX4_times_43 (by decide) ?_
    refine lv_istore (lv' := [(8, .int 0), (7, .int v7_41), (6, .int v6_35), (5, .int 4095), (4, .int 4105), (3, .int 12), (0, .int k), (1, .int a), (2, .int b)]) hx hb dX4_times_44 hl (by decide) rfl (fun ls hl => ?_)
    refine lv_iload_n hx hb dX4_times_46 rfl (lv_at hl 5 rfl) ?_
    refine lv_iconst (v := 1) hx hb dX4_times_47 (by decide) ?_
    refine lv_isub hx hb dX4_times_48 ?_
    refine lv_topi (fun i9 ei9 => ?_)
    refine lv_istore (lv' := [(9, .int i9), (8, .int 0), (7, .int v7_41), (6, .int v6_35), (5, .int 4095), (4, .int 4105), (3, .int 12), (0, .int k), (1, .int a), (2, .int b)]) hx hb dX4_times_49 hl (by decide) rfl (fun ls hl => ?_)
    refine sf_lp_times hx hb 12 4105 v6_35 v7_41 12 0 i9 (by decide) (by rw [ei9]; decide) (fun ls hl => ?_) ls (lv_sub hl [0, 1, 2, 3, 5, 6] rfl)
    refine lv_iload hx hb dX4_times_103 (lv_at hl 0 rfl) ?_
    exact sf_ret hx hb hr hlocks (vp_nar_int _) hS (by unfold sf_times; rw [if_pos h]; subst ev6_35 ev7_41; rfl) dX4_times_105
  · have en3 : n3 = 13 := by rw [en3, sf_k1 h]; decide
    subst en3
    refine lv_istore_n (lv' := [(3, .int 13), (0, .int k), (1, .int a), (2, .int b)]) hx hb dX4_times_6 rfl hl (by decide) rfl (fun ls hl => ?_)
    refine lv_iload_n hx hb dX4_times_7 rfl (lv_at hl 0 rfl) ?_
    refine lv_bipush (v := 12) hx hb dX4_times_8 (by decide) ?_
    refine lv_icmp_ne (tgt := 19) hx hb dX4_times_10 (by decide) (fun h2 => ?_) (fun h2 => absurd h2 (by decide))
    refine lv_sipush (v := 8219) hx hb dX4_times_19 (by decide) ?_
    refine lv_istore (lv' := [(4, .int 8219), (3, .int 13), (0, .int k), (1, .int a), (2, .int b)]) hx hb dX4_times_22 hl (by decide) rfl (fun ls hl => ?_)
    refine lv_iconst (v := 1) hx hb dX4_times_24 (by decide) ?_
    refine lv_iload_n hx hb dX4_times_25 rfl (lv_at hl 1 rfl) ?_
    refine lv_ishl hx hb dX4_times_26 ?_
    refine lv_iconst (v := 1) hx hb dX4_times_27 (by decide) ?_
    refine lv_isub hx hb dX4_times_28 ?_
    refine lv_topi (fun m5 em5 => ?_)
    have em5 : m5 = 8191 := by rw [em5]; decide
    subst em5
    refine lv_istore (lv' := [(5, .int 8191), (4, .int 8219), (3, .int 13), (0, .int k), (1, .int a), (2, .int b)]) hx hb dX4_times_29 hl (by decide) rfl (fun ls hl => ?_)
    refine lv_iload_n hx hb dX4_times_31 rfl (lv_at hl 4 rfl) ?_
    refine lv_iload hx hb dX4_times_32 (lv_at hl 0 rfl) ?_
    refine lv_iand hx hb dX4_times_34 ?_
    refine lv_topi (fun v6_35 ev6_35 => ?_)
    refine lv_istore (lv' := [(6, .int v6_35), (5, .int 8191), (4, .int 8219), (3, .int 13), (0, .int k), (1, .int a), (2, .int b)]) hx hb dX4_times_35 hl (by decide) rfl (fun ls hl => ?_)
    refine lv_iload_n hx hb dX4_times_37 rfl (lv_at hl 6 rfl) ?_
    refine lv_iload hx hb dX4_times_38 (lv_at hl 1 rfl) ?_
    refine lv_iand hx hb dX4_times_40 ?_
    refine lv_topi (fun v7_41 ev7_41 => ?_)
    refine lv_istore (lv' := [(7, .int v7_41), (6, .int v6_35), (5, .int 8191), (4, .int 8219), (3, .int 13), (0, .int k), (1, .int a), (2, .int b)]) hx hb dX4_times_41 hl (by decide) rfl (fun ls hl => ?_)
    refine lv_iconst (v := 0) hx hb dX4_times_43 (by decide) ?_
    refine lv_istore (lv' := [(8, .int 0), (7, .int v7_41), (6, .int v6_35), (5, .int 8191), (4, .int 8219), (3, .int 13), (0, .int k), (1, .int a), (2, .int b)]) hx hb dX4_times_44 hl (by decide) rfl (fun ls hl => ?_)
    refine lv_iload_n hx hb dX4_times_46 rfl (lv_at hl 5 rfl) ?_
    refine lv_iconst (v := 1) hx hb dX4_times_47 (by decide) ?_
    refine lv_isub hx hb dX4_times_48 ?_
    refine lv_topi (fun i9 ei9 => ?_)
    refine lv_istore (lv' := [(9, .int i9), (8, .int 0), (7, .int v7_41), (6, .int v6_35), (5, .int 8191), (4, .int 8219), (3, .int 13), (0, .int k), (1, .int a), (2, .int b)]) hx hb dX4_times_49 hl (by decide) rfl (fun ls hl => ?_)
    refine sf_lp_times hx hb 13 8219 v6_35 v7_41 13 0 i9 (by decide) (by rw [ei9]; decide) (fun ls hl => ?_) ls (lv_sub hl [0, 1, 2, 3, 5, 6] rfl)
    refine lv_iload hx hb dX4_times_103 (lv_at hl 0 rfl) ?_
    exact sf_ret hx hb hr hlocks (vp_nar_int _) hS (by unfold sf_times; rw [if_neg h]; subst ev6_35 ev7_41; rfl) dX4_times_105
end
section
/-! CONTRACTS: GF12 -/
set_option maxRecDepth 100000
set_option maxHeartbeats 4000000 in
set_option maxRecDepth 100000 in
/-- GF12.gf_reduce -/
theorem sf_c_X2_gf_reduce (l : Launch) (D : va_G) (h0 : Nat) (a : Int32) : sf_Pu l yX2_gf_reduce (ws_ yX2_gf_reduce cX2_gf_reduce 7 (some .short)) 0 0 [.ref h0, .int a] (sf_Wd D [(h0, .inr (1, []))] [] []) (sf_r12 a) := by
  refine sf_Pu.ofW (by decide) (Nat.le_of_ble_eq_true rfl) ?_
  intro p e s m below meth c A ls hx hb hr hlocks hml hown hts hw hA hS hl
  obtain ⟨hP, hK, hN⟩ := hw
  have hown : s.vm.findClass RX2 = some m.cls := hown
  have hl : lv_has ls 7 [(0, .ref h0), (1, .int a)] := hl
  refine lv_iload_n hx hb dX2_gf_reduce_0 rfl (lv_at hl 1 rfl) ?_
  refine lv_sipush (v := 4095) hx hb dX2_gf_reduce_1 (by decide) ?_
  refine lv_iand hx hb dX2_gf_reduce_4 ?_
  refine lv_topi (fun v2_5 ev2_5 => ?_)
  refine lv_istore_n (lv' := [(2, .int v2_5), (0, .ref h0), (1, .int a)]) hx hb dX2_gf_reduce_5 rfl hl (by decide) rfl (fun ls hl => ?_)
  refine lv_iload_n hx hb dX2_gf_reduce_6 rfl (lv_at hl 2 rfl) ?_
  refine lv_bipush (v := 12) hx hb dX2_gf_reduce_7 (by decide) ?_
  refine lv_iushr (v := sf_us a 12) hx hb dX2_gf_reduce_9 rfl ?_
  refine lv_topi (fun v3_10 ev3_10 => ?_)
  refine lv_istore_n (lv' := [(3, .int v3_10), (2, .int v2_5), (0, .ref h0), (1, .int a)]) hx hb dX2_gf_reduce_10 rfl hl (by decide) rfl (fun ls hl => ?_)
  refine lv_iload_n hx hb dX2_gf_reduce_11 rfl (lv_at hl 3 rfl) ?_
  refine lv_ldc (v := 2093056) hx hb hown (hts _ q58) dX2_gf_reduce_12 ?_
  refine lv_iand hx hb dX2_gf_reduce_14 ?_
  refine lv_bipush (v := 9) hx hb dX2_gf_reduce_15 (by decide) ?_
  refine lv_iushr (v := sf_us (a &&& 2093056) 9) hx hb dX2_gf_reduce_17 rfl ?_
  refine lv_topi (fun v4_18 ev4_18 => ?_)
  refine lv_istore (lv' := [(4, .int v4_18), (3, .int v3_10), (2, .int v2_5), (0, .ref h0), (1, .int a)]) hx hb dX2_gf_reduce_18 hl (by decide) rfl (fun ls hl => ?_)
  refine lv_iload_n hx hb dX2_gf_reduce_20 rfl (lv_at hl 4 rfl) ?_
  refine lv_ldc (v := 14680064) hx hb hown (hts _ q59) dX2_gf_reduce_21 ?_
  refine lv_iand hx hb dX2_gf_reduce_23 ?_
  refine lv_bipush (v := 18) hx hb dX2_gf_reduce_24 (by decide) ?_
  refine lv_iushr (v := sf_us (a &&& 14680064) 18) hx hb dX2_gf_reduce_26 rfl ?_
  refine lv_topi (fun v5_27 ev5_27 => ?_)
  refine lv_istore (lv' := [(5, .int v5_27), (4, .int v4_18), (3, .int v3_10), (2, .int v2_5), (0, .ref h0), (1, .int a)]) hx hb dX2_gf_reduce_27 hl (by decide) rfl (fun ls hl => ?_)
  refine lv_iload_n hx hb dX2_gf_reduce_29 rfl (lv_at hl 5 rfl) ?_
  refine lv_bipush (v := 21) hx hb dX2_gf_reduce_30 (by decide) ?_
  refine lv_iushr (v := sf_us a 21) hx hb dX2_gf_reduce_32 rfl ?_
  refine lv_topi (fun v6_33 ev6_33 => ?_)
  refine lv_istore (lv' := [(6, .int v6_33), (5, .int v5_27), (4, .int v4_18), (3, .int v3_10), (2, .int v2_5), (0, .ref h0), (1, .int a)]) hx hb dX2_gf_reduce_33 hl (by decide) rfl (fun ls hl => ?_)
  refine lv_iload_n hx hb dX2_gf_reduce_35 rfl (lv_at hl 4 rfl) ?_
  refine lv_iload_n hx hb dX2_gf_reduce_36 rfl (lv_at hl 3 rfl) ?_
  refine lv_ixor hx hb dX2_gf_reduce_37 ?_
  refine lv_iload hx hb dX2_gf_reduce_38 (lv_at hl 2 rfl) ?_
  refine lv_ixor hx hb dX2_gf_reduce_40 ?_
  refine lv_iload hx hb dX2_gf_reduce_41 (lv_at hl 1 rfl) ?_
  refine lv_ixor hx hb dX2_gf_reduce_43 ?_
  refine lv_iload hx hb dX2_gf_reduce_44 (lv_at hl 0 rfl) ?_
  refine lv_ixor hx hb dX2_gf_reduce_46 ?_
  refine lv_i2s (v := sf_sx ((((v2_5 ^^^ v3_10) ^^^ v4_18) ^^^ v5_27) ^^^ v6_33)) hx hb dX2_gf_reduce_47 rfl ?_
  exact sf_ret hx hb hr hlocks (sf_nsx _) hS (by subst ev6_33 ev5_27 ev4_18 ev3_10 ev2_5; rfl) dX2_gf_reduce_48
set_option maxHeartbeats 4000000 in
set_option maxRecDepth 100000 in
/-- the loop of GF12.gf_mul_ext: j + 1 steps are done -/
theorem sf_lp_X2_gf_mul_ext {p : Program} {l : Launch} {e : Env} {R : Room} {s : State} {m : MethodId} {args : Array Value} {below : List Frame} {meth : Method} {c : Code} {cells slots : Nat} {Q : State → Prop} {H : Heap} {locs : List Loc} (hx : p.tables.exec = Jvm.exec) (hb : c.code = cX2_gf_mul_ext) (x y : Int32) (h0 : Nat) (K : ∀ ls, lv_has ls 7 [(5, .int (sf_me x y 11)), (0, .ref h0)] → W p l e R s m args below meth c H locs cells slots Q (F0 m 43 ls [])) :
    ∀ (n j : Nat), j + 1 + n = 12 → ∀ ls, lv_has ls 7 [(6, .int (nI (j + 1))), (5, .int (sf_me x y j)), (4, .int y), (3, .int x), (0, .ref h0)] → W p l e R s m args below meth c H locs cells slots Q (F0 m 16 ls []) := by
  intro n
  induction n with
  | zero =>
    intro j hj ls hl
    have ej : j = 11 := by omega
    subst ej
    refine lv_iload hx hb dX2_gf_mul_ext_16 (lv_at hl 0 rfl) ?_
    refine lv_bipush (v := 12) hx hb dX2_gf_mul_ext_18 (by decide) ?_
    refine lv_icmp_ge (tgt := 43) hx hb dX2_gf_mul_ext_20 (by decide) (fun h => ?_) (fun h => ?_)
    · exact K ls (lv_sub hl [1, 4] rfl)
    · exact absurd (show (12 : Int32) ≤ nI (11 + 1) from by decide) h
  | succ n ih =>
    intro j hj ls hl
    refine lv_iload hx hb dX2_gf_mul_ext_16 (lv_at hl 0 rfl) ?_
    refine lv_bipush (v := 12) hx hb dX2_gf_mul_ext_18 (by decide) ?_
    refine lv_icmp_ge (tgt := 43) hx hb dX2_gf_mul_ext_20 (by decide) (fun h => absurd h (show ¬ nI 12 ≤ nI (j + 1) from nI_ge (by omega) (by decide))) (fun h => ?_)
    refine lv_iload hx hb dX2_gf_mul_ext_23 (lv_at hl 1 rfl) ?_
    refine lv_iload_n hx hb dX2_gf_mul_ext_25 rfl (lv_at hl 3 rfl) ?_
    refine lv_iload hx hb dX2_gf_mul_ext_26 (lv_at hl 2 rfl) ?_
    refine lv_iconst (v := 1) hx hb dX2_gf_mul_ext_28 (by decide) ?_
    refine lv_iload hx hb dX2_gf_mul_ext_29 (lv_at hl 0 rfl) ?_
    refine lv_ishl hx hb dX2_gf_mul_ext_31 ?_
    refine lv_iand hx hb dX2_gf_mul_ext_32 ?_
    refine lv_imul hx hb dX2_gf_mul_ext_33 ?_
    refine lv_ixor hx hb dX2_gf_mul_ext_34 ?_
    refine lv_topi (fun z5 ez5 => ?_)
    have ez5 : z5 = sf_me x y (j + 1) := ez5
    subst ez5
    refine lv_istore (lv' := [(5, .int (sf_me x y (j + 1))), (6, .int (nI (j + 1))), (4, .int y), (3, .int x), (0, .ref h0)]) hx hb dX2_gf_mul_ext_35 hl (by decide) rfl (fun ls hl => ?_)
    refine lv_iinc (v := nI (j + 1 + 1)) (lv' := [(6, .int (nI (j + 1 + 1))), (5, .int (sf_me x y (j + 1))), (4, .int y), (3, .int x), (0, .ref h0)]) hx hb dX2_gf_mul_ext_37 hl (k := 1) rfl (nI_1 (j + 1)) (by decide) rfl (fun ls hl => ?_)
    refine lv_goto (tgt := 16) hx hb dX2_gf_mul_ext_40 (by decide) ?_
    exact ih (j + 1) (by omega) ls hl
set_option maxHeartbeats 4000000 in
set_option maxRecDepth 100000 in
/-- GF12.gf_mul_ext -/
theorem sf_c_X2_gf_mul_ext (l : Launch) (D : va_G) (h0 : Nat) (x y : Int32) : sf_Pu l yX2_gf_mul_ext (ws_ yX2_gf_mul_ext cX2_gf_mul_ext 7 (some .int)) 0 0 [.ref h0, .int x, .int y] (sf_Wd D [(h0, .inr (1, []))] [] []) (sf_me x y 11) := by
  refine sf_Pu.ofW (by decide) (Nat.le_of_ble_eq_true rfl) ?_
  intro p e s m below meth c A ls hx hb hr hlocks hml hown hts hw hA hS hl
  obtain ⟨hP, hK, hN⟩ := hw
  have hown : s.vm.findClass RX2 = some m.cls := hown
  have hl : lv_has ls 7 [(0, .ref h0), (1, .int x), (2, .int y)] := hl
  refine lv_iload_n hx hb dX2_gf_mul_ext_0 rfl (lv_at hl 1 rfl) ?_
  refine lv_istore_n (lv' := [(3, .int x), (0, .ref h0), (1, .int x), (2, .int y)]) hx hb dX2_gf_mul_ext_1 rfl hl (by decide) rfl (fun ls hl => ?_)
  refine lv_iload_n hx hb dX2_gf_mul_ext_2 rfl (lv_at hl 3 rfl) ?_
  refine lv_istore (lv' := [(4, .int y), (3, .int x), (0, .ref h0), (1, .int x), (2, .int y)]) hx hb dX2_gf_mul_ext_3 hl (by decide) rfl (fun ls hl => ?_)
  refine lv_iload_n hx hb dX2_gf_mul_ext_5 rfl (lv_at hl 1 rfl) ?_
  refine lv_iload hx hb dX2_gf_mul_ext_6 (lv_at hl 0 rfl) ?_
  refine lv_iconst (v := 1) hx hb dX2_gf_mul_ext_8 (by decide) ?_
  refine lv_iand hx hb dX2_gf_mul_ext_9 ?_
  refine lv_imul hx hb dX2_gf_mul_ext_10 ?_
  refine lv_topi (fun z0 ez0 => ?_)
  have ez0 : z0 = sf_me x y 0 := ez0
  subst ez0
  refine lv_istore (lv' := [(5, .int (sf_me x y 0)), (4, .int y), (3, .int x), (0, .ref h0), (1, .int x), (2, .int y)]) hx hb dX2_gf_mul_ext_11 hl (by decide) rfl (fun ls hl => ?_)
  refine lv_iconst (v := 1) hx hb dX2_gf_mul_ext_13 (by decide) ?_
  refine lv_istore (lv' := [(6, .int 1), (5, .int (sf_me x y 0)), (4, .int y), (3, .int x), (0, .ref h0), (1, .int x), (2, .int y)]) hx hb dX2_gf_mul_ext_14 hl (by decide) rfl (fun ls hl => ?_)
  refine sf_lp_X2_gf_mul_ext hx hb x y h0 (fun ls hl => ?_) 11 0 (by decide) ls (lv_sub hl [0, 1, 2, 3, 4] rfl)
  refine lv_iload hx hb dX2_gf_mul_ext_43 (lv_at hl 0 rfl) ?_
  exact sf_ret hx hb hr hlocks (vp_nar_int _) hS (rfl) dX2_gf_mul_ext_45
set_option maxHeartbeats 4000000 in
set_option maxRecDepth 100000 in
/-- the loop of GF12.gf_mul: j + 1 steps are done -/
theorem sf_lp_X2_gf_mul {p : Program} {l : Launch} {e : Env} {R : Room} {s : State} {m : MethodId} {args : Array Value} {below : List Frame} {meth : Method} {c : Code} {cells slots : Nat} {Q : State → Prop} {H : Heap} {locs : List Loc} (hx : p.tables.exec = Jvm.exec) (hb : c.code = cX2_gf_mul) (x y : Int32) (h0 : Nat) (K : ∀ ls, lv_has ls 7 [(5, .int (sf_me x y 11)), (0, .ref h0)] → W p l e R s m args below meth c H locs cells slots Q (F0 m 43 ls [])) :
    ∀ (n j : Nat), j + 1 + n = 12 → ∀ ls, lv_has ls 7 [(6, .int (nI (j + 1))), (5, .int (sf_me x y j)), (4, .int y), (3, .int x), (0, .ref h0)] → W p l e R s m args below meth c H locs cells slots Q (F0 m 16 ls []) := by
  intro n
  induction n with
  | zero =>
    intro j hj ls hl
    have ej : j = 11 := by omega
    subst ej
    refine lv_iload hx hb dX2_gf_mul_16 (lv_at hl 0 rfl) ?_
    refine lv_bipush (v := 12) hx hb dX2_gf_mul_18 (by decide) ?_
    refine lv_icmp_ge (tgt := 43) hx hb dX2_gf_mul_20 (by decide) (fun h => ?_) (fun h => ?_)
    · exact K ls (lv_sub hl [1, 4] rfl)
    · exact absurd (show (12 : Int32) ≤ nI (11 + 1) from by decide) h
  | succ n ih =>
    intro j hj ls hl
    refine lv_iload hx hb dX2_gf_mul_16 (lv_at hl 0 rfl) ?_
    refine lv_bipush (v := 12) hx hb dX2_gf_mul_18 (by decide) ?_
    refine lv_icmp_ge (tgt := 43) hx hb dX2_gf_mul_20 (by decide) (fun h => absurd h (show ¬ nI 12 ≤ nI (j + 1) from nI_ge (by omega) (by decide))) (fun h => ?_)
    refine lv_iload hx hb dX2_gf_mul_23 (lv_at hl 1 rfl) ?_
    refine lv_iload_n hx hb dX2_gf_mul_25 rfl (lv_at hl 3 rfl) ?_
    refine lv_iload hx hb dX2_gf_mul_26 (lv_at hl 2 rfl) ?_
    refine lv_iconst (v := 1) hx hb dX2_gf_mul_28 (by decide) ?_
    refine lv_iload hx hb dX2_gf_mul_29 (lv_at hl 0 rfl) ?_
    refine lv_ishl hx hb dX2_gf_mul_31 ?_
    refine lv_iand hx hb dX2_gf_mul_32 ?_
    refine lv_imul hx hb dX2_gf_mul_33 ?_
    refine lv_ixor hx hb dX2_gf_mul_34 ?_
    refine lv_topi (fun z5 ez5 => ?_)
    have ez5 : z5 = sf_me x y (j + 1) := ez5
    subst ez5
    refine lv_istore (lv' := [(5, .int (sf_me x y (j + 1))), (6, .int (nI (j + 1))), (4, .int y), (3, .int x), (0, .ref h0)]) hx hb dX2_gf_mul_35 hl (by decide) rfl (fun ls hl => ?_)
    refine lv_iinc (v := nI (j + 1 + 1)) (lv' := [(6, .int (nI (j + 1 + 1))), (5, .int (sf_me x y (j + 1))), (4, .int y), (3, .int x), (0, .ref h0)]) hx hb dX2_gf_mul_37 hl (k := 1) rfl (nI_1 (j + 1)) (by decide) rfl (fun ls hl => ?_)
    refine lv_goto (tgt := 16) hx hb dX2_gf_mul_40 (by decide) ?_
    exact ih (j + 1) (by omega) ls hl
set_option maxHeartbeats 4000000 in
set_option maxRecDepth 100000 in
/-- GF12.gf_mul -/
theorem sf_c_X2_gf_mul (l : Launch) (D : va_G) (h0 : Nat) (x y : Int32) : sf_Pu l yX2_gf_mul (ws_ yX2_gf_mul cX2_gf_mul 7 (some .short)) 1 26 [.ref h0, .int x, .int y] (sf_Wd D [(h0, .inr (1, []))] [] []) (sf_m12 x y) := by
  refine sf_Pu.ofW (by decide) (Nat.le_of_ble_eq_true rfl) ?_
  intro p e s m below meth c A ls hx hb hr hlocks hml hown hts hw hA hS hl
  obtain ⟨hP, hK, hN⟩ := hw
  have hown : s.vm.findClass RX2 = some m.cls := hown
  have hl : lv_has ls 7 [(0, .ref h0), (1, .int x), (2, .int y)] := hl
  refine lv_iload_n hx hb dX2_gf_mul_0 rfl (lv_at hl 1 rfl) ?_
  refine lv_istore_n (lv' := [(3, .int x), (0, .ref h0), (1, .int x), (2, .int y)]) hx hb dX2_gf_mul_1 rfl hl (by decide) rfl (fun ls hl => ?_)
  refine lv_iload_n hx hb dX2_gf_mul_2 rfl (lv_at hl 3 rfl) ?_
  refine lv_istore (lv' := [(4, .int y), (3, .int x), (0, .ref h0), (1, .int x), (2, .int y)]) hx hb dX2_gf_mul_3 hl (by decide) rfl (fun ls hl => ?_)
  refine lv_iload_n hx hb dX2_gf_mul_5 rfl (lv_at hl 1 rfl) ?_
  refine lv_iload hx hb dX2_gf_mul_6 (lv_at hl 0 rfl) ?_
  refine lv_iconst (v := 1) hx hb dX2_gf_mul_8 (by decide) ?_
  refine lv_iand hx hb dX2_gf_mul_9 ?_
  refine lv_imul hx hb dX2_gf_mul_10 ?_
  refine lv_topi (fun z0 ez0 => ?_)
  have ez0 : z0 = sf_me x y 0 := ez0
  subst ez0
  refine lv_istore (lv' := [(5, .int (sf_me x y 0)), (4, .int y), (3, .int x), (0, .ref h0), (1, .int x), (2, .int y)]) hx hb dX2_gf_mul_11 hl (by decide) rfl (fun ls hl => ?_)
  refine lv_iconst (v := 1) hx hb dX2_gf_mul_13 (by decide) ?_
  refine lv_istore (lv' := [(6, .int 1), (5, .int (sf_me x y 0)), (4, .int y), (3, .int x), (0, .ref h0), (1, .int x), (2, .int y)]) hx hb dX2_gf_mul_14 hl (by decide) rfl (fun ls hl => ?_)
  refine sf_lp_X2_gf_mul hx hb x y h0 (fun ls hl => ?_) 11 0 (by decide) ls (lv_sub hl [0, 1, 2, 3, 4] rfl)
  refine lv_aload_n hx hb dX2_gf_mul_43 rfl (lv_at hl 1 rfl) ?_
  refine lv_iload hx hb dX2_gf_mul_44 (lv_at hl 0 rfl) ?_
  refine sf_goV (C := RX2) (n := 1) (As := [.int (sf_me x y 11)]) (rest := []) ⟨hx, hb, hml, hown, hts⟩ (sf_c_X2_gf_reduce l D h0 ((sf_me x y 11))) (lw_V q54 q55 q56 q6 q57) (by decide +kernel) ⟨Nat.le_of_ble_eq_true rfl, Nat.le_of_ble_eq_true rfl⟩ hP hK sf_nN (va_recv hK hP (ci := 1) (q0 := 0) rfl rfl) rfl hl.1 rfl (Nat.le_of_ble_eq_true rfl) dX2_gf_mul_46 ⟨Nat.le_refl 0, Nat.le_refl 0⟩ hS hA (fun H1 locs1 hk1 hS => ?_)
  have hP := hk1 _ _ _ hP
  exact sf_ret hx hb hr hlocks (sf_n12 _) hS (rfl) dX2_gf_mul_49
set_option maxHeartbeats 4000000 in
set_option maxRecDepth 100000 in
/-- GF12.gf_sq_ext -/
theorem sf_c_X2_gf_sq_ext (l : Launch) (D : va_G) (h0 : Nat) (a : Int32) : sf_Pu l yX2_gf_sq_ext (ws_ yX2_gf_sq_ext cX2_gf_sq_ext 2 (some .int)) 1 20 [.ref h0, .int a] (sf_Wd D [(h0, .inr (1, []))] [] []) (sf_ex a) := by
  refine sf_Pu.ofW (by decide) (Nat.le_of_ble_eq_true rfl) ?_
  intro p e s m below meth c A ls hx hb hr hlocks hml hown hts hw hA hS hl
  obtain ⟨hP, hK, hN⟩ := hw
  have hown : s.vm.findClass RX2 = some m.cls := hown
  have hl : lv_has ls 2 [(0, .ref h0), (1, .int a)] := hl
  refine lv_iload_n hx hb dX2_gf_sq_ext_0 rfl (lv_at hl 1 rfl) ?_
  refine sf_goS (n := 1) (As := [.int a]) (rest := []) ⟨hx, hb, hml, hown, hts⟩ (sf_c_X5_expand16to32 l D (a)) (lw_S q77 q78 q9 q79) (by decide +kernel) ⟨Nat.le_of_ble_eq_true rfl, Nat.le_of_ble_eq_true rfl⟩ (hP.sub [] rfl) (hK.sub [] rfl) sf_nN rfl hl.1 rfl (Nat.le_of_ble_eq_true rfl) dX2_gf_sq_ext_1 ⟨Nat.le_refl 0, Nat.le_refl 0⟩ hS hA (fun H1 locs1 hk1 hS => ?_)
  have hP := hk1 _ _ _ hP
  exact sf_ret hx hb hr hlocks (vp_nar_int _) hS (rfl) dX2_gf_sq_ext_4
set_option maxHeartbeats 4000000 in
set_option maxRecDepth 100000 in
/-- GF12.gf_sq -/
theorem sf_c_X2_gf_sq (l : Launch) (D : va_G) (h0 : Nat) (a : Int32) : sf_Pu l yX2_gf_sq (ws_ yX2_gf_sq cX2_gf_sq 3 (some .short)) 1 26 [.ref h0, .int a] (sf_Wd D [(h0, .inr (1, []))] [] []) (sf_q12 a) := by
  refine sf_Pu.ofW (by decide) (Nat.le_of_ble_eq_true rfl) ?_
  intro p e s m below meth c A ls hx hb hr hlocks hml hown hts hw hA hS hl
  obtain ⟨hP, hK, hN⟩ := hw
  have hown : s.vm.findClass RX2 = some m.cls := hown
  have hl : lv_has ls 3 [(0, .ref h0), (1, .int a)] := hl
  refine lv_iload_n hx hb dX2_gf_sq_0 rfl (lv_at hl 1 rfl) ?_
  refine sf_goS (n := 1) (As := [.int a]) (rest := []) ⟨hx, hb, hml, hown, hts⟩ (sf_c_X5_expand16to32 l D (a)) (lw_S q77 q78 q9 q79) (by decide +kernel) ⟨Nat.le_of_ble_eq_true rfl, Nat.le_of_ble_eq_true rfl⟩ (hP.sub [] rfl) (hK.sub [] rfl) sf_nN rfl hl.1 rfl (Nat.le_of_ble_eq_true rfl) dX2_gf_sq_1 ⟨Nat.le_refl 0, Nat.le_refl 0⟩ hS hA (fun H1 locs1 hk1 hS => ?_)
  have hP := hk1 _ _ _ hP
  refine lv_topi (fun v2_4 ev2_4 => ?_)
  refine lv_istore_n (lv' := [(2, .int v2_4), (0, .ref h0), (1, .int a)]) hx hb dX2_gf_sq_4 rfl hl (by decide) rfl (fun ls hl => ?_)
  refine lv_aload_n hx hb dX2_gf_sq_5 rfl (lv_at hl 1 rfl) ?_
  refine lv_iload_n hx hb dX2_gf_sq_6 rfl (lv_at hl 0 rfl) ?_
  refine sf_goV (C := RX2) (n := 1) (As := [.int v2_4]) (rest := []) ⟨hx, hb, hml, hown, hts⟩ (sf_c_X2_gf_reduce l D h0 (v2_4)) (lw_V q54 q55 q56 q6 q57) (by decide +kernel) ⟨Nat.le_of_ble_eq_true rfl, Nat.le_of_ble_eq_true rfl⟩ hP hK sf_nN (va_recv hK hP (ci := 1) (q0 := 0) rfl rfl) rfl hl.1 rfl (Nat.le_of_ble_eq_true rfl) dX2_gf_sq_7 ⟨Nat.le_refl 0, Nat.le_refl 0⟩ hS hA (fun H1 locs1 hk1 hS => ?_)
  have hP := hk1 _ _ _ hP
  exact sf_ret hx hb hr hlocks (sf_n12 _) hS (by subst ev2_4; rfl) dX2_gf_sq_10
set_option maxHeartbeats 4000000 in
set_option maxRecDepth 100000 in
/-- GF12.gf_inv -/
theorem sf_c_X2_gf_inv (l : Launch) (D : va_G) (h0 : Nat) (a : Int32) : sf_Pu l yX2_gf_inv (ws_ yX2_gf_inv cX2_gf_inv 5 (some .short)) 2 52 [.ref h0, .int a] (sf_Wd D [(h0, .inr (1, []))] [] []) (sf_i12 a) := by
  refine sf_Pu.ofW (by decide) (Nat.le_of_ble_eq_true rfl) ?_
  intro p e s m below meth c A ls hx hb hr hlocks hml hown hts hw hA hS hl
  obtain ⟨hP, hK, hN⟩ := hw
  have hown : s.vm.findClass RX2 = some m.cls := hown
  have hl : lv_has ls 5 [(0, .ref h0), (1, .int a)] := hl
  refine lv_iload_n hx hb dX2_gf_inv_0 rfl (lv_at hl 1 rfl) ?_
  refine lv_istore (lv' := [(4, .int a), (0, .ref h0), (1, .int a)]) hx hb dX2_gf_inv_1 hl (by decide) rfl (fun ls hl => ?_)
  refine lv_aload_n hx hb dX2_gf_inv_3 rfl (lv_at hl 1 rfl) ?_
  refine lv_iload hx hb dX2_gf_inv_4 (lv_at hl 0 rfl) ?_
  refine sf_goV (C := RX2) (n := 1) (As := [.int a]) (rest := []) ⟨hx, hb, hml, hown, hts⟩ (sf_c_X2_gf_sq l D h0 (a)) (lw_V q99 q75 q232 q6 q76) (by decide +kernel) ⟨Nat.le_of_ble_eq_true rfl, Nat.le_of_ble_eq_true rfl⟩ hP hK sf_nN (va_recv hK hP (ci := 1) (q0 := 0) rfl rfl) rfl hl.1 rfl (Nat.le_of_ble_eq_true rfl) dX2_gf_inv_6 ⟨Nat.le_refl 0, Nat.le_refl 0⟩ hS hA (fun H1 locs1 hk1 hS => ?_)
  have hP := hk1 _ _ _ hP
  refine lv_topi (fun v4_9 ev4_9 => ?_)
  refine lv_istore (lv' := [(4, .int v4_9), (0, .ref h0), (1, .int a)]) hx hb dX2_gf_inv_9 hl (by decide) rfl (fun ls hl => ?_)
  refine lv_aload_n hx hb dX2_gf_inv_11 rfl (lv_at hl 1 rfl) ?_
  refine lv_iload hx hb dX2_gf_inv_12 (lv_at hl 0 rfl) ?_
  refine lv_iload_n hx hb dX2_gf_inv_14 rfl (lv_at hl 2 rfl) ?_
  refine sf_goV (C := RX2) (n := 2) (As := [.int v4_9, .int a]) (rest := []) ⟨hx, hb, hml, hown, hts⟩ (sf_c_X2_gf_mul l D h0 (v4_9) (a)) (lw_V q100 q52 q233 q6 q53) (by decide +kernel) ⟨Nat.le_of_ble_eq_true rfl, Nat.le_of_ble_eq_true rfl⟩ hP hK sf_nN (va_recv hK hP (ci := 1) (q0 := 0) rfl rfl) rfl hl.1 rfl (Nat.le_of_ble_eq_true rfl) dX2_gf_inv_15 ⟨Nat.le_refl 0, Nat.le_refl 0⟩ hS hA (fun H1 locs1 hk1 hS => ?_)
  have hP := hk1 _ _ _ hP
  refine lv_topi (fun v2_18 ev2_18 => ?_)
  refine lv_istore_n (lv' := [(2, .int v2_18), (4, .int v4_9), (0, .ref h0), (1, .int a)]) hx hb dX2_gf_inv_18 rfl hl (by decide) rfl (fun ls hl => ?_)
  refine lv_aload_n hx hb dX2_gf_inv_19 rfl (lv_at hl 2 rfl) ?_
  refine lv_iload_n hx hb dX2_gf_inv_20 rfl (lv_at hl 0 rfl) ?_
  refine sf_goV (C := RX2) (n := 1) (As := [.int v2_18]) (rest := []) ⟨hx, hb, hml, hown, hts⟩ (sf_c_X2_gf_sq l D h0 (v2_18)) (lw_V q99 q75 q232 q6 q76) (by decide +kernel) ⟨Nat.le_of_ble_eq_true rfl, Nat.le_of_ble_eq_true rfl⟩ hP hK sf_nN (va_recv hK hP (ci := 1) (q0 := 0) rfl rfl) rfl hl.1 rfl (Nat.le_of_ble_eq_true rfl) dX2_gf_inv_21 ⟨Nat.le_refl 0, Nat.le_refl 0⟩ hS hA (fun H1 locs1 hk1 hS => ?_)
  have hP := hk1 _ _ _ hP
  refine lv_topi (fun v4_24 ev4_24 => ?_)
  refine lv_istore (lv' := [(4, .int v4_24), (2, .int v2_18), (0, .ref h0), (1, .int a)]) hx hb dX2_gf_inv_24 hl (by decide) rfl (fun ls hl => ?_)
  refine lv_aload_n hx hb dX2_gf_inv_26 rfl (lv_at hl 2 rfl) ?_
  refine lv_iload hx hb dX2_gf_inv_27 (lv_at hl 0 rfl) ?_
  refine sf_goV (C := RX2) (n := 1) (As := [.int v4_24]) (rest := []) ⟨hx, hb, hml, hown, hts⟩ (sf_c_X2_gf_sq l D h0 (v4_24)) (lw_V q99 q75 q232 q6 q76) (by decide +kernel) ⟨Nat.le_of_ble_eq_true rfl, Nat.le_of_ble_eq_true rfl⟩ hP hK sf_nN (va_recv hK hP (ci := 1) (q0 := 0) rfl rfl) rfl hl.1 rfl (Nat.le_of_ble_eq_true rfl) dX2_gf_inv_29 ⟨Nat.le_refl 0, Nat.le_refl 0⟩ hS hA (fun H1 locs1 hk1 hS => ?_)
  have hP := hk1 _ _ _ hP
  refine lv_topi (fun v4_32 ev4_32 => ?_)
  refine lv_istore (lv' := [(4, .int v4_32), (2, .int v2_18), (0, .ref h0), (1, .int a)]) hx hb dX2_gf_inv_32 hl (by decide) rfl (fun ls hl => ?_)
  refine lv_aload_n hx hb dX2_gf_inv_34 rfl (lv_at hl 2 rfl) ?_
  refine lv_iload hx hb dX2_gf_inv_35 (lv_at hl 0 rfl) ?_
  refine lv_iload_n hx hb dX2_gf_inv_37 rfl (lv_at hl 1 rfl) ?_
  refine sf_goV (C := RX2) (n := 2) (As := [.int v4_32, .int v2_18]) (rest := []) ⟨hx, hb, hml, hown, hts⟩ (sf_c_X2_gf_mul l D h0 (v4_32) (v2_18)) (lw_V q100 q52 q233 q6 q53) (by decide +kernel) ⟨Nat.le_of_ble_eq_true rfl, Nat.le_of_ble_eq_true rfl⟩ hP hK sf_nN (va_recv hK hP (ci := 1) (q0 := 0) rfl rfl) rfl hl.1 rfl (Nat.le_of_ble_eq_true rfl) dX2_gf_inv_38 ⟨Nat.le_refl 0, Nat.le_refl 0⟩ hS hA (fun H1 locs1 hk1 hS => ?_)
  have hP := hk1 _ _ _ hP
  refine lv_topi (fun v3_41 ev3_41 => ?_)
  refine lv_istore_n (lv' := [(3, .int v3_41), (4, .int v4_32), (2, .int v2_18), (0, .ref h0), (1, .int a)]) hx hb dX2_gf_inv_41 rfl hl (by decide) rfl (fun ls hl => ?_)
  refine lv_aload_n hx hb dX2_gf_inv_42 rfl (lv_at hl 3 rfl) ?_
  refine lv_iload_n hx hb dX2_gf_inv_43 rfl (lv_at hl 0 rfl) ?_
  refine sf_goV (C := RX2) (n := 1) (As := [.int v3_41]) (rest := []) ⟨hx, hb, hml, hown, hts⟩ (sf_c_X2_gf_sq l D h0 (v3_41)) (lw_V q99 q75 q232 q6 q76) (by decide +kernel) ⟨Nat.le_of_ble_eq_true rfl, Nat.le_of_ble_eq_true rfl⟩ hP hK sf_nN (va_recv hK hP (ci := 1) (q0 := 0) rfl rfl) rfl hl.1 rfl (Nat.le_of_ble_eq_true rfl) dX2_gf_inv_44 ⟨Nat.le_refl 0, Nat.le_refl 0⟩ hS hA (fun H1 locs1 hk1 hS => ?_)
  have hP := hk1 _ _ _ hP
  refine lv_topi (fun v4_47 ev4_47 => ?_)
  refine lv_istore (lv' := [(4, .int v4_47), (3, .int v3_41), (2, .int v2_18), (0, .ref h0), (1, .int a)]) hx hb dX2_gf_inv_47 hl (by decide) rfl (fun ls hl => ?_)
  refine lv_aload_n hx hb dX2_gf_inv_49 rfl (lv_at hl 3 rfl) ?_
  refine lv_iload hx hb dX2_gf_inv_50 (lv_at hl 0 rfl) ?_
  refine sf_goV (C := RX2) (n := 1) (As := [.int v4_47]) (rest := []) ⟨hx, hb, hml, hown, hts⟩ (sf_c_X2_gf_sq l D h0 (v4_47)) (lw_V q99 q75 q232 q6 q76) (by decide +kernel) ⟨Nat.le_of_ble_eq_true rfl, Nat.le_of_ble_eq_true rfl⟩ hP hK sf_nN (va_recv hK hP (ci := 1) (q0 := 0) rfl rfl) rfl hl.1 rfl (Nat.le_of_ble_eq_true rfl) dX2_gf_inv_52 ⟨Nat.le_refl 0, Nat.le_refl 0⟩ hS hA (fun H1 locs1 hk1 hS => ?_)
  have hP := hk1 _ _ _ hP
  refine lv_topi (fun v4_55 ev4_55 => ?_)
  refine lv_istore (lv' := [(4, .int v4_55), (3, .int v3_41), (2, .int v2_18), (0, .ref h0), (1, .int a)]) hx hb dX2_gf_inv_55 hl (by decide) rfl (fun ls hl => ?_)
  refine lv_aload_n hx hb dX2_gf_inv_57 rfl (lv_at hl 3 rfl) ?_
  refine lv_iload hx hb dX2_gf_inv_58 (lv_at hl 0 rfl) ?_
  refine sf_goV (C := RX2) (n := 1) (As := [.int v4_55]) (rest := []) ⟨hx, hb, hml, hown, hts⟩ (sf_c_X2_gf_sq l D h0 (v4_55)) (lw_V q99 q75 q232 q6 q76) (by decide +kernel) ⟨Nat.le_of_ble_eq_true rfl, Nat.le_of_ble_eq_true rfl⟩ hP hK sf_nN (va_recv hK hP (ci := 1) (q0 := 0) rfl rfl) rfl hl.1 rfl (Nat.le_of_ble_eq_true rfl) dX2_gf_inv_60 ⟨Nat.le_refl 0, Nat.le_refl 0⟩ hS hA (fun H1 locs1 hk1 hS => ?_)
  have hP := hk1 _ _ _ hP
  refine lv_topi (fun v4_63 ev4_63 => ?_)
  refine lv_istore (lv' := [(4, .int v4_63), (3, .int v3_41), (2, .int v2_18), (0, .ref h0), (1, .int a)]) hx hb dX2_gf_inv_63 hl (by decide) rfl (fun ls hl => ?_)
  refine lv_aload_n hx hb dX2_gf_inv_65 rfl (lv_at hl 3 rfl) ?_
  refine lv_iload hx hb dX2_gf_inv_66 (lv_at hl 0 rfl) ?_
  refine sf_goV (C := RX2) (n := 1) (As := [.int v4_63]) (rest := []) ⟨hx, hb, hml, hown, hts⟩ (sf_c_X2_gf_sq l D h0 (v4_63)) (lw_V q99 q75 q232 q6 q76) (by decide +kernel) ⟨Nat.le_of_ble_eq_true rfl, Nat.le_of_ble_eq_true rfl⟩ hP hK sf_nN (va_recv hK hP (ci := 1) (q0 := 0) rfl rfl) rfl hl.1 rfl (Nat.le_of_ble_eq_true rfl) dX2_gf_inv_68 ⟨Nat.le_refl 0, Nat.le_refl 0⟩ hS hA (fun H1 locs1 hk1 hS => ?_)
  have hP := hk1 _ _ _ hP
  refine lv_topi (fun v4_71 ev4_71 => ?_)
  refine lv_istore (lv' := [(4, .int v4_71), (3, .int v3_41), (2, .int v2_18), (0, .ref h0), (1, .int a)]) hx hb dX2_gf_inv_71 hl (by decide) rfl (fun ls hl => ?_)
  refine lv_aload_n hx hb dX2_gf_inv_73 rfl (lv_at hl 3 rfl) ?_
  refine lv_iload hx hb dX2_gf_inv_74 (lv_at hl 0 rfl) ?_
  refine lv_iload_n hx hb dX2_gf_inv_76 rfl (lv_at hl 1 rfl) ?_
  refine sf_goV (C := RX2) (n := 2) (As := [.int v4_71, .int v3_41]) (rest := []) ⟨hx, hb, hml, hown, hts⟩ (sf_c_X2_gf_mul l D h0 (v4_71) (v3_41)) (lw_V q100 q52 q233 q6 q53) (by decide +kernel) ⟨Nat.le_of_ble_eq_true rfl, Nat.le_of_ble_eq_true rfl⟩ hP hK sf_nN (va_recv hK hP (ci := 1) (q0 := 0) rfl rfl) rfl hl.1 rfl (Nat.le_of_ble_eq_true rfl) dX2_gf_inv_77 ⟨Nat.le_refl 0, Nat.le_refl 0⟩ hS hA (fun H1 locs1 hk1 hS => ?_)
  have hP := hk1 _ _ _ hP
  refine lv_topi (fun v4_80 ev4_80 => ?_)
  refine lv_istore (lv' := [(4, .int v4_80), (3, .int v3_41), (2, .int v2_18), (0, .ref h0), (1, .int a)]) hx hb dX2_gf_inv_80 hl (by decide) rfl (fun ls hl => ?_)
  refine lv_aload_n hx hb dX2_gf_inv_82 rfl (lv_at hl 3 rfl) ?_
  refine lv_iload hx hb dX2_gf_inv_83 (lv_at hl 0 rfl) ?_
  refine sf_goV (C := RX2) (n := 1) (As := [.int v4_80]) (rest := []) ⟨hx, hb, hml, hown, hts⟩ (sf_c_X2_gf_sq l D h0 (v4_80)) (lw_V q99 q75 q232 q6 q76) (by decide +kernel) ⟨Nat.le_of_ble_eq_true rfl, Nat.le_of_ble_eq_true rfl⟩ hP hK sf_nN (va_recv hK hP (ci := 1) (q0 := 0) rfl rfl) rfl hl.1 rfl (Nat.le_of_ble_eq_true rfl) dX2_gf_inv_85 ⟨Nat.le_refl 0, Nat.le_refl 0⟩ hS hA (fun H1 locs1 hk1 hS => ?_)
  have hP := hk1 _ _ _ hP
  refine lv_topi (fun v4_88 ev4_88 => ?_)
  refine lv_istore (lv' := [(4, .int v4_88), (3, .int v3_41), (2, .int v2_18), (0, .ref h0), (1, .int a)]) hx hb dX2_gf_inv_88 hl (by decide) rfl (fun ls hl => ?_)
  refine lv_aload_n hx hb dX2_gf_inv_90 rfl (lv_at hl 3 rfl) ?_
  refine lv_iload hx hb dX2_gf_inv_91 (lv_at hl 0 rfl) ?_
  refine sf_goV (C := RX2) (n := 1) (As := [.int v4_88]) (rest := []) ⟨hx, hb, hml, hown, hts⟩ (sf_c_X2_gf_sq l D h0 (v4_88)) (lw_V q99 q75 q232 q6 q76) (by decide +kernel) ⟨Nat.le_of_ble_eq_true rfl, Nat.le_of_ble_eq_true rfl⟩ hP hK sf_nN (va_recv hK hP (ci := 1) (q0 := 0) rfl rfl) rfl hl.1 rfl (Nat.le_of_ble_eq_true rfl) dX2_gf_inv_93 ⟨Nat.le_refl 0, Nat.le_refl 0⟩ hS hA (fun H1 locs1 hk1 hS => ?_)
  have hP := hk1 _ _ _ hP
  refine lv_topi (fun v4_96 ev4_96 => ?_)
  refine lv_istore (lv' := [(4, .int v4_96), (3, .int v3_41), (2, .int v2_18), (0, .ref h0), (1, .int a)]) hx hb dX2_gf_inv_96 hl (by decide) rfl (fun ls hl => ?_)
  refine lv_aload_n hx hb dX2_gf_inv_98 rfl (lv_at hl 3 rfl) ?_
  refine lv_iload hx hb dX2_gf_inv_99 (lv_at hl 0 rfl) ?_
  refine lv_iload_n hx hb dX2_gf_inv_101 rfl (lv_at hl 2 rfl) ?_
  refine sf_goV (C := RX2) (n := 2) (As := [.int v4_96, .int v2_18]) (rest := []) ⟨hx, hb, hml, hown, hts⟩ (sf_c_X2_gf_mul l D h0 (v4_96) (v2_18)) (lw_V q100 q52 q233 q6 q53) (by decide +kernel) ⟨Nat.le_of_ble_eq_true rfl, Nat.le_of_ble_eq_true rfl⟩ hP hK sf_nN (va_recv hK hP (ci := 1) (q0 := 0) rfl rfl) rfl hl.1 rfl (Nat.le_of_ble_eq_true rfl) dX2_gf_inv_102 ⟨Nat.le_refl 0, Nat.le_refl 0⟩ hS hA (fun H1 locs1 hk1 hS => ?_)
  have hP := hk1 _ _ _ hP
  refine lv_topi (fun v4_105 ev4_105 => ?_)
  refine lv_istore (lv' := [(4, .int v4_105), (3, .int v3_41), (2, .int v2_18), (0, .ref h0), (1, .int a)]) hx hb dX2_gf_inv_105 hl (by decide) rfl (fun ls hl => ?_)
  refine lv_aload_n hx hb dX2_gf_inv_107 rfl (lv_at hl 3 rfl) ?_
  refine lv_iload hx hb dX2_gf_inv_108 (lv_at hl 0 rfl) ?_
  refine sf_goV (C := RX2) (n := 1) (As := [.int v4_105]) (rest := []) ⟨hx, hb, hml, hown, hts⟩ (sf_c_X2_gf_sq l D h0 (v4_105)) (lw_V q99 q75 q232 q6 q76) (by decide +kernel) ⟨Nat.le_of_ble_eq_true rfl, Nat.le_of_ble_eq_true rfl⟩ hP hK sf_nN (va_recv hK hP (ci := 1) (q0 := 0) rfl rfl) rfl hl.1 rfl (Nat.le_of_ble_eq_true rfl) dX2_gf_inv_110 ⟨Nat.le_refl 0, Nat.le_refl 0⟩ hS hA (fun H1 locs1 hk1 hS => ?_)
  have hP := hk1 _ _ _ hP
  refine lv_topi (fun v4_113 ev4_113 => ?_)
  refine lv_istore (lv' := [(4, .int v4_113), (3, .int v3_41), (2, .int v2_18), (0, .ref h0), (1, .int a)]) hx hb dX2_gf_inv_113 hl (by decide) rfl (fun ls hl => ?_)
  refine lv_aload_n hx hb dX2_gf_inv_115 rfl (lv_at hl 3 rfl) ?_
  refine lv_iload hx hb dX2_gf_inv_116 (lv_at hl 0 rfl) ?_
  refine lv_iload_n hx hb dX2_gf_inv_118 rfl (lv_at hl 4 rfl) ?_
  refine sf_goV (C := RX2) (n := 2) (As := [.int v4_113, .int a]) (rest := []) ⟨hx, hb, hml, hown, hts⟩ (sf_c_X2_gf_mul l D h0 (v4_113) (a)) (lw_V q100 q52 q233 q6 q53) (by decide +kernel) ⟨Nat.le_of_ble_eq_true rfl, Nat.le_of_ble_eq_true rfl⟩ hP hK sf_nN (va_recv hK hP (ci := 1) (q0 := 0) rfl rfl) rfl hl.1 rfl (Nat.le_of_ble_eq_true rfl) dX2_gf_inv_119 ⟨Nat.le_refl 0, Nat.le_refl 0⟩ hS hA (fun H1 locs1 hk1 hS => ?_)
  have hP := hk1 _ _ _ hP
  refine lv_topi (fun v4_122 ev4_122 => ?_)
  refine lv_istore (lv' := [(4, .int v4_122), (3, .int v3_41), (2, .int v2_18), (0, .ref h0), (1, .int a)]) hx hb dX2_gf_inv_122 hl (by decide) rfl (fun ls hl => ?_)
  refine lv_aload_n hx hb dX2_gf_inv_124 rfl (lv_at hl 3 rfl) ?_
  refine lv_iload hx hb dX2_gf_inv_125 (lv_at hl 0 rfl) ?_
  refine sf_goV (C := RX2) (n := 1) (As := [.int v4_122]) (rest := []) ⟨hx, hb, hml, hown, hts⟩ (sf_c_X2_gf_sq l D h0 (v4_122)) (lw_V q99 q75 q232 q6 q76) (by decide +kernel) ⟨Nat.le_of_ble_eq_true rfl, Nat.le_of_ble_eq_true rfl⟩ hP hK sf_nN (va_recv hK hP (ci := 1) (q0 := 0) rfl rfl) rfl hl.1 rfl (Nat.le_of_ble_eq_true rfl) dX2_gf_inv_127 ⟨Nat.le_refl 0, Nat.le_refl 0⟩ hS hA (fun H1 locs1 hk1 hS => ?_)
  have hP := hk1 _ _ _ hP
  exact sf_ret hx hb hr hlocks (sf_n12 _) hS (by subst ev4_122 ev4_113 ev4_105 ev4_96 ev4_88 ev4_80 ev4_71 ev4_63 ev4_55 ev4_47 ev3_41 ev4_32 ev4_24 ev2_18 ev4_9; rfl) dX2_gf_inv_130
set_option maxHeartbeats 4000000 in
set_option maxRecDepth 100000 in
/-- GF12.gf_frac -/
theorem sf_c_X2_gf_frac (l : Launch) (D : va_G) (h0 : Nat) (d n : Int32) : sf_Pu l yX2_gf_frac (ws_ yX2_gf_frac cX2_gf_frac 3 (some .short)) 3 76 [.ref h0, .int d, .int n] (sf_Wd D [(h0, .inr (1, []))] [] []) (sf_d12 d n) := by
  refine sf_Pu.ofW (by decide) (Nat.le_of_ble_eq_true rfl) ?_
  intro p e s m below meth c A ls hx hb hr hlocks hml hown hts hw hA hS hl
  obtain ⟨hP, hK, hN⟩ := hw
  have hown : s.vm.findClass RX2 = some m.cls := hown
  have hl : lv_has ls 3 [(0, .ref h0), (1, .int d), (2, .int n)] := hl
  refine lv_aload_n hx hb dX2_gf_frac_0 rfl (lv_at hl 0 rfl) ?_
  refine lv_aload_n hx hb dX2_gf_frac_1 rfl (lv_at hl 0 rfl) ?_
  refine lv_iload_n hx hb dX2_gf_frac_2 rfl (lv_at hl 1 rfl) ?_
  refine sf_goV (C := RX2) (n := 1) (As := [.int d]) (rest := [.ref h0]) ⟨hx, hb, hml, hown, hts⟩ (sf_c_X2_gf_inv l D h0 (d)) (lw_V q147 q97 q234 q6 q98) (by decide +kernel) ⟨Nat.le_of_ble_eq_true rfl, Nat.le_of_ble_eq_true rfl⟩ hP hK sf_nN (va_recv hK hP (ci := 1) (q0 := 0) rfl rfl) rfl hl.1 rfl (Nat.le_of_ble_eq_true rfl) dX2_gf_frac_3 ⟨Nat.le_refl 0, Nat.le_refl 0⟩ hS hA (fun H1 locs1 hk1 hS => ?_)
  have hP := hk1 _ _ _ hP
  refine lv_iload_n hx hb dX2_gf_frac_6 rfl (lv_at hl 2 rfl) ?_
  refine sf_goV (C := RX2) (n := 2) (As := [.int (sf_i12 d), .int n]) (rest := []) ⟨hx, hb, hml, hown, hts⟩ (sf_c_X2_gf_mul l D h0 ((sf_i12 d)) (n)) (lw_V q100 q52 q233 q6 q53) (by decide +kernel) ⟨Nat.le_of_ble_eq_true rfl, Nat.le_of_ble_eq_true rfl⟩ hP hK sf_nN (va_recv hK hP (ci := 1) (q0 := 0) rfl rfl) rfl hl.1 rfl (Nat.le_of_ble_eq_true rfl) dX2_gf_frac_7 ⟨Nat.le_refl 0, Nat.le_refl 0⟩ hS hA (fun H1 locs1 hk1 hS => ?_)
  have hP := hk1 _ _ _ hP
  exact sf_ret hx hb hr hlocks (sf_n12 _) hS (rfl) dX2_gf_frac_10
end
section
/-! CONTRACTS: GF13 -/
set_option maxRecDepth 100000
set_option maxHeartbeats 4000000 in
set_option maxRecDepth 100000 in
/-- GF13.gf_reduce -/
theorem sf_c_X3_gf_reduce (l : Launch) (D : va_G) (h0 : Nat) (a : Int32) : sf_Pu l yX3_gf_reduce (ws_ yX3_gf_reduce cX3_gf_reduce 8 (some .short)) 0 0 [.ref h0, .int a] (sf_Wd D [(h0, .inr (2, []))] [] []) (sf_r13 a) := by
  refine sf_Pu.ofW (by decide) (Nat.le_of_ble_eq_true rfl) ?_
  intro p e s m below meth c A ls hx hb hr hlocks hml hown hts hw hA hS hl
  obtain ⟨hP, hK, hN⟩ := hw
  have hown : s.vm.findClass RX3 = some m.cls := hown
  have hl : lv_has ls 8 [(0, .ref h0), (1, .int a)] := hl
  refine lv_iload_n hx hb dX3_gf_reduce_0 rfl (lv_at hl 1 rfl) ?_
  refine lv_sipush (v := 8191) hx hb dX3_gf_reduce_1 (by decide) ?_
  refine lv_iand hx hb dX3_gf_reduce_4 ?_
  refine lv_topi (fun v2_5 ev2_5 => ?_)
  refine lv_istore_n (lv' := [(2, .int v2_5), (0, .ref h0), (1, .int a)]) hx hb dX3_gf_reduce_5 rfl hl (by decide) rfl (fun ls hl => ?_)
  refine lv_iload_n hx hb dX3_gf_reduce_6 rfl (lv_at hl 2 rfl) ?_
  refine lv_bipush (v := 13) hx hb dX3_gf_reduce_7 (by decide) ?_
  refine lv_iushr (v := sf_us a 13) hx hb dX3_gf_reduce_9 rfl ?_
  refine lv_topi (fun v3_10 ev3_10 => ?_)
  refine lv_istore_n (lv' := [(3, .int v3_10), (2, .int v2_5), (0, .ref h0), (1, .int a)]) hx hb dX3_gf_reduce_10 rfl hl (by decide) rfl (fun ls hl => ?_)
  refine lv_iload_n hx hb dX3_gf_reduce_11 rfl (lv_at hl 0 rfl) ?_
  refine lv_iconst (v := 4) hx hb dX3_gf_reduce_12 (by decide) ?_
  refine lv_ishl hx hb dX3_gf_reduce_13 ?_
  refine lv_iload_n hx hb dX3_gf_reduce_14 rfl (lv_at hl 0 rfl) ?_
  refine lv_iconst (v := 3) hx hb dX3_gf_reduce_15 (by decide) ?_
  refine lv_ishl hx hb dX3_gf_reduce_16 ?_
  refine lv_ixor hx hb dX3_gf_reduce_17 ?_
  refine lv_iload_n hx hb dX3_gf_reduce_18 rfl (lv_at hl 0 rfl) ?_
  refine lv_iconst (v := 1) hx hb dX3_gf_reduce_19 (by decide) ?_
  refine lv_ishl hx hb dX3_gf_reduce_20 ?_
  refine lv_ixor hx hb dX3_gf_reduce_21 ?_
  refine lv_topi (fun v4_22 ev4_22 => ?_)
  refine lv_istore (lv' := [(4, .int v4_22), (3, .int v3_10), (2, .int v2_5), (0, .ref h0), (1, .int a)]) hx hb dX3_gf_reduce_22 hl (by decide) rfl (fun ls hl => ?_)
  refine lv_iload hx hb dX3_gf_reduce_24 (lv_at hl 0 rfl) ?_
  refine lv_bipush (v := 13) hx hb dX3_gf_reduce_26 (by decide) ?_
  refine lv_iushr (v := sf_us v4_22 13) hx hb dX3_gf_reduce_28 rfl ?_
  refine lv_topi (fun v5_29 ev5_29 => ?_)
  refine lv_istore (lv' := [(5, .int v5_29), (4, .int v4_22), (3, .int v3_10), (2, .int v2_5), (0, .ref h0), (1, .int a)]) hx hb dX3_gf_reduce_29 hl (by decide) rfl (fun ls hl => ?_)
  refine lv_iload hx hb dX3_gf_reduce_31 (lv_at hl 1 rfl) ?_
  refine lv_sipush (v := 8191) hx hb dX3_gf_reduce_33 (by decide) ?_
  refine lv_iand hx hb dX3_gf_reduce_36 ?_
  refine lv_topi (fun v6_37 ev6_37 => ?_)
  refine lv_istore (lv' := [(6, .int v6_37), (5, .int v5_29), (4, .int v4_22), (3, .int v3_10), (2, .int v2_5), (0, .ref h0), (1, .int a)]) hx hb dX3_gf_reduce_37 hl (by decide) rfl (fun ls hl => ?_)
  refine lv_iload hx hb dX3_gf_reduce_39 (lv_at hl 1 rfl) ?_
  refine lv_iconst (v := 4) hx hb dX3_gf_reduce_41 (by decide) ?_
  refine lv_ishl hx hb dX3_gf_reduce_42 ?_
  refine lv_iload hx hb dX3_gf_reduce_43 (lv_at hl 1 rfl) ?_
  refine lv_iconst (v := 3) hx hb dX3_gf_reduce_45 (by decide) ?_
  refine lv_ishl hx hb dX3_gf_reduce_46 ?_
  refine lv_ixor hx hb dX3_gf_reduce_47 ?_
  refine lv_iload hx hb dX3_gf_reduce_48 (lv_at hl 1 rfl) ?_
  refine lv_iconst (v := 1) hx hb dX3_gf_reduce_50 (by decide) ?_
  refine lv_ishl hx hb dX3_gf_reduce_51 ?_
  refine lv_ixor hx hb dX3_gf_reduce_52 ?_
  refine lv_topi (fun v7_53 ev7_53 => ?_)
  refine lv_istore (lv' := [(7, .int v7_53), (6, .int v6_37), (5, .int v5_29), (4, .int v4_22), (3, .int v3_10), (2, .int v2_5), (0, .ref h0), (1, .int a)]) hx hb dX3_gf_reduce_53 hl (by decide) rfl (fun ls hl => ?_)
  refine lv_iload_n hx hb dX3_gf_reduce_55 rfl (lv_at hl 5 rfl) ?_
  refine lv_iload_n hx hb dX3_gf_reduce_56 rfl (lv_at hl 4 rfl) ?_
  refine lv_ixor hx hb dX3_gf_reduce_57 ?_
  refine lv_iload hx hb dX3_gf_reduce_58 (lv_at hl 2 rfl) ?_
  refine lv_ixor hx hb dX3_gf_reduce_60 ?_
  refine lv_iload hx hb dX3_gf_reduce_61 (lv_at hl 1 rfl) ?_
  refine lv_ixor hx hb dX3_gf_reduce_63 ?_
  refine lv_iload hx hb dX3_gf_reduce_64 (lv_at hl 0 rfl) ?_
  refine lv_ixor hx hb dX3_gf_reduce_66 ?_
  refine lv_i2s (v := sf_sx ((((v2_5 ^^^ v3_10) ^^^ v5_29) ^^^ v6_37) ^^^ v7_53)) hx hb dX3_gf_reduce_67 rfl ?_
  exact sf_ret hx hb hr hlocks (sf_nsx _) hS (by subst ev7_53 ev6_37 ev5_29 ev4_22 ev3_10 ev2_5; rfl) dX3_gf_reduce_68
set_option maxHeartbeats 4000000 in
set_option maxRecDepth 100000 in
/-- the loop of GF13.gf_mul_ext: j + 1 steps are done -/
theorem sf_lp_X3_gf_mul_ext {p : Program} {l : Launch} {e : Env} {R : Room} {s : State} {m : MethodId} {args : Array Value} {below : List Frame} {meth : Method} {c : Code} {cells slots : Nat} {Q : State → Prop} {H : Heap} {locs : List Loc} (hx : p.tables.exec = Jvm.exec) (hb : c.code = cX3_gf_mul_ext) (x y : Int32) (h0 : Nat) (K : ∀ ls, lv_has ls 7 [(5, .int (sf_me x y 12)), (0, .ref h0)] → W p l e R s m args below meth c H locs cells slots Q (F0 m 43 ls [])) :
    ∀ (n j : Nat), j + 1 + n = 13 → ∀ ls, lv_has ls 7 [(6, .int (nI (j + 1))), (5, .int (sf_me x y j)), (4, .int y), (3, .int x), (0, .ref h0)] → W p l e R s m args below meth c H locs cells slots Q (F0 m 16 ls []) := by
  intro n
  induction n with
  | zero =>
    intro j hj ls hl
    have ej : j = 12 := by omega
    subst ej
    refine lv_iload hx hb dX3_gf_mul_ext_16 (lv_at hl 0 rfl) ?_
    refine lv_bipush (v := 13) hx hb dX3_gf_mul_ext_18 (by decide) ?_
    refine lv_icmp_ge (tgt := 43) hx hb dX3_gf_mul_ext_20 (by decide) (fun h => ?_) (fun h => ?_)
    · exact K ls (lv_sub hl [1, 4] rfl)
    · exact absurd (show (13 : Int32) ≤ nI (12 + 1) from by decide) h
  | succ n ih =>
    intro j hj ls hl
    refine lv_iload hx hb dX3_gf_mul_ext_16 (lv_at hl 0 rfl) ?_
    refine lv_bipush (v := 13) hx hb dX3_gf_mul_ext_18 (by decide) ?_
    refine lv_icmp_ge (tgt := 43) hx hb dX3_gf_mul_ext_20 (by decide) (fun h => absurd h (show ¬ nI 13 ≤ nI (j + 1) from nI_ge (by omega) (by decide))) (fun h => ?_)
    refine lv_iload hx hb dX3_gf_mul_ext_23 (lv_at hl 1 rfl) ?_
    refine lv_iload_n hx hb dX3_gf_mul_ext_25 rfl (lv_at hl 3 rfl) ?_
    refine lv_iload hx hb dX3_gf_mul_ext_26 (lv_at hl 2 rfl) ?_
    refine lv_iconst (v := 1) hx hb dX3_gf_mul_ext_28 (by decide) ?_
    refine lv_iload hx hb dX3_gf_mul_ext_29 (lv_at hl 0 rfl) ?_
    refine lv_ishl hx hb dX3_gf_mul_ext_31 ?_
    refine lv_iand hx hb dX3_gf_mul_ext_32 ?_
    refine lv_imul hx hb dX3_gf_mul_ext_33 ?_
    refine lv_ixor hx hb dX3_gf_mul_ext_34 ?_
    refine lv_topi (fun z5 ez5 => ?_)
    have ez5 : z5 = sf_me x y (j + 1) := ez5
    subst ez5
    refine lv_istore (lv' := [(5, .int (sf_me x y (j + 1))), (6, .int (nI (j + 1))), (4, .int y), (3, .int x), (0, .ref h0)]) hx hb dX3_gf_mul_ext_35 hl (by decide) rfl (fun ls hl => ?_)
    refine lv_iinc (v := nI (j + 1 + 1)) (lv' := [(6, .int (nI (j + 1 + 1))), (5, .int (sf_me x y (j + 1))), (4, .int y), (3, .int x), (0, .ref h0)]) hx hb dX3_gf_mul_ext_37 hl (k := 1) rfl (nI_1 (j + 1)) (by decide) rfl (fun ls hl => ?_)
    refine lv_goto (tgt := 16) hx hb dX3_gf_mul_ext_40 (by decide) ?_
    exact ih (j + 1) (by omega) ls hl
set_option maxHeartbeats 4000000 in
set_option maxRecDepth 100000 in
/-- GF13.gf_mul_ext -/
theorem sf_c_X3_gf_mul_ext (l : Launch) (D : va_G) (h0 : Nat) (x y : Int32) : sf_Pu l yX3_gf_mul_ext (ws_ yX3_gf_mul_ext cX3_gf_mul_ext 7 (some .int)) 0 0 [.ref h0, .int x, .int y] (sf_Wd D [(h0, .inr (2, []))] [] []) (sf_me x y 12) := by
  refine sf_Pu.ofW (by decide) (Nat.le_of_ble_eq_true rfl) ?_
  intro p e s m below meth c A ls hx hb hr hlocks hml hown hts hw hA hS hl
  obtain ⟨hP, hK, hN⟩ := hw
  have hown : s.vm.findClass RX3 = some m.cls := hown
  have hl : lv_has ls 7 [(0, .ref h0), (1, .int x), (2, .int y)] := hl
  refine lv_iload_n hx hb dX3_gf_mul_ext_0 rfl (lv_at hl 1 rfl) ?_
  refine lv_istore_n (lv' := [(3, .int x), (0, .ref h0), (1, .int x), (2, .int y)]) hx hb dX3_gf_mul_ext_1 rfl hl (by decide) rfl (fun ls hl => ?_)
  refine lv_iload_n hx hb dX3_gf_mul_ext_2 rfl (lv_at hl 3 rfl) ?_
  refine lv_istore (lv' := [(4, .int y), (3, .int x), (0, .ref h0), (1, .int x), (2, .int y)]) hx hb dX3_gf_mul_ext_3 hl (by decide) rfl (fun ls hl => ?_)
  refine lv_iload_n hx hb dX3_gf_mul_ext_5 rfl (lv_at hl 1 rfl) ?_
  refine lv_iload hx hb dX3_gf_mul_ext_6 (lv_at hl 0 rfl) ?_
  refine lv_iconst (v := 1) hx hb dX3_gf_mul_ext_8 (by decide) ?_
  refine lv_iand hx hb dX3_gf_mul_ext_9 ?_
  refine lv_imul hx hb dX3_gf_mul_ext_10 ?_
  refine lv_topi (fun z0 ez0 => ?_)
  have ez0 : z0 = sf_me x y 0 := ez0
  subst ez0
  refine lv_istore (lv' := [(5, .int (sf_me x y 0)), (4, .int y), (3, .int x), (0, .ref h0), (1, .int x), (2, .int y)]) hx hb dX3_gf_mul_ext_11 hl (by decide) rfl (fun ls hl => ?_)
  refine lv_iconst (v := 1) hx hb dX3_gf_mul_ext_13 (by decide) ?_
  refine lv_istore (lv' := [(6, .int 1), (5, .int (sf_me x y 0)), (4, .int y), (3, .int x), (0, .ref h0), (1, .int x), (2, .int y)]) hx hb dX3_gf_mul_ext_14 hl (by decide) rfl (fun ls hl => ?_)
  refine sf_lp_X3_gf_mul_ext hx hb x y h0 (fun ls hl => ?_) 12 0 (by decide) ls (lv_sub hl [0, 1, 2, 3, 4] rfl)
  refine lv_iload hx hb dX3_gf_mul_ext_43 (lv_at hl 0 rfl) ?_
  exact sf_ret hx hb hr hlocks (vp_nar_int _) hS (rfl) dX3_gf_mul_ext_45
set_option maxHeartbeats 4000000 in
set_option maxRecDepth 100000 in
/-- the loop of GF13.gf_mul: j + 1 steps are done -/
theorem sf_lp_X3_gf_mul {p : Program} {l : Launch} {e : Env} {R : Room} {s : State} {m : MethodId} {args : Array Value} {below : List Frame} {meth : Method} {c : Code} {cells slots : Nat} {Q : State → Prop} {H : Heap} {locs : List Loc} (hx : p.tables.exec = Jvm.exec) (hb : c.code = cX3_gf_mul) (x y : Int32) (h0 : Nat) (K : ∀ ls, lv_has ls 7 [(5, .int (sf_me x y 12)), (0, .ref h0)] → W p l e R s m args below meth c H locs cells slots Q (F0 m 43 ls [])) :
    ∀ (n j : Nat), j + 1 + n = 13 → ∀ ls, lv_has ls 7 [(6, .int (nI (j + 1))), (5, .int (sf_me x y j)), (4, .int y), (3, .int x), (0, .ref h0)] → W p l e R s m args below meth c H locs cells slots Q (F0 m 16 ls []) := by
  intro n
  induction n with
  | zero =>
    intro j hj ls hl
    have ej : j = 12 := by omega
    subst ej
    refine lv_iload hx hb dX3_gf_mul_16 (lv_at hl 0 rfl) ?_
    refine lv_bipush (v := 13) hx hb dX3_gf_mul_18 (by decide) ?_
    refine lv_icmp_ge (tgt := 43) hx hb dX3_gf_mul_20 (by decide) (fun h => ?_) (fun h => ?_)
    · exact K ls (lv_sub hl [1, 4] rfl)
    · exact absurd (show (13 : Int32) ≤ nI (12 + 1) from by decide) h
  | succ n ih =>
    intro j hj ls hl
    refine lv_iload hx hb dX3_gf_mul_16 (lv_at hl 0 rfl) ?_
    refine lv_bipush (v := 13) hx hb dX3_gf_mul_18 (by decide) ?_
    refine lv_icmp_ge (tgt := 43) hx hb dX3_gf_mul_20 (by decide) (fun h => absurd h (show ¬ nI 13 ≤ nI (j + 1) from nI_ge (by omega) (by decide))) (fun h => ?_)
    refine lv_iload hx hb dX3_gf_mul_23 (lv_at hl 1 rfl) ?_
    refine lv_iload_n hx hb dX3_gf_mul_25 rfl (lv_at hl 3 rfl) ?_
    refine lv_iload hx hb dX3_gf_mul_26 (lv_at hl 2 rfl) ?_
    refine lv_iconst (v := 1) hx hb dX3_gf_mul_28 (by decide) ?_
    refine lv_iload hx hb dX3_gf_mul_29 (lv_at hl 0 rfl) ?_
    refine lv_ishl hx hb dX3_gf_mul_31 ?_
    refine lv_iand hx hb dX3_gf_mul_32 ?_
    refine lv_imul hx hb dX3_gf_mul_33 ?_
    refine lv_ixor hx hb dX3_gf_mul_34 ?_
    refine lv_topi (fun z5 ez5 => ?_)
    have ez5 : z5 = sf_me x y (j + 1) := ez5
    subst ez5
    refine lv_istore (lv' := [(5, .int (sf_me x y (j + 1))), (6, .int (nI (j + 1))), (4, .int y), (3, .int x), (0, .ref h0)]) hx hb dX3_gf_mul_35 hl (by decide) rfl (fun ls hl => ?_)
    refine lv_iinc (v := nI (j + 1 + 1)) (lv' := [(6, .int (nI (j + 1 + 1))), (5, .int (sf_me x y (j + 1))), (4, .int y), (3, .int x), (0, .ref h0)]) hx hb dX3_gf_mul_37 hl (k := 1) rfl (nI_1 (j + 1)) (by decide) rfl (fun ls hl => ?_)
    refine lv_goto (tgt := 16) hx hb dX3_gf_mul_40 (by decide) ?_
    exact ih (j + 1) (by omega) ls hl
set_option maxHeartbeats 4000000 in
set_option maxRecDepth 100000 in
/-- GF13.gf_mul -/
theorem sf_c_X3_gf_mul (l : Launch) (D : va_G) (h0 : Nat) (x y : Int32) : sf_Pu l yX3_gf_mul (ws_ yX3_gf_mul cX3_gf_mul 7 (some .short)) 1 27 [.ref h0, .int x, .int y] (sf_Wd D [(h0, .inr (2, []))] [] []) (sf_m13 x y) := by
  refine sf_Pu.ofW (by decide) (Nat.le_of_ble_eq_true rfl) ?_
  intro p e s m below meth c A ls hx hb hr hlocks hml hown hts hw hA hS hl
  obtain ⟨hP, hK, hN⟩ := hw
  have hown : s.vm.findClass RX3 = some m.cls := hown
  have hl : lv_has ls 7 [(0, .ref h0), (1, .int x), (2, .int y)] := hl
  refine lv_iload_n hx hb dX3_gf_mul_0 rfl (lv_at hl 1 rfl) ?_
  refine lv_istore_n (lv' := [(3, .int x), (0, .ref h0), (1, .int x), (2, .int y)]) hx hb dX3_gf_mul_1 rfl hl (by decide) rfl (fun ls hl => ?_)
  refine lv_iload_n hx hb dX3_gf_mul_2 rfl (lv_at hl 3 rfl) ?_
  refine lv_istore (lv' := [(4, .int y), (3, .int x), (0, .ref h0), (1, .int x), (2, .int y)]) hx hb dX3_gf_mul_3 hl (by decide) rfl (fun ls hl => ?_)
  refine lv_iload_n hx hb dX3_gf_mul_5 rfl (lv_at hl 1 rfl) ?_
  refine lv_iload hx hb dX3_gf_mul_6 (lv_at hl 0 rfl) ?_
  refine lv_iconst (v := 1) hx hb dX3_gf_mul_8 (by decide) ?_
  refine lv_iand hx hb dX3_gf_mul_9 ?_
  refine lv_imul hx hb dX3_gf_mul_10 ?_
  refine lv_topi (fun z0 ez0 => ?_)
  have ez0 : z0 = sf_me x y 0 := ez0
  subst ez0
  refine lv_istore (lv' := [(5, .int (sf_me x y 0)), (4, .int y), (3, .int x), (0, .ref h0), (1, .int x), (2, .int y)]) hx hb dX3_gf_mul_11 hl (by decide) rfl (fun ls hl => ?_)
  refine lv_iconst (v := 1) hx hb dX3_gf_mul_13 (by decide) ?_
  refine lv_istore (lv' := [(6, .int 1), (5, .int (sf_me x y 0)), (4, .int y), (3, .int x), (0, .ref h0), (1, .int x), (2, .int y)]) hx hb dX3_gf_mul_14 hl (by decide) rfl (fun ls hl => ?_)
  refine sf_lp_X3_gf_mul hx hb x y h0 (fun ls hl => ?_) 12 0 (by decide) ls (lv_sub hl [0, 1, 2, 3, 4] rfl)
  refine lv_aload_n hx hb dX3_gf_mul_43 rfl (lv_at hl 1 rfl) ?_
  refine lv_iload hx hb dX3_gf_mul_44 (lv_at hl 0 rfl) ?_
  refine sf_goV (C := RX3) (n := 1) (As := [.int (sf_me x y 12)]) (rest := []) ⟨hx, hb, hml, hown, hts⟩ (sf_c_X3_gf_reduce l D h0 ((sf_me x y 12))) (lw_V q63 q64 q65 q7 q66) (by decide +kernel) ⟨Nat.le_of_ble_eq_true rfl, Nat.le_of_ble_eq_true rfl⟩ hP hK sf_nN (va_recv hK hP (ci := 2) (q0 := 0) rfl rfl) rfl hl.1 rfl (Nat.le_of_ble_eq_true rfl) dX3_gf_mul_46 ⟨Nat.le_refl 0, Nat.le_refl 0⟩ hS hA (fun H1 locs1 hk1 hS => ?_)
  have hP := hk1 _ _ _ hP
  exact sf_ret hx hb hr hlocks (sf_n13 _) hS (rfl) dX3_gf_mul_49
set_option maxHeartbeats 4000000 in
set_option maxRecDepth 100000 in
/-- GF13.gf_sq_ext -/
theorem sf_c_X3_gf_sq_ext (l : Launch) (D : va_G) (h0 : Nat) (a : Int32) : sf_Pu l yX3_gf_sq_ext (ws_ yX3_gf_sq_ext cX3_gf_sq_ext 2 (some .int)) 1 20 [.ref h0, .int a] (sf_Wd D [(h0, .inr (2, []))] [] []) (sf_ex a) := by
  refine sf_Pu.ofW (by decide) (Nat.le_of_ble_eq_true rfl) ?_
  intro p e s m below meth c A ls hx hb hr hlocks hml hown hts hw hA hS hl
  obtain ⟨hP, hK, hN⟩ := hw
  have hown : s.vm.findClass RX3 = some m.cls := hown
  have hl : lv_has ls 2 [(0, .ref h0), (1, .int a)] := hl
  refine lv_iload_n hx hb dX3_gf_sq_ext_0 rfl (lv_at hl 1 rfl) ?_
  refine sf_goS (n := 1) (As := [.int a]) (rest := []) ⟨hx, hb, hml, hown, hts⟩ (sf_c_X5_expand16to32 l D (a)) (lw_S q88 q78 q9 q79) (by decide +kernel) ⟨Nat.le_of_ble_eq_true rfl, Nat.le_of_ble_eq_true rfl⟩ (hP.sub [] rfl) (hK.sub [] rfl) sf_nN rfl hl.1 rfl (Nat.le_of_ble_eq_true rfl) dX3_gf_sq_ext_1 ⟨Nat.le_refl 0, Nat.le_refl 0⟩ hS hA (fun H1 locs1 hk1 hS => ?_)
  have hP := hk1 _ _ _ hP
  exact sf_ret hx hb hr hlocks (vp_nar_int _) hS (rfl) dX3_gf_sq_ext_4
set_option maxHeartbeats 4000000 in
set_option maxRecDepth 100000 in
/-- GF13.gf_sq -/
theorem sf_c_X3_gf_sq (l : Launch) (D : va_G) (h0 : Nat) (a : Int32) : sf_Pu l yX3_gf_sq (ws_ yX3_gf_sq cX3_gf_sq 3 (some .short)) 1 27 [.ref h0, .int a] (sf_Wd D [(h0, .inr (2, []))] [] []) (sf_q13 a) := by
  refine sf_Pu.ofW (by decide) (Nat.le_of_ble_eq_true rfl) ?_
  intro p e s m below meth c A ls hx hb hr hlocks hml hown hts hw hA hS hl
  obtain ⟨hP, hK, hN⟩ := hw
  have hown : s.vm.findClass RX3 = some m.cls := hown
  have hl : lv_has ls 3 [(0, .ref h0), (1, .int a)] := hl
  refine lv_iload_n hx hb dX3_gf_sq_0 rfl (lv_at hl 1 rfl) ?_
  refine sf_goS (n := 1) (As := [.int a]) (rest := []) ⟨hx, hb, hml, hown, hts⟩ (sf_c_X5_expand16to32 l D (a)) (lw_S q88 q78 q9 q79) (by decide +kernel) ⟨Nat.le_of_ble_eq_true rfl, Nat.le_of_ble_eq_true rfl⟩ (hP.sub [] rfl) (hK.sub [] rfl) sf_nN rfl hl.1 rfl (Nat.le_of_ble_eq_true rfl) dX3_gf_sq_1 ⟨Nat.le_refl 0, Nat.le_refl 0⟩ hS hA (fun H1 locs1 hk1 hS => ?_)
  have hP := hk1 _ _ _ hP
  refine lv_topi (fun v2_4 ev2_4 => ?_)
  refine lv_istore_n (lv' := [(2, .int v2_4), (0, .ref h0), (1, .int a)]) hx hb dX3_gf_sq_4 rfl hl (by decide) rfl (fun ls hl => ?_)
  refine lv_aload_n hx hb dX3_gf_sq_5 rfl (lv_at hl 1 rfl) ?_
  refine lv_iload_n hx hb dX3_gf_sq_6 rfl (lv_at hl 0 rfl) ?_
  refine sf_goV (C := RX3) (n := 1) (As := [.int v2_4]) (rest := []) ⟨hx, hb, hml, hown, hts⟩ (sf_c_X3_gf_reduce l D h0 (v2_4)) (lw_V q63 q64 q65 q7 q66) (by decide +kernel) ⟨Nat.le_of_ble_eq_true rfl, Nat.le_of_ble_eq_true rfl⟩ hP hK sf_nN (va_recv hK hP (ci := 2) (q0 := 0) rfl rfl) rfl hl.1 rfl (Nat.le_of_ble_eq_true rfl) dX3_gf_sq_7 ⟨Nat.le_refl 0, Nat.le_refl 0⟩ hS hA (fun H1 locs1 hk1 hS => ?_)
  have hP := hk1 _ _ _ hP
  exact sf_ret hx hb hr hlocks (sf_n13 _) hS (by subst ev2_4; rfl) dX3_gf_sq_10
set_option maxHeartbeats 4000000 in
set_option maxRecDepth 100000 in
/-- GF13.gf_sq2 -/
theorem sf_c_X3_gf_sq2 (l : Launch) (D : va_G) (h0 : Nat) (a : Int32) : sf_Pu l yX3_gf_sq2 (ws_ yX3_gf_sq2 cX3_gf_sq2 4 (some .short)) 1 27 [.ref h0, .int a] (sf_Wd D [(h0, .inr (2, []))] [] []) (sf_qq13 a) := by
  refine sf_Pu.ofW (by decide) (Nat.le_of_ble_eq_true rfl) ?_
  intro p e s m below meth c A ls hx hb hr hlocks hml hown hts hw hA hS hl
  obtain ⟨hP, hK, hN⟩ := hw
  have hown : s.vm.findClass RX3 = some m.cls := hown
  have hl : lv_has ls 4 [(0, .ref h0), (1, .int a)] := hl
  refine lv_iload_n hx hb dX3_gf_sq2_0 rfl (lv_at hl 1 rfl) ?_
  refine sf_goS (n := 1) (As := [.int a]) (rest := []) ⟨hx, hb, hml, hown, hts⟩ (sf_c_X5_expand16to32 l D (a)) (lw_S q88 q78 q9 q79) (by decide +kernel) ⟨Nat.le_of_ble_eq_true rfl, Nat.le_of_ble_eq_true rfl⟩ (hP.sub [] rfl) (hK.sub [] rfl) sf_nN rfl hl.1 rfl (Nat.le_of_ble_eq_true rfl) dX3_gf_sq2_1 ⟨Nat.le_refl 0, Nat.le_refl 0⟩ hS hA (fun H1 locs1 hk1 hS => ?_)
  have hP := hk1 _ _ _ hP
  refine lv_topi (fun v2_4 ev2_4 => ?_)
  refine lv_istore_n (lv' := [(2, .int v2_4), (0, .ref h0), (1, .int a)]) hx hb dX3_gf_sq2_4 rfl hl (by decide) rfl (fun ls hl => ?_)
  refine lv_aload_n hx hb dX3_gf_sq2_5 rfl (lv_at hl 1 rfl) ?_
  refine lv_iload_n hx hb dX3_gf_sq2_6 rfl (lv_at hl 0 rfl) ?_
  refine sf_goV (C := RX3) (n := 1) (As := [.int v2_4]) (rest := []) ⟨hx, hb, hml, hown, hts⟩ (sf_c_X3_gf_reduce l D h0 (v2_4)) (lw_V q63 q64 q65 q7 q66) (by decide +kernel) ⟨Nat.le_of_ble_eq_true rfl, Nat.le_of_ble_eq_true rfl⟩ hP hK sf_nN (va_recv hK hP (ci := 2) (q0 := 0) rfl rfl) rfl hl.1 rfl (Nat.le_of_ble_eq_true rfl) dX3_gf_sq2_7 ⟨Nat.le_refl 0, Nat.le_refl 0⟩ hS hA (fun H1 locs1 hk1 hS => ?_)
  have hP := hk1 _ _ _ hP
  refine lv_topi (fun v1_10 ev1_10 => ?_)
  refine lv_istore_n (lv' := [(1, .int v1_10), (2, .int v2_4), (0, .ref h0)]) hx hb dX3_gf_sq2_10 rfl hl (by decide) rfl (fun ls hl => ?_)
  refine lv_iload_n hx hb dX3_gf_sq2_11 rfl (lv_at hl 0 rfl) ?_
  refine sf_goS (n := 1) (As := [.int v1_10]) (rest := []) ⟨hx, hb, hml, hown, hts⟩ (sf_c_X5_expand16to32 l D (v1_10)) (lw_S q88 q78 q9 q79) (by decide +kernel) ⟨Nat.le_of_ble_eq_true rfl, Nat.le_of_ble_eq_true rfl⟩ (hP.sub [] rfl) (hK.sub [] rfl) sf_nN rfl hl.1 rfl (Nat.le_of_ble_eq_true rfl) dX3_gf_sq2_12 ⟨Nat.le_refl 0, Nat.le_refl 0⟩ hS hA (fun H1 locs1 hk1 hS => ?_)
  have hP := hk1 _ _ _ hP
  refine lv_topi (fun v3_15 ev3_15 => ?_)
  refine lv_istore_n (lv' := [(3, .int v3_15), (1, .int v1_10), (2, .int v2_4), (0, .ref h0)]) hx hb dX3_gf_sq2_15 rfl hl (by decide) rfl (fun ls hl => ?_)
  refine lv_aload_n hx hb dX3_gf_sq2_16 rfl (lv_at hl 3 rfl) ?_
  refine lv_iload_n hx hb dX3_gf_sq2_17 rfl (lv_at hl 0 rfl) ?_
  refine sf_goV (C := RX3) (n := 1) (As := [.int v3_15]) (rest := []) ⟨hx, hb, hml, hown, hts⟩ (sf_c_X3_gf_reduce l D h0 (v3_15)) (lw_V q63 q64 q65 q7 q66) (by decide +kernel) ⟨Nat.le_of_ble_eq_true rfl, Nat.le_of_ble_eq_true rfl⟩ hP hK sf_nN (va_recv hK hP (ci := 2) (q0 := 0) rfl rfl) rfl hl.1 rfl (Nat.le_of_ble_eq_true rfl) dX3_gf_sq2_18 ⟨Nat.le_refl 0, Nat.le_refl 0⟩ hS hA (fun H1 locs1 hk1 hS => ?_)
  have hP := hk1 _ _ _ hP
  exact sf_ret hx hb hr hlocks (sf_n13 _) hS (by subst ev3_15 ev1_10 ev2_4; rfl) dX3_gf_sq2_21
end
section
/-! CONTRACTS: GF13, the products of long numbers -/
set_option maxRecDepth 100000
set_option maxHeartbeats 4000000 in
set_option maxRecDepth 100000 in
/-- GF13.gf_sqmul -/
theorem sf_c_X3_gf_sqmul (l : Launch) (D : va_G) (h0 : Nat) (a b : Int32) : sf_Pu l yX3_gf_sqmul (ws_ yX3_gf_sqmul cX3_gf_sqmul 11 (some .short)) 1 27 [.ref h0, .int a, .int b] (sf_Wd D [(h0, .inr (2, []))] [] []) (sf_sqm a b) := by
  refine sf_Pu.ofW (by decide) (Nat.le_of_ble_eq_true rfl) ?_
  intro p e s m below meth c A ls hx hb hr hlocks hml hown hts hw hA hS hl
  obtain ⟨hP, hK, hN⟩ := hw
  have hown : s.vm.findClass RX3 = some m.cls := hown
  have hl : lv_has ls 11 [(0, .ref h0), (1, .int a), (2, .int b)] := hl
  refine lv_iload_n hx hb dX3_gf_sqmul_0 rfl (lv_at hl 1 rfl) ?_
  refine lv_i2l hx hb dX3_gf_sqmul_1 rfl ?_
  refine lv_topl (fun v3_2 ev3_2 => ?_)
  refine lv_lstore_n (lv' := [(3, .long v3_2), (0, .ref h0), (1, .int a), (2, .int b)]) hx hb dX3_gf_sqmul_2 rfl hl (by decide) rfl (fun ls hl => ?_)
  refine lv_iload_n hx hb dX3_gf_sqmul_3 rfl (lv_at hl 3 rfl) ?_
  refine lv_i2l hx hb dX3_gf_sqmul_4 rfl ?_
  refine lv_topl (fun v5_5 ev5_5 => ?_)
  refine lv_lstore (lv' := [(5, .long v5_5), (3, .long v3_2), (0, .ref h0), (1, .int a), (2, .int b)]) hx hb dX3_gf_sqmul_5 hl (by decide) rfl (fun ls hl => ?_)
  refine lv_lload hx hb dX3_gf_sqmul_7 (lv_at hl 0 rfl) ?_
  refine lv_bipush (v := 6) hx hb dX3_gf_sqmul_9 (by decide) ?_
  refine lv_lshl (v := sf_lsh v5_5 6) hx hb dX3_gf_sqmul_11 rfl ?_
  refine lv_lload_n hx hb dX3_gf_sqmul_12 rfl (lv_at hl 1 rfl) ?_
  refine lv_ldc2 (v := 64) hx hb hown (hts _ q112) dX3_gf_sqmul_13 ?_
  refine lv_land hx hb dX3_gf_sqmul_16 ?_
  refine lv_lmul hx hb dX3_gf_sqmul_17 ?_
  refine lv_topl (fun v7_18 ev7_18 => ?_)
  refine lv_lstore (lv' := [(7, .long v7_18), (5, .long v5_5), (3, .long v3_2), (0, .ref h0), (1, .int a), (2, .int b)]) hx hb dX3_gf_sqmul_18 hl (by decide) rfl (fun ls hl => ?_)
  refine lv_lload_n hx hb dX3_gf_sqmul_20 rfl (lv_at hl 2 rfl) ?_
  refine lv_lload_n hx hb dX3_gf_sqmul_21 rfl (lv_at hl 2 rfl) ?_
  refine lv_bipush (v := 7) hx hb dX3_gf_sqmul_22 (by decide) ?_
  refine lv_lshl (v := sf_lsh v3_2 7) hx hb dX3_gf_sqmul_24 rfl ?_
  refine lv_lxor hx hb dX3_gf_sqmul_25 ?_
  refine lv_topl (fun v3_26 ev3_26 => ?_)
  refine lv_lstore_n (lv' := [(3, .long v3_26), (7, .long v7_18), (5, .long v5_5), (0, .ref h0), (1, .int a), (2, .int b)]) hx hb dX3_gf_sqmul_26 rfl hl (by decide) rfl (fun ls hl => ?_)
  refine lv_lload hx hb dX3_gf_sqmul_27 (lv_at hl 1 rfl) ?_
  refine lv_lload hx hb dX3_gf_sqmul_29 (lv_at hl 2 rfl) ?_
  refine lv_iconst (v := 0) hx hb dX3_gf_sqmul_31 (by decide) ?_
  refine lv_lshl (v := sf_lsh v5_5 0) hx hb dX3_gf_sqmul_32 rfl ?_
  refine lv_lload_n hx hb dX3_gf_sqmul_33 rfl (lv_at hl 0 rfl) ?_
  refine lv_ldc2 (v := 16385) hx hb hown (hts _ q113) dX3_gf_sqmul_34 ?_
  refine lv_land hx hb dX3_gf_sqmul_37 ?_
  refine lv_lmul hx hb dX3_gf_sqmul_38 ?_
  refine lv_lxor hx hb dX3_gf_sqmul_39 ?_
  refine lv_topl (fun v7_40 ev7_40 => ?_)
  refine lv_lstore (lv' := [(7, .long v7_40), (3, .long v3_26), (5, .long v5_5), (0, .ref h0), (1, .int a), (2, .int b)]) hx hb dX3_gf_sqmul_40 hl (by decide) rfl (fun ls hl => ?_)
  refine lv_lload hx hb dX3_gf_sqmul_42 (lv_at hl 0 rfl) ?_
  refine lv_lload hx hb dX3_gf_sqmul_44 (lv_at hl 2 rfl) ?_
  refine lv_iconst (v := 1) hx hb dX3_gf_sqmul_46 (by decide) ?_
  refine lv_lshl (v := sf_lsh v5_5 1) hx hb dX3_gf_sqmul_47 rfl ?_
  refine lv_lload_n hx hb dX3_gf_sqmul_48 rfl (lv_at hl 1 rfl) ?_
  refine lv_ldc2 (v := 32770) hx hb hown (hts _ q114) dX3_gf_sqmul_49 ?_
  refine lv_land hx hb dX3_gf_sqmul_52 ?_
  refine lv_lmul hx hb dX3_gf_sqmul_53 ?_
  refine lv_lxor hx hb dX3_gf_sqmul_54 ?_
  refine lv_topl (fun v7_55 ev7_55 => ?_)
  refine lv_lstore (lv' := [(7, .long v7_55), (3, .long v3_26), (5, .long v5_5), (0, .ref h0), (1, .int a), (2, .int b)]) hx hb dX3_gf_sqmul_55 hl (by decide) rfl (fun ls hl => ?_)
  refine lv_lload hx hb dX3_gf_sqmul_57 (lv_at hl 0 rfl) ?_
  refine lv_lload hx hb dX3_gf_sqmul_59 (lv_at hl 2 rfl) ?_
  refine lv_iconst (v := 2) hx hb dX3_gf_sqmul_61 (by decide) ?_
  refine lv_lshl (v := sf_lsh v5_5 2) hx hb dX3_gf_sqmul_62 rfl ?_
  refine lv_lload_n hx hb dX3_gf_sqmul_63 rfl (lv_at hl 1 rfl) ?_
  refine lv_ldc2 (v := 65540) hx hb hown (hts _ q115) dX3_gf_sqmul_64 ?_
  refine lv_land hx hb dX3_gf_sqmul_67 ?_
  refine lv_lmul hx hb dX3_gf_sqmul_68 ?_
  refine lv_lxor hx hb dX3_gf_sqmul_69 ?_
  refine lv_topl (fun v7_70 ev7_70 => ?_)
  refine lv_lstore (lv' := [(7, .long v7_70), (3, .long v3_26), (5, .long v5_5), (0, .ref h0), (1, .int a), (2, .int b)]) hx hb dX3_gf_sqmul_70 hl (by decide) rfl (fun ls hl => ?_)
  refine lv_lload hx hb dX3_gf_sqmul_72 (lv_at hl 0 rfl) ?_
  refine lv_lload hx hb dX3_gf_sqmul_74 (lv_at hl 2 rfl) ?_
  refine lv_iconst (v := 3) hx hb dX3_gf_sqmul_76 (by decide) ?_
  refine lv_lshl (v := sf_lsh v5_5 3) hx hb dX3_gf_sqmul_77 rfl ?_
  refine lv_lload_n hx hb dX3_gf_sqmul_78 rfl (lv_at hl 1 rfl) ?_
  refine lv_ldc2 (v := 131080) hx hb hown (hts _ q116) dX3_gf_sqmul_79 ?_
  refine lv_land hx hb dX3_gf_sqmul_82 ?_
  refine lv_lmul hx hb dX3_gf_sqmul_83 ?_
  refine lv_lxor hx hb dX3_gf_sqmul_84 ?_
  refine lv_topl (fun v7_85 ev7_85 => ?_)
  refine lv_lstore (lv' := [(7, .long v7_85), (3, .long v3_26), (5, .long v5_5), (0, .ref h0), (1, .int a), (2, .int b)]) hx hb dX3_gf_sqmul_85 hl (by decide) rfl (fun ls hl => ?_)
  refine lv_lload hx hb dX3_gf_sqmul_87 (lv_at hl 0 rfl) ?_
  refine lv_lload hx hb dX3_gf_sqmul_89 (lv_at hl 2 rfl) ?_
  refine lv_iconst (v := 4) hx hb dX3_gf_sqmul_91 (by decide) ?_
  refine lv_lshl (v := sf_lsh v5_5 4) hx hb dX3_gf_sqmul_92 rfl ?_
  refine lv_lload_n hx hb dX3_gf_sqmul_93 rfl (lv_at hl 1 rfl) ?_
  refine lv_ldc2 (v := 262160) hx hb hown (hts _ q117) dX3_gf_sqmul_94 ?_
  refine lv_land hx hb dX3_gf_sqmul_97 ?_
  refine lv_lmul hx hb dX3_gf_sqmul_98 ?_
  refine lv_lxor hx hb dX3_gf_sqmul_99 ?_
  refine lv_topl (fun v7_100 ev7_100 => ?_)
  refine lv_lstore (lv' := [(7, .long v7_100), (3, .long v3_26), (5, .long v5_5), (0, .ref h0), (1, .int a), (2, .int b)]) hx hb dX3_gf_sqmul_100 hl (by decide) rfl (fun ls hl => ?_)
  refine lv_lload hx hb dX3_gf_sqmul_102 (lv_at hl 0 rfl) ?_
  refine lv_lload hx hb dX3_gf_sqmul_104 (lv_at hl 2 rfl) ?_
  refine lv_iconst (v := 5) hx hb dX3_gf_sqmul_106 (by decide) ?_
  refine lv_lshl (v := sf_lsh v5_5 5) hx hb dX3_gf_sqmul_107 rfl ?_
  refine lv_lload_n hx hb dX3_gf_sqmul_108 rfl (lv_at hl 1 rfl) ?_
  refine lv_ldc2 (v := 524320) hx hb hown (hts _ q118) dX3_gf_sqmul_109 ?_
  refine lv_land hx hb dX3_gf_sqmul_112 ?_
  refine lv_lmul hx hb dX3_gf_sqmul_113 ?_
  refine lv_lxor hx hb dX3_gf_sqmul_114 ?_
  refine lv_topl (fun v7_115 ev7_115 => ?_)
  refine lv_lstore (lv' := [(7, .long v7_115), (3, .long v3_26), (5, .long v5_5), (0, .ref h0), (1, .int a), (2, .int b)]) hx hb dX3_gf_sqmul_115 hl (by decide) rfl (fun ls hl => ?_)
  refine lv_lload hx hb dX3_gf_sqmul_117 (lv_at hl 0 rfl) ?_
  refine lv_ldc2 (v := 137371844608) hx hb hown (hts _ q119) dX3_gf_sqmul_119 ?_
  refine lv_land hx hb dX3_gf_sqmul_122 ?_
  refine lv_topl (fun v9_123 ev9_123 => ?_)
  refine lv_lstore (lv' := [(9, .long v9_123), (7, .long v7_115), (3, .long v3_26), (5, .long v5_5), (0, .ref h0), (1, .int a), (2, .int b)]) hx hb dX3_gf_sqmul_123 hl (by decide) rfl (fun ls hl => ?_)
  refine lv_lload hx hb dX3_gf_sqmul_125 (lv_at hl 1 rfl) ?_
  refine lv_lload hx hb dX3_gf_sqmul_127 (lv_at hl 0 rfl) ?_
  refine lv_bipush (v := 18) hx hb dX3_gf_sqmul_129 (by decide) ?_
  refine lv_lushr (v := sf_lus v9_123 18) hx hb dX3_gf_sqmul_131 rfl ?_
  refine lv_lload hx hb dX3_gf_sqmul_132 (lv_at hl 0 rfl) ?_
  refine lv_bipush (v := 20) hx hb dX3_gf_sqmul_134 (by decide) ?_
  refine lv_lushr (v := sf_lus v9_123 20) hx hb dX3_gf_sqmul_136 rfl ?_
  refine lv_lxor hx hb dX3_gf_sqmul_137 ?_
  refine lv_lload hx hb dX3_gf_sqmul_138 (lv_at hl 0 rfl) ?_
  refine lv_bipush (v := 24) hx hb dX3_gf_sqmul_140 (by decide) ?_
  refine lv_lushr (v := sf_lus v9_123 24) hx hb dX3_gf_sqmul_142 rfl ?_
  refine lv_lxor hx hb dX3_gf_sqmul_143 ?_
  refine lv_lload hx hb dX3_gf_sqmul_144 (lv_at hl 0 rfl) ?_
  refine lv_bipush (v := 26) hx hb dX3_gf_sqmul_146 (by decide) ?_
  refine lv_lushr (v := sf_lus v9_123 26) hx hb dX3_gf_sqmul_148 rfl ?_
  refine lv_lxor hx hb dX3_gf_sqmul_149 ?_
  refine lv_lxor hx hb dX3_gf_sqmul_150 ?_
  refine lv_topl (fun v7_151 ev7_151 => ?_)
  refine lv_lstore (lv' := [(7, .long v7_151), (9, .long v9_123), (3, .long v3_26), (5, .long v5_5), (0, .ref h0), (1, .int a), (2, .int b)]) hx hb dX3_gf_sqmul_151 hl (by decide) rfl (fun ls hl => ?_)
  refine lv_aload_n hx hb dX3_gf_sqmul_153 rfl (lv_at hl 4 rfl) ?_
  refine lv_lload hx hb dX3_gf_sqmul_154 (lv_at hl 0 rfl) ?_
  refine lv_l2i hx hb dX3_gf_sqmul_156 rfl ?_
  refine lv_ldc (v := 67108863) hx hb hown (hts _ q120) dX3_gf_sqmul_157 ?_
  refine lv_iand hx hb dX3_gf_sqmul_159 ?_
  refine sf_goV (C := RX3) (n := 1) (As := [.int (v7_151.toInt32 &&& 67108863)]) (rest := []) ⟨hx, hb, hml, hown, hts⟩ (sf_c_X3_gf_reduce l D h0 ((v7_151.toInt32 &&& 67108863))) (lw_V q63 q64 q65 q7 q66) (by decide +kernel) ⟨Nat.le_of_ble_eq_true rfl, Nat.le_of_ble_eq_true rfl⟩ hP hK sf_nN (va_recv hK hP (ci := 2) (q0 := 0) rfl rfl) rfl hl.1 rfl (Nat.le_of_ble_eq_true rfl) dX3_gf_sqmul_160 ⟨Nat.le_refl 0, Nat.le_refl 0⟩ hS hA (fun H1 locs1 hk1 hS => ?_)
  have hP := hk1 _ _ _ hP
  exact sf_ret hx hb hr hlocks (sf_n13 _) hS (by subst ev7_151 ev9_123 ev7_115 ev7_100 ev7_85 ev7_70 ev7_55 ev7_40 ev3_26 ev7_18 ev5_5 ev3_2; rfl) dX3_gf_sqmul_163
set_option maxHeartbeats 4000000 in
set_option maxRecDepth 100000 in
/-- GF13.gf_sq2mul -/
theorem sf_c_X3_gf_sq2mul (l : Launch) (D : va_G) (h0 : Nat) (a b : Int32) : sf_Pu l yX3_gf_sq2mul (ws_ yX3_gf_sq2mul cX3_gf_sq2mul 11 (some .short)) 1 27 [.ref h0, .int a, .int b] (sf_Wd D [(h0, .inr (2, []))] [] []) (sf_sq2m a b) := by
  refine sf_Pu.ofW (by decide) (Nat.le_of_ble_eq_true rfl) ?_
  intro p e s m below meth c A ls hx hb hr hlocks hml hown hts hw hA hS hl
  obtain ⟨hP, hK, hN⟩ := hw
  have hown : s.vm.findClass RX3 = some m.cls := hown
  have hl : lv_has ls 11 [(0, .ref h0), (1, .int a), (2, .int b)] := hl
  refine lv_iload_n hx hb dX3_gf_sq2mul_0 rfl (lv_at hl 1 rfl) ?_
  refine lv_i2l hx hb dX3_gf_sq2mul_1 rfl ?_
  refine lv_topl (fun v3_2 ev3_2 => ?_)
  refine lv_lstore_n (lv' := [(3, .long v3_2), (0, .ref h0), (1, .int a), (2, .int b)]) hx hb dX3_gf_sq2mul_2 rfl hl (by decide) rfl (fun ls hl => ?_)
  refine lv_iload_n hx hb dX3_gf_sq2mul_3 rfl (lv_at hl 3 rfl) ?_
  refine lv_i2l hx hb dX3_gf_sq2mul_4 rfl ?_
  refine lv_topl (fun v5_5 ev5_5 => ?_)
  refine lv_lstore (lv' := [(5, .long v5_5), (3, .long v3_2), (0, .ref h0), (1, .int a), (2, .int b)]) hx hb dX3_gf_sq2mul_5 hl (by decide) rfl (fun ls hl => ?_)
  refine lv_lload hx hb dX3_gf_sq2mul_7 (lv_at hl 0 rfl) ?_
  refine lv_bipush (v := 18) hx hb dX3_gf_sq2mul_9 (by decide) ?_
  refine lv_lshl (v := sf_lsh v5_5 18) hx hb dX3_gf_sq2mul_11 rfl ?_
  refine lv_lload_n hx hb dX3_gf_sq2mul_12 rfl (lv_at hl 1 rfl) ?_
  refine lv_ldc2 (v := 64) hx hb hown (hts _ q112) dX3_gf_sq2mul_13 ?_
  refine lv_land hx hb dX3_gf_sq2mul_16 ?_
  refine lv_lmul hx hb dX3_gf_sq2mul_17 ?_
  refine lv_topl (fun v7_18 ev7_18 => ?_)
  refine lv_lstore (lv' := [(7, .long v7_18), (5, .long v5_5), (3, .long v3_2), (0, .ref h0), (1, .int a), (2, .int b)]) hx hb dX3_gf_sq2mul_18 hl (by decide) rfl (fun ls hl => ?_)
  refine lv_lload_n hx hb dX3_gf_sq2mul_20 rfl (lv_at hl 2 rfl) ?_
  refine lv_lload_n hx hb dX3_gf_sq2mul_21 rfl (lv_at hl 2 rfl) ?_
  refine lv_bipush (v := 21) hx hb dX3_gf_sq2mul_22 (by decide) ?_
  refine lv_lshl (v := sf_lsh v3_2 21) hx hb dX3_gf_sq2mul_24 rfl ?_
  refine lv_lxor hx hb dX3_gf_sq2mul_25 ?_
  refine lv_topl (fun v3_26 ev3_26 => ?_)
  refine lv_lstore_n (lv' := [(3, .long v3_26), (7, .long v7_18), (5, .long v5_5), (0, .ref h0), (1, .int a), (2, .int b)]) hx hb dX3_gf_sq2mul_26 rfl hl (by decide) rfl (fun ls hl => ?_)
  refine lv_lload hx hb dX3_gf_sq2mul_27 (lv_at hl 1 rfl) ?_
  refine lv_lload hx hb dX3_gf_sq2mul_29 (lv_at hl 2 rfl) ?_
  refine lv_iconst (v := 0) hx hb dX3_gf_sq2mul_31 (by decide) ?_
  refine lv_lshl (v := sf_lsh v5_5 0) hx hb dX3_gf_sq2mul_32 rfl ?_
  refine lv_lload_n hx hb dX3_gf_sq2mul_33 rfl (lv_at hl 0 rfl) ?_
  refine lv_ldc2 (v := 268435457) hx hb hown (hts _ q125) dX3_gf_sq2mul_34 ?_
  refine lv_land hx hb dX3_gf_sq2mul_37 ?_
  refine lv_lmul hx hb dX3_gf_sq2mul_38 ?_
  refine lv_lxor hx hb dX3_gf_sq2mul_39 ?_
  refine lv_topl (fun v7_40 ev7_40 => ?_)
  refine lv_lstore (lv' := [(7, .long v7_40), (3, .long v3_26), (5, .long v5_5), (0, .ref h0), (1, .int a), (2, .int b)]) hx hb dX3_gf_sq2mul_40 hl (by decide) rfl (fun ls hl => ?_)
  refine lv_lload hx hb dX3_gf_sq2mul_42 (lv_at hl 0 rfl) ?_
  refine lv_lload hx hb dX3_gf_sq2mul_44 (lv_at hl 2 rfl) ?_
  refine lv_iconst (v := 3) hx hb dX3_gf_sq2mul_46 (by decide) ?_
  refine lv_lshl (v := sf_lsh v5_5 3) hx hb dX3_gf_sq2mul_47 rfl ?_
  refine lv_lload_n hx hb dX3_gf_sq2mul_48 rfl (lv_at hl 1 rfl) ?_
  refine lv_ldc2 (v := 536870914) hx hb hown (hts _ q126) dX3_gf_sq2mul_49 ?_
  refine lv_land hx hb dX3_gf_sq2mul_52 ?_
  refine lv_lmul hx hb dX3_gf_sq2mul_53 ?_
  refine lv_lxor hx hb dX3_gf_sq2mul_54 ?_
  refine lv_topl (fun v7_55 ev7_55 => ?_)
  refine lv_lstore (lv' := [(7, .long v7_55), (3, .long v3_26), (5, .long v5_5), (0, .ref h0), (1, .int a), (2, .int b)]) hx hb dX3_gf_sq2mul_55 hl (by decide) rfl (fun ls hl => ?_)
  refine lv_lload hx hb dX3_gf_sq2mul_57 (lv_at hl 0 rfl) ?_
  refine lv_lload hx hb dX3_gf_sq2mul_59 (lv_at hl 2 rfl) ?_
  refine lv_bipush (v := 6) hx hb dX3_gf_sq2mul_61 (by decide) ?_
  refine lv_lshl (v := sf_lsh v5_5 6) hx hb dX3_gf_sq2mul_63 rfl ?_
  refine lv_lload_n hx hb dX3_gf_sq2mul_64 rfl (lv_at hl 1 rfl) ?_
  refine lv_ldc2 (v := 1073741828) hx hb hown (hts _ q127) dX3_gf_sq2mul_65 ?_
  refine lv_land hx hb dX3_gf_sq2mul_68 ?_
  refine lv_lmul hx hb dX3_gf_sq2mul_69 ?_
  refine lv_lxor hx hb dX3_gf_sq2mul_70 ?_
  refine lv_topl (fun v7_71 ev7_71 => ?_)
  refine lv_lstore (lv' := [(7, .long v7_71), (3, .long v3_26), (5, .long v5_5), (0, .ref h0), (1, .int a), (2, .int b)]) hx hb dX3_gf_sq2mul_71 hl (by decide) rfl (fun ls hl => ?_)
  refine lv_lload hx hb dX3_gf_sq2mul_73 (lv_at hl 0 rfl) ?_
  refine lv_lload hx hb dX3_gf_sq2mul_75 (lv_at hl 2 rfl) ?_
  refine lv_bipush (v := 9) hx hb dX3_gf_sq2mul_77 (by decide) ?_
  refine lv_lshl (v := sf_lsh v5_5 9) hx hb dX3_gf_sq2mul_79 rfl ?_
  refine lv_lload_n hx hb dX3_gf_sq2mul_80 rfl (lv_at hl 1 rfl) ?_
  refine lv_ldc2 (v := 2147483656) hx hb hown (hts _ q128) dX3_gf_sq2mul_81 ?_
  refine lv_land hx hb dX3_gf_sq2mul_84 ?_
  refine lv_lmul hx hb dX3_gf_sq2mul_85 ?_
  refine lv_lxor hx hb dX3_gf_sq2mul_86 ?_
  refine lv_topl (fun v7_87 ev7_87 => ?_)
  refine lv_lstore (lv' := [(7, .long v7_87), (3, .long v3_26), (5, .long v5_5), (0, .ref h0), (1, .int a), (2, .int b)]) hx hb dX3_gf_sq2mul_87 hl (by decide) rfl (fun ls hl => ?_)
  refine lv_lload hx hb dX3_gf_sq2mul_89 (lv_at hl 0 rfl) ?_
  refine lv_lload hx hb dX3_gf_sq2mul_91 (lv_at hl 2 rfl) ?_
  refine lv_bipush (v := 12) hx hb dX3_gf_sq2mul_93 (by decide) ?_
  refine lv_lshl (v := sf_lsh v5_5 12) hx hb dX3_gf_sq2mul_95 rfl ?_
  refine lv_lload_n hx hb dX3_gf_sq2mul_96 rfl (lv_at hl 1 rfl) ?_
  refine lv_ldc2 (v := 4294967312) hx hb hown (hts _ q129) dX3_gf_sq2mul_97 ?_
  refine lv_land hx hb dX3_gf_sq2mul_100 ?_
  refine lv_lmul hx hb dX3_gf_sq2mul_101 ?_
  refine lv_lxor hx hb dX3_gf_sq2mul_102 ?_
  refine lv_topl (fun v7_103 ev7_103 => ?_)
  refine lv_lstore (lv' := [(7, .long v7_103), (3, .long v3_26), (5, .long v5_5), (0, .ref h0), (1, .int a), (2, .int b)]) hx hb dX3_gf_sq2mul_103 hl (by decide) rfl (fun ls hl => ?_)
  refine lv_lload hx hb dX3_gf_sq2mul_105 (lv_at hl 0 rfl) ?_
  refine lv_lload hx hb dX3_gf_sq2mul_107 (lv_at hl 2 rfl) ?_
  refine lv_bipush (v := 15) hx hb dX3_gf_sq2mul_109 (by decide) ?_
  refine lv_lshl (v := sf_lsh v5_5 15) hx hb dX3_gf_sq2mul_111 rfl ?_
  refine lv_lload_n hx hb dX3_gf_sq2mul_112 rfl (lv_at hl 1 rfl) ?_
  refine lv_ldc2 (v := 8589934624) hx hb hown (hts _ q130) dX3_gf_sq2mul_113 ?_
  refine lv_land hx hb dX3_gf_sq2mul_116 ?_
  refine lv_lmul hx hb dX3_gf_sq2mul_117 ?_
  refine lv_lxor hx hb dX3_gf_sq2mul_118 ?_
  refine lv_topl (fun v7_119 ev7_119 => ?_)
  refine lv_lstore (lv' := [(7, .long v7_119), (3, .long v3_26), (5, .long v5_5), (0, .ref h0), (1, .int a), (2, .int b)]) hx hb dX3_gf_sq2mul_119 hl (by decide) rfl (fun ls hl => ?_)
  refine lv_lload hx hb dX3_gf_sq2mul_121 (lv_at hl 0 rfl) ?_
  refine lv_ldc2 (v := 2305834213120671744) hx hb hown (hts _ q131) dX3_gf_sq2mul_123 ?_
  refine lv_land hx hb dX3_gf_sq2mul_126 ?_
  refine lv_topl (fun v9_127 ev9_127 => ?_)
  refine lv_lstore (lv' := [(9, .long v9_127), (7, .long v7_119), (3, .long v3_26), (5, .long v5_5), (0, .ref h0), (1, .int a), (2, .int b)]) hx hb dX3_gf_sq2mul_127 hl (by decide) rfl (fun ls hl => ?_)
  refine lv_lload hx hb dX3_gf_sq2mul_129 (lv_at hl 1 rfl) ?_
  refine lv_lload hx hb dX3_gf_sq2mul_131 (lv_at hl 0 rfl) ?_
  refine lv_bipush (v := 18) hx hb dX3_gf_sq2mul_133 (by decide) ?_
  refine lv_lushr (v := sf_lus v9_127 18) hx hb dX3_gf_sq2mul_135 rfl ?_
  refine lv_lload hx hb dX3_gf_sq2mul_136 (lv_at hl 0 rfl) ?_
  refine lv_bipush (v := 20) hx hb dX3_gf_sq2mul_138 (by decide) ?_
  refine lv_lushr (v := sf_lus v9_127 20) hx hb dX3_gf_sq2mul_140 rfl ?_
  refine lv_lxor hx hb dX3_gf_sq2mul_141 ?_
  refine lv_lload hx hb dX3_gf_sq2mul_142 (lv_at hl 0 rfl) ?_
  refine lv_bipush (v := 24) hx hb dX3_gf_sq2mul_144 (by decide) ?_
  refine lv_lushr (v := sf_lus v9_127 24) hx hb dX3_gf_sq2mul_146 rfl ?_
  refine lv_lxor hx hb dX3_gf_sq2mul_147 ?_
  refine lv_lload hx hb dX3_gf_sq2mul_148 (lv_at hl 0 rfl) ?_
  refine lv_bipush (v := 26) hx hb dX3_gf_sq2mul_150 (by decide) ?_
  refine lv_lushr (v := sf_lus v9_127 26) hx hb dX3_gf_sq2mul_152 rfl ?_
  refine lv_lxor hx hb dX3_gf_sq2mul_153 ?_
  refine lv_lxor hx hb dX3_gf_sq2mul_154 ?_
  refine lv_topl (fun v7_155 ev7_155 => ?_)
  refine lv_lstore (lv' := [(7, .long v7_155), (9, .long v9_127), (3, .long v3_26), (5, .long v5_5), (0, .ref h0), (1, .int a), (2, .int b)]) hx hb dX3_gf_sq2mul_155 hl (by decide) rfl (fun ls hl => ?_)
  refine lv_lload hx hb dX3_gf_sq2mul_157 (lv_at hl 0 rfl) ?_
  refine lv_ldc2 (v := 8796025913344) hx hb hown (hts _ q132) dX3_gf_sq2mul_159 ?_
  refine lv_land hx hb dX3_gf_sq2mul_162 ?_
  refine lv_topl (fun v9_163 ev9_163 => ?_)
  refine lv_lstore (lv' := [(9, .long v9_163), (7, .long v7_155), (3, .long v3_26), (5, .long v5_5), (0, .ref h0), (1, .int a), (2, .int b)]) hx hb dX3_gf_sq2mul_163 hl (by decide) rfl (fun ls hl => ?_)
  refine lv_lload hx hb dX3_gf_sq2mul_165 (lv_at hl 1 rfl) ?_
  refine lv_lload hx hb dX3_gf_sq2mul_167 (lv_at hl 0 rfl) ?_
  refine lv_bipush (v := 18) hx hb dX3_gf_sq2mul_169 (by decide) ?_
  refine lv_lushr (v := sf_lus v9_163 18) hx hb dX3_gf_sq2mul_171 rfl ?_
  refine lv_lload hx hb dX3_gf_sq2mul_172 (lv_at hl 0 rfl) ?_
  refine lv_bipush (v := 20) hx hb dX3_gf_sq2mul_174 (by decide) ?_
  refine lv_lushr (v := sf_lus v9_163 20) hx hb dX3_gf_sq2mul_176 rfl ?_
  refine lv_lxor hx hb dX3_gf_sq2mul_177 ?_
  refine lv_lload hx hb dX3_gf_sq2mul_178 (lv_at hl 0 rfl) ?_
  refine lv_bipush (v := 24) hx hb dX3_gf_sq2mul_180 (by decide) ?_
  refine lv_lushr (v := sf_lus v9_163 24) hx hb dX3_gf_sq2mul_182 rfl ?_
  refine lv_lxor hx hb dX3_gf_sq2mul_183 ?_
  refine lv_lload hx hb dX3_gf_sq2mul_184 (lv_at hl 0 rfl) ?_
  refine lv_bipush (v := 26) hx hb dX3_gf_sq2mul_186 (by decide) ?_
  refine lv_lushr (v := sf_lus v9_163 26) hx hb dX3_gf_sq2mul_188 rfl ?_
  refine lv_lxor hx hb dX3_gf_sq2mul_189 ?_
  refine lv_lxor hx hb dX3_gf_sq2mul_190 ?_
  refine lv_topl (fun v7_191 ev7_191 => ?_)
  refine lv_lstore (lv' := [(7, .long v7_191), (9, .long v9_163), (3, .long v3_26), (5, .long v5_5), (0, .ref h0), (1, .int a), (2, .int b)]) hx hb dX3_gf_sq2mul_191 hl (by decide) rfl (fun ls hl => ?_)
  refine lv_aload_n hx hb dX3_gf_sq2mul_193 rfl (lv_at hl 4 rfl) ?_
  refine lv_lload hx hb dX3_gf_sq2mul_194 (lv_at hl 0 rfl) ?_
  refine lv_l2i hx hb dX3_gf_sq2mul_196 rfl ?_
  refine lv_ldc (v := 67108863) hx hb hown (hts _ q120) dX3_gf_sq2mul_197 ?_
  refine lv_iand hx hb dX3_gf_sq2mul_199 ?_
  refine sf_goV (C := RX3) (n := 1) (As := [.int (v7_191.toInt32 &&& 67108863)]) (rest := []) ⟨hx, hb, hml, hown, hts⟩ (sf_c_X3_gf_reduce l D h0 ((v7_191.toInt32 &&& 67108863))) (lw_V q63 q64 q65 q7 q66) (by decide +kernel) ⟨Nat.le_of_ble_eq_true rfl, Nat.le_of_ble_eq_true rfl⟩ hP hK sf_nN (va_recv hK hP (ci := 2) (q0 := 0) rfl rfl) rfl hl.1 rfl (Nat.le_of_ble_eq_true rfl) dX3_gf_sq2mul_200 ⟨Nat.le_refl 0, Nat.le_refl 0⟩ hS hA (fun H1 locs1 hk1 hS => ?_)
  have hP := hk1 _ _ _ hP
  exact sf_ret hx hb hr hlocks (sf_n13 _) hS (by subst ev7_191 ev9_163 ev7_155 ev9_127 ev7_119 ev7_103 ev7_87 ev7_71 ev7_55 ev7_40 ev3_26 ev7_18 ev5_5 ev3_2; rfl) dX3_gf_sq2mul_203
set_option maxHeartbeats 4000000 in
set_option maxRecDepth 100000 in
/-- GF13.gf_frac -/
theorem sf_c_X3_gf_frac (l : Launch) (D : va_G) (h0 : Nat) (d n : Int32) : sf_Pu l yX3_gf_frac (ws_ yX3_gf_frac cX3_gf_frac 6 (some .short)) 2 57 [.ref h0, .int d, .int n] (sf_Wd D [(h0, .inr (2, []))] [] []) (sf_d13 d n) := by
  refine sf_Pu.ofW (by decide) (Nat.le_of_ble_eq_true rfl) ?_
  intro p e s m below meth c A ls hx hb hr hlocks hml hown hts hw hA hS hl
  obtain ⟨hP, hK, hN⟩ := hw
  have hown : s.vm.findClass RX3 = some m.cls := hown
  have hl : lv_has ls 6 [(0, .ref h0), (1, .int d), (2, .int n)] := hl
  refine lv_aload_n hx hb dX3_gf_frac_0 rfl (lv_at hl 0 rfl) ?_
  refine lv_iload_n hx hb dX3_gf_frac_1 rfl (lv_at hl 1 rfl) ?_
  refine lv_iload_n hx hb dX3_gf_frac_2 rfl (lv_at hl 1 rfl) ?_
  refine sf_goV (C := RX3) (n := 2) (As := [.int d, .int d]) (rest := []) ⟨hx, hb, hml, hown, hts⟩ (sf_c_X3_gf_sqmul l D h0 (d) (d)) (lw_V q108 q110 qs0 q7 q111) (by decide +kernel) ⟨Nat.le_of_ble_eq_true rfl, Nat.le_of_ble_eq_true rfl⟩ hP hK sf_nN (va_recv hK hP (ci := 2) (q0 := 0) rfl rfl) rfl hl.1 rfl (Nat.le_of_ble_eq_true rfl) dX3_gf_frac_3 ⟨Nat.le_refl 0, Nat.le_refl 0⟩ hS hA (fun H1 locs1 hk1 hS => ?_)
  have hP := hk1 _ _ _ hP
  refine lv_topi (fun v3_6 ev3_6 => ?_)
  refine lv_istore_n (lv' := [(3, .int v3_6), (0, .ref h0), (1, .int d), (2, .int n)]) hx hb dX3_gf_frac_6 rfl hl (by decide) rfl (fun ls hl => ?_)
  refine lv_aload_n hx hb dX3_gf_frac_7 rfl (lv_at hl 1 rfl) ?_
  refine lv_iload_n hx hb dX3_gf_frac_8 rfl (lv_at hl 0 rfl) ?_
  refine lv_iload_n hx hb dX3_gf_frac_9 rfl (lv_at hl 0 rfl) ?_
  refine sf_goV (C := RX3) (n := 2) (As := [.int v3_6, .int v3_6]) (rest := []) ⟨hx, hb, hml, hown, hts⟩ (sf_c_X3_gf_sq2mul l D h0 (v3_6) (v3_6)) (lw_V q121 q123 qs1 q7 q124) (by decide +kernel) ⟨Nat.le_of_ble_eq_true rfl, Nat.le_of_ble_eq_true rfl⟩ hP hK sf_nN (va_recv hK hP (ci := 2) (q0 := 0) rfl rfl) rfl hl.1 rfl (Nat.le_of_ble_eq_true rfl) dX3_gf_frac_10 ⟨Nat.le_refl 0, Nat.le_refl 0⟩ hS hA (fun H1 locs1 hk1 hS => ?_)
  have hP := hk1 _ _ _ hP
  refine lv_topi (fun v4_13 ev4_13 => ?_)
  refine lv_istore (lv' := [(4, .int v4_13), (3, .int v3_6), (0, .ref h0), (1, .int d), (2, .int n)]) hx hb dX3_gf_frac_13 hl (by decide) rfl (fun ls hl => ?_)
  refine lv_aload_n hx hb dX3_gf_frac_15 rfl (lv_at hl 2 rfl) ?_
  refine lv_iload hx hb dX3_gf_frac_16 (lv_at hl 0 rfl) ?_
  refine sf_goV (C := RX3) (n := 1) (As := [.int v4_13]) (rest := []) ⟨hx, hb, hml, hown, hts⟩ (sf_c_X3_gf_sq2 l D h0 (v4_13)) (lw_V q133 q135 qs2 q7 q136) (by decide +kernel) ⟨Nat.le_of_ble_eq_true rfl, Nat.le_of_ble_eq_true rfl⟩ hP hK sf_nN (va_recv hK hP (ci := 2) (q0 := 0) rfl rfl) rfl hl.1 rfl (Nat.le_of_ble_eq_true rfl) dX3_gf_frac_18 ⟨Nat.le_refl 0, Nat.le_refl 0⟩ hS hA (fun H1 locs1 hk1 hS => ?_)
  have hP := hk1 _ _ _ hP
  refine lv_topi (fun v5_21 ev5_21 => ?_)
  refine lv_istore (lv' := [(5, .int v5_21), (4, .int v4_13), (3, .int v3_6), (0, .ref h0), (1, .int d), (2, .int n)]) hx hb dX3_gf_frac_21 hl (by decide) rfl (fun ls hl => ?_)
  refine lv_aload_n hx hb dX3_gf_frac_23 rfl (lv_at hl 3 rfl) ?_
  refine lv_iload hx hb dX3_gf_frac_24 (lv_at hl 0 rfl) ?_
  refine lv_iload hx hb dX3_gf_frac_26 (lv_at hl 1 rfl) ?_
  refine sf_goV (C := RX3) (n := 2) (As := [.int v5_21, .int v4_13]) (rest := []) ⟨hx, hb, hml, hown, hts⟩ (sf_c_X3_gf_sq2mul l D h0 (v5_21) (v4_13)) (lw_V q121 q123 qs1 q7 q124) (by decide +kernel) ⟨Nat.le_of_ble_eq_true rfl, Nat.le_of_ble_eq_true rfl⟩ hP hK sf_nN (va_recv hK hP (ci := 2) (q0 := 0) rfl rfl) rfl hl.1 rfl (Nat.le_of_ble_eq_true rfl) dX3_gf_frac_28 ⟨Nat.le_refl 0, Nat.le_refl 0⟩ hS hA (fun H1 locs1 hk1 hS => ?_)
  have hP := hk1 _ _ _ hP
  refine lv_topi (fun v5_31 ev5_31 => ?_)
  refine lv_istore (lv' := [(5, .int v5_31), (4, .int v4_13), (3, .int v3_6), (0, .ref h0), (1, .int d), (2, .int n)]) hx hb dX3_gf_frac_31 hl (by decide) rfl (fun ls hl => ?_)
  refine lv_aload_n hx hb dX3_gf_frac_33 rfl (lv_at hl 3 rfl) ?_
  refine lv_iload hx hb dX3_gf_frac_34 (lv_at hl 0 rfl) ?_
  refine sf_goV (C := RX3) (n := 1) (As := [.int v5_31]) (rest := []) ⟨hx, hb, hml, hown, hts⟩ (sf_c_X3_gf_sq2 l D h0 (v5_31)) (lw_V q133 q135 qs2 q7 q136) (by decide +kernel) ⟨Nat.le_of_ble_eq_true rfl, Nat.le_of_ble_eq_true rfl⟩ hP hK sf_nN (va_recv hK hP (ci := 2) (q0 := 0) rfl rfl) rfl hl.1 rfl (Nat.le_of_ble_eq_true rfl) dX3_gf_frac_36 ⟨Nat.le_refl 0, Nat.le_refl 0⟩ hS hA (fun H1 locs1 hk1 hS => ?_)
  have hP := hk1 _ _ _ hP
  refine lv_topi (fun v5_39 ev5_39 => ?_)
  refine lv_istore (lv' := [(5, .int v5_39), (4, .int v4_13), (3, .int v3_6), (0, .ref h0), (1, .int d), (2, .int n)]) hx hb dX3_gf_frac_39 hl (by decide) rfl (fun ls hl => ?_)
  refine lv_aload_n hx hb dX3_gf_frac_41 rfl (lv_at hl 3 rfl) ?_
  refine lv_iload hx hb dX3_gf_frac_42 (lv_at hl 0 rfl) ?_
  refine lv_iload hx hb dX3_gf_frac_44 (lv_at hl 1 rfl) ?_
  refine sf_goV (C := RX3) (n := 2) (As := [.int v5_39, .int v4_13]) (rest := []) ⟨hx, hb, hml, hown, hts⟩ (sf_c_X3_gf_sq2mul l D h0 (v5_39) (v4_13)) (lw_V q121 q123 qs1 q7 q124) (by decide +kernel) ⟨Nat.le_of_ble_eq_true rfl, Nat.le_of_ble_eq_true rfl⟩ hP hK sf_nN (va_recv hK hP (ci := 2) (q0 := 0) rfl rfl) rfl hl.1 rfl (Nat.le_of_ble_eq_true rfl) dX3_gf_frac_46 ⟨Nat.le_refl 0, Nat.le_refl 0⟩ hS hA (fun H1 locs1 hk1 hS => ?_)
  have hP := hk1 _ _ _ hP
  refine lv_topi (fun v5_49 ev5_49 => ?_)
  refine lv_istore (lv' := [(5, .int v5_49), (4, .int v4_13), (3, .int v3_6), (0, .ref h0), (1, .int d), (2, .int n)]) hx hb dX3_gf_frac_49 hl (by decide) rfl (fun ls hl => ?_)
  refine lv_aload_n hx hb dX3_gf_frac_51 rfl (lv_at hl 3 rfl) ?_
  refine lv_iload hx hb dX3_gf_frac_52 (lv_at hl 0 rfl) ?_
  refine lv_iload_n hx hb dX3_gf_frac_54 rfl (lv_at hl 5 rfl) ?_
  refine sf_goV (C := RX3) (n := 2) (As := [.int v5_49, .int n]) (rest := []) ⟨hx, hb, hml, hown, hts⟩ (sf_c_X3_gf_sqmul l D h0 (v5_49) (n)) (lw_V q108 q110 qs0 q7 q111) (by decide +kernel) ⟨Nat.le_of_ble_eq_true rfl, Nat.le_of_ble_eq_true rfl⟩ hP hK sf_nN (va_recv hK hP (ci := 2) (q0 := 0) rfl rfl) rfl hl.1 rfl (Nat.le_of_ble_eq_true rfl) dX3_gf_frac_55 ⟨Nat.le_refl 0, Nat.le_refl 0⟩ hS hA (fun H1 locs1 hk1 hS => ?_)
  have hP := hk1 _ _ _ hP
  exact sf_ret hx hb hr hlocks (sf_n13 _) hS (by subst ev5_49 ev5_39 ev5_31 ev5_21 ev4_13 ev3_6; rfl) dX3_gf_frac_58
set_option maxHeartbeats 4000000 in
set_option maxRecDepth 100000 in
/-- GF13.gf_inv -/
theorem sf_c_X3_gf_inv (l : Launch) (D : va_G) (h0 : Nat) (d : Int32) : sf_Pu l yX3_gf_inv (ws_ yX3_gf_inv cX3_gf_inv 2 (some .short)) 3 82 [.ref h0, .int d] (sf_Wd D [(h0, .inr (2, []))] [] []) (sf_i13 d) := by
  refine sf_Pu.ofW (by decide) (Nat.le_of_ble_eq_true rfl) ?_
  intro p e s m below meth c A ls hx hb hr hlocks hml hown hts hw hA hS hl
  obtain ⟨hP, hK, hN⟩ := hw
  have hown : s.vm.findClass RX3 = some m.cls := hown
  have hl : lv_has ls 2 [(0, .ref h0), (1, .int d)] := hl
  refine lv_aload_n hx hb dX3_gf_inv_0 rfl (lv_at hl 0 rfl) ?_
  refine lv_iload_n hx hb dX3_gf_inv_1 rfl (lv_at hl 1 rfl) ?_
  refine lv_iconst (v := 1) hx hb dX3_gf_inv_2 (by decide) ?_
  refine sf_goV (C := RX3) (n := 2) (As := [.int d, .int 1]) (rest := []) ⟨hx, hb, hml, hown, hts⟩ (sf_c_X3_gf_frac l D h0 (d) (1)) (lw_V q104 q105 q106 q7 q107) (by decide +kernel) ⟨Nat.le_of_ble_eq_true rfl, Nat.le_of_ble_eq_true rfl⟩ hP hK sf_nN (va_recv hK hP (ci := 2) (q0 := 0) rfl rfl) rfl hl.1 rfl (Nat.le_of_ble_eq_true rfl) dX3_gf_inv_3 ⟨Nat.le_refl 0, Nat.le_refl 0⟩ hS hA (fun H1 locs1 hk1 hS => ?_)
  have hP := hk1 _ _ _ hP
  exact sf_ret hx hb hr hlocks (sf_n13 _) hS (by rfl) dX3_gf_inv_6
end
section
/-! CONTRACTS: SmallFieldsModel -/
set_option maxRecDepth 100000
set_option maxHeartbeats 4000000 in
set_option maxRecDepth 100000 in
/-- SmallFieldsModel.multiply -/
theorem sf_c_X4_multiply (l : Launch) (D : va_G) (h0 : Nat) (k a b : Int32) : sf_Pu l yX4_multiply (ws_ yX4_multiply cX4_multiply 4 (some .int)) 1 29 [.ref h0, .int k, .int a, .int b] (sf_Wd D [] [] []) (sf_times k a b) := by
  refine sf_Pu.ofW (by decide) (Nat.le_of_ble_eq_true rfl) ?_
  intro p e s m below meth c A ls hx hb hr hlocks hml hown hts hw hA hS hl
  obtain ⟨hP, hK, hN⟩ := hw
  have hown : s.vm.findClass RX4 = some m.cls := hown
  have hl : lv_has ls 4 [(0, .ref h0), (1, .int k), (2, .int a), (3, .int b)] := hl
  refine lv_iload_n hx hb dX4_multiply_0 rfl (lv_at hl 1 rfl) ?_
  refine lv_iload_n hx hb dX4_multiply_1 rfl (lv_at hl 2 rfl) ?_
  refine lv_iload_n hx hb dX4_multiply_2 rfl (lv_at hl 3 rfl) ?_
  refine sf_goS (n := 3) (As := [.int k, .int a, .int b]) (rest := []) ⟨hx, hb, hml, hown, hts⟩ (sf_c_X4_times l D (k) (a) (b)) (lw_S q201 q202 q8 q203) (by decide +kernel) ⟨Nat.le_of_ble_eq_true rfl, Nat.le_of_ble_eq_true rfl⟩ (hP.sub [] rfl) (hK.sub [] rfl) sf_nN rfl hl.1 rfl (Nat.le_of_ble_eq_true rfl) dX4_multiply_3 ⟨Nat.le_refl 0, Nat.le_refl 0⟩ hS hA (fun H1 locs1 hk1 hS => ?_)
  have hP := hk1 _ _ _ hP
  exact sf_ret hx hb hr hlocks (vp_nar_int _) hS (by rfl) dX4_multiply_6
set_option maxHeartbeats 4000000 in
set_option maxRecDepth 100000 in
/-- SmallFieldsModel.square -/
theorem sf_c_X4_square (l : Launch) (D : va_G) (h0 : Nat) (k a : Int32) : sf_Pu l yX4_square (ws_ yX4_square cX4_square 3 (some .int)) 1 29 [.ref h0, .int k, .int a] (sf_Wd D [] [] []) (sf_times k a a) := by
  refine sf_Pu.ofW (by decide) (Nat.le_of_ble_eq_true rfl) ?_
  intro p e s m below meth c A ls hx hb hr hlocks hml hown hts hw hA hS hl
  obtain ⟨hP, hK, hN⟩ := hw
  have hown : s.vm.findClass RX4 = some m.cls := hown
  have hl : lv_has ls 3 [(0, .ref h0), (1, .int k), (2, .int a)] := hl
  refine lv_iload_n hx hb dX4_square_0 rfl (lv_at hl 1 rfl) ?_
  refine lv_iload_n hx hb dX4_square_1 rfl (lv_at hl 2 rfl) ?_
  refine lv_iload_n hx hb dX4_square_2 rfl (lv_at hl 2 rfl) ?_
  refine sf_goS (n := 3) (As := [.int k, .int a, .int a]) (rest := []) ⟨hx, hb, hml, hown, hts⟩ (sf_c_X4_times l D (k) (a) (a)) (lw_S q201 q202 q8 q203) (by decide +kernel) ⟨Nat.le_of_ble_eq_true rfl, Nat.le_of_ble_eq_true rfl⟩ (hP.sub [] rfl) (hK.sub [] rfl) sf_nN rfl hl.1 rfl (Nat.le_of_ble_eq_true rfl) dX4_square_3 ⟨Nat.le_refl 0, Nat.le_refl 0⟩ hS hA (fun H1 locs1 hk1 hS => ?_)
  have hP := hk1 _ _ _ hP
  exact sf_ret hx hb hr hlocks (vp_nar_int _) hS (by rfl) dX4_square_6
set_option maxHeartbeats 4000000 in
set_option maxRecDepth 100000 in
/-- SmallFieldsModel.wideSquare -/
theorem sf_c_X4_wideSquare (l : Launch) (D : va_G) (h0 : Nat) (k a : Int32) : sf_Pu l yX4_wideSquare (ws_ yX4_wideSquare cX4_wideSquare 3 (some .int)) 1 29 [.ref h0, .int k, .int a] (sf_Wd D [] [] []) (sf_times k a a) := by
  refine sf_Pu.ofW (by decide) (Nat.le_of_ble_eq_true rfl) ?_
  intro p e s m below meth c A ls hx hb hr hlocks hml hown hts hw hA hS hl
  obtain ⟨hP, hK, hN⟩ := hw
  have hown : s.vm.findClass RX4 = some m.cls := hown
  have hl : lv_has ls 3 [(0, .ref h0), (1, .int k), (2, .int a)] := hl
  refine lv_iload_n hx hb dX4_wideSquare_0 rfl (lv_at hl 1 rfl) ?_
  refine lv_iload_n hx hb dX4_wideSquare_1 rfl (lv_at hl 2 rfl) ?_
  refine lv_iload_n hx hb dX4_wideSquare_2 rfl (lv_at hl 2 rfl) ?_
  refine sf_goS (n := 3) (As := [.int k, .int a, .int a]) (rest := []) ⟨hx, hb, hml, hown, hts⟩ (sf_c_X4_times l D (k) (a) (a)) (lw_S q201 q202 q8 q203) (by decide +kernel) ⟨Nat.le_of_ble_eq_true rfl, Nat.le_of_ble_eq_true rfl⟩ (hP.sub [] rfl) (hK.sub [] rfl) sf_nN rfl hl.1 rfl (Nat.le_of_ble_eq_true rfl) dX4_wideSquare_3 ⟨Nat.le_refl 0, Nat.le_refl 0⟩ hS hA (fun H1 locs1 hk1 hS => ?_)
  have hP := hk1 _ _ _ hP
  exact sf_ret hx hb hr hlocks (vp_nar_int _) hS (by rfl) dX4_wideSquare_6
set_option maxHeartbeats 4000000 in
set_option maxRecDepth 100000 in
/-- SmallFieldsModel.product -/
theorem sf_c_X4_product (l : Launch) (D : va_G) (h0 : Nat) (k a b c0 d : Int32) : sf_Pu l yX4_product (ws_ yX4_product cX4_product 6 (some .int)) 1 29 [.ref h0, .int k, .int a, .int b, .int c0, .int d] (sf_Wd D [] [] []) (sf_times k a b ^^^ sf_times k c0 d) := by
  refine sf_Pu.ofW (by decide) (Nat.le_of_ble_eq_true rfl) ?_
  intro p e s m below meth c A ls hx hb hr hlocks hml hown hts hw hA hS hl
  obtain ⟨hP, hK, hN⟩ := hw
  have hown : s.vm.findClass RX4 = some m.cls := hown
  have hl : lv_has ls 6 [(0, .ref h0), (1, .int k), (2, .int a), (3, .int b), (4, .int c0), (5, .int d)] := hl
  refine lv_iload_n hx hb dX4_product_0 rfl (lv_at hl 1 rfl) ?_
  refine lv_iload_n hx hb dX4_product_1 rfl (lv_at hl 2 rfl) ?_
  refine lv_iload_n hx hb dX4_product_2 rfl (lv_at hl 3 rfl) ?_
  refine sf_goS (n := 3) (As := [.int k, .int a, .int b]) (rest := []) ⟨hx, hb, hml, hown, hts⟩ (sf_c_X4_times l D (k) (a) (b)) (lw_S q201 q202 q8 q203) (by decide +kernel) ⟨Nat.le_of_ble_eq_true rfl, Nat.le_of_ble_eq_true rfl⟩ (hP.sub [] rfl) (hK.sub [] rfl) sf_nN rfl hl.1 rfl (Nat.le_of_ble_eq_true rfl) dX4_product_3 ⟨Nat.le_refl 0, Nat.le_refl 0⟩ hS hA (fun H1 locs1 hk1 hS => ?_)
  have hP := hk1 _ _ _ hP
  refine lv_iload_n hx hb dX4_product_6 rfl (lv_at hl 1 rfl) ?_
  refine lv_iload hx hb dX4_product_7 (lv_at hl 4 rfl) ?_
  refine lv_iload hx hb dX4_product_9 (lv_at hl 5 rfl) ?_
  refine sf_goS (n := 3) (As := [.int k, .int c0, .int d]) (rest := [.int (sf_times k a b)]) ⟨hx, hb, hml, hown, hts⟩ (sf_c_X4_times l D (k) (c0) (d)) (lw_S q201 q202 q8 q203) (by decide +kernel) ⟨Nat.le_of_ble_eq_true rfl, Nat.le_of_ble_eq_true rfl⟩ (hP.sub [] rfl) (hK.sub [] rfl) sf_nN rfl hl.1 rfl (Nat.le_of_ble_eq_true rfl) dX4_product_11 ⟨Nat.le_refl 0, Nat.le_refl 0⟩ hS hA (fun H1 locs1 hk1 hS => ?_)
  have hP := hk1 _ _ _ hP
  refine lv_ixor hx hb dX4_product_14 ?_
  exact sf_ret hx hb hr hlocks (vp_nar_int _) hS (by rfl) dX4_product_15
set_option maxHeartbeats 4000000 in
set_option maxRecDepth 100000 in
/-- SmallFieldsModel.nought -/
theorem sf_c_X4_nought (l : Launch) (D : va_G) (h0 : Nat) (k a : Int32) : sf_Pu l yX4_nought (ws_ yX4_nought cX4_nought 3 (some .boolean)) 1 21 [.ref h0, .int k, .int a] (sf_Wd D [] [] []) (sf_mnou k a) := by
  refine sf_Pu.ofW (by decide) (Nat.le_of_ble_eq_true rfl) ?_
  intro p e s m below meth c A ls hx hb hr hlocks hml hown hts hw hA hS hl
  obtain ⟨hP, hK, hN⟩ := hw
  have hown : s.vm.findClass RX4 = some m.cls := hown
  have hl : lv_has ls 3 [(0, .ref h0), (1, .int k), (2, .int a)] := hl
  refine lv_iload_n hx hb dX4_nought_0 rfl (lv_at hl 1 rfl) ?_
  refine lv_iload_n hx hb dX4_nought_1 rfl (lv_at hl 2 rfl) ?_
  refine sf_goS (n := 2) (As := [.int k, .int a]) (rest := []) ⟨hx, hb, hml, hown, hts⟩ (sf_c_X4_one l D (k) (a)) (lw_S q212 q213 q8 q214) (by decide +kernel) ⟨Nat.le_of_ble_eq_true rfl, Nat.le_of_ble_eq_true rfl⟩ (hP.sub [] rfl) (hK.sub [] rfl) sf_nN rfl hl.1 rfl (Nat.le_of_ble_eq_true rfl) dX4_nought_2 ⟨Nat.le_refl 0, Nat.le_refl 0⟩ hS hA (fun H1 locs1 hk1 hS => ?_)
  have hP := hk1 _ _ _ hP
  refine lv_if_ne (tgt := 12) hx hb dX4_nought_5 (by decide) (fun h => ?_) (fun h => ?_)
  · refine lv_iconst (v := 0) hx hb dX4_nought_12 (by decide) ?_
    exact sf_ret hx hb hr hlocks rfl hS (by unfold sf_mnou; rw [if_neg h]) dX4_nought_13
  · refine lv_iconst (v := 1) hx hb dX4_nought_8 (by decide) ?_
    refine lv_goto (tgt := 13) hx hb dX4_nought_9 (by decide) ?_
    exact sf_ret hx hb hr hlocks rfl hS (by unfold sf_mnou; rw [if_pos h]) dX4_nought_13
set_option maxHeartbeats 4000000 in
set_option maxRecDepth 100000 in
/-- the loop of SmallFieldsModel.inverse: r steps to go -/
theorem sf_lp_inv {p : Program} {l : Launch} {e : Env} {R : Room} {s : State} {m : MethodId} {args : Array Value} {below : List Frame} {meth : Method} {c : Code} {cells slots : Nat} {Q : State → Prop} {A : Nat → Prop} (D : va_G) (hx : p.tables.exec = Jvm.exec) (hb : c.code = cX4_inverse) (hml : c.maxLocals = 6) (hown : s.vm.findClass RX4 = some m.cls) (hts : ∀ w ∈ lw_all, w.before args s = true) (hK : va_K D sf_cl [] s) (hR : 0 + 1 ≤ R.frames ∧ 8 + (10 + 11) + 0 ≤ R.locals) (hf : cells ≤ R.cells ∧ slots ≤ R.slots) (hA : ∀ q, s.heap.size ≤ q → A q) (k : Int32) (B : Nat) (hB : B < 100) (hk : 12 + (k &&& 1) = nI B) :
    ∀ (r : Nat) (z t : Int32) (i : Nat), i + r = B → (∀ H locs ls, va_S A s.heap H locs → lv_has ls 6 [(3, .int (sf_iv k r z t))] → W p l e R s m args below meth c H locs cells slots Q (F0 m 57 ls [])) → ∀ H locs ls, va_S A s.heap H locs → lv_has ls 6 [(5, .int (nI i)), (4, .int t), (3, .int z), (1, .int k)] → W p l e R s m args below meth c H locs cells slots Q (F0 m 22 ls []) := by
  intro r
  induction r with
  | zero =>
    intro z t i hi K H locs ls hS hl
    have hi : i = B := hi
    subst hi
    refine lv_iload hx hb dX4_inverse_22 (lv_at hl 0 rfl) ?_
    refine lv_bipush (v := 12) hx hb dX4_inverse_24 (by decide) ?_
    refine lv_iload_n hx hb dX4_inverse_26 rfl (lv_at hl 3 rfl) ?_
    refine lv_iconst (v := 1) hx hb dX4_inverse_27 (by decide) ?_
    refine lv_iand hx hb dX4_inverse_28 ?_
    refine lv_iadd hx hb dX4_inverse_29 ?_
    refine lv_icmp_ge (tgt := 57) hx hb dX4_inverse_30 (by decide) (fun h => K H locs ls hS (lv_sub hl [2] rfl)) (fun h => absurd (by rw [hk]; exact nI_le (Nat.le_refl i) (by omega)) h)
  | succ r ih =>
    intro z t i hi K H locs ls hS hl
    have hP : va_P D sf_cl [] H := fun k q h => by simp at h
    refine lv_iload hx hb dX4_inverse_22 (lv_at hl 0 rfl) ?_
    refine lv_bipush (v := 12) hx hb dX4_inverse_24 (by decide) ?_
    refine lv_iload_n hx hb dX4_inverse_26 rfl (lv_at hl 3 rfl) ?_
    refine lv_iconst (v := 1) hx hb dX4_inverse_27 (by decide) ?_
    refine lv_iand hx hb dX4_inverse_28 ?_
    refine lv_iadd hx hb dX4_inverse_29 ?_
    refine lv_icmp_ge (tgt := 57) hx hb dX4_inverse_30 (by decide) (fun h => absurd (by rw [hk] at h; exact h) (nI_ge (a := i) (b := B) (by omega) (by omega))) (fun h => ?_)
    refine lv_iload_n hx hb dX4_inverse_33 rfl (lv_at hl 3 rfl) ?_
    refine lv_iload hx hb dX4_inverse_34 (lv_at hl 1 rfl) ?_
    refine lv_iload hx hb dX4_inverse_36 (lv_at hl 1 rfl) ?_
    refine sf_goS (n := 3) (As := [.int k, .int t, .int t]) (rest := []) ⟨hx, hb, hml, hown, hts⟩ (sf_c_X4_times l D (k) (t) (t)) (lw_S q201 q202 q8 q203) (by decide +kernel) hR (hP.sub [] rfl) (hK.sub [] rfl) sf_nN rfl hl.1 rfl (Nat.le_of_ble_eq_true rfl) dX4_inverse_38 hf hS hA (fun H1 locs1 hk1 hS => ?_)
    have hP := hk1 _ _ _ hP
    refine lv_topi (fun t4 et4 => ?_)
    refine lv_istore (lv' := [(4, .int t4), (5, .int (nI i)), (3, .int z), (1, .int k)]) hx hb dX4_inverse_41 hl (by decide) rfl (fun ls hl => ?_)
    refine lv_iload_n hx hb dX4_inverse_43 rfl (lv_at hl 3 rfl) ?_
    refine lv_iload_n hx hb dX4_inverse_44 rfl (lv_at hl 2 rfl) ?_
    refine lv_iload hx hb dX4_inverse_45 (lv_at hl 0 rfl) ?_
    refine sf_goS (n := 3) (As := [.int k, .int z, .int t4]) (rest := []) ⟨hx, hb, hml, hown, hts⟩ (sf_c_X4_times l D (k) (z) (t4)) (lw_S q201 q202 q8 q203) (by decide +kernel) hR (hP.sub [] rfl) (hK.sub [] rfl) sf_nN rfl hl.1 rfl (Nat.le_of_ble_eq_true rfl) dX4_inverse_47 hf hS hA (fun H1 locs1 hk1 hS => ?_)
    have hP := hk1 _ _ _ hP
    refine lv_topi (fun z3 ez3 => ?_)
    refine lv_istore_n (lv' := [(3, .int z3), (4, .int t4), (5, .int (nI i)), (1, .int k)]) hx hb dX4_inverse_50 rfl hl (by decide) rfl (fun ls hl => ?_)
    refine lv_iinc (v := nI (i + 1)) (lv' := [(5, .int (nI (i + 1))), (3, .int z3), (4, .int t4), (1, .int k)]) hx hb dX4_inverse_51 hl (k := 2) rfl (nI_1 i) (by decide) rfl (fun ls hl => ?_)
    refine lv_goto (tgt := 22) hx hb dX4_inverse_54 (by decide) ?_
    subst ez3 et4
    exact ih _ _ (i + 1) (by omega) K _ _ ls hS (lv_sub hl [0, 2, 1, 3] rfl)
set_option maxHeartbeats 4000000 in
set_option maxRecDepth 100000 in
/-- SmallFieldsModel.inverse -/
theorem sf_c_X4_inverse (l : Launch) (D : va_G) (h0 : Nat) (k a : Int32) : sf_Pu l yX4_inverse (ws_ yX4_inverse cX4_inverse 6 (some .int)) 1 29 [.ref h0, .int k, .int a] (sf_Wd D [] [] []) (sf_minv k a) := by
  refine sf_Pu.ofW (by decide) (Nat.le_of_ble_eq_true rfl) ?_
  intro p e s m below meth c A ls hx hb hr hlocks hml hown hts hw hA hS hl
  obtain ⟨hP, hK, hN⟩ := hw
  have hown : s.vm.findClass RX4 = some m.cls := hown
  have hl : lv_has ls 6 [(0, .ref h0), (1, .int k), (2, .int a)] := hl
  refine lv_iload_n hx hb dX4_inverse_0 rfl (lv_at hl 1 rfl) ?_
  refine lv_iload_n hx hb dX4_inverse_1 rfl (lv_at hl 2 rfl) ?_
  refine sf_goS (n := 2) (As := [.int k, .int a]) (rest := []) ⟨hx, hb, hml, hown, hts⟩ (sf_c_X4_one l D (k) (a)) (lw_S q212 q213 q8 q214) (by decide +kernel) ⟨Nat.le_of_ble_eq_true rfl, Nat.le_of_ble_eq_true rfl⟩ (hP.sub [] rfl) (hK.sub [] rfl) sf_nN rfl hl.1 rfl (Nat.le_of_ble_eq_true rfl) dX4_inverse_2 ⟨Nat.le_refl 0, Nat.le_refl 0⟩ hS hA (fun H1 locs1 hk1 hS => ?_)
  have hP := hk1 _ _ _ hP
  refine lv_if_ne (tgt := 10) hx hb dX4_inverse_5 (by decide) (fun h => ?_) (fun h => ?_)
  · refine lv_iconst (v := 1) hx hb dX4_inverse_10 (by decide) ?_
    refine lv_istore_n (lv' := [(3, .int 1), (0, .ref h0), (1, .int k), (2, .int a)]) hx hb dX4_inverse_11 rfl hl (by decide) rfl (fun ls hl => ?_)
    refine lv_iload_n hx hb dX4_inverse_12 rfl (lv_at hl 2 rfl) ?_
    refine lv_iload_n hx hb dX4_inverse_13 rfl (lv_at hl 3 rfl) ?_
    refine sf_goS (n := 2) (As := [.int k, .int a]) (rest := []) ⟨hx, hb, hml, hown, hts⟩ (sf_c_X4_one l D (k) (a)) (lw_S q212 q213 q8 q214) (by decide +kernel) ⟨Nat.le_of_ble_eq_true rfl, Nat.le_of_ble_eq_true rfl⟩ (hP.sub [] rfl) (hK.sub [] rfl) sf_nN rfl hl.1 rfl (Nat.le_of_ble_eq_true rfl) dX4_inverse_14 ⟨Nat.le_refl 0, Nat.le_refl 0⟩ hS hA (fun H1 locs1 hk1 hS => ?_)
    have hP := hk1 _ _ _ hP
    refine lv_istore (lv' := [(4, .int (sf_one k a)), (3, .int 1), (0, .ref h0), (1, .int k), (2, .int a)]) hx hb dX4_inverse_17 hl (by decide) rfl (fun ls hl => ?_)
    refine lv_iconst (v := 1) hx hb dX4_inverse_19 (by decide) ?_
    refine lv_istore (lv' := [(5, .int 1), (4, .int (sf_one k a)), (3, .int 1), (0, .ref h0), (1, .int k), (2, .int a)]) hx hb dX4_inverse_20 hl (by decide) rfl (fun ls hl => ?_)
    by_cases g : k &&& 1 = 0
    · refine sf_lp_inv D hx hb hml hown hts hK ⟨Nat.le_of_ble_eq_true rfl, Nat.le_of_ble_eq_true rfl⟩ ⟨Nat.le_refl 0, Nat.le_refl 0⟩ hA k 12 (by decide) (by rw [g]; decide) 11 1 (sf_one k a) 1 (by decide) (fun H locs ls hS hl => ?_) _ _ ls hS (lv_sub hl [0, 1, 2, 4] rfl)
      refine lv_iload_n hx hb dX4_inverse_57 rfl (lv_at hl 0 rfl) ?_
      exact sf_ret hx hb hr hlocks (vp_nar_int _) hS (by unfold sf_minv; rw [if_neg h, if_pos g]) dX4_inverse_58
    · refine sf_lp_inv D hx hb hml hown hts hK ⟨Nat.le_of_ble_eq_true rfl, Nat.le_of_ble_eq_true rfl⟩ ⟨Nat.le_refl 0, Nat.le_refl 0⟩ hA k 13 (by decide) (by rw [sf_k1 g]; decide) 12 1 (sf_one k a) 1 (by decide) (fun H locs ls hS hl => ?_) _ _ ls hS (lv_sub hl [0, 1, 2, 4] rfl)
      refine lv_iload_n hx hb dX4_inverse_57 rfl (lv_at hl 0 rfl) ?_
      exact sf_ret hx hb hr hlocks (vp_nar_int _) hS (by unfold sf_minv; rw [if_neg h, if_neg g]) dX4_inverse_58
  · refine lv_iconst (v := (-1)) hx hb dX4_inverse_8 (by decide) ?_
    exact sf_ret hx hb hr hlocks (vp_nar_int _) hS (by unfold sf_minv; rw [if_pos h]) dX4_inverse_9
set_option maxHeartbeats 4000000 in
set_option maxRecDepth 100000 in
/-- SmallFieldsModel.quotient -/
theorem sf_c_X4_quotient (l : Launch) (D : va_G) (h0 : Nat) (k a b : Int32) : sf_Pu l yX4_quotient (ws_ yX4_quotient cX4_quotient 5 (some .int)) 2 54 [.ref h0, .int k, .int a, .int b] (sf_Wd D [(h0, .inr (3, []))] [] []) (sf_mquo k a b) := by
  refine sf_Pu.ofW (by decide) (Nat.le_of_ble_eq_true rfl) ?_
  intro p e s m below meth c A ls hx hb hr hlocks hml hown hts hw hA hS hl
  obtain ⟨hP, hK, hN⟩ := hw
  have hown : s.vm.findClass RX4 = some m.cls := hown
  have hl : lv_has ls 5 [(0, .ref h0), (1, .int k), (2, .int a), (3, .int b)] := hl
  refine lv_aload_n hx hb dX4_quotient_0 rfl (lv_at hl 0 rfl) ?_
  refine lv_iload_n hx hb dX4_quotient_1 rfl (lv_at hl 1 rfl) ?_
  refine lv_iload_n hx hb dX4_quotient_2 rfl (lv_at hl 3 rfl) ?_
  refine sf_goV (C := RX4) (n := 2) (As := [.int k, .int b]) (rest := []) ⟨hx, hb, hml, hown, hts⟩ (sf_c_X4_inverse l D h0 (k) (b)) (lw_V q219 q209 q210 q8 q211) (by decide +kernel) ⟨Nat.le_of_ble_eq_true rfl, Nat.le_of_ble_eq_true rfl⟩ (hP.sub [] rfl) hK sf_nN (va_recv hK hP (ci := 3) (q0 := 0) rfl rfl) rfl hl.1 rfl (Nat.le_of_ble_eq_true rfl) dX4_quotient_3 ⟨Nat.le_refl 0, Nat.le_refl 0⟩ hS hA (fun H1 locs1 hk1 hS => ?_)
  have hP := hk1 _ _ _ hP
  refine lv_istore (lv' := [(4, .int (sf_minv k b)), (0, .ref h0), (1, .int k), (2, .int a), (3, .int b)]) hx hb dX4_quotient_6 hl (by decide) rfl (fun ls hl => ?_)
  refine lv_iload hx hb dX4_quotient_8 (lv_at hl 0 rfl) ?_
  refine lv_iconst (v := (-1)) hx hb dX4_quotient_10 (by decide) ?_
  refine lv_icmp_ne (tgt := 18) hx hb dX4_quotient_11 (by decide) (fun h => ?_) (fun h => ?_)
  · refine lv_iload_n hx hb dX4_quotient_18 rfl (lv_at hl 2 rfl) ?_
    refine lv_iload_n hx hb dX4_quotient_19 rfl (lv_at hl 3 rfl) ?_
    refine lv_iload hx hb dX4_quotient_20 (lv_at hl 0 rfl) ?_
    refine sf_goS (n := 3) (As := [.int k, .int a, .int (sf_minv k b)]) (rest := []) ⟨hx, hb, hml, hown, hts⟩ (sf_c_X4_times l D (k) (a) ((sf_minv k b))) (lw_S q201 q202 q8 q203) (by decide +kernel) ⟨Nat.le_of_ble_eq_true rfl, Nat.le_of_ble_eq_true rfl⟩ (hP.sub [] rfl) (hK.sub [] rfl) sf_nN rfl hl.1 rfl (Nat.le_of_ble_eq_true rfl) dX4_quotient_22 ⟨Nat.le_refl 0, Nat.le_refl 0⟩ hS hA (fun H1 locs1 hk1 hS => ?_)
    have hP := hk1 _ _ _ hP
    exact sf_ret hx hb hr hlocks (vp_nar_int _) hS (by unfold sf_mquo; rw [if_neg h]) dX4_quotient_25
  · refine lv_iconst (v := (-1)) hx hb dX4_quotient_14 (by decide) ?_
    refine lv_goto (tgt := 25) hx hb dX4_quotient_15 (by decide) ?_
    exact sf_ret hx hb hr hlocks (vp_nar_int _) hS (by unfold sf_mquo; rw [if_pos h]) dX4_quotient_25
end
section
/-! CONTRACTS: SmallFields -/
set_option maxRecDepth 100000
/-- the abstract methods that the face calls -/
abbrev sf_xs : List MethodName := [⟨RX1, "gf_mul", "(SS)S"⟩, ⟨RX1, "gf_sq", "(S)S"⟩, ⟨RX1, "gf_inv", "(S)S"⟩, ⟨RX1, "gf_frac", "(SS)S"⟩, ⟨RX1, "gf_mul_ext", "(SS)I"⟩, ⟨RX1, "gf_reduce", "(I)S"⟩, ⟨RX1, "gf_sq_ext", "(S)I"⟩]
/-- the two fields, in their array -/
def sf_F (g12 g13 : Nat) : Nat → Option Nat := va_up (va_up (fun _ => none) (0 : Int32).toNatClampNeg (some g12)) (1 : Int32).toNatClampNeg (some g13)
theorem sf_F0 (g12 g13 : Nat) : sf_F g12 g13 (0 : Int32).toNatClampNeg = some g12 := by
  unfold sf_F
  rw [va_up_ne _ _ (by decide), va_up_self]
theorem sf_F1 (g12 g13 : Nat) : sf_F g12 g13 (1 : Int32).toNatClampNeg = some g13 := va_up_self _ _ _
set_option maxHeartbeats 4000000 in
set_option maxRecDepth 100000 in
/-- SmallFields.multiply -/
theorem sf_c_X0_multiply (l : Launch) (D : va_G) (h0 : Nat) (qa g12 g13 : Nat) (cA : ClassId) (k a b : Int32) : sf_Pu l yX0_multiply (ws_ yX0_multiply cX0_multiply 4 (some .int)) 2 53 [.ref h0, .int k, .int a, .int b] (sf_Wd D [(h0, .inr (0, [.ref qa])), (qa, .inl (cA, 2, .inr (.inr (.inr (.inr (sf_F g12 g13)))))), (g12, .inr (1, [])), (g13, .inr (2, []))] [(cA, .object "GF")] sf_xs) (sf_fmul k a b) := by
  refine sf_Pu.ofW (by decide) (Nat.le_of_ble_eq_true rfl) ?_
  intro p e s m below meth c A ls hx hb hr hlocks hml hown hts hw hA hS hl
  obtain ⟨hP, hK, hN⟩ := hw
  have hown : s.vm.findClass RX0 = some m.cls := hown
  have hl : lv_has ls 4 [(0, .ref h0), (1, .int k), (2, .int a), (3, .int b)] := hl
  refine lv_aload_n hx hb dX0_multiply_0 rfl (lv_at hl 0 rfl) ?_
  refine va_get (D := D) (ci := 0) (v := .ref qa) (C := RX0) (T := TX0) (N := 1) hx hb hts in_X0 hown hK hP 0 rfl rfl 0 (by decide) (hts _ q37) (fun _ h9 => h9) rfl dX0_multiply_1 ?_
  refine lv_iload_n hx hb dX0_multiply_4 rfl (lv_at hl 1 rfl) ?_
  refine lv_iconst (v := 1) hx hb dX0_multiply_5 (by decide) ?_
  refine lv_iand hx hb dX0_multiply_6 ?_
  by_cases h : k &&& 1 = 0
  · refine lv_topi (fun i0 ei0 => ?_)
    have ei0 : i0 = 0 := ei0.trans h
    subst ei0
    refine va_aldq hx hb hK hP 1 0 rfl rfl (vp_in_nI (n := 0) (N := 2) (by decide) (by decide)) dX0_multiply_7 ?_
    rw [sf_F0]
    refine W.eq (g2 := F0 m 8 ls [.ref g12]) rfl ?_
    refine lv_iload_n hx hb dX0_multiply_8 rfl (lv_at hl 1 rfl) ?_
    refine lv_iload_n hx hb dX0_multiply_9 rfl (lv_at hl 2 rfl) ?_
    refine sf_goS (n := 2) (As := [.int k, .int a]) (rest := [.ref g12]) ⟨hx, hb, hml, hown, hts⟩ (sf_c_X0_fair l D (k) (a)) (lw_S q45 q46 q4 q47) (by decide +kernel) ⟨Nat.le_of_ble_eq_true rfl, Nat.le_of_ble_eq_true rfl⟩ (hP.sub [] rfl) (hK.sub [] rfl) sf_nN rfl hl.1 rfl (Nat.le_of_ble_eq_true rfl) dX0_multiply_10 ⟨Nat.le_refl 0, Nat.le_refl 0⟩ hS hA (fun H1 locs1 hk1 hS => ?_)
    have hP := hk1 _ _ _ hP
    refine lv_iload_n hx hb dX0_multiply_13 rfl (lv_at hl 1 rfl) ?_
    refine lv_iload_n hx hb dX0_multiply_14 rfl (lv_at hl 3 rfl) ?_
    refine sf_goS (n := 2) (As := [.int k, .int b]) (rest := [.int (sf_fair k a), .ref g12]) ⟨hx, hb, hml, hown, hts⟩ (sf_c_X0_fair l D (k) (b)) (lw_S q45 q46 q4 q47) (by decide +kernel) ⟨Nat.le_of_ble_eq_true rfl, Nat.le_of_ble_eq_true rfl⟩ (hP.sub [] rfl) (hK.sub [] rfl) sf_nN rfl hl.1 rfl (Nat.le_of_ble_eq_true rfl) dX0_multiply_15 ⟨Nat.le_refl 0, Nat.le_refl 0⟩ hS hA (fun H1 locs1 hk1 hS => ?_)
    have hP := hk1 _ _ _ hP
    refine sf_goA (owner := RX1) (x := ⟨RX1, "gf_mul", "(SS)S"⟩) (C := RX2) (n := 2) (As := [.int (sf_fair k a), .int (sf_fair k b)]) (rest := []) ⟨hx, hb, hml, hown, hts⟩ (sf_c_X2_gf_mul l D g12 ((sf_fair k a)) ((sf_fair k b))) (sf_lwU q48 q50 q51 q52 q6 q53) (hN _ (List.mem_of_getElem? (i := 0) rfl)) (by decide +kernel) ⟨Nat.le_of_ble_eq_true rfl, Nat.le_of_ble_eq_true rfl⟩ (hP.sub (ws' := [(g12, .inr (1, []))]) [2] rfl) (hK.sub [] rfl) sf_nN (va_recv hK hP (ci := 1) (q0 := 2) rfl rfl) rfl hl.1 rfl (Nat.le_of_ble_eq_true rfl) dX0_multiply_18 ⟨Nat.le_refl 0, Nat.le_refl 0⟩ hS hA (fun H1 locs1 hk1 hS => ?_)
    have hP := hk1 _ _ _ hP
    exact sf_ret hx hb hr hlocks (vp_nar_int _) hS (by unfold sf_fmul; rw [if_pos h]) dX0_multiply_21
  · refine lv_topi (fun i0 ei0 => ?_)
    have ei0 : i0 = 1 := ei0.trans (sf_k1 h)
    subst ei0
    refine va_aldq hx hb hK hP 1 0 rfl rfl (vp_in_nI (n := 1) (N := 2) (by decide) (by decide)) dX0_multiply_7 ?_
    rw [sf_F1]
    refine W.eq (g2 := F0 m 8 ls [.ref g13]) rfl ?_
    refine lv_iload_n hx hb dX0_multiply_8 rfl (lv_at hl 1 rfl) ?_
    refine lv_iload_n hx hb dX0_multiply_9 rfl (lv_at hl 2 rfl) ?_
    refine sf_goS (n := 2) (As := [.int k, .int a]) (rest := [.ref g13]) ⟨hx, hb, hml, hown, hts⟩ (sf_c_X0_fair l D (k) (a)) (lw_S q45 q46 q4 q47) (by decide +kernel) ⟨Nat.le_of_ble_eq_true rfl, Nat.le_of_ble_eq_true rfl⟩ (hP.sub [] rfl) (hK.sub [] rfl) sf_nN rfl hl.1 rfl (Nat.le_of_ble_eq_true rfl) dX0_multiply_10 ⟨Nat.le_refl 0, Nat.le_refl 0⟩ hS hA (fun H1 locs1 hk1 hS => ?_)
    have hP := hk1 _ _ _ hP
    refine lv_iload_n hx hb dX0_multiply_13 rfl (lv_at hl 1 rfl) ?_
    refine lv_iload_n hx hb dX0_multiply_14 rfl (lv_at hl 3 rfl) ?_
    refine sf_goS (n := 2) (As := [.int k, .int b]) (rest := [.int (sf_fair k a), .ref g13]) ⟨hx, hb, hml, hown, hts⟩ (sf_c_X0_fair l D (k) (b)) (lw_S q45 q46 q4 q47) (by decide +kernel) ⟨Nat.le_of_ble_eq_true rfl, Nat.le_of_ble_eq_true rfl⟩ (hP.sub [] rfl) (hK.sub [] rfl) sf_nN rfl hl.1 rfl (Nat.le_of_ble_eq_true rfl) dX0_multiply_15 ⟨Nat.le_refl 0, Nat.le_refl 0⟩ hS hA (fun H1 locs1 hk1 hS => ?_)
    have hP := hk1 _ _ _ hP
    refine sf_goA (owner := RX1) (x := ⟨RX1, "gf_mul", "(SS)S"⟩) (C := RX3) (n := 2) (As := [.int (sf_fair k a), .int (sf_fair k b)]) (rest := []) ⟨hx, hb, hml, hown, hts⟩ (sf_c_X3_gf_mul l D g13 ((sf_fair k a)) ((sf_fair k b))) (sf_lwU q48 q50 q60 q61 q7 q62) (hN _ (List.mem_of_getElem? (i := 0) rfl)) (by decide +kernel) ⟨Nat.le_of_ble_eq_true rfl, Nat.le_of_ble_eq_true rfl⟩ (hP.sub (ws' := [(g13, .inr (2, []))]) [3] rfl) (hK.sub [] rfl) sf_nN (va_recv hK hP (ci := 2) (q0 := 3) rfl rfl) rfl hl.1 rfl (Nat.le_of_ble_eq_true rfl) dX0_multiply_18 ⟨Nat.le_refl 0, Nat.le_refl 0⟩ hS hA (fun H1 locs1 hk1 hS => ?_)
    have hP := hk1 _ _ _ hP
    exact sf_ret hx hb hr hlocks (vp_nar_int _) hS (by unfold sf_fmul; rw [if_neg h]) dX0_multiply_21
set_option maxHeartbeats 4000000 in
set_option maxRecDepth 100000 in
/-- SmallFields.square -/
theorem sf_c_X0_square (l : Launch) (D : va_G) (h0 : Nat) (qa g12 g13 : Nat) (cA : ClassId) (k a : Int32) : sf_Pu l yX0_square (ws_ yX0_square cX0_square 3 (some .int)) 2 49 [.ref h0, .int k, .int a] (sf_Wd D [(h0, .inr (0, [.ref qa])), (qa, .inl (cA, 2, .inr (.inr (.inr (.inr (sf_F g12 g13)))))), (g12, .inr (1, [])), (g13, .inr (2, []))] [(cA, .object "GF")] sf_xs) (sf_fsq k a) := by
  refine sf_Pu.ofW (by decide) (Nat.le_of_ble_eq_true rfl) ?_
  intro p e s m below meth c A ls hx hb hr hlocks hml hown hts hw hA hS hl
  obtain ⟨hP, hK, hN⟩ := hw
  have hown : s.vm.findClass RX0 = some m.cls := hown
  have hl : lv_has ls 3 [(0, .ref h0), (1, .int k), (2, .int a)] := hl
  refine lv_aload_n hx hb dX0_square_0 rfl (lv_at hl 0 rfl) ?_
  refine va_get (D := D) (ci := 0) (v := .ref qa) (C := RX0) (T := TX0) (N := 1) hx hb hts in_X0 hown hK hP 0 rfl rfl 0 (by decide) (hts _ q37) (fun _ h9 => h9) rfl dX0_square_1 ?_
  refine lv_iload_n hx hb dX0_square_4 rfl (lv_at hl 1 rfl) ?_
  refine lv_iconst (v := 1) hx hb dX0_square_5 (by decide) ?_
  refine lv_iand hx hb dX0_square_6 ?_
  by_cases h : k &&& 1 = 0
  · refine lv_topi (fun i0 ei0 => ?_)
    have ei0 : i0 = 0 := ei0.trans h
    subst ei0
    refine va_aldq hx hb hK hP 1 0 rfl rfl (vp_in_nI (n := 0) (N := 2) (by decide) (by decide)) dX0_square_7 ?_
    rw [sf_F0]
    refine W.eq (g2 := F0 m 8 ls [.ref g12]) rfl ?_
    refine lv_iload_n hx hb dX0_square_8 rfl (lv_at hl 1 rfl) ?_
    refine lv_iload_n hx hb dX0_square_9 rfl (lv_at hl 2 rfl) ?_
    refine sf_goS (n := 2) (As := [.int k, .int a]) (rest := [.ref g12]) ⟨hx, hb, hml, hown, hts⟩ (sf_c_X0_fair l D (k) (a)) (lw_S q45 q46 q4 q47) (by decide +kernel) ⟨Nat.le_of_ble_eq_true rfl, Nat.le_of_ble_eq_true rfl⟩ (hP.sub [] rfl) (hK.sub [] rfl) sf_nN rfl hl.1 rfl (Nat.le_of_ble_eq_true rfl) dX0_square_10 ⟨Nat.le_refl 0, Nat.le_refl 0⟩ hS hA (fun H1 locs1 hk1 hS => ?_)
    have hP := hk1 _ _ _ hP
    refine sf_goA (owner := RX1) (x := ⟨RX1, "gf_sq", "(S)S"⟩) (C := RX2) (n := 1) (As := [.int (sf_fair k a)]) (rest := []) ⟨hx, hb, hml, hown, hts⟩ (sf_c_X2_gf_sq l D g12 ((sf_fair k a))) (sf_lwU q71 q73 q74 q75 q6 q76) (hN _ (List.mem_of_getElem? (i := 1) rfl)) (by decide +kernel) ⟨Nat.le_of_ble_eq_true rfl, Nat.le_of_ble_eq_true rfl⟩ (hP.sub (ws' := [(g12, .inr (1, []))]) [2] rfl) (hK.sub [] rfl) sf_nN (va_recv hK hP (ci := 1) (q0 := 2) rfl rfl) rfl hl.1 rfl (Nat.le_of_ble_eq_true rfl) dX0_square_13 ⟨Nat.le_refl 0, Nat.le_refl 0⟩ hS hA (fun H1 locs1 hk1 hS => ?_)
    have hP := hk1 _ _ _ hP
    exact sf_ret hx hb hr hlocks (vp_nar_int _) hS (by unfold sf_fsq; rw [if_pos h]) dX0_square_16
  · refine lv_topi (fun i0 ei0 => ?_)
    have ei0 : i0 = 1 := ei0.trans (sf_k1 h)
    subst ei0
    refine va_aldq hx hb hK hP 1 0 rfl rfl (vp_in_nI (n := 1) (N := 2) (by decide) (by decide)) dX0_square_7 ?_
    rw [sf_F1]
    refine W.eq (g2 := F0 m 8 ls [.ref g13]) rfl ?_
    refine lv_iload_n hx hb dX0_square_8 rfl (lv_at hl 1 rfl) ?_
    refine lv_iload_n hx hb dX0_square_9 rfl (lv_at hl 2 rfl) ?_
    refine sf_goS (n := 2) (As := [.int k, .int a]) (rest := [.ref g13]) ⟨hx, hb, hml, hown, hts⟩ (sf_c_X0_fair l D (k) (a)) (lw_S q45 q46 q4 q47) (by decide +kernel) ⟨Nat.le_of_ble_eq_true rfl, Nat.le_of_ble_eq_true rfl⟩ (hP.sub [] rfl) (hK.sub [] rfl) sf_nN rfl hl.1 rfl (Nat.le_of_ble_eq_true rfl) dX0_square_10 ⟨Nat.le_refl 0, Nat.le_refl 0⟩ hS hA (fun H1 locs1 hk1 hS => ?_)
    have hP := hk1 _ _ _ hP
    refine sf_goA (owner := RX1) (x := ⟨RX1, "gf_sq", "(S)S"⟩) (C := RX3) (n := 1) (As := [.int (sf_fair k a)]) (rest := []) ⟨hx, hb, hml, hown, hts⟩ (sf_c_X3_gf_sq l D g13 ((sf_fair k a))) (sf_lwU q71 q73 q85 q86 q7 q87) (hN _ (List.mem_of_getElem? (i := 1) rfl)) (by decide +kernel) ⟨Nat.le_of_ble_eq_true rfl, Nat.le_of_ble_eq_true rfl⟩ (hP.sub (ws' := [(g13, .inr (2, []))]) [3] rfl) (hK.sub [] rfl) sf_nN (va_recv hK hP (ci := 2) (q0 := 3) rfl rfl) rfl hl.1 rfl (Nat.le_of_ble_eq_true rfl) dX0_square_13 ⟨Nat.le_refl 0, Nat.le_refl 0⟩ hS hA (fun H1 locs1 hk1 hS => ?_)
    have hP := hk1 _ _ _ hP
    exact sf_ret hx hb hr hlocks (vp_nar_int _) hS (by unfold sf_fsq; rw [if_neg h]) dX0_square_16
set_option maxHeartbeats 4000000 in
set_option maxRecDepth 100000 in
/-- SmallFields.product -/
theorem sf_c_X0_product (l : Launch) (D : va_G) (h0 : Nat) (qa g12 g13 : Nat) (cA : ClassId) (k a b c0 d : Int32) : sf_Pu l yX0_product (ws_ yX0_product cX0_product 7 (some .int)) 1 27 [.ref h0, .int k, .int a, .int b, .int c0, .int d] (sf_Wd D [(h0, .inr (0, [.ref qa])), (qa, .inl (cA, 2, .inr (.inr (.inr (.inr (sf_F g12 g13)))))), (g12, .inr (1, [])), (g13, .inr (2, []))] [(cA, .object "GF")] sf_xs) (sf_fpro k a b c0 d) := by
  refine sf_Pu.ofW (by decide) (Nat.le_of_ble_eq_true rfl) ?_
  intro p e s m below meth c A ls hx hb hr hlocks hml hown hts hw hA hS hl
  obtain ⟨hP, hK, hN⟩ := hw
  have hown : s.vm.findClass RX0 = some m.cls := hown
  have hl : lv_has ls 7 [(0, .ref h0), (1, .int k), (2, .int a), (3, .int b), (4, .int c0), (5, .int d)] := hl
  refine lv_aload_n hx hb dX0_product_0 rfl (lv_at hl 0 rfl) ?_
  refine va_get (D := D) (ci := 0) (v := .ref qa) (C := RX0) (T := TX0) (N := 1) hx hb hts in_X0 hown hK hP 0 rfl rfl 0 (by decide) (hts _ q37) (fun _ h9 => h9) rfl dX0_product_1 ?_
  refine lv_iload_n hx hb dX0_product_4 rfl (lv_at hl 1 rfl) ?_
  refine lv_iconst (v := 1) hx hb dX0_product_5 (by decide) ?_
  refine lv_iand hx hb dX0_product_6 ?_
  by_cases h : k &&& 1 = 0
  · refine lv_topi (fun i0 ei0 => ?_)
    have ei0 : i0 = 0 := ei0.trans h
    subst ei0
    refine va_aldq hx hb hK hP 1 0 rfl rfl (vp_in_nI (n := 0) (N := 2) (by decide) (by decide)) dX0_product_7 ?_
    rw [sf_F0]
    refine W.eq (g2 := F0 m 8 ls [.ref g12]) rfl ?_
    refine lv_astore (lv' := [(6, .ref g12), (0, .ref h0), (1, .int k), (2, .int a), (3, .int b), (4, .int c0), (5, .int d)]) hx hb dX0_product_8 hl (by decide) rfl (fun ls hl => ?_)
    refine lv_aload hx hb dX0_product_10 (lv_at hl 0 rfl) ?_
    refine lv_aload hx hb dX0_product_12 (lv_at hl 0 rfl) ?_
    refine lv_iload_n hx hb dX0_product_14 rfl (lv_at hl 2 rfl) ?_
    refine lv_iload_n hx hb dX0_product_15 rfl (lv_at hl 3 rfl) ?_
    refine sf_goS (n := 2) (As := [.int k, .int a]) (rest := [.ref g12, .ref g12]) ⟨hx, hb, hml, hown, hts⟩ (sf_c_X0_fair l D (k) (a)) (lw_S q45 q46 q4 q47) (by decide +kernel) ⟨Nat.le_of_ble_eq_true rfl, Nat.le_of_ble_eq_true rfl⟩ (hP.sub [] rfl) (hK.sub [] rfl) sf_nN rfl hl.1 rfl (Nat.le_of_ble_eq_true rfl) dX0_product_16 ⟨Nat.le_refl 0, Nat.le_refl 0⟩ hS hA (fun H1 locs1 hk1 hS => ?_)
    have hP := hk1 _ _ _ hP
    refine lv_iload_n hx hb dX0_product_19 rfl (lv_at hl 2 rfl) ?_
    refine lv_iload_n hx hb dX0_product_20 rfl (lv_at hl 4 rfl) ?_
    refine sf_goS (n := 2) (As := [.int k, .int b]) (rest := [.int (sf_fair k a), .ref g12, .ref g12]) ⟨hx, hb, hml, hown, hts⟩ (sf_c_X0_fair l D (k) (b)) (lw_S q45 q46 q4 q47) (by decide +kernel) ⟨Nat.le_of_ble_eq_true rfl, Nat.le_of_ble_eq_true rfl⟩ (hP.sub [] rfl) (hK.sub [] rfl) sf_nN rfl hl.1 rfl (Nat.le_of_ble_eq_true rfl) dX0_product_21 ⟨Nat.le_refl 0, Nat.le_refl 0⟩ hS hA (fun H1 locs1 hk1 hS => ?_)
    have hP := hk1 _ _ _ hP
    refine sf_goA (owner := RX1) (x := ⟨RX1, "gf_mul_ext", "(SS)I"⟩) (C := RX2) (n := 2) (As := [.int (sf_fair k a), .int (sf_fair k b)]) (rest := [.ref g12]) ⟨hx, hb, hml, hown, hts⟩ (sf_c_X2_gf_mul_ext l D g12 ((sf_fair k a)) ((sf_fair k b))) (sf_lwU q153 q155 q156 q157 q6 q158) (hN _ (List.mem_of_getElem? (i := 4) rfl)) (by decide +kernel) ⟨Nat.le_of_ble_eq_true rfl, Nat.le_of_ble_eq_true rfl⟩ (hP.sub (ws' := [(g12, .inr (1, []))]) [2] rfl) (hK.sub [] rfl) sf_nN (va_recv hK hP (ci := 1) (q0 := 2) rfl rfl) rfl hl.1 rfl (Nat.le_of_ble_eq_true rfl) dX0_product_24 ⟨Nat.le_refl 0, Nat.le_refl 0⟩ hS hA (fun H1 locs1 hk1 hS => ?_)
    have hP := hk1 _ _ _ hP
    refine lv_aload hx hb dX0_product_27 (lv_at hl 0 rfl) ?_
    refine lv_iload_n hx hb dX0_product_29 rfl (lv_at hl 2 rfl) ?_
    refine lv_iload hx hb dX0_product_30 (lv_at hl 5 rfl) ?_
    refine sf_goS (n := 2) (As := [.int k, .int c0]) (rest := [.ref g12, .int (sf_me (sf_fair k a) (sf_fair k b) 11), .ref g12]) ⟨hx, hb, hml, hown, hts⟩ (sf_c_X0_fair l D (k) (c0)) (lw_S q45 q46 q4 q47) (by decide +kernel) ⟨Nat.le_of_ble_eq_true rfl, Nat.le_of_ble_eq_true rfl⟩ (hP.sub [] rfl) (hK.sub [] rfl) sf_nN rfl hl.1 rfl (Nat.le_of_ble_eq_true rfl) dX0_product_32 ⟨Nat.le_refl 0, Nat.le_refl 0⟩ hS hA (fun H1 locs1 hk1 hS => ?_)
    have hP := hk1 _ _ _ hP
    refine lv_iload_n hx hb dX0_product_35 rfl (lv_at hl 2 rfl) ?_
    refine lv_iload hx hb dX0_product_36 (lv_at hl 6 rfl) ?_
    refine sf_goS (n := 2) (As := [.int k, .int d]) (rest := [.int (sf_fair k c0), .ref g12, .int (sf_me (sf_fair k a) (sf_fair k b) 11), .ref g12]) ⟨hx, hb, hml, hown, hts⟩ (sf_c_X0_fair l D (k) (d)) (lw_S q45 q46 q4 q47) (by decide +kernel) ⟨Nat.le_of_ble_eq_true rfl, Nat.le_of_ble_eq_true rfl⟩ (hP.sub [] rfl) (hK.sub [] rfl) sf_nN rfl hl.1 rfl (Nat.le_of_ble_eq_true rfl) dX0_product_38 ⟨Nat.le_refl 0, Nat.le_refl 0⟩ hS hA (fun H1 locs1 hk1 hS => ?_)
    have hP := hk1 _ _ _ hP
    refine sf_goA (owner := RX1) (x := ⟨RX1, "gf_mul_ext", "(SS)I"⟩) (C := RX2) (n := 2) (As := [.int (sf_fair k c0), .int (sf_fair k d)]) (rest := [.int (sf_me (sf_fair k a) (sf_fair k b) 11), .ref g12]) ⟨hx, hb, hml, hown, hts⟩ (sf_c_X2_gf_mul_ext l D g12 ((sf_fair k c0)) ((sf_fair k d))) (sf_lwU q153 q155 q156 q157 q6 q158) (hN _ (List.mem_of_getElem? (i := 4) rfl)) (by decide +kernel) ⟨Nat.le_of_ble_eq_true rfl, Nat.le_of_ble_eq_true rfl⟩ (hP.sub (ws' := [(g12, .inr (1, []))]) [2] rfl) (hK.sub [] rfl) sf_nN (va_recv hK hP (ci := 1) (q0 := 2) rfl rfl) rfl hl.1 rfl (Nat.le_of_ble_eq_true rfl) dX0_product_41 ⟨Nat.le_refl 0, Nat.le_refl 0⟩ hS hA (fun H1 locs1 hk1 hS => ?_)
    have hP := hk1 _ _ _ hP
    refine lv_ixor hx hb dX0_product_44 ?_
    refine sf_goA (owner := RX1) (x := ⟨RX1, "gf_reduce", "(I)S"⟩) (C := RX2) (n := 1) (As := [.int ((sf_me (sf_fair k a) (sf_fair k b) 11) ^^^ (sf_me (sf_fair k c0) (sf_fair k d) 11))]) (rest := []) ⟨hx, hb, hml, hown, hts⟩ (sf_c_X2_gf_reduce l D g12 (((sf_me (sf_fair k a) (sf_fair k b) 11) ^^^ (sf_me (sf_fair k c0) (sf_fair k d) 11)))) (sf_lwU q162 q164 q165 q55 q6 q57) (hN _ (List.mem_of_getElem? (i := 5) rfl)) (by decide +kernel) ⟨Nat.le_of_ble_eq_true rfl, Nat.le_of_ble_eq_true rfl⟩ (hP.sub (ws' := [(g12, .inr (1, []))]) [2] rfl) (hK.sub [] rfl) sf_nN (va_recv hK hP (ci := 1) (q0 := 2) rfl rfl) rfl hl.1 rfl (Nat.le_of_ble_eq_true rfl) dX0_product_45 ⟨Nat.le_refl 0, Nat.le_refl 0⟩ hS hA (fun H1 locs1 hk1 hS => ?_)
    have hP := hk1 _ _ _ hP
    exact sf_ret hx hb hr hlocks (vp_nar_int _) hS (by unfold sf_fpro; rw [if_pos h]) dX0_product_48
  · refine lv_topi (fun i0 ei0 => ?_)
    have ei0 : i0 = 1 := ei0.trans (sf_k1 h)
    subst ei0
    refine va_aldq hx hb hK hP 1 0 rfl rfl (vp_in_nI (n := 1) (N := 2) (by decide) (by decide)) dX0_product_7 ?_
    rw [sf_F1]
    refine W.eq (g2 := F0 m 8 ls [.ref g13]) rfl ?_
    refine lv_astore (lv' := [(6, .ref g13), (0, .ref h0), (1, .int k), (2, .int a), (3, .int b), (4, .int c0), (5, .int d)]) hx hb dX0_product_8 hl (by decide) rfl (fun ls hl => ?_)
    refine lv_aload hx hb dX0_product_10 (lv_at hl 0 rfl) ?_
    refine lv_aload hx hb dX0_product_12 (lv_at hl 0 rfl) ?_
    refine lv_iload_n hx hb dX0_product_14 rfl (lv_at hl 2 rfl) ?_
    refine lv_iload_n hx hb dX0_product_15 rfl (lv_at hl 3 rfl) ?_
    refine sf_goS (n := 2) (As := [.int k, .int a]) (rest := [.ref g13, .ref g13]) ⟨hx, hb, hml, hown, hts⟩ (sf_c_X0_fair l D (k) (a)) (lw_S q45 q46 q4 q47) (by decide +kernel) ⟨Nat.le_of_ble_eq_true rfl, Nat.le_of_ble_eq_true rfl⟩ (hP.sub [] rfl) (hK.sub [] rfl) sf_nN rfl hl.1 rfl (Nat.le_of_ble_eq_true rfl) dX0_product_16 ⟨Nat.le_refl 0, Nat.le_refl 0⟩ hS hA (fun H1 locs1 hk1 hS => ?_)
    have hP := hk1 _ _ _ hP
    refine lv_iload_n hx hb dX0_product_19 rfl (lv_at hl 2 rfl) ?_
    refine lv_iload_n hx hb dX0_product_20 rfl (lv_at hl 4 rfl) ?_
    refine sf_goS (n := 2) (As := [.int k, .int b]) (rest := [.int (sf_fair k a), .ref g13, .ref g13]) ⟨hx, hb, hml, hown, hts⟩ (sf_c_X0_fair l D (k) (b)) (lw_S q45 q46 q4 q47) (by decide +kernel) ⟨Nat.le_of_ble_eq_true rfl, Nat.le_of_ble_eq_true rfl⟩ (hP.sub [] rfl) (hK.sub [] rfl) sf_nN rfl hl.1 rfl (Nat.le_of_ble_eq_true rfl) dX0_product_21 ⟨Nat.le_refl 0, Nat.le_refl 0⟩ hS hA (fun H1 locs1 hk1 hS => ?_)
    have hP := hk1 _ _ _ hP
    refine sf_goA (owner := RX1) (x := ⟨RX1, "gf_mul_ext", "(SS)I"⟩) (C := RX3) (n := 2) (As := [.int (sf_fair k a), .int (sf_fair k b)]) (rest := [.ref g13]) ⟨hx, hb, hml, hown, hts⟩ (sf_c_X3_gf_mul_ext l D g13 ((sf_fair k a)) ((sf_fair k b))) (sf_lwU q153 q155 q159 q160 q7 q161) (hN _ (List.mem_of_getElem? (i := 4) rfl)) (by decide +kernel) ⟨Nat.le_of_ble_eq_true rfl, Nat.le_of_ble_eq_true rfl⟩ (hP.sub (ws' := [(g13, .inr (2, []))]) [3] rfl) (hK.sub [] rfl) sf_nN (va_recv hK hP (ci := 2) (q0 := 3) rfl rfl) rfl hl.1 rfl (Nat.le_of_ble_eq_true rfl) dX0_product_24 ⟨Nat.le_refl 0, Nat.le_refl 0⟩ hS hA (fun H1 locs1 hk1 hS => ?_)
    have hP := hk1 _ _ _ hP
    refine lv_aload hx hb dX0_product_27 (lv_at hl 0 rfl) ?_
    refine lv_iload_n hx hb dX0_product_29 rfl (lv_at hl 2 rfl) ?_
    refine lv_iload hx hb dX0_product_30 (lv_at hl 5 rfl) ?_
    refine sf_goS (n := 2) (As := [.int k, .int c0]) (rest := [.ref g13, .int (sf_me (sf_fair k a) (sf_fair k b) 12), .ref g13]) ⟨hx, hb, hml, hown, hts⟩ (sf_c_X0_fair l D (k) (c0)) (lw_S q45 q46 q4 q47) (by decide +kernel) ⟨Nat.le_of_ble_eq_true rfl, Nat.le_of_ble_eq_true rfl⟩ (hP.sub [] rfl) (hK.sub [] rfl) sf_nN rfl hl.1 rfl (Nat.le_of_ble_eq_true rfl) dX0_product_32 ⟨Nat.le_refl 0, Nat.le_refl 0⟩ hS hA (fun H1 locs1 hk1 hS => ?_)
    have hP := hk1 _ _ _ hP
    refine lv_iload_n hx hb dX0_product_35 rfl (lv_at hl 2 rfl) ?_
    refine lv_iload hx hb dX0_product_36 (lv_at hl 6 rfl) ?_
    refine sf_goS (n := 2) (As := [.int k, .int d]) (rest := [.int (sf_fair k c0), .ref g13, .int (sf_me (sf_fair k a) (sf_fair k b) 12), .ref g13]) ⟨hx, hb, hml, hown, hts⟩ (sf_c_X0_fair l D (k) (d)) (lw_S q45 q46 q4 q47) (by decide +kernel) ⟨Nat.le_of_ble_eq_true rfl, Nat.le_of_ble_eq_true rfl⟩ (hP.sub [] rfl) (hK.sub [] rfl) sf_nN rfl hl.1 rfl (Nat.le_of_ble_eq_true rfl) dX0_product_38 ⟨Nat.le_refl 0, Nat.le_refl 0⟩ hS hA (fun H1 locs1 hk1 hS => ?_)
    have hP := hk1 _ _ _ hP
    refine sf_goA (owner := RX1) (x := ⟨RX1, "gf_mul_ext", "(SS)I"⟩) (C := RX3) (n := 2) (As := [.int (sf_fair k c0), .int (sf_fair k d)]) (rest := [.int (sf_me (sf_fair k a) (sf_fair k b) 12), .ref g13]) ⟨hx, hb, hml, hown, hts⟩ (sf_c_X3_gf_mul_ext l D g13 ((sf_fair k c0)) ((sf_fair k d))) (sf_lwU q153 q155 q159 q160 q7 q161) (hN _ (List.mem_of_getElem? (i := 4) rfl)) (by decide +kernel) ⟨Nat.le_of_ble_eq_true rfl, Nat.le_of_ble_eq_true rfl⟩ (hP.sub (ws' := [(g13, .inr (2, []))]) [3] rfl) (hK.sub [] rfl) sf_nN (va_recv hK hP (ci := 2) (q0 := 3) rfl rfl) rfl hl.1 rfl (Nat.le_of_ble_eq_true rfl) dX0_product_41 ⟨Nat.le_refl 0, Nat.le_refl 0⟩ hS hA (fun H1 locs1 hk1 hS => ?_)
    have hP := hk1 _ _ _ hP
    refine lv_ixor hx hb dX0_product_44 ?_
    refine sf_goA (owner := RX1) (x := ⟨RX1, "gf_reduce", "(I)S"⟩) (C := RX3) (n := 1) (As := [.int ((sf_me (sf_fair k a) (sf_fair k b) 12) ^^^ (sf_me (sf_fair k c0) (sf_fair k d) 12))]) (rest := []) ⟨hx, hb, hml, hown, hts⟩ (sf_c_X3_gf_reduce l D g13 (((sf_me (sf_fair k a) (sf_fair k b) 12) ^^^ (sf_me (sf_fair k c0) (sf_fair k d) 12)))) (sf_lwU q162 q164 q166 q64 q7 q66) (hN _ (List.mem_of_getElem? (i := 5) rfl)) (by decide +kernel) ⟨Nat.le_of_ble_eq_true rfl, Nat.le_of_ble_eq_true rfl⟩ (hP.sub (ws' := [(g13, .inr (2, []))]) [3] rfl) (hK.sub [] rfl) sf_nN (va_recv hK hP (ci := 2) (q0 := 3) rfl rfl) rfl hl.1 rfl (Nat.le_of_ble_eq_true rfl) dX0_product_45 ⟨Nat.le_refl 0, Nat.le_refl 0⟩ hS hA (fun H1 locs1 hk1 hS => ?_)
    have hP := hk1 _ _ _ hP
    exact sf_ret hx hb hr hlocks (vp_nar_int _) hS (by unfold sf_fpro; rw [if_neg h]) dX0_product_48
set_option maxHeartbeats 4000000 in
set_option maxRecDepth 100000 in
/-- SmallFields.wideSquare -/
theorem sf_c_X0_wideSquare (l : Launch) (D : va_G) (h0 : Nat) (qa g12 g13 : Nat) (cA : ClassId) (k a : Int32) : sf_Pu l yX0_wideSquare (ws_ yX0_wideSquare cX0_wideSquare 4 (some .int)) 2 41 [.ref h0, .int k, .int a] (sf_Wd D [(h0, .inr (0, [.ref qa])), (qa, .inl (cA, 2, .inr (.inr (.inr (.inr (sf_F g12 g13)))))), (g12, .inr (1, [])), (g13, .inr (2, []))] [(cA, .object "GF")] sf_xs) (sf_fsq k a) := by
  refine sf_Pu.ofW (by decide) (Nat.le_of_ble_eq_true rfl) ?_
  intro p e s m below meth c A ls hx hb hr hlocks hml hown hts hw hA hS hl
  obtain ⟨hP, hK, hN⟩ := hw
  have hown : s.vm.findClass RX0 = some m.cls := hown
  have hl : lv_has ls 4 [(0, .ref h0), (1, .int k), (2, .int a)] := hl
  refine lv_aload_n hx hb dX0_wideSquare_0 rfl (lv_at hl 0 rfl) ?_
  refine va_get (D := D) (ci := 0) (v := .ref qa) (C := RX0) (T := TX0) (N := 1) hx hb hts in_X0 hown hK hP 0 rfl rfl 0 (by decide) (hts _ q37) (fun _ h9 => h9) rfl dX0_wideSquare_1 ?_
  refine lv_iload_n hx hb dX0_wideSquare_4 rfl (lv_at hl 1 rfl) ?_
  refine lv_iconst (v := 1) hx hb dX0_wideSquare_5 (by decide) ?_
  refine lv_iand hx hb dX0_wideSquare_6 ?_
  by_cases h : k &&& 1 = 0
  · refine lv_topi (fun i0 ei0 => ?_)
    have ei0 : i0 = 0 := ei0.trans h
    subst ei0
    refine va_aldq hx hb hK hP 1 0 rfl rfl (vp_in_nI (n := 0) (N := 2) (by decide) (by decide)) dX0_wideSquare_7 ?_
    rw [sf_F0]
    refine W.eq (g2 := F0 m 8 ls [.ref g12]) rfl ?_
    refine lv_astore_n (lv' := [(3, .ref g12), (0, .ref h0), (1, .int k), (2, .int a)]) hx hb dX0_wideSquare_8 rfl hl (by decide) rfl (fun ls hl => ?_)
    refine lv_aload_n hx hb dX0_wideSquare_9 rfl (lv_at hl 0 rfl) ?_
    refine lv_aload_n hx hb dX0_wideSquare_10 rfl (lv_at hl 0 rfl) ?_
    refine lv_iload_n hx hb dX0_wideSquare_11 rfl (lv_at hl 2 rfl) ?_
    refine lv_iload_n hx hb dX0_wideSquare_12 rfl (lv_at hl 3 rfl) ?_
    refine sf_goS (n := 2) (As := [.int k, .int a]) (rest := [.ref g12, .ref g12]) ⟨hx, hb, hml, hown, hts⟩ (sf_c_X0_fair l D (k) (a)) (lw_S q45 q46 q4 q47) (by decide +kernel) ⟨Nat.le_of_ble_eq_true rfl, Nat.le_of_ble_eq_true rfl⟩ (hP.sub [] rfl) (hK.sub [] rfl) sf_nN rfl hl.1 rfl (Nat.le_of_ble_eq_true rfl) dX0_wideSquare_13 ⟨Nat.le_refl 0, Nat.le_refl 0⟩ hS hA (fun H1 locs1 hk1 hS => ?_)
    have hP := hk1 _ _ _ hP
    refine sf_goA (owner := RX1) (x := ⟨RX1, "gf_sq_ext", "(S)I"⟩) (C := RX2) (n := 1) (As := [.int (sf_fair k a)]) (rest := [.ref g12]) ⟨hx, hb, hml, hown, hts⟩ (sf_c_X2_gf_sq_ext l D g12 ((sf_fair k a))) (sf_lwU q171 q173 q174 q175 q6 q176) (hN _ (List.mem_of_getElem? (i := 6) rfl)) (by decide +kernel) ⟨Nat.le_of_ble_eq_true rfl, Nat.le_of_ble_eq_true rfl⟩ (hP.sub (ws' := [(g12, .inr (1, []))]) [2] rfl) (hK.sub [] rfl) sf_nN (va_recv hK hP (ci := 1) (q0 := 2) rfl rfl) rfl hl.1 rfl (Nat.le_of_ble_eq_true rfl) dX0_wideSquare_16 ⟨Nat.le_refl 0, Nat.le_refl 0⟩ hS hA (fun H1 locs1 hk1 hS => ?_)
    have hP := hk1 _ _ _ hP
    refine sf_goA (owner := RX1) (x := ⟨RX1, "gf_reduce", "(I)S"⟩) (C := RX2) (n := 1) (As := [.int (sf_ex (sf_fair k a))]) (rest := []) ⟨hx, hb, hml, hown, hts⟩ (sf_c_X2_gf_reduce l D g12 ((sf_ex (sf_fair k a)))) (sf_lwU q162 q164 q165 q55 q6 q57) (hN _ (List.mem_of_getElem? (i := 5) rfl)) (by decide +kernel) ⟨Nat.le_of_ble_eq_true rfl, Nat.le_of_ble_eq_true rfl⟩ (hP.sub (ws' := [(g12, .inr (1, []))]) [2] rfl) (hK.sub [] rfl) sf_nN (va_recv hK hP (ci := 1) (q0 := 2) rfl rfl) rfl hl.1 rfl (Nat.le_of_ble_eq_true rfl) dX0_wideSquare_19 ⟨Nat.le_refl 0, Nat.le_refl 0⟩ hS hA (fun H1 locs1 hk1 hS => ?_)
    have hP := hk1 _ _ _ hP
    exact sf_ret hx hb hr hlocks (vp_nar_int _) hS (by unfold sf_fsq; rw [if_pos h]; rfl) dX0_wideSquare_22
  · refine lv_topi (fun i0 ei0 => ?_)
    have ei0 : i0 = 1 := ei0.trans (sf_k1 h)
    subst ei0
    refine va_aldq hx hb hK hP 1 0 rfl rfl (vp_in_nI (n := 1) (N := 2) (by decide) (by decide)) dX0_wideSquare_7 ?_
    rw [sf_F1]
    refine W.eq (g2 := F0 m 8 ls [.ref g13]) rfl ?_
    refine lv_astore_n (lv' := [(3, .ref g13), (0, .ref h0), (1, .int k), (2, .int a)]) hx hb dX0_wideSquare_8 rfl hl (by decide) rfl (fun ls hl => ?_)
    refine lv_aload_n hx hb dX0_wideSquare_9 rfl (lv_at hl 0 rfl) ?_
    refine lv_aload_n hx hb dX0_wideSquare_10 rfl (lv_at hl 0 rfl) ?_
    refine lv_iload_n hx hb dX0_wideSquare_11 rfl (lv_at hl 2 rfl) ?_
    refine lv_iload_n hx hb dX0_wideSquare_12 rfl (lv_at hl 3 rfl) ?_
    refine sf_goS (n := 2) (As := [.int k, .int a]) (rest := [.ref g13, .ref g13]) ⟨hx, hb, hml, hown, hts⟩ (sf_c_X0_fair l D (k) (a)) (lw_S q45 q46 q4 q47) (by decide +kernel) ⟨Nat.le_of_ble_eq_true rfl, Nat.le_of_ble_eq_true rfl⟩ (hP.sub [] rfl) (hK.sub [] rfl) sf_nN rfl hl.1 rfl (Nat.le_of_ble_eq_true rfl) dX0_wideSquare_13 ⟨Nat.le_refl 0, Nat.le_refl 0⟩ hS hA (fun H1 locs1 hk1 hS => ?_)
    have hP := hk1 _ _ _ hP
    refine sf_goA (owner := RX1) (x := ⟨RX1, "gf_sq_ext", "(S)I"⟩) (C := RX3) (n := 1) (As := [.int (sf_fair k a)]) (rest := [.ref g13]) ⟨hx, hb, hml, hown, hts⟩ (sf_c_X3_gf_sq_ext l D g13 ((sf_fair k a))) (sf_lwU q171 q173 q177 q178 q7 q179) (hN _ (List.mem_of_getElem? (i := 6) rfl)) (by decide +kernel) ⟨Nat.le_of_ble_eq_true rfl, Nat.le_of_ble_eq_true rfl⟩ (hP.sub (ws' := [(g13, .inr (2, []))]) [3] rfl) (hK.sub [] rfl) sf_nN (va_recv hK hP (ci := 2) (q0 := 3) rfl rfl) rfl hl.1 rfl (Nat.le_of_ble_eq_true rfl) dX0_wideSquare_16 ⟨Nat.le_refl 0, Nat.le_refl 0⟩ hS hA (fun H1 locs1 hk1 hS => ?_)
    have hP := hk1 _ _ _ hP
    refine sf_goA (owner := RX1) (x := ⟨RX1, "gf_reduce", "(I)S"⟩) (C := RX3) (n := 1) (As := [.int (sf_ex (sf_fair k a))]) (rest := []) ⟨hx, hb, hml, hown, hts⟩ (sf_c_X3_gf_reduce l D g13 ((sf_ex (sf_fair k a)))) (sf_lwU q162 q164 q166 q64 q7 q66) (hN _ (List.mem_of_getElem? (i := 5) rfl)) (by decide +kernel) ⟨Nat.le_of_ble_eq_true rfl, Nat.le_of_ble_eq_true rfl⟩ (hP.sub (ws' := [(g13, .inr (2, []))]) [3] rfl) (hK.sub [] rfl) sf_nN (va_recv hK hP (ci := 2) (q0 := 3) rfl rfl) rfl hl.1 rfl (Nat.le_of_ble_eq_true rfl) dX0_wideSquare_19 ⟨Nat.le_refl 0, Nat.le_refl 0⟩ hS hA (fun H1 locs1 hk1 hS => ?_)
    have hP := hk1 _ _ _ hP
    exact sf_ret hx hb hr hlocks (vp_nar_int _) hS (by unfold sf_fsq; rw [if_neg h]; rfl) dX0_wideSquare_22
set_option maxHeartbeats 4000000 in
set_option maxRecDepth 100000 in
/-- SmallFields.inverse -/
theorem sf_c_X0_inverse (l : Launch) (D : va_G) (h0 : Nat) (qa g12 g13 : Nat) (cA : ClassId) (k a : Int32) : sf_Pu l yX0_inverse (ws_ yX0_inverse cX0_inverse 4 (some .int)) 4 103 [.ref h0, .int k, .int a] (sf_Wd D [(h0, .inr (0, [.ref qa])), (qa, .inl (cA, 2, .inr (.inr (.inr (.inr (sf_F g12 g13)))))), (g12, .inr (1, [])), (g13, .inr (2, []))] [(cA, .object "GF")] sf_xs) (sf_finv k a) := by
  refine sf_Pu.ofW (by decide) (Nat.le_of_ble_eq_true rfl) ?_
  intro p e s m below meth c A ls hx hb hr hlocks hml hown hts hw hA hS hl
  obtain ⟨hP, hK, hN⟩ := hw
  have hown : s.vm.findClass RX0 = some m.cls := hown
  have hl : lv_has ls 4 [(0, .ref h0), (1, .int k), (2, .int a)] := hl
  refine lv_iload_n hx hb dX0_inverse_0 rfl (lv_at hl 1 rfl) ?_
  refine lv_iload_n hx hb dX0_inverse_1 rfl (lv_at hl 2 rfl) ?_
  refine sf_goS (n := 2) (As := [.int k, .int a]) (rest := []) ⟨hx, hb, hml, hown, hts⟩ (sf_c_X0_fair l D (k) (a)) (lw_S q45 q46 q4 q47) (by decide +kernel) ⟨Nat.le_of_ble_eq_true rfl, Nat.le_of_ble_eq_true rfl⟩ (hP.sub [] rfl) (hK.sub [] rfl) sf_nN rfl hl.1 rfl (Nat.le_of_ble_eq_true rfl) dX0_inverse_2 ⟨Nat.le_refl 0, Nat.le_refl 0⟩ hS hA (fun H1 locs1 hk1 hS => ?_)
  have hP := hk1 _ _ _ hP
  refine lv_istore_n (lv' := [(3, .int (sf_fair k a)), (0, .ref h0), (1, .int k), (2, .int a)]) hx hb dX0_inverse_5 rfl hl (by decide) rfl (fun ls hl => ?_)
  refine lv_iload_n hx hb dX0_inverse_6 rfl (lv_at hl 0 rfl) ?_
  refine lv_if_ne (tgt := 14) hx hb dX0_inverse_7 (by decide) (fun h => ?_) (fun h => ?_)
  · refine lv_aload_n hx hb dX0_inverse_14 rfl (lv_at hl 1 rfl) ?_
    refine va_get (D := D) (ci := 0) (v := .ref qa) (C := RX0) (T := TX0) (N := 1) hx hb hts in_X0 hown hK hP 0 rfl rfl 0 (by decide) (hts _ q37) (fun _ h9 => h9) rfl dX0_inverse_15 ?_
    refine lv_iload_n hx hb dX0_inverse_18 rfl (lv_at hl 2 rfl) ?_
    refine lv_iconst (v := 1) hx hb dX0_inverse_19 (by decide) ?_
    refine lv_iand hx hb dX0_inverse_20 ?_
    by_cases g : k &&& 1 = 0
    · refine lv_topi (fun i0 ei0 => ?_)
      have ei0 : i0 = 0 := ei0.trans g
      subst ei0
      refine va_aldq hx hb hK hP 1 0 rfl rfl (vp_in_nI (n := 0) (N := 2) (by decide) (by decide)) dX0_inverse_21 ?_
      rw [sf_F0]
      refine W.eq (g2 := F0 m 22 ls [.ref g12]) rfl ?_
      refine lv_iload_n hx hb dX0_inverse_22 rfl (lv_at hl 0 rfl) ?_
      refine sf_goA (owner := RX1) (x := ⟨RX1, "gf_inv", "(S)S"⟩) (C := RX2) (n := 1) (As := [.int (sf_fair k a)]) (rest := []) ⟨hx, hb, hml, hown, hts⟩ (sf_c_X2_gf_inv l D g12 ((sf_fair k a))) (sf_lwU q93 q95 q96 q97 q6 q98) (hN _ (List.mem_of_getElem? (i := 2) rfl)) (by decide +kernel) ⟨Nat.le_of_ble_eq_true rfl, Nat.le_of_ble_eq_true rfl⟩ (hP.sub (ws' := [(g12, .inr (1, []))]) [2] rfl) (hK.sub [] rfl) sf_nN (va_recv hK hP (ci := 1) (q0 := 2) rfl rfl) rfl hl.1 rfl (Nat.le_of_ble_eq_true rfl) dX0_inverse_23 ⟨Nat.le_refl 0, Nat.le_refl 0⟩ hS hA (fun H1 locs1 hk1 hS => ?_)
      have hP := hk1 _ _ _ hP
      exact sf_ret hx hb hr hlocks (vp_nar_int _) hS (by unfold sf_finv; rw [if_neg h, if_pos g]) dX0_inverse_26
    · refine lv_topi (fun i0 ei0 => ?_)
      have ei0 : i0 = 1 := ei0.trans (sf_k1 g)
      subst ei0
      refine va_aldq hx hb hK hP 1 0 rfl rfl (vp_in_nI (n := 1) (N := 2) (by decide) (by decide)) dX0_inverse_21 ?_
      rw [sf_F1]
      refine W.eq (g2 := F0 m 22 ls [.ref g13]) rfl ?_
      refine lv_iload_n hx hb dX0_inverse_22 rfl (lv_at hl 0 rfl) ?_
      refine sf_goA (owner := RX1) (x := ⟨RX1, "gf_inv", "(S)S"⟩) (C := RX3) (n := 1) (As := [.int (sf_fair k a)]) (rest := []) ⟨hx, hb, hml, hown, hts⟩ (sf_c_X3_gf_inv l D g13 ((sf_fair k a))) (sf_lwU q93 q95 q101 q102 q7 q103) (hN _ (List.mem_of_getElem? (i := 2) rfl)) (by decide +kernel) ⟨Nat.le_of_ble_eq_true rfl, Nat.le_of_ble_eq_true rfl⟩ (hP.sub (ws' := [(g13, .inr (2, []))]) [3] rfl) (hK.sub [] rfl) sf_nN (va_recv hK hP (ci := 2) (q0 := 3) rfl rfl) rfl hl.1 rfl (Nat.le_of_ble_eq_true rfl) dX0_inverse_23 ⟨Nat.le_refl 0, Nat.le_refl 0⟩ hS hA (fun H1 locs1 hk1 hS => ?_)
      have hP := hk1 _ _ _ hP
      exact sf_ret hx hb hr hlocks (vp_nar_int _) hS (by unfold sf_finv; rw [if_neg h, if_neg g]) dX0_inverse_26
  · refine lv_iconst (v := (-1)) hx hb dX0_inverse_10 (by decide) ?_
    refine lv_goto (tgt := 26) hx hb dX0_inverse_11 (by decide) ?_
    exact sf_ret hx hb hr hlocks (vp_nar_int _) hS (by unfold sf_finv; rw [if_pos h]) dX0_inverse_26
set_option maxHeartbeats 4000000 in
set_option maxRecDepth 100000 in
/-- SmallFields.quotient -/
theorem sf_c_X0_quotient (l : Launch) (D : va_G) (h0 : Nat) (qa g12 g13 : Nat) (cA : ClassId) (k a b : Int32) : sf_Pu l yX0_quotient (ws_ yX0_quotient cX0_quotient 5 (some .int)) 4 98 [.ref h0, .int k, .int a, .int b] (sf_Wd D [(h0, .inr (0, [.ref qa])), (qa, .inl (cA, 2, .inr (.inr (.inr (.inr (sf_F g12 g13)))))), (g12, .inr (1, [])), (g13, .inr (2, []))] [(cA, .object "GF")] sf_xs) (sf_fquo k a b) := by
  refine sf_Pu.ofW (by decide) (Nat.le_of_ble_eq_true rfl) ?_
  intro p e s m below meth c A ls hx hb hr hlocks hml hown hts hw hA hS hl
  obtain ⟨hP, hK, hN⟩ := hw
  have hown : s.vm.findClass RX0 = some m.cls := hown
  have hl : lv_has ls 5 [(0, .ref h0), (1, .int k), (2, .int a), (3, .int b)] := hl
  refine lv_iload_n hx hb dX0_quotient_0 rfl (lv_at hl 1 rfl) ?_
  refine lv_iload_n hx hb dX0_quotient_1 rfl (lv_at hl 3 rfl) ?_
  refine sf_goS (n := 2) (As := [.int k, .int b]) (rest := []) ⟨hx, hb, hml, hown, hts⟩ (sf_c_X0_fair l D (k) (b)) (lw_S q45 q46 q4 q47) (by decide +kernel) ⟨Nat.le_of_ble_eq_true rfl, Nat.le_of_ble_eq_true rfl⟩ (hP.sub [] rfl) (hK.sub [] rfl) sf_nN rfl hl.1 rfl (Nat.le_of_ble_eq_true rfl) dX0_quotient_2 ⟨Nat.le_refl 0, Nat.le_refl 0⟩ hS hA (fun H1 locs1 hk1 hS => ?_)
  have hP := hk1 _ _ _ hP
  refine lv_istore (lv' := [(4, .int (sf_fair k b)), (0, .ref h0), (1, .int k), (2, .int a), (3, .int b)]) hx hb dX0_quotient_5 hl (by decide) rfl (fun ls hl => ?_)
  refine lv_iload hx hb dX0_quotient_7 (lv_at hl 0 rfl) ?_
  refine lv_if_ne (tgt := 16) hx hb dX0_quotient_9 (by decide) (fun h => ?_) (fun h => ?_)
  · refine lv_aload_n hx hb dX0_quotient_16 rfl (lv_at hl 1 rfl) ?_
    refine va_get (D := D) (ci := 0) (v := .ref qa) (C := RX0) (T := TX0) (N := 1) hx hb hts in_X0 hown hK hP 0 rfl rfl 0 (by decide) (hts _ q37) (fun _ h9 => h9) rfl dX0_quotient_17 ?_
    refine lv_iload_n hx hb dX0_quotient_20 rfl (lv_at hl 2 rfl) ?_
    refine lv_iconst (v := 1) hx hb dX0_quotient_21 (by decide) ?_
    refine lv_iand hx hb dX0_quotient_22 ?_
    by_cases g : k &&& 1 = 0
    · refine lv_topi (fun i0 ei0 => ?_)
      have ei0 : i0 = 0 := ei0.trans g
      subst ei0
      refine va_aldq hx hb hK hP 1 0 rfl rfl (vp_in_nI (n := 0) (N := 2) (by decide) (by decide)) dX0_quotient_23 ?_
      rw [sf_F0]
      refine W.eq (g2 := F0 m 24 ls [.ref g12]) rfl ?_
      refine lv_iload hx hb dX0_quotient_24 (lv_at hl 0 rfl) ?_
      refine lv_iload_n hx hb dX0_quotient_26 rfl (lv_at hl 2 rfl) ?_
      refine lv_iload_n hx hb dX0_quotient_27 rfl (lv_at hl 3 rfl) ?_
      refine sf_goS (n := 2) (As := [.int k, .int a]) (rest := [.int (sf_fair k b), .ref g12]) ⟨hx, hb, hml, hown, hts⟩ (sf_c_X0_fair l D (k) (a)) (lw_S q45 q46 q4 q47) (by decide +kernel) ⟨Nat.le_of_ble_eq_true rfl, Nat.le_of_ble_eq_true rfl⟩ (hP.sub [] rfl) (hK.sub [] rfl) sf_nN rfl hl.1 rfl (Nat.le_of_ble_eq_true rfl) dX0_quotient_28 ⟨Nat.le_refl 0, Nat.le_refl 0⟩ hS hA (fun H1 locs1 hk1 hS => ?_)
      have hP := hk1 _ _ _ hP
      refine sf_goA (owner := RX1) (x := ⟨RX1, "gf_frac", "(SS)S"⟩) (C := RX2) (n := 2) (As := [.int (sf_fair k b), .int (sf_fair k a)]) (rest := []) ⟨hx, hb, hml, hown, hts⟩ (sf_c_X2_gf_frac l D g12 ((sf_fair k b)) ((sf_fair k a))) (sf_lwU q141 q143 q144 q145 q6 q146) (hN _ (List.mem_of_getElem? (i := 3) rfl)) (by decide +kernel) ⟨Nat.le_of_ble_eq_true rfl, Nat.le_of_ble_eq_true rfl⟩ (hP.sub (ws' := [(g12, .inr (1, []))]) [2] rfl) (hK.sub [] rfl) sf_nN (va_recv hK hP (ci := 1) (q0 := 2) rfl rfl) rfl hl.1 rfl (Nat.le_of_ble_eq_true rfl) dX0_quotient_31 ⟨Nat.le_refl 0, Nat.le_refl 0⟩ hS hA (fun H1 locs1 hk1 hS => ?_)
      have hP := hk1 _ _ _ hP
      exact sf_ret hx hb hr hlocks (vp_nar_int _) hS (by unfold sf_fquo; rw [if_neg h, if_pos g]) dX0_quotient_34
    · refine lv_topi (fun i0 ei0 => ?_)
      have ei0 : i0 = 1 := ei0.trans (sf_k1 g)
      subst ei0
      refine va_aldq hx hb hK hP 1 0 rfl rfl (vp_in_nI (n := 1) (N := 2) (by decide) (by decide)) dX0_quotient_23 ?_
      rw [sf_F1]
      refine W.eq (g2 := F0 m 24 ls [.ref g13]) rfl ?_
      refine lv_iload hx hb dX0_quotient_24 (lv_at hl 0 rfl) ?_
      refine lv_iload_n hx hb dX0_quotient_26 rfl (lv_at hl 2 rfl) ?_
      refine lv_iload_n hx hb dX0_quotient_27 rfl (lv_at hl 3 rfl) ?_
      refine sf_goS (n := 2) (As := [.int k, .int a]) (rest := [.int (sf_fair k b), .ref g13]) ⟨hx, hb, hml, hown, hts⟩ (sf_c_X0_fair l D (k) (a)) (lw_S q45 q46 q4 q47) (by decide +kernel) ⟨Nat.le_of_ble_eq_true rfl, Nat.le_of_ble_eq_true rfl⟩ (hP.sub [] rfl) (hK.sub [] rfl) sf_nN rfl hl.1 rfl (Nat.le_of_ble_eq_true rfl) dX0_quotient_28 ⟨Nat.le_refl 0, Nat.le_refl 0⟩ hS hA (fun H1 locs1 hk1 hS => ?_)
      have hP := hk1 _ _ _ hP
      refine sf_goA (owner := RX1) (x := ⟨RX1, "gf_frac", "(SS)S"⟩) (C := RX3) (n := 2) (As := [.int (sf_fair k b), .int (sf_fair k a)]) (rest := []) ⟨hx, hb, hml, hown, hts⟩ (sf_c_X3_gf_frac l D g13 ((sf_fair k b)) ((sf_fair k a))) (sf_lwU q141 q143 q148 q105 q7 q107) (hN _ (List.mem_of_getElem? (i := 3) rfl)) (by decide +kernel) ⟨Nat.le_of_ble_eq_true rfl, Nat.le_of_ble_eq_true rfl⟩ (hP.sub (ws' := [(g13, .inr (2, []))]) [3] rfl) (hK.sub [] rfl) sf_nN (va_recv hK hP (ci := 2) (q0 := 3) rfl rfl) rfl hl.1 rfl (Nat.le_of_ble_eq_true rfl) dX0_quotient_31 ⟨Nat.le_refl 0, Nat.le_refl 0⟩ hS hA (fun H1 locs1 hk1 hS => ?_)
      have hP := hk1 _ _ _ hP
      exact sf_ret hx hb hr hlocks (vp_nar_int _) hS (by unfold sf_fquo; rw [if_neg h, if_neg g]) dX0_quotient_34
  · refine lv_iconst (v := (-1)) hx hb dX0_quotient_12 (by decide) ?_
    refine lv_goto (tgt := 34) hx hb dX0_quotient_13 (by decide) ?_
    exact sf_ret hx hb hr hlocks (vp_nar_int _) hS (by unfold sf_fquo; rw [if_pos h]) dX0_quotient_34
set_option maxHeartbeats 4000000 in
set_option maxRecDepth 100000 in
/-- SmallFields.nought -/
theorem sf_c_X0_nought (l : Launch) (D : va_G) (h0 : Nat) (qa g12 g13 : Nat) (cA : ClassId) (k a : Int32) : sf_Pu l yX0_nought (ws_ yX0_nought cX0_nought 3 (some .boolean)) 1 21 [.ref h0, .int k, .int a] (sf_Wd D [(h0, .inr (0, [.ref qa])), (qa, .inl (cA, 2, .inr (.inr (.inr (.inr (sf_F g12 g13)))))), (g12, .inr (1, [])), (g13, .inr (2, []))] [(cA, .object "GF")] sf_xs) (sf_fnou k a) := by
  refine sf_Pu.ofW (by decide) (Nat.le_of_ble_eq_true rfl) ?_
  intro p e s m below meth c A ls hx hb hr hlocks hml hown hts hw hA hS hl
  obtain ⟨hP, hK, hN⟩ := hw
  have hown : s.vm.findClass RX0 = some m.cls := hown
  have hl : lv_has ls 3 [(0, .ref h0), (1, .int k), (2, .int a)] := hl
  refine lv_aload_n hx hb dX0_nought_0 rfl (lv_at hl 0 rfl) ?_
  refine va_get (D := D) (ci := 0) (v := .ref qa) (C := RX0) (T := TX0) (N := 1) hx hb hts in_X0 hown hK hP 0 rfl rfl 0 (by decide) (hts _ q37) (fun _ h9 => h9) rfl dX0_nought_1 ?_
  refine lv_iload_n hx hb dX0_nought_4 rfl (lv_at hl 1 rfl) ?_
  refine lv_iconst (v := 1) hx hb dX0_nought_5 (by decide) ?_
  refine lv_iand hx hb dX0_nought_6 ?_
  by_cases h : k &&& 1 = 0
  · refine lv_topi (fun i0 ei0 => ?_)
    have ei0 : i0 = 0 := ei0.trans h
    subst ei0
    refine va_aldq hx hb hK hP 1 0 rfl rfl (vp_in_nI (n := 0) (N := 2) (by decide) (by decide)) dX0_nought_7 ?_
    rw [sf_F0]
    refine W.eq (g2 := F0 m 8 ls [.ref g12]) rfl ?_
    refine lv_iload_n hx hb dX0_nought_8 rfl (lv_at hl 1 rfl) ?_
    refine lv_iload_n hx hb dX0_nought_9 rfl (lv_at hl 2 rfl) ?_
    refine sf_goS (n := 2) (As := [.int k, .int a]) (rest := [.ref g12]) ⟨hx, hb, hml, hown, hts⟩ (sf_c_X0_fair l D (k) (a)) (lw_S q45 q46 q4 q47) (by decide +kernel) ⟨Nat.le_of_ble_eq_true rfl, Nat.le_of_ble_eq_true rfl⟩ (hP.sub [] rfl) (hK.sub [] rfl) sf_nN rfl hl.1 rfl (Nat.le_of_ble_eq_true rfl) dX0_nought_10 ⟨Nat.le_refl 0, Nat.le_refl 0⟩ hS hA (fun H1 locs1 hk1 hS => ?_)
    have hP := hk1 _ _ _ hP
    refine sf_goU (owner := RX1) (x := ⟨RX1, "gf_iszero", "(S)S"⟩) (C := RX2) (n := 1) (As := [.int (sf_fair k a)]) (rest := []) ⟨hx, hb, hml, hown, hts⟩ (sf_c_X1_gf_iszero l D g12 ((sf_fair k a))) (sf_lwU q184 q186 q187 q185 q5 q189) rfl (by decide +kernel) ⟨Nat.le_of_ble_eq_true rfl, Nat.le_of_ble_eq_true rfl⟩ (hP.sub [] rfl) (hK.sub [] rfl) sf_nN (va_recv hK hP (ci := 1) (q0 := 2) rfl rfl) rfl hl.1 rfl (Nat.le_of_ble_eq_true rfl) dX0_nought_13 ⟨Nat.le_refl 0, Nat.le_refl 0⟩ hS hA (fun H1 locs1 hk1 hS => ?_)
    have hP := hk1 _ _ _ hP
    refine lv_if_eq (tgt := 23) hx hb dX0_nought_16 (by decide) (fun g => ?_) (fun g => ?_)
    · refine lv_iconst (v := 0) hx hb dX0_nought_23 (by decide) ?_
      exact sf_ret hx hb hr hlocks rfl hS (by unfold sf_fnou; rw [if_pos g]) dX0_nought_24
    · refine lv_iconst (v := 1) hx hb dX0_nought_19 (by decide) ?_
      refine lv_goto (tgt := 24) hx hb dX0_nought_20 (by decide) ?_
      exact sf_ret hx hb hr hlocks rfl hS (by unfold sf_fnou; rw [if_neg g]) dX0_nought_24
  · refine lv_topi (fun i0 ei0 => ?_)
    have ei0 : i0 = 1 := ei0.trans (sf_k1 h)
    subst ei0
    refine va_aldq hx hb hK hP 1 0 rfl rfl (vp_in_nI (n := 1) (N := 2) (by decide) (by decide)) dX0_nought_7 ?_
    rw [sf_F1]
    refine W.eq (g2 := F0 m 8 ls [.ref g13]) rfl ?_
    refine lv_iload_n hx hb dX0_nought_8 rfl (lv_at hl 1 rfl) ?_
    refine lv_iload_n hx hb dX0_nought_9 rfl (lv_at hl 2 rfl) ?_
    refine sf_goS (n := 2) (As := [.int k, .int a]) (rest := [.ref g13]) ⟨hx, hb, hml, hown, hts⟩ (sf_c_X0_fair l D (k) (a)) (lw_S q45 q46 q4 q47) (by decide +kernel) ⟨Nat.le_of_ble_eq_true rfl, Nat.le_of_ble_eq_true rfl⟩ (hP.sub [] rfl) (hK.sub [] rfl) sf_nN rfl hl.1 rfl (Nat.le_of_ble_eq_true rfl) dX0_nought_10 ⟨Nat.le_refl 0, Nat.le_refl 0⟩ hS hA (fun H1 locs1 hk1 hS => ?_)
    have hP := hk1 _ _ _ hP
    refine sf_goU (owner := RX1) (x := ⟨RX1, "gf_iszero", "(S)S"⟩) (C := RX3) (n := 1) (As := [.int (sf_fair k a)]) (rest := []) ⟨hx, hb, hml, hown, hts⟩ (sf_c_X1_gf_iszero l D g13 ((sf_fair k a))) (sf_lwU q184 q186 q188 q185 q5 q189) rfl (by decide +kernel) ⟨Nat.le_of_ble_eq_true rfl, Nat.le_of_ble_eq_true rfl⟩ (hP.sub [] rfl) (hK.sub [] rfl) sf_nN (va_recv hK hP (ci := 2) (q0 := 3) rfl rfl) rfl hl.1 rfl (Nat.le_of_ble_eq_true rfl) dX0_nought_13 ⟨Nat.le_refl 0, Nat.le_refl 0⟩ hS hA (fun H1 locs1 hk1 hS => ?_)
    have hP := hk1 _ _ _ hP
    refine lv_if_eq (tgt := 23) hx hb dX0_nought_16 (by decide) (fun g => ?_) (fun g => ?_)
    · refine lv_iconst (v := 0) hx hb dX0_nought_23 (by decide) ?_
      exact sf_ret hx hb hr hlocks rfl hS (by unfold sf_fnou; rw [if_pos g]) dX0_nought_24
    · refine lv_iconst (v := 1) hx hb dX0_nought_19 (by decide) ?_
      refine lv_goto (tgt := 24) hx hb dX0_nought_20 (by decide) ?_
      exact sf_ret hx hb hr hlocks rfl hS (by unfold sf_fnou; rw [if_neg g]) dX0_nought_24
end
section
/-! CONTRACTS: the constructors -/
set_option maxRecDepth 100000
/-- the constructor y, called with av where Pw holds, comes back; no cell is made, none changes -/
def sf_Pv (l : Launch) (y : MethodName) (ws : List Cond) (fr lo : Nat) (av : List Value) (Pw : State → Prop) : Prop :=
  ∀ sz : Nat, Met l y ws ({ frames := fr, cells := 0, slots := 0, locals := lo }) (va_Pc av (fun U => U.heap.size = sz ∧ Pw U)) (va_Qv (fun (_ : Unit) => True) (fun _ _ => True) (va_A [] sz)) 0 0 (va_A [] sz)
theorem sf_Pv.ofW {l : Launch} {y : MethodName} {fr lo : Nat} {av : List Value} {Pw : State → Prop} {cc : ByteArray} {maxL : Nat} {ret : Option FieldType} (hy : plainName y.cls = true) (hlen : (lg_sl av).length ≤ maxL)
    (body : ∀ (p : Program) (e : Env) (s : State) (m : MethodId) (below : List Frame) (meth : Method) (c : Code) (A : Nat → Prop) (ls : Array Slot), p.tables.exec = Jvm.exec → c.code = cc → meth.sig.returnType = ret → meth.locks = false → c.maxLocals = maxL → s.vm.findClass y.cls = some m.cls → (∀ w ∈ lw_all, w.before av.toArray s = true) → Pw s → (∀ q, s.heap.size ≤ q → A q) → va_S A s.heap s.heap [] → lv_has ls maxL (lv_args 0 av) →
      W p l e ({ frames := fr, cells := 0, slots := 0, locals := lo }) s m av.toArray below meth c s.heap [] 0 0 (MQ below (va_Qv (fun (_ : Unit) => True) (fun _ _ => True) A) av.toArray s 0 0 A) (F0 m 0 ls [])) : sf_Pv l y (ws_ y cc maxL ret) fr lo av Pw := by
  intro sz
  refine Met.ofW (cc := cc) (maxL := maxL) (ret := ret) hy rfl ?_
  intro p e s m args below meth c s₁ B hml hv
  obtain ⟨rfl, hsz, hPw⟩ := hv
  have hts := atoms_spec (ws := ws_ y cc maxL ret) B.pre
  have hl := lv_entry av (n := maxL) hlen
  rw [lg_entry_eq]
  subst hsz
  exact body p e s m below meth c (va_A [] s.heap.size) _ B.exec B.bytes B.returns B.notSynchronized hml (findClass_of_methodNamed B.named) (fun w h => hts w (List.mem_cons_of_mem _ h)) hPw (fun q h => Or.inr h) va_S.rf hl
/-- a call of such a constructor -/
theorem sf_goI {p : Program} {l : Launch} {e : Env} {R : Room} {s : State} {m : MethodId} {args : Array Value} {below : List Frame} {meth : Method} {c : Code} {H : Heap} {locs : List Loc} {cells slots : Nat} {Q : State → Prop} {pc : Nat} {ls : Array Slot} {rest st0 : List Value} {A0 : Nat → Prop} {H0 : Heap} {cc bytes : ByteArray} {D : va_G} {ws0 : va_W} {tys0 : List (ClassId × FieldType)} {xs0 : List MethodName} {y : MethodName} {maxL nL n index fr lo : Nat} {own : String} {As : List Value} {b : Addr}
    (S : CallFix p m c cc nL s args lw_all own) (hM : sf_Pv l y (ws_ y bytes maxL none) fr lo (.ref b :: As) (sf_Wd D ws0 tys0 xs0)) (hcd : Cond.code y bytes maxL none ∈ lw_all) (hini : (Cond.initialized y.cls).before args s = true) (hlk : (Cond.methodLink own index y).before args s = true) (him : (Cond.instanceMethod y).before args s = true) (hy1 : y.name = "<init>")
    (hd : y.cls ≠ "java/lang/invoke/MethodHandle" ∧ y.cls ≠ "java/lang/invoke/VarHandle" ∧ (parseMethodDescriptor y.desc).map (fun d => d.parameters.length) = some n) (hR : fr + 1 ≤ R.frames ∧ 8 + (maxL + 11) + lo ≤ R.locals)
    (hP : va_P D sf_cl ws0 H) (hK : va_K D sf_cl tys0 s) (hN : ∀ x ∈ xs0, va_Nw (.declares x) s) (hn : As.length = n) (hsize : ls.size = nL) (hst : st0 = As.reverse ++ .ref b :: rest) (hw : (rest.map fun v => v.category).sum ≤ 8) (hdg : decode cc pc = .ok (.invokespecial index, 3)) (hf : cells ≤ R.cells ∧ slots ≤ R.slots) (hS : va_S A0 H0 H locs) (hA : ∀ q, H0.size ≤ q → A0 q)
    (kk : ∀ (H1 : Heap) (locs1 : List Loc), (∀ (D : va_G) (cl : List vw_C) (ws : va_W), va_P D cl ws H → va_P D cl ws H1) → va_S A0 H0 H1 locs1 → W p l e R s m args below meth c H1 locs1 cells slots Q (F0 m (pc + 3) ls rest)) : W p l e R s m args below meth c H locs cells slots Q (F0 m pc ls st0) := by
  have hfr : ∀ q, va_A [] H.size q → A0 q := fun q h => by
    rcases h with ⟨k, e, h⟩ | h
    · simp at h
    · exact hA q (Nat.le_trans hS.1 h)
  refine va_callv (va_runI S (hM H.size) (cwI n S.2.2.2.2 (lw_meth hcd) rfl rfl rfl hini hlk him hy1 hd hR) (sf_preS hP hK hN) rfl hn hsize hst (lv_room hw) hdg hf) hS (fun q _ h => hfr q h) hfr (fun u t H1 locs1 ht hvm hw hB hz hk hS1 => ?_)
  exact kk H1 locs1 (fun D cl ws hP => sf_keep hk hP) hS1
set_option maxHeartbeats 4000000 in
/-- GF() -/
theorem sf_c_X1_init (l : Launch) (D : va_G) (h0 : Nat) : sf_Pv l yX1_init (ws_ yX1_init cX1_init 1 none) 1 12 [.ref h0] (sf_Wd D [] [] []) := by
  refine sf_Pv.ofW (by decide) (Nat.le_of_ble_eq_true rfl) ?_
  intro p e s m below meth c A ls hx hb hr hlocks hml hown hts hw hA hS hl
  have hown : s.vm.findClass RX1 = some m.cls := hown
  have hl : lv_has ls 1 [(0, .ref h0)] := hl
  refine lv_aload_n hx hb dX1_init_0 rfl (lv_at hl 0 rfl) ?_
  refine W.objInit hx hb hown (hts _ q28) (hts _ q16) (hts _ q17) rfl (by rw [hml]; exact hl.1) rfl dX1_init_1 (Nat.le_of_ble_eq_true rfl) (Nat.le_of_ble_eq_true rfl) ?_
  refine W.eq (g2 := F0 m 4 ls []) rfl ?_
  exact W.vret hx hb hr (fun t ht hW => ⟨⟨(), rfl, trivial, trivial⟩, hS.F ht⟩) hS.2.2 dX1_init_4
set_option maxHeartbeats 4000000 in
/-- SmallFieldsModel() -/
theorem sf_c_X4_init (l : Launch) (D : va_G) (h0 : Nat) : sf_Pv l yX4_init (ws_ yX4_init cX4_init 1 none) 1 12 [.ref h0] (sf_Wd D [] [] []) := by
  refine sf_Pv.ofW (by decide) (Nat.le_of_ble_eq_true rfl) ?_
  intro p e s m below meth c A ls hx hb hr hlocks hml hown hts hw hA hS hl
  have hown : s.vm.findClass RX4 = some m.cls := hown
  have hl : lv_has ls 1 [(0, .ref h0)] := hl
  refine lv_aload_n hx hb dX4_init_0 rfl (lv_at hl 0 rfl) ?_
  refine W.objInit hx hb hown (hts _ q195) (hts _ q16) (hts _ q17) rfl (by rw [hml]; exact hl.1) rfl dX4_init_1 (Nat.le_of_ble_eq_true rfl) (Nat.le_of_ble_eq_true rfl) ?_
  refine W.eq (g2 := F0 m 4 ls []) rfl ?_
  exact W.vret hx hb hr (fun t ht hW => ⟨⟨(), rfl, trivial, trivial⟩, hS.F ht⟩) hS.2.2 dX4_init_4
set_option maxHeartbeats 4000000 in
/-- GF12() -/
theorem sf_c_X2_init (l : Launch) (D : va_G) (h0 : Nat) : sf_Pv l yX2_init (ws_ yX2_init cX2_init 1 none) 2 32 [.ref h0] (sf_Wd D [] [] []) := by
  refine sf_Pv.ofW (by decide) (Nat.le_of_ble_eq_true rfl) ?_
  intro p e s m below meth c A ls hx hb hr hlocks hml hown hts hw hA hS hl
  obtain ⟨hP, hK, hN⟩ := hw
  have hown : s.vm.findClass RX2 = some m.cls := hown
  have hl : lv_has ls 1 [(0, .ref h0)] := hl
  refine lv_aload_n hx hb dX2_init_0 rfl (lv_at hl 0 rfl) ?_
  refine sf_goI (As := []) (rest := []) ⟨hx, hb, hml, hown, hts⟩ (sf_c_X1_init l D h0) q27 (hts _ q5) (hts _ q25) (hts _ q26) rfl (by decide +kernel) ⟨Nat.le_of_ble_eq_true rfl, Nat.le_of_ble_eq_true rfl⟩ hP hK hN rfl hl.1 rfl (Nat.le_of_ble_eq_true rfl) dX2_init_1 ⟨Nat.le_refl 0, Nat.le_refl 0⟩ hS hA (fun H1 locs1 hk1 hS => ?_)
  exact W.vret hx hb hr (fun t ht hW => ⟨⟨(), rfl, trivial, trivial⟩, hS.F ht⟩) hS.2.2 dX2_init_4
set_option maxHeartbeats 4000000 in
/-- GF13() -/
theorem sf_c_X3_init (l : Launch) (D : va_G) (h0 : Nat) : sf_Pv l yX3_init (ws_ yX3_init cX3_init 1 none) 2 32 [.ref h0] (sf_Wd D [] [] []) := by
  refine sf_Pv.ofW (by decide) (Nat.le_of_ble_eq_true rfl) ?_
  intro p e s m below meth c A ls hx hb hr hlocks hml hown hts hw hA hS hl
  obtain ⟨hP, hK, hN⟩ := hw
  have hown : s.vm.findClass RX3 = some m.cls := hown
  have hl : lv_has ls 1 [(0, .ref h0)] := hl
  refine lv_aload_n hx hb dX3_init_0 rfl (lv_at hl 0 rfl) ?_
  refine sf_goI (As := []) (rest := []) ⟨hx, hb, hml, hown, hts⟩ (sf_c_X1_init l D h0) q27 (hts _ q5) (hts _ q35) (hts _ q26) rfl (by decide +kernel) ⟨Nat.le_of_ble_eq_true rfl, Nat.le_of_ble_eq_true rfl⟩ hP hK hN rfl hl.1 rfl (Nat.le_of_ble_eq_true rfl) dX3_init_1 ⟨Nat.le_refl 0, Nat.le_refl 0⟩ hS hA (fun H1 locs1 hk1 hS => ?_)
  exact W.vret hx hb hr (fun t ht hW => ⟨⟨(), rfl, trivial, trivial⟩, hS.F ht⟩) hS.2.2 dX3_init_4
theorem sf_in0 (C : String) : ∀ w ∈ u_ws C sf_T0 0, w ∈ lw_all := fun w h => by simp [u_ws] at h
theorem sf_ty0 : ∀ k, k < 0 → parseFieldDescriptor (sf_T0 k).2.2.1 = some ((fun _ => FieldType.int) k) := fun k h => absurd h (Nat.not_lt_zero k)
set_option maxHeartbeats 4000000 in
/-- SmallFields(): the array and the two fields come -/
theorem sf_c_X0_init (l : Launch) (D : va_G) (h0 : Nat) (sz : Nat) : Met l yX0_init (ws_ yX0_init cX0_init 1 none) ({ frames := 3, cells := 3, slots := 2, locals := 52 }) (va_Pc [.ref h0] (fun U => U.heap.size = sz ∧ va_P D sf_cl [(h0, .inr (0, [.null]))] U.heap ∧ va_K D sf_cl [] U ∧ va_D (fun _ => True) [(h0, .inr (0, [.null]))] ∧ va_AO "GF" U ∧ va_Nw (.castable RX2 "GF") U ∧ va_Nw (.castable RX3 "GF") U))
    (va_Qv (fun (_ : Unit) => True) (fun _ t => ∃ (qa g12 g13 : Nat) (cA : ClassId), va_P D sf_cl [(h0, .inr (0, [.ref qa])), (qa, .inl (cA, 2, .inr (.inr (.inr (.inr (sf_F g12 g13)))))), (g12, .inr (1, [])), (g13, .inr (2, []))] t.heap ∧ va_K D sf_cl [(cA, .object "GF")] t ∧ va_D (va_A [(h0, .inr (0, [.null]))] sz) [(h0, .inr (0, [.ref qa])), (qa, .inl (cA, 2, .inr (.inr (.inr (.inr (sf_F g12 g13)))))), (g12, .inr (1, [])), (g13, .inr (2, []))]) (va_A [(h0, .inr (0, [.null]))] sz)) 3 2 (va_A [(h0, .inr (0, [.null]))] sz) := by
  refine Met.ofW (cc := cX0_init) (maxL := 1) (ret := none) (by decide) rfl ?_
  intro p e s m args below meth c s₁ B hml hv
  obtain ⟨rfl, hsz, hP, hK, hD0, hAO, hC2, hC3⟩ := hv
  have hx := B.exec
  have hb := B.bytes
  have hr := B.returns
  have hts := atoms_spec (ws := ws_ yX0_init cX0_init 1 none) B.pre
  have hts : ∀ w ∈ lw_all, w.before _ s = true := fun w h => hts w (List.mem_cons_of_mem _ h)
  have hown : s.vm.findClass RX0 = some m.cls := findClass_of_methodNamed B.named
  have hlocks := B.notSynchronized
  have hin : meth.name = "<init>" := (name_of_methodNamed B.named B.method).1
  subst hsz
  have hD := hD0.self (sz := s.heap.size)
  generalize hAe : va_A [(h0, .inr (0, [.null]))] s.heap.size = A at hD ⊢
  have hA : ∀ q : Nat, s.heap.size ≤ q → A q := fun q h => by rw [← hAe]; exact Or.inr h
  have hS : va_S A s.heap s.heap [] := va_S.rf
  have hP : va_P D sf_cl [(h0, .inr (0, [.null]))] s.heap := hP
  have hl := lv_entry ([.ref h0]) (n := 1) (Nat.le_of_ble_eq_true rfl)
  rw [lg_entry_eq]
  generalize (lg_sl ([.ref h0]) ++ List.replicate (1 - (lg_sl ([.ref h0])).length) Slot.unset).toArray = ls at hl ⊢
  have hl : lv_has ls 1 [(0, .ref h0)] := hl
  refine lv_aload_n hx hb dX0_init_0 rfl (lv_at hl 0 rfl) ?_
  refine W.objInit hx hb hown (hts _ q15) (hts _ q16) (hts _ q17) rfl (by rw [hml]; exact hl.1) rfl dX0_init_1 (Nat.le_of_ble_eq_true rfl) (Nat.le_of_ble_eq_true rfl) ?_
  refine W.eq (g2 := F0 m 4 ls []) rfl ?_
  refine lv_aload_n hx hb dX0_init_4 rfl (lv_at hl 0 rfl) ?_
  refine lv_iconst (v := 2) hx hb dX0_init_5 (by decide) ?_
  refine va_newq (C := "GF") (n := 2) (N' := 2) hx hb hown (hts _ q18) hAO hK hP hD hS hA (by decide) (by decide) (by decide) (Nat.le_of_ble_eq_true rfl) (Nat.le_of_ble_eq_true rfl) dX0_init_6 (fun qa cA H hK hP hD hS => ?_)
  have hK : va_K D sf_cl [(cA, .object "GF")] s := hK
  have hP : va_P D sf_cl [(h0, .inr (0, [.null])), (qa, .inl (cA, 2, .inr (.inr (.inr (.inr (fun _ => none))))))] H := hP
  have hD : va_D A [(h0, .inr (0, [.null])), (qa, .inl (cA, 2, .inr (.inr (.inr (.inr (fun _ => none))))))] := hD
  refine W.widen (k := 1) (n := 2) (by omega) (by omega) ?_
  refine lv_dup hx hb dX0_init_9 rfl ?_
  refine lv_iconst (v := 0) hx hb dX0_init_10 (by decide) ?_
  refine va_new (ci := 1) (fs := []) (C := RX2) (T := sf_T0) (N := 0) hx hb hts (sf_in0 RX2) (fun _ => .int) sf_ty0 hown (hts _ q20) (hts _ q21) (hts _ q6) hK hP hD hS hA rfl (fun j hj => absurd hj (Nat.not_lt_zero j)) (Nat.le_of_ble_eq_true rfl) (Nat.le_of_ble_eq_true rfl) dX0_init_11 (fun g12 H hP hD hS => ?_)
  have hP : va_P D sf_cl [(h0, .inr (0, [.null])), (qa, .inl (cA, 2, .inr (.inr (.inr (.inr (fun _ => none)))))), (g12, .inr (1, []))] H := hP
  have hD : va_D A [(h0, .inr (0, [.null])), (qa, .inl (cA, 2, .inr (.inr (.inr (.inr (fun _ => none)))))), (g12, .inr (1, []))] := hD
  refine W.widen (k := 2) (n := 2) (by omega) (by omega) ?_
  refine lv_dup hx hb dX0_init_14 rfl ?_
  refine sf_goI (As := []) (rest := [.ref g12, .int 0, .ref qa, .ref qa, .ref h0]) ⟨hx, hb, hml, hown, hts⟩ (sf_c_X2_init l D g12) q24 (hts _ q6) (hts _ q22) (hts _ q23) rfl (by decide +kernel) ⟨Nat.le_of_ble_eq_true rfl, Nat.le_of_ble_eq_true rfl⟩ (hP.sub [] rfl) (hK.sub [] rfl) sf_nN rfl hl.1 rfl (Nat.le_of_ble_eq_true rfl) dX0_init_15 ⟨Nat.le_of_ble_eq_true rfl, Nat.le_of_ble_eq_true rfl⟩ hS hA (fun H1 locs1 hk1 hS => ?_)
  have hP := hk1 _ _ _ hP
  refine va_astqO (r := (RX2, sf_T0, 0)) hx hb hK hP hD hS 1 0 2 1 rfl rfl hC2 rfl rfl (vp_in_nI (n := 0) (N := 2) (by decide) (by decide)) dX0_init_18 (fun H locs hP hD hS => ?_)
  have hP : va_P D sf_cl [(h0, .inr (0, [.null])), (qa, .inl (cA, 2, .inr (.inr (.inr (.inr (va_up (fun _ => none) (0 : Int32).toNatClampNeg (some g12))))))), (g12, .inr (1, []))] H := hP
  have hD : va_D A [(h0, .inr (0, [.null])), (qa, .inl (cA, 2, .inr (.inr (.inr (.inr (va_up (fun _ => none) (0 : Int32).toNatClampNeg (some g12))))))), (g12, .inr (1, []))] := hD
  refine lv_dup hx hb dX0_init_19 rfl ?_
  refine lv_iconst (v := 1) hx hb dX0_init_20 (by decide) ?_
  refine va_new (ci := 2) (fs := []) (C := RX3) (T := sf_T0) (N := 0) hx hb hts (sf_in0 RX3) (fun _ => .int) sf_ty0 hown (hts _ q30) (hts _ q31) (hts _ q7) hK hP hD hS hA rfl (fun j hj => absurd hj (Nat.not_lt_zero j)) (Nat.le_of_ble_eq_true rfl) (Nat.le_of_ble_eq_true rfl) dX0_init_21 (fun g13 H hP hD hS => ?_)
  have hP : va_P D sf_cl [(h0, .inr (0, [.null])), (qa, .inl (cA, 2, .inr (.inr (.inr (.inr (va_up (fun _ => none) (0 : Int32).toNatClampNeg (some g12))))))), (g12, .inr (1, [])), (g13, .inr (2, []))] H := hP
  have hD : va_D A [(h0, .inr (0, [.null])), (qa, .inl (cA, 2, .inr (.inr (.inr (.inr (va_up (fun _ => none) (0 : Int32).toNatClampNeg (some g12))))))), (g12, .inr (1, [])), (g13, .inr (2, []))] := hD
  refine W.widen (k := 3) (n := 2) (by omega) (by omega) ?_
  refine lv_dup hx hb dX0_init_24 rfl ?_
  refine sf_goI (As := []) (rest := [.ref g13, .int 1, .ref qa, .ref qa, .ref h0]) ⟨hx, hb, hml, hown, hts⟩ (sf_c_X3_init l D g13) q34 (hts _ q7) (hts _ q32) (hts _ q33) rfl (by decide +kernel) ⟨Nat.le_of_ble_eq_true rfl, Nat.le_of_ble_eq_true rfl⟩ (hP.sub [] rfl) (hK.sub [] rfl) sf_nN rfl hl.1 rfl (Nat.le_of_ble_eq_true rfl) dX0_init_25 ⟨Nat.le_of_ble_eq_true rfl, Nat.le_of_ble_eq_true rfl⟩ hS hA (fun H1 locs1 hk1 hS => ?_)
  have hP := hk1 _ _ _ hP
  refine va_astqO (r := (RX3, sf_T0, 0)) hx hb hK hP hD hS 1 0 3 2 rfl rfl hC3 rfl rfl (vp_in_nI (n := 1) (N := 2) (by decide) (by decide)) dX0_init_28 (fun H locs hP hD hS => ?_)
  have hP : va_P D sf_cl [(h0, .inr (0, [.null])), (qa, .inl (cA, 2, .inr (.inr (.inr (.inr (sf_F g12 g13)))))), (g12, .inr (1, [])), (g13, .inr (2, []))] H := hP
  have hD : va_D A [(h0, .inr (0, [.null])), (qa, .inl (cA, 2, .inr (.inr (.inr (.inr (sf_F g12 g13)))))), (g12, .inr (1, [])), (g13, .inr (2, []))] := hD
  refine va_putF (D := D) (ci := 0) (v := .ref qa) (ty := .array (.object "GF")) (C := RX0) (T := TX0) (N := 1) hx hb hts in_X0 tyX0 tyX0_ok nmX0 hown hK hP hD hS 0 rfl rfl 0 (by decide) (hts _ q37) (fun _ h9 => h9) rfl hin rfl (by decide +kernel) rfl rfl (Nat.le_of_ble_eq_true rfl) dX0_init_29 (fun H locs hP hD hS => ?_)
  have hP : va_P D sf_cl [(h0, .inr (0, [.ref qa])), (qa, .inl (cA, 2, .inr (.inr (.inr (.inr (sf_F g12 g13)))))), (g12, .inr (1, [])), (g13, .inr (2, []))] H := hP
  have hD : va_D A [(h0, .inr (0, [.ref qa])), (qa, .inl (cA, 2, .inr (.inr (.inr (.inr (sf_F g12 g13)))))), (g12, .inr (1, [])), (g13, .inr (2, []))] := hD
  exact W.vret hx hb hr (fun t ht hW => ⟨⟨(), rfl, trivial, qa, g12, g13, cA, by rw [ht]; exact hP, va_K.moved hW.alike hK, hD⟩, hS.F ht⟩) hS.2.2 dX0_init_32
end
section
/-! THE PLAIN LAW, first half: maps that are additive over ^^^, and what is known of them by their values at 1, 2, 4 .. -/
theorem sf_bx (a b c : Bool) : ((a ^^ b) && c) = ((a && c) ^^ (b && c)) := by cases a <;> cases b <;> cases c <;> rfl
theorem sf_and_x (a b c : Int32) : (a ^^^ b) &&& c = (a &&& c) ^^^ (b &&& c) := Int32.toBitVec_inj.1 (BitVec.eq_of_getLsbD_eq (fun i _ => by
  simp only [Int32.toBitVec_and, Int32.toBitVec_xor, BitVec.getLsbD_and, BitVec.getLsbD_xor, sf_bx]))
theorem sf_land_x (a b c : Int64) : (a ^^^ b) &&& c = (a &&& c) ^^^ (b &&& c) := Int64.toBitVec_inj.1 (BitVec.eq_of_getLsbD_eq (fun i _ => by
  simp only [Int64.toBitVec_and, Int64.toBitVec_xor, BitVec.getLsbD_and, BitVec.getLsbD_xor, sf_bx]))
theorem sf_sh_x (a b k : Int32) : sf_sh (a ^^^ b) k = sf_sh a k ^^^ sf_sh b k := Int32.shiftLeft_xor
theorem sf_us_x (a b k : Int32) : sf_us (a ^^^ b) k = sf_us a k ^^^ sf_us b k := by
  unfold sf_us
  rw [Int32.toUInt32_xor, UInt32.shiftRight_xor, UInt32.toInt32_xor]
theorem sf_sx_x (a b : Int32) : sf_sx (a ^^^ b) = sf_sx a ^^^ sf_sx b := by
  unfold sf_sx
  rw [Int32.toInt16_xor, Int16.toInt32_xor]
theorem sf_lsh_x (a b : Int64) (k : Int32) : sf_lsh (a ^^^ b) k = sf_lsh a k ^^^ sf_lsh b k := Int64.shiftLeft_xor
theorem sf_lus_x (a b : Int64) (k : Int32) : sf_lus (a ^^^ b) k = sf_lus a k ^^^ sf_lus b k := by
  unfold sf_lus
  rw [Int64.toUInt64_xor, UInt64.shiftRight_xor, UInt64.toInt64_xor]
theorem sf_x4 (a b c d : Int32) : (a ^^^ b) ^^^ (c ^^^ d) = (a ^^^ c) ^^^ (b ^^^ d) := by
  rw [Int32.xor_assoc, Int32.xor_assoc, ← Int32.xor_assoc b, ← Int32.xor_assoc c, Int32.xor_comm b c]
theorem sf_y4 (a b c d : Int64) : (a ^^^ b) ^^^ (c ^^^ d) = (a ^^^ c) ^^^ (b ^^^ d) := by
  rw [Int64.xor_assoc, Int64.xor_assoc, ← Int64.xor_assoc b, ← Int64.xor_assoc c, Int64.xor_comm b c]
theorem sf_nx (a b : Nat) : nI a ^^^ nI b = nI (a ^^^ b) := by
  apply Int32.toBitVec_inj.1
  show BitVec.ofNat 32 a ^^^ BitVec.ofNat 32 b = BitVec.ofNat 32 (a ^^^ b)
  apply BitVec.eq_of_getLsbD_eq
  intro i hi
  simp [hi]
/-- the numbers of n bits -/
def sf_Sm (n : Nat) (x : Int32) : Prop := ∃ a : Nat, a < 2 ^ n ∧ x = nI a
theorem sf_Sm.xor {n : Nat} {x y : Int32} (hx : sf_Sm n x) (hy : sf_Sm n y) : sf_Sm n (x ^^^ y) := by
  obtain ⟨a, ha, rfl⟩ := hx
  obtain ⟨b, hb, rfl⟩ := hy
  exact ⟨a ^^^ b, Nat.xor_lt_two_pow ha hb, sf_nx a b⟩
theorem sf_Sm.pow {n i : Nat} (h : i < n) : sf_Sm n (nI (2 ^ i)) := ⟨2 ^ i, Nat.pow_lt_pow_right (by omega) h, rfl⟩
theorem sf_Sm.zero {n : Nat} : sf_Sm n 0 := ⟨0, Nat.pow_pos (by omega), rfl⟩
theorem sf_Sm.of {n : Nat} {x k : Int32} (hk : k.toBitVec.toNat = 2 ^ n - 1) : sf_Sm n (x &&& k) := by
  obtain ⟨j, h1, h2⟩ := pk_andE x n hk
  exact ⟨j, h1, h2⟩
theorem sf_Sm.eq {n : Nat} {x k : Int32} (hk : k.toBitVec.toNat = 2 ^ n - 1) (hn : n < 32) (h : sf_Sm n x) : x &&& k = x := by
  obtain ⟨a, ha, rfl⟩ := h
  have h32 : a < 2 ^ 32 := Nat.lt_trans ha (Nat.pow_lt_pow_right (by omega) hn)
  rw [pk_andN h32 n hk, Nat.mod_eq_of_lt ha]
/-- additive on the numbers of n bits -/
def sf_Ls (n : Nat) (f : Int32 → Int32) : Prop := ∀ x y : Int32, sf_Sm n x → sf_Sm n y → f (x ^^^ y) = f x ^^^ f y
theorem sf_Ls.zero {n : Nat} {f : Int32 → Int32} (h : sf_Ls n f) : f 0 = 0 := by
  have e := h 0 0 sf_Sm.zero sf_Sm.zero
  rw [Int32.xor_self, Int32.xor_self] at e
  exact e
theorem sf_top {k a : Nat} (h1 : 2 ^ k ≤ a) (h2 : a < 2 ^ (k + 1)) : (a - 2 ^ k) ^^^ 2 ^ k = a := by
  obtain ⟨b, rfl⟩ : ∃ b, a = 2 ^ k + b := ⟨a - 2 ^ k, by omega⟩
  have hb : b < 2 ^ k := by rw [Nat.pow_succ] at h2; omega
  rw [Nat.add_sub_cancel_left]
  apply Nat.eq_of_testBit_eq
  intro i
  have e := Nat.testBit_two_pow_mul_add 1 hb i
  rw [Nat.mul_one] at e
  rw [e, Nat.testBit_xor, Nat.testBit_two_pow]
  rcases Nat.lt_or_ge i k with q | q
  · rw [if_pos q, decide_eq_false (by omega)]
    simp
  · rw [if_neg (by omega), Nat.testBit_lt_two_pow (Nat.lt_of_lt_of_le hb (Nat.pow_le_pow_right (by omega) q))]
    rcases Nat.lt_or_ge k i with q2 | q2
    · have e3 : i - k = (i - k - 1) + 1 := by omega
      rw [decide_eq_false (by omega), e3, Nat.testBit_succ]
      simp
    · have e3 : i - k = 0 := by omega
      rw [decide_eq_true (by omega), e3]
      simp
/-- two additive maps that agree at 1, 2, 4 .. agree -/
theorem sf_bas {n : Nat} {f g : Int32 → Int32} (hf : sf_Ls n f) (hg : sf_Ls n g) (h : ∀ i, i < n → f (nI (2 ^ i)) = g (nI (2 ^ i))) {x : Int32} (hx : sf_Sm n x) : f x = g x := by
  have key : ∀ k, k ≤ n → ∀ a, a < 2 ^ k → f (nI a) = g (nI a) := by
    intro k
    induction k with
    | zero =>
      intro _ a ha
      have e : a = 0 := by simpa using ha
      subst e
      rw [nI_0, hf.zero, hg.zero]
    | succ k ih =>
      intro hk a ha
      rcases Nat.lt_or_ge a (2 ^ k) with q | q
      · exact ih (by omega) a q
      · have e := sf_top q ha
        have h1 : a - 2 ^ k < 2 ^ k := by rw [Nat.pow_succ] at ha; omega
        have s1 : sf_Sm n (nI (a - 2 ^ k)) := ⟨_, Nat.lt_of_lt_of_le h1 (Nat.pow_le_pow_right (by omega) (by omega)), rfl⟩
        have s2 : sf_Sm n (nI (2 ^ k)) := sf_Sm.pow (by omega)
        rw [← e, ← sf_nx, hf _ _ s1 s2, hg _ _ s1 s2, ih (by omega) _ h1, h k (by omega)]
  obtain ⟨a, ha, rfl⟩ := hx
  exact key n (Nat.le_refl n) a ha
theorem sf_bas2 {n : Nat} {f g : Int32 → Int32 → Int32} (hf1 : ∀ y, sf_Sm n y → sf_Ls n (fun x => f x y)) (hf2 : ∀ x, sf_Sm n x → sf_Ls n (fun y => f x y)) (hg1 : ∀ y, sf_Sm n y → sf_Ls n (fun x => g x y)) (hg2 : ∀ x, sf_Sm n x → sf_Ls n (fun y => g x y)) (h : ∀ i, i < n → ∀ j, j < n → f (nI (2 ^ i)) (nI (2 ^ j)) = g (nI (2 ^ i)) (nI (2 ^ j))) {x y : Int32} (hx : sf_Sm n x) (hy : sf_Sm n y) : f x y = g x y :=
  sf_bas (hf1 y hy) (hg1 y hy) (fun i hi => sf_bas (f := fun y => f (nI (2 ^ i)) y) (g := fun y => g (nI (2 ^ i)) y) (hf2 _ (sf_Sm.pow hi)) (hg2 _ (sf_Sm.pow hi)) (fun j hj => h i hi j hj) hy) hx
/-! the reductions, the spreading -/
theorem sf_r12_x (a b : Int32) : sf_r12 (a ^^^ b) = sf_r12 a ^^^ sf_r12 b := by
  unfold sf_r12
  rw [← sf_sx_x]
  congr 1
  simp only [sf_and_x, sf_us_x]
  rw [sf_x4 (a &&& 4095), sf_x4 _ _ (sf_us (a &&& 2093056) 9), sf_x4 _ _ (sf_us (a &&& 14680064) 18), sf_x4 _ _ (sf_us a 21)]
theorem sf_t_x (a b : Int32) : sf_t (a ^^^ b) = sf_t a ^^^ sf_t b := by
  unfold sf_t
  simp only [sf_sh_x]
  rw [sf_x4 (sf_sh a 4), sf_x4 _ _ (sf_sh a 1)]
theorem sf_r13_x (a b : Int32) : sf_r13 (a ^^^ b) = sf_r13 a ^^^ sf_r13 b := by
  unfold sf_r13
  rw [← sf_sx_x]
  congr 1
  simp only [sf_and_x, sf_us_x, sf_t_x]
  rw [sf_x4 (a &&& 8191), sf_x4 _ _ (sf_us (sf_t (sf_us a 13)) 13), sf_x4 _ _ (sf_t (sf_us a 13) &&& 8191), sf_x4 _ _ (sf_t (sf_us (sf_t (sf_us a 13)) 13))]
/-- the two places of the or don't meet where the mask looks -/
def sf_e2 (x k c : Int32) : Int32 := (x ^^^ sf_sh x k) &&& c
theorem sf_e12 (x d k c : Int32) (h : d &&& sf_sh d k &&& c = 0) : sf_e1 (x &&& d) k c = sf_e2 (x &&& d) k c := by
  unfold sf_e1 sf_e2
  have hs : sf_sh (x &&& d) k = sf_sh x k &&& sf_sh d k := Int32.shiftLeft_and
  rw [hs]
  apply Int32.toBitVec_inj.1
  apply BitVec.eq_of_getLsbD_eq
  intro i _
  have hb : (d &&& sf_sh d k &&& c).toBitVec.getLsbD i = false := by rw [h]; simp
  simp only [Int32.toBitVec_and, Int32.toBitVec_or, Int32.toBitVec_xor, BitVec.getLsbD_and, BitVec.getLsbD_or, BitVec.getLsbD_xor] at hb ⊢
  revert hb
  generalize d.toBitVec.getLsbD i = b1
  generalize (sf_sh d k).toBitVec.getLsbD i = b2
  generalize c.toBitVec.getLsbD i = b3
  generalize x.toBitVec.getLsbD i = b4
  generalize (sf_sh x k).toBitVec.getLsbD i = b5
  revert b1 b2 b3 b4 b5
  decide
def sf_ex2 (x : Int32) : Int32 := sf_e2 (sf_e2 (sf_e2 (sf_e2 (x &&& 65535) 8 16711935) 4 252645135) 2 858993459) 1 1431655765
theorem sf_ex_eq (x : Int32) : sf_ex x = sf_ex2 x := by
  unfold sf_ex sf_ex2
  rw [sf_e12 x 65535 8 16711935 (by decide +kernel)]
  rw [show sf_e2 (x &&& 65535) 8 16711935 = (x &&& 65535 ^^^ sf_sh (x &&& 65535) 8) &&& 16711935 from rfl, sf_e12 _ 16711935 4 252645135 (by decide +kernel)]
  generalize (x &&& 65535 ^^^ sf_sh (x &&& 65535) 8) &&& 16711935 = y
  rw [show sf_e2 y 4 252645135 = (y ^^^ sf_sh y 4) &&& 252645135 from rfl, sf_e12 _ 252645135 2 858993459 (by decide +kernel)]
  generalize (y ^^^ sf_sh y 4) &&& 252645135 = z
  rw [show sf_e2 z 2 858993459 = (z ^^^ sf_sh z 2) &&& 858993459 from rfl, sf_e12 _ 858993459 1 1431655765 (by decide +kernel)]
theorem sf_e2_x (a b k c : Int32) : sf_e2 (a ^^^ b) k c = sf_e2 a k c ^^^ sf_e2 b k c := by
  unfold sf_e2
  rw [sf_sh_x, sf_x4, sf_and_x]
theorem sf_ex_x (a b : Int32) : sf_ex (a ^^^ b) = sf_ex a ^^^ sf_ex b := by
  rw [sf_ex_eq, sf_ex_eq, sf_ex_eq]
  unfold sf_ex2
  rw [sf_and_x, sf_e2_x, sf_e2_x, sf_e2_x, sf_e2_x]
/-! products by one bit -/
theorem sf_m1x {c : Int32} {p : Nat} (hc : c.toBitVec = BitVec.twoPow 32 p) (x a b : Int32) : x * ((a ^^^ b) &&& c) = x * (a &&& c) ^^^ x * (b &&& c) := by
  apply Int32.toBitVec_inj.1
  simp only [Int32.toBitVec_mul, Int32.toBitVec_and, Int32.toBitVec_xor, hc, BitVec.and_twoPow, BitVec.getLsbD_xor]
  cases a.toBitVec.getLsbD p <;> cases b.toBitVec.getLsbD p <;> simp
theorem sf_m1y {c : Int32} {p : Nat} (hc : c.toBitVec = BitVec.twoPow 32 p) (y a b : Int32) : (a ^^^ b) * (y &&& c) = a * (y &&& c) ^^^ b * (y &&& c) := by
  apply Int32.toBitVec_inj.1
  simp only [Int32.toBitVec_mul, Int32.toBitVec_and, Int32.toBitVec_xor, hc, BitVec.and_twoPow]
  cases y.toBitVec.getLsbD p
  · simp
  · simp only [if_true, BitVec.mul_twoPow_eq_shiftLeft, BitVec.shiftLeft_xor_distrib]
theorem sf_one_p : ∀ l, l < 32 → (sf_sh 1 (nI l)).toBitVec = BitVec.twoPow 32 l := by decide +kernel
theorem sf_me_x (y a b : Int32) : ∀ i, i < 31 → sf_me (a ^^^ b) y i = sf_me a y i ^^^ sf_me b y i := by
  intro i
  induction i with
  | zero =>
    intro _
    exact sf_m1y (p := 0) (by decide +kernel) y a b
  | succ i ih =>
    intro hi
    show sf_me (a ^^^ b) y i ^^^ (a ^^^ b) * (y &&& sf_sh 1 (nI (i + 1))) = (sf_me a y i ^^^ a * (y &&& sf_sh 1 (nI (i + 1)))) ^^^ (sf_me b y i ^^^ b * (y &&& sf_sh 1 (nI (i + 1))))
    rw [ih (by omega), sf_m1y (sf_one_p (i + 1) (by omega)), sf_x4]
theorem sf_me_y (x a b : Int32) : ∀ i, i < 31 → sf_me x (a ^^^ b) i = sf_me x a i ^^^ sf_me x b i := by
  intro i
  induction i with
  | zero =>
    intro _
    exact sf_m1x (p := 0) (by decide +kernel) x a b
  | succ i ih =>
    intro hi
    show sf_me x (a ^^^ b) i ^^^ x * ((a ^^^ b) &&& sf_sh 1 (nI (i + 1))) = (sf_me x a i ^^^ x * (a &&& sf_sh 1 (nI (i + 1)))) ^^^ (sf_me x b i ^^^ x * (b &&& sf_sh 1 (nI (i + 1))))
    rw [ih (by omega), sf_m1x (sf_one_p (i + 1) (by omega)), sf_x4]
/-! the reference's product -/
def sf_sel (b v : Int32) : Int32 := if b = 1 then v else 0
theorem sf_bit_01 (y n : Int32) : sf_bit y n = 0 ∨ sf_bit y n = 1 := by
  unfold sf_bit
  obtain ⟨j, h1, h2⟩ := pk_andE (y >>> (n &&& 31)) (m := 1) 1 (by decide)
  rw [h2]
  rcases (show j = 0 ∨ j = 1 by omega) with rfl | rfl
  · exact Or.inl (by decide)
  · exact Or.inr (by decide)
theorem sf_bit_x (a b n : Int32) : sf_bit (a ^^^ b) n = sf_bit a n ^^^ sf_bit b n := by
  unfold sf_bit
  rw [Int32.shiftRight_xor, sf_and_x]
theorem sf_sel_b (a b n v : Int32) : sf_sel (sf_bit (a ^^^ b) n) v = sf_sel (sf_bit a n) v ^^^ sf_sel (sf_bit b n) v := by
  rw [sf_bit_x]
  unfold sf_sel
  rcases sf_bit_01 a n with h | h <;> rcases sf_bit_01 b n with g | g <;> rw [h, g] <;> simp
theorem sf_sel_v (b v w : Int32) : sf_sel b (v ^^^ w) = sf_sel b v ^^^ sf_sel b w := by
  unfold sf_sel
  by_cases h : b = 1
  · rw [if_pos h, if_pos h, if_pos h]
  · rw [if_neg h, if_neg h, if_neg h]
    simp
theorem sf_if (b v w : Int32) : (if b = 1 then v ^^^ w else v) = v ^^^ sf_sel b w := by
  unfold sf_sel
  by_cases h : b = 1
  · rw [if_pos h, if_pos h]
  · rw [if_neg h, if_neg h]
    simp
theorem sf_tl_eq (n m z : Int32) : sf_tl n m z = sf_sh z 1 ^^^ sf_sel (sf_bit (sf_sh z 1) n) m := by
  unfold sf_tl
  exact sf_if _ _ _
theorem sf_ts_eq (n m x y : Int32) (i : Nat) (z : Int32) : sf_ts n m x y i z = sf_tl n m z ^^^ sf_sel (sf_bit y (nI i)) x := by
  unfold sf_ts
  exact sf_if _ _ _
theorem sf_tl_x (n m a b : Int32) : sf_tl n m (a ^^^ b) = sf_tl n m a ^^^ sf_tl n m b := by
  rw [sf_tl_eq, sf_tl_eq, sf_tl_eq, sf_sh_x, sf_sel_b, sf_x4]
theorem sf_tm_x (n m y a b : Int32) : ∀ (k : Nat) (z w : Int32), sf_tm n m (a ^^^ b) y k (z ^^^ w) = sf_tm n m a y k z ^^^ sf_tm n m b y k w := by
  intro k
  induction k with
  | zero => intro z w; rfl
  | succ k ih =>
    intro z w
    show sf_tm n m (a ^^^ b) y k (sf_ts n m (a ^^^ b) y k (z ^^^ w)) = sf_tm n m a y k (sf_ts n m a y k z) ^^^ sf_tm n m b y k (sf_ts n m b y k w)
    rw [← ih, sf_ts_eq, sf_ts_eq, sf_ts_eq, sf_tl_x, sf_sel_v, sf_x4]
theorem sf_tm_y (n m x a b : Int32) : ∀ (k : Nat) (z w : Int32), sf_tm n m x (a ^^^ b) k (z ^^^ w) = sf_tm n m x a k z ^^^ sf_tm n m x b k w := by
  intro k
  induction k with
  | zero => intro z w; rfl
  | succ k ih =>
    intro z w
    show sf_tm n m x (a ^^^ b) k (sf_ts n m x (a ^^^ b) k (z ^^^ w)) = sf_tm n m x a k (sf_ts n m x a k z) ^^^ sf_tm n m x b k (sf_ts n m x b k w)
    rw [← ih, sf_ts_eq, sf_ts_eq, sf_ts_eq, sf_tl_x, sf_sel_b, sf_x4]
end
section
/-! THE PLAIN LAW: the reference's product obeys a field's laws, out of checks at pairs of bits -/
def sf_T (n : Nat) (N m x y : Int32) : Int32 := sf_tm N m x y n 0
theorem sf_T_x (n : Nat) (N m a b y : Int32) : sf_T n N m (a ^^^ b) y = sf_T n N m a y ^^^ sf_T n N m b y := by
  have e := sf_tm_x N m y a b n 0 0
  rw [Int32.xor_self] at e
  exact e
theorem sf_T_y (n : Nat) (N m x a b : Int32) : sf_T n N m x (a ^^^ b) = sf_T n N m x a ^^^ sf_T n N m x b := by
  have e := sf_tm_y N m x a b n 0 0
  rw [Int32.xor_self] at e
  exact e
/-- what is checked at bits -/
def sf_Ck (n : Nat) (N m K : Int32) : Prop := (K.toBitVec.toNat = 2 ^ n - 1 ∧ 0 < n ∧ n < 31) ∧ (∀ i, i < n → ∀ j, j < n → sf_T n N m (nI (2 ^ i)) (nI (2 ^ j)) &&& K = sf_T n N m (nI (2 ^ i)) (nI (2 ^ j))) ∧ (∀ i, i < n → ∀ j, j < n → sf_T n N m (nI (2 ^ i)) (nI (2 ^ j)) = sf_T n N m (nI (2 ^ j)) (nI (2 ^ i))) ∧ (∀ i, i < n → ∀ j, j < n → sf_T n N m (nI (2 ^ i)) (sf_tl N m (nI (2 ^ j))) = sf_tl N m (sf_T n N m (nI (2 ^ i)) (nI (2 ^ j)))) ∧ (∀ i, i < n → sf_tl N m (nI (2 ^ i)) &&& K = sf_tl N m (nI (2 ^ i))) ∧ (∀ i, i < n → sf_T n N m 1 (nI (2 ^ i)) = nI (2 ^ i))
theorem sf_Ck.sm {n : Nat} {N m K x y : Int32} (h : sf_Ck n N m K) (hx : sf_Sm n x) (hy : sf_Sm n y) : sf_Sm n (sf_T n N m x y) := by
  have e : sf_T n N m x y &&& K = sf_T n N m x y := sf_bas2 (f := fun x y => sf_T n N m x y &&& K) (g := fun x y => sf_T n N m x y)
    (fun y _ a b _ _ => by show sf_T n N m (a ^^^ b) y &&& K = (sf_T n N m a y &&& K) ^^^ (sf_T n N m b y &&& K); rw [sf_T_x, sf_and_x])
    (fun x _ a b _ _ => by show sf_T n N m x (a ^^^ b) &&& K = (sf_T n N m x a &&& K) ^^^ (sf_T n N m x b &&& K); rw [sf_T_y, sf_and_x])
    (fun y _ a b _ _ => sf_T_x n N m a b y) (fun x _ a b _ _ => sf_T_y n N m x a b) h.2.1 hx hy
  rw [← e]
  exact sf_Sm.of h.1.1
theorem sf_Ck.comm {n : Nat} {N m K x y : Int32} (h : sf_Ck n N m K) (hx : sf_Sm n x) (hy : sf_Sm n y) : sf_T n N m x y = sf_T n N m y x :=
  sf_bas2 (f := fun x y => sf_T n N m x y) (g := fun x y => sf_T n N m y x) (fun y _ a b _ _ => sf_T_x n N m a b y) (fun x _ a b _ _ => sf_T_y n N m x a b) (fun y _ a b _ _ => sf_T_y n N m y a b) (fun x _ a b _ _ => sf_T_x n N m a b x) h.2.2.1 hx hy
theorem sf_Ck.tl {n : Nat} {N m K x y : Int32} (h : sf_Ck n N m K) (hx : sf_Sm n x) (hy : sf_Sm n y) : sf_T n N m x (sf_tl N m y) = sf_tl N m (sf_T n N m x y) :=
  sf_bas2 (f := fun x y => sf_T n N m x (sf_tl N m y)) (g := fun x y => sf_tl N m (sf_T n N m x y)) (fun y _ a b _ _ => sf_T_x n N m a b _)
    (fun x _ a b _ _ => by show sf_T n N m x (sf_tl N m (a ^^^ b)) = sf_T n N m x (sf_tl N m a) ^^^ sf_T n N m x (sf_tl N m b); rw [sf_tl_x, sf_T_y])
    (fun y _ a b _ _ => by show sf_tl N m (sf_T n N m (a ^^^ b) y) = sf_tl N m (sf_T n N m a y) ^^^ sf_tl N m (sf_T n N m b y); rw [sf_T_x, sf_tl_x])
    (fun x _ a b _ _ => by show sf_tl N m (sf_T n N m x (a ^^^ b)) = sf_tl N m (sf_T n N m x a) ^^^ sf_tl N m (sf_T n N m x b); rw [sf_T_y, sf_tl_x]) h.2.2.2.1 hx hy
theorem sf_Ck.smL {n : Nat} {N m K x : Int32} (h : sf_Ck n N m K) (hx : sf_Sm n x) : sf_Sm n (sf_tl N m x) := by
  have e : sf_tl N m x &&& K = sf_tl N m x := sf_bas (f := fun x => sf_tl N m x &&& K) (g := fun x => sf_tl N m x)
    (fun a b _ _ => by show sf_tl N m (a ^^^ b) &&& K = (sf_tl N m a &&& K) ^^^ (sf_tl N m b &&& K); rw [sf_tl_x, sf_and_x]) (fun a b _ _ => sf_tl_x N m a b) h.2.2.2.2.1 hx
  rw [← e]
  exact sf_Sm.of h.1.1
theorem sf_Ck.one {n : Nat} {N m K x : Int32} (h : sf_Ck n N m K) (hx : sf_Sm n x) : sf_T n N m 1 x = x :=
  sf_bas (f := fun x => sf_T n N m 1 x) (g := fun x => x) (fun a b _ _ => sf_T_y n N m 1 a b) (fun _ _ _ _ => rfl) h.2.2.2.2.2 hx
theorem sf_Ck.one1 {n : Nat} {N m K : Int32} (h : sf_Ck n N m K) : sf_Sm n 1 := ⟨1, Nat.one_lt_two_pow (by have := h.1.2.1; omega), rfl⟩
theorem sf_Ck.as {n : Nat} {N m K x y z : Int32} (h : sf_Ck n N m K) (hx : sf_Sm n x) (hy : sf_Sm n y) : sf_T n N m x (sf_T n N m y z) = sf_T n N m (sf_T n N m x y) z := by
  have key : ∀ (k : Nat) (w : Int32), sf_Sm n w → sf_T n N m x (sf_tm N m y z k w) = sf_tm N m (sf_T n N m x y) z k (sf_T n N m x w) := by
    intro k
    induction k with
    | zero => intro w _; rfl
    | succ k ih =>
      intro w hw
      show sf_T n N m x (sf_tm N m y z k (sf_ts N m y z k w)) = sf_tm N m (sf_T n N m x y) z k (sf_ts N m (sf_T n N m x y) z k (sf_T n N m x w))
      have hL := h.smL hw
      have hs : sf_Sm n (sf_ts N m y z k w) := by
        unfold sf_ts
        by_cases q : sf_bit z (nI k) = 1
        · rw [if_pos q]; exact hL.xor hy
        · rw [if_neg q]; exact hL
      rw [ih _ hs]
      congr 1
      unfold sf_ts
      by_cases q : sf_bit z (nI k) = 1
      · rw [if_pos q, if_pos q, sf_T_y, h.tl hx hw]
      · rw [if_neg q, if_neg q, h.tl hx hw]
  have e := key n 0 sf_Sm.zero
  have e0 : sf_T n N m x 0 = 0 := (show sf_Ls n (fun y => sf_T n N m x y) from fun a b _ _ => sf_T_y n N m x a b).zero
  rw [e0] at e
  exact e
/-- the squares are additive -/
theorem sf_Ck.sq {n : Nat} {N m K : Int32} (h : sf_Ck n N m K) : sf_Ls n (fun x => sf_T n N m x x) := by
  intro a b ha hb
  show sf_T n N m (a ^^^ b) (a ^^^ b) = sf_T n N m a a ^^^ sf_T n N m b b
  rw [sf_T_x, sf_T_y, sf_T_y, h.comm hb ha, Int32.xor_assoc, ← Int32.xor_assoc (sf_T n N m a b), Int32.xor_self, Int32.zero_xor]
/-- powers -/
def sf_pw (n : Nat) (N m a : Int32) : Nat → Int32
  | 0 => 1
  | k + 1 => sf_T n N m (sf_pw n N m a k) a
theorem sf_Ck.pwS {n : Nat} {N m K a : Int32} (h : sf_Ck n N m K) (ha : sf_Sm n a) : ∀ k, sf_Sm n (sf_pw n N m a k) := by
  intro k
  induction k with
  | zero => exact h.one1
  | succ k ih => exact h.sm ih ha
theorem sf_Ck.pw1 {n : Nat} {N m K a : Int32} (h : sf_Ck n N m K) (ha : sf_Sm n a) : sf_pw n N m a 1 = a := h.one ha
theorem sf_Ck.pwA {n : Nat} {N m K a : Int32} (h : sf_Ck n N m K) (ha : sf_Sm n a) (i : Nat) : ∀ j, sf_T n N m (sf_pw n N m a i) (sf_pw n N m a j) = sf_pw n N m a (i + j) := by
  intro j
  induction j with
  | zero =>
    show sf_T n N m (sf_pw n N m a i) 1 = sf_pw n N m a i
    rw [h.comm (h.pwS ha i) h.one1, h.one (h.pwS ha i)]
  | succ j ih =>
    show sf_T n N m (sf_pw n N m a i) (sf_T n N m (sf_pw n N m a j) a) = sf_T n N m (sf_pw n N m a (i + j)) a
    rw [h.as (h.pwS ha i) (h.pwS ha j), ih]
/-- a number of fewer bits isn't -1 -/
theorem sf_Sm.ne {n : Nat} {x : Int32} (hn : n < 31) (h : sf_Sm n x) : ¬ x = -1 := by
  obtain ⟨a, ha, rfl⟩ := h
  have h31 : a < 2 ^ 31 := Nat.lt_trans ha (Nat.pow_lt_pow_right (by omega) (by omega))
  intro e
  have := nI_pos h31
  rw [e] at this
  exact this (by decide)
end
section
/-! THE PLAIN LAW: the checks themselves, by the kernel -/
theorem sf_ck12 : sf_Ck 12 12 4105 4095 := ⟨⟨by decide +kernel, by decide, by decide⟩, by decide +kernel, by decide +kernel, by decide +kernel, by decide +kernel, by decide +kernel⟩
theorem sf_ck13 : sf_Ck 13 13 8219 8191 := ⟨⟨by decide +kernel, by decide, by decide⟩, by decide +kernel, by decide +kernel, by decide +kernel, by decide +kernel, by decide +kernel⟩
theorem sf_cm12 : ∀ i, i < 12 → ∀ j, j < 12 → sf_m12 (nI (2 ^ i)) (nI (2 ^ j)) = sf_T 12 12 4105 (nI (2 ^ i)) (nI (2 ^ j)) := by decide +kernel
theorem sf_cm13 : ∀ i, i < 13 → ∀ j, j < 13 → sf_m13 (nI (2 ^ i)) (nI (2 ^ j)) = sf_T 13 13 8219 (nI (2 ^ i)) (nI (2 ^ j)) := by decide +kernel
theorem sf_cq12 : ∀ i, i < 12 → sf_q12 (nI (2 ^ i)) = sf_T 12 12 4105 (nI (2 ^ i)) (nI (2 ^ i)) := by decide +kernel
theorem sf_cq13 : ∀ i, i < 13 → sf_q13 (nI (2 ^ i)) = sf_T 13 13 8219 (nI (2 ^ i)) (nI (2 ^ i)) := by decide +kernel
theorem sf_csq : ∀ i, i < 13 → ∀ j, j < 13 → sf_sqm (nI (2 ^ i)) (nI (2 ^ j)) = sf_T 13 13 8219 (sf_T 13 13 8219 (nI (2 ^ i)) (nI (2 ^ i))) (nI (2 ^ j)) := by decide +kernel
theorem sf_csq2 : ∀ i, i < 13 → ∀ j, j < 13 → sf_sq2m (nI (2 ^ i)) (nI (2 ^ j)) = sf_T 13 13 8219 (sf_T 13 13 8219 (sf_T 13 13 8219 (nI (2 ^ i)) (nI (2 ^ i))) (sf_T 13 13 8219 (nI (2 ^ i)) (nI (2 ^ i)))) (nI (2 ^ j)) := by decide +kernel
theorem sf_csx : ∀ i, i < 13 → sf_sx (nI (2 ^ i)) = nI (2 ^ i) := by decide +kernel
end
section
/-! THE PLAIN LAW: GF13's two products of long numbers are additive in both places -/
theorem sf_dx {w : Nat} (x y : BitVec w) (h : x &&& y = 0#w) : x + y = x ^^^ y := by
  rw [BitVec.add_eq_or_of_and_eq_zero x y h]
  apply BitVec.eq_of_getLsbD_eq
  intro i hi
  have hb : (x &&& y).getLsbD i = false := by rw [h]; simp
  rw [BitVec.getLsbD_and] at hb
  rw [BitVec.getLsbD_or, BitVec.getLsbD_xor]
  revert hb
  cases x.getLsbD i <;> cases y.getLsbD i <;> simp
theorem sf_two (t z : BitVec 64) (k p q : Nat) (ht : ∀ j, 13 ≤ j → t.getLsbD j = false) (hpq : p + 13 ≤ q) : (t <<< k) * (z &&& (BitVec.twoPow 64 p ||| BitVec.twoPow 64 q)) = ((t <<< k) * (z &&& BitVec.twoPow 64 p)) ^^^ ((t <<< k) * (z &&& BitVec.twoPow 64 q)) := by
  rw [BitVec.and_or_distrib_left, BitVec.and_twoPow, BitVec.and_twoPow]
  cases z.getLsbD p <;> cases z.getLsbD q
  · simp
  · simp
  · simp
  · simp only [if_true]
    have d1 : BitVec.twoPow 64 p &&& BitVec.twoPow 64 q = 0#64 := by
      apply BitVec.eq_of_getLsbD_eq
      intro i hi
      rw [BitVec.getLsbD_and, BitVec.getLsbD_twoPow, BitVec.getLsbD_twoPow]
      by_cases h1 : p = i
      · have h2 : ¬ q = i := by omega
        simp [h2]
      · simp [h1]
    rw [← BitVec.add_eq_or_of_and_eq_zero _ _ d1, BitVec.mul_add, BitVec.mul_twoPow_eq_shiftLeft, BitVec.mul_twoPow_eq_shiftLeft]
    apply sf_dx
    apply BitVec.eq_of_getLsbD_eq
    intro i hi
    simp only [BitVec.getLsbD_and, BitVec.getLsbD_shiftLeft, BitVec.getLsbD_zero]
    rcases Nat.lt_or_ge i q with h | h
    · simp [h]
    · rcases Nat.lt_or_ge (i - q) k with h2 | h2
      · simp [h2]
      · have h3 := ht (i - p - k) (by omega)
        simp [h3]
theorem sf_lsh_b (t : Int64) (k : Int32) {kk : Nat} (hk : ((k.toInt64 &&& 63).toBitVec.smod 64).toNat = kk) : (sf_lsh t k).toBitVec = t.toBitVec <<< kk := by
  unfold sf_lsh
  rw [Int64.toBitVec_shiftLeft]
  show t.toBitVec <<< ((k.toInt64 &&& 63).toBitVec.smod 64).toNat = _
  rw [hk]
theorem sf_hi {x : Int32} (h : sf_Sm 13 x) : ∀ j, 13 ≤ j → x.toInt64.toBitVec.getLsbD j = false := by
  obtain ⟨a, ha, rfl⟩ := h
  intro j hj
  have ha : a < 8192 := ha
  rw [nI_l (by omega)]
  show (BitVec.ofNat 64 a).getLsbD j = false
  rw [BitVec.getLsbD_ofNat, Nat.testBit_lt_two_pow (Nat.lt_of_lt_of_le (show a < 2 ^ 13 from ha) (Nat.pow_le_pow_right (by omega) hj))]
  simp
theorem sf_mm2 {m : Int32} (hm : sf_Sm 13 m) (t0 : Int64) {k : Int32} {c c1 c2 : Int64} {kk p q : Nat} (hk : ((k.toInt64 &&& 63).toBitVec.smod 64).toNat = kk) (h1 : c1.toBitVec = BitVec.twoPow 64 p) (h2 : c2.toBitVec = BitVec.twoPow 64 q) (hc : c.toBitVec = BitVec.twoPow 64 p ||| BitVec.twoPow 64 q) (hpq : p + 13 ≤ q) : sf_mm m.toInt64 t0 k c = sf_mm m.toInt64 t0 k c1 ^^^ sf_mm m.toInt64 t0 k c2 := by
  apply Int64.toBitVec_inj.1
  unfold sf_mm
  rw [Int64.toBitVec_xor, Int64.toBitVec_mul, Int64.toBitVec_mul, Int64.toBitVec_mul, Int64.toBitVec_and, Int64.toBitVec_and, Int64.toBitVec_and, sf_lsh_b _ k hk, h1, h2, hc]
  exact sf_two _ _ _ _ _ (sf_hi hm) hpq
theorem sf_mm_x0 (t1 a b : Int64) (k : Int32) {c : Int64} {p : Nat} (hc : c.toBitVec = BitVec.twoPow 64 p) : sf_mm t1 (a ^^^ b) k c = sf_mm t1 a k c ^^^ sf_mm t1 b k c := by
  apply Int64.toBitVec_inj.1
  unfold sf_mm
  simp only [Int64.toBitVec_mul, Int64.toBitVec_and, Int64.toBitVec_xor, hc, BitVec.and_twoPow, BitVec.getLsbD_xor]
  cases a.toBitVec.getLsbD p <;> cases b.toBitVec.getLsbD p <;> simp
theorem sf_mm_x1 (a b t0 : Int64) (k : Int32) {c : Int64} {p : Nat} (hc : c.toBitVec = BitVec.twoPow 64 p) : sf_mm (a ^^^ b) t0 k c = sf_mm a t0 k c ^^^ sf_mm b t0 k c := by
  apply Int64.toBitVec_inj.1
  unfold sf_mm
  rw [sf_lsh_x]
  simp only [Int64.toBitVec_mul, Int64.toBitVec_and, Int64.toBitVec_xor, hc, BitVec.and_twoPow]
  cases t0.toBitVec.getLsbD p
  · simp
  · simp only [if_true, BitVec.mul_twoPow_eq_shiftLeft, BitVec.shiftLeft_xor_distrib]
def sf_pr (t1 t2 : Int64) (k : Int32) (c1 c2 : Int64) : Int64 := sf_mm t1 t2 k c1 ^^^ sf_mm t1 t2 k c2
theorem sf_pr_x0 (t1 a b : Int64) (k : Int32) {c1 c2 : Int64} {p q : Nat} (h1 : c1.toBitVec = BitVec.twoPow 64 p) (h2 : c2.toBitVec = BitVec.twoPow 64 q) : sf_pr t1 (a ^^^ b) k c1 c2 = sf_pr t1 a k c1 c2 ^^^ sf_pr t1 b k c1 c2 := by
  unfold sf_pr
  rw [sf_mm_x0 t1 a b k h1, sf_mm_x0 t1 a b k h2, sf_y4]
theorem sf_pr_x1 (a b t0 : Int64) (k : Int32) {c1 c2 : Int64} {p q : Nat} (h1 : c1.toBitVec = BitVec.twoPow 64 p) (h2 : c2.toBitVec = BitVec.twoPow 64 q) : sf_pr (a ^^^ b) t0 k c1 c2 = sf_pr a t0 k c1 c2 ^^^ sf_pr b t0 k c1 c2 := by
  unfold sf_pr
  rw [sf_mm_x1 a b t0 k h1, sf_mm_x1 a b t0 k h2, sf_y4]
/-- seven sums at once -/
theorem sf_y14 (a b c d e f g a' b' c' d' e' f' g' : Int64) : (a ^^^ a') ^^^ (b ^^^ b') ^^^ (c ^^^ c') ^^^ (d ^^^ d') ^^^ (e ^^^ e') ^^^ (f ^^^ f') ^^^ (g ^^^ g') = (a ^^^ b ^^^ c ^^^ d ^^^ e ^^^ f ^^^ g) ^^^ (a' ^^^ b' ^^^ c' ^^^ d' ^^^ e' ^^^ f' ^^^ g') := by
  rw [sf_y4 a, sf_y4 _ _ c, sf_y4 _ _ d, sf_y4 _ _ e, sf_y4 _ _ f, sf_y4 _ _ g]
def sf_qL (t0 t1 t2 : Int64) : Int64 := sf_mm t1 t0 6 64 ^^^ sf_pr t1 t2 0 1 16384 ^^^ sf_pr t1 t2 1 2 32768 ^^^ sf_pr t1 t2 2 4 65536 ^^^ sf_pr t1 t2 3 8 131072 ^^^ sf_pr t1 t2 4 16 262144 ^^^ sf_pr t1 t2 5 32 524288
def sf_q2L (t0 t1 t2 : Int64) : Int64 := sf_mm t1 t0 18 64 ^^^ sf_pr t1 t2 0 1 268435456 ^^^ sf_pr t1 t2 3 2 536870912 ^^^ sf_pr t1 t2 6 4 1073741824 ^^^ sf_pr t1 t2 9 8 2147483648 ^^^ sf_pr t1 t2 12 16 4294967296 ^^^ sf_pr t1 t2 15 32 8589934592
theorem sf_qx_eq {m : Int32} (hm : sf_Sm 13 m) (t0 t2 : Int64) : sf_qx t0 m.toInt64 t2 = sf_qL t0 m.toInt64 t2 := by
  unfold sf_qx sf_qL sf_pr
  rw [sf_mm2 hm t2 (k := 0) (c := 16385) (c1 := 1) (c2 := 16384) (kk := 0) (p := 0) (q := 14) (by decide +kernel) (by decide +kernel) (by decide +kernel) (by decide +kernel) (by decide),
    sf_mm2 hm t2 (k := 1) (c := 32770) (c1 := 2) (c2 := 32768) (kk := 1) (p := 1) (q := 15) (by decide +kernel) (by decide +kernel) (by decide +kernel) (by decide +kernel) (by decide),
    sf_mm2 hm t2 (k := 2) (c := 65540) (c1 := 4) (c2 := 65536) (kk := 2) (p := 2) (q := 16) (by decide +kernel) (by decide +kernel) (by decide +kernel) (by decide +kernel) (by decide),
    sf_mm2 hm t2 (k := 3) (c := 131080) (c1 := 8) (c2 := 131072) (kk := 3) (p := 3) (q := 17) (by decide +kernel) (by decide +kernel) (by decide +kernel) (by decide +kernel) (by decide),
    sf_mm2 hm t2 (k := 4) (c := 262160) (c1 := 16) (c2 := 262144) (kk := 4) (p := 4) (q := 18) (by decide +kernel) (by decide +kernel) (by decide +kernel) (by decide +kernel) (by decide),
    sf_mm2 hm t2 (k := 5) (c := 524320) (c1 := 32) (c2 := 524288) (kk := 5) (p := 5) (q := 19) (by decide +kernel) (by decide +kernel) (by decide +kernel) (by decide +kernel) (by decide)]
theorem sf_q2x_eq {m : Int32} (hm : sf_Sm 13 m) (t0 t2 : Int64) : sf_q2x t0 m.toInt64 t2 = sf_q2L t0 m.toInt64 t2 := by
  unfold sf_q2x sf_q2L sf_pr
  rw [sf_mm2 hm t2 (k := 0) (c := 268435457) (c1 := 1) (c2 := 268435456) (kk := 0) (p := 0) (q := 28) (by decide +kernel) (by decide +kernel) (by decide +kernel) (by decide +kernel) (by decide),
    sf_mm2 hm t2 (k := 3) (c := 536870914) (c1 := 2) (c2 := 536870912) (kk := 3) (p := 1) (q := 29) (by decide +kernel) (by decide +kernel) (by decide +kernel) (by decide +kernel) (by decide),
    sf_mm2 hm t2 (k := 6) (c := 1073741828) (c1 := 4) (c2 := 1073741824) (kk := 6) (p := 2) (q := 30) (by decide +kernel) (by decide +kernel) (by decide +kernel) (by decide +kernel) (by decide),
    sf_mm2 hm t2 (k := 9) (c := 2147483656) (c1 := 8) (c2 := 2147483648) (kk := 9) (p := 3) (q := 31) (by decide +kernel) (by decide +kernel) (by decide +kernel) (by decide +kernel) (by decide),
    sf_mm2 hm t2 (k := 12) (c := 4294967312) (c1 := 16) (c2 := 4294967296) (kk := 12) (p := 4) (q := 32) (by decide +kernel) (by decide +kernel) (by decide +kernel) (by decide +kernel) (by decide),
    sf_mm2 hm t2 (k := 15) (c := 8589934624) (c1 := 32) (c2 := 8589934592) (kk := 15) (p := 5) (q := 33) (by decide +kernel) (by decide +kernel) (by decide +kernel) (by decide +kernel) (by decide)]
theorem sf_qL_x0 (t1 a b c d : Int64) : sf_qL (a ^^^ b) t1 (c ^^^ d) = sf_qL a t1 c ^^^ sf_qL b t1 d := by
  unfold sf_qL
  rw [sf_mm_x0 t1 a b 6 (c := 64) (p := 6) (by decide +kernel), sf_pr_x0 t1 c d 0 (c1 := 1) (c2 := 16384) (p := 0) (q := 14) (by decide +kernel) (by decide +kernel), sf_pr_x0 t1 c d 1 (c1 := 2) (c2 := 32768) (p := 1) (q := 15) (by decide +kernel) (by decide +kernel), sf_pr_x0 t1 c d 2 (c1 := 4) (c2 := 65536) (p := 2) (q := 16) (by decide +kernel) (by decide +kernel), sf_pr_x0 t1 c d 3 (c1 := 8) (c2 := 131072) (p := 3) (q := 17) (by decide +kernel) (by decide +kernel), sf_pr_x0 t1 c d 4 (c1 := 16) (c2 := 262144) (p := 4) (q := 18) (by decide +kernel) (by decide +kernel), sf_pr_x0 t1 c d 5 (c1 := 32) (c2 := 524288) (p := 5) (q := 19) (by decide +kernel) (by decide +kernel)]
  exact sf_y14 ..
theorem sf_qL_x1 (a b t0 t2 : Int64) : sf_qL t0 (a ^^^ b) t2 = sf_qL t0 a t2 ^^^ sf_qL t0 b t2 := by
  unfold sf_qL
  rw [sf_mm_x1 a b t0 6 (c := 64) (p := 6) (by decide +kernel), sf_pr_x1 a b t2 0 (c1 := 1) (c2 := 16384) (p := 0) (q := 14) (by decide +kernel) (by decide +kernel), sf_pr_x1 a b t2 1 (c1 := 2) (c2 := 32768) (p := 1) (q := 15) (by decide +kernel) (by decide +kernel), sf_pr_x1 a b t2 2 (c1 := 4) (c2 := 65536) (p := 2) (q := 16) (by decide +kernel) (by decide +kernel), sf_pr_x1 a b t2 3 (c1 := 8) (c2 := 131072) (p := 3) (q := 17) (by decide +kernel) (by decide +kernel), sf_pr_x1 a b t2 4 (c1 := 16) (c2 := 262144) (p := 4) (q := 18) (by decide +kernel) (by decide +kernel), sf_pr_x1 a b t2 5 (c1 := 32) (c2 := 524288) (p := 5) (q := 19) (by decide +kernel) (by decide +kernel)]
  exact sf_y14 ..
theorem sf_q2L_x0 (t1 a b c d : Int64) : sf_q2L (a ^^^ b) t1 (c ^^^ d) = sf_q2L a t1 c ^^^ sf_q2L b t1 d := by
  unfold sf_q2L
  rw [sf_mm_x0 t1 a b 18 (c := 64) (p := 6) (by decide +kernel), sf_pr_x0 t1 c d 0 (c1 := 1) (c2 := 268435456) (p := 0) (q := 28) (by decide +kernel) (by decide +kernel), sf_pr_x0 t1 c d 3 (c1 := 2) (c2 := 536870912) (p := 1) (q := 29) (by decide +kernel) (by decide +kernel), sf_pr_x0 t1 c d 6 (c1 := 4) (c2 := 1073741824) (p := 2) (q := 30) (by decide +kernel) (by decide +kernel), sf_pr_x0 t1 c d 9 (c1 := 8) (c2 := 2147483648) (p := 3) (q := 31) (by decide +kernel) (by decide +kernel), sf_pr_x0 t1 c d 12 (c1 := 16) (c2 := 4294967296) (p := 4) (q := 32) (by decide +kernel) (by decide +kernel), sf_pr_x0 t1 c d 15 (c1 := 32) (c2 := 8589934592) (p := 5) (q := 33) (by decide +kernel) (by decide +kernel)]
  exact sf_y14 ..
theorem sf_q2L_x1 (a b t0 t2 : Int64) : sf_q2L t0 (a ^^^ b) t2 = sf_q2L t0 a t2 ^^^ sf_q2L t0 b t2 := by
  unfold sf_q2L
  rw [sf_mm_x1 a b t0 18 (c := 64) (p := 6) (by decide +kernel), sf_pr_x1 a b t2 0 (c1 := 1) (c2 := 268435456) (p := 0) (q := 28) (by decide +kernel) (by decide +kernel), sf_pr_x1 a b t2 3 (c1 := 2) (c2 := 536870912) (p := 1) (q := 29) (by decide +kernel) (by decide +kernel), sf_pr_x1 a b t2 6 (c1 := 4) (c2 := 1073741824) (p := 2) (q := 30) (by decide +kernel) (by decide +kernel), sf_pr_x1 a b t2 9 (c1 := 8) (c2 := 2147483648) (p := 3) (q := 31) (by decide +kernel) (by decide +kernel), sf_pr_x1 a b t2 12 (c1 := 16) (c2 := 4294967296) (p := 4) (q := 32) (by decide +kernel) (by decide +kernel), sf_pr_x1 a b t2 15 (c1 := 32) (c2 := 8589934592) (p := 5) (q := 33) (by decide +kernel) (by decide +kernel)]
  exact sf_y14 ..
theorem sf_fold_x (a b c d : Int64) : sf_fold (a ^^^ b) (c ^^^ d) = sf_fold a c ^^^ sf_fold b d := by
  unfold sf_fold
  rw [sf_lus_x, sf_lus_x, sf_lus_x, sf_lus_x, sf_y4 (sf_lus c 18), sf_y4 _ _ (sf_lus c 24), sf_y4 _ _ (sf_lus c 26), sf_y4 a]
theorem sf_qf_x (a b : Int64) : sf_qf (a ^^^ b) = sf_qf a ^^^ sf_qf b := by
  unfold sf_qf
  rw [sf_land_x, sf_fold_x, Int64.toInt32_xor, sf_and_x]
theorem sf_q2f_x (a b : Int64) : sf_q2f (a ^^^ b) = sf_q2f a ^^^ sf_q2f b := by
  unfold sf_q2f sf_q2g
  rw [sf_land_x, sf_fold_x, sf_land_x, sf_fold_x, Int64.toInt32_xor, sf_and_x]
theorem sf_sh2_x (a b : Int32) (k : Int32) : (a ^^^ b).toInt64 ^^^ sf_lsh (a ^^^ b).toInt64 k = (a.toInt64 ^^^ sf_lsh a.toInt64 k) ^^^ (b.toInt64 ^^^ sf_lsh b.toInt64 k) := by
  rw [Int32.toInt64_xor, sf_lsh_x, sf_y4]
theorem sf_sqm_a {m : Int32} (hm : sf_Sm 13 m) (a b : Int32) : sf_sqm (a ^^^ b) m = sf_sqm a m ^^^ sf_sqm b m := by
  unfold sf_sqm
  rw [sf_qx_eq hm, sf_qx_eq hm, sf_qx_eq hm, sf_sh2_x, Int32.toInt64_xor, sf_qL_x0, sf_qf_x, sf_r13_x]
theorem sf_sqm_m (x : Int32) {a b : Int32} (ha : sf_Sm 13 a) (hb : sf_Sm 13 b) : sf_sqm x (a ^^^ b) = sf_sqm x a ^^^ sf_sqm x b := by
  unfold sf_sqm
  rw [sf_qx_eq (ha.xor hb), sf_qx_eq ha, sf_qx_eq hb, Int32.toInt64_xor, sf_qL_x1, sf_qf_x, sf_r13_x]
theorem sf_sq2m_a {m : Int32} (hm : sf_Sm 13 m) (a b : Int32) : sf_sq2m (a ^^^ b) m = sf_sq2m a m ^^^ sf_sq2m b m := by
  unfold sf_sq2m
  rw [sf_q2x_eq hm, sf_q2x_eq hm, sf_q2x_eq hm, sf_sh2_x, Int32.toInt64_xor, sf_q2L_x0, sf_q2f_x, sf_r13_x]
theorem sf_sq2m_m (x : Int32) {a b : Int32} (ha : sf_Sm 13 a) (hb : sf_Sm 13 b) : sf_sq2m x (a ^^^ b) = sf_sq2m x a ^^^ sf_sq2m x b := by
  unfold sf_sq2m
  rw [sf_q2x_eq (ha.xor hb), sf_q2x_eq ha, sf_q2x_eq hb, Int32.toInt64_xor, sf_q2L_x1, sf_q2f_x, sf_r13_x]
end
section
/-! THE PLAIN LAW, its end: what the face computes is what the reference computes -/
theorem sf_m12_T {x y : Int32} (hx : sf_Sm 12 x) (hy : sf_Sm 12 y) : sf_m12 x y = sf_T 12 12 4105 x y :=
  sf_bas2 (f := fun x y => sf_m12 x y) (g := fun x y => sf_T 12 12 4105 x y)
    (fun y _ a b _ _ => by show sf_m12 (a ^^^ b) y = sf_m12 a y ^^^ sf_m12 b y; unfold sf_m12; rw [sf_me_x y a b 11 (by decide), sf_r12_x])
    (fun x _ a b _ _ => by show sf_m12 x (a ^^^ b) = sf_m12 x a ^^^ sf_m12 x b; unfold sf_m12; rw [sf_me_y x a b 11 (by decide), sf_r12_x])
    (fun y _ a b _ _ => sf_T_x 12 12 4105 a b y) (fun x _ a b _ _ => sf_T_y 12 12 4105 x a b) sf_cm12 hx hy
theorem sf_m13_T {x y : Int32} (hx : sf_Sm 13 x) (hy : sf_Sm 13 y) : sf_m13 x y = sf_T 13 13 8219 x y :=
  sf_bas2 (f := fun x y => sf_m13 x y) (g := fun x y => sf_T 13 13 8219 x y)
    (fun y _ a b _ _ => by show sf_m13 (a ^^^ b) y = sf_m13 a y ^^^ sf_m13 b y; unfold sf_m13; rw [sf_me_x y a b 12 (by decide), sf_r13_x])
    (fun x _ a b _ _ => by show sf_m13 x (a ^^^ b) = sf_m13 x a ^^^ sf_m13 x b; unfold sf_m13; rw [sf_me_y x a b 12 (by decide), sf_r13_x])
    (fun y _ a b _ _ => sf_T_x 13 13 8219 a b y) (fun x _ a b _ _ => sf_T_y 13 13 8219 x a b) sf_cm13 hx hy
theorem sf_q12_T {x : Int32} (hx : sf_Sm 12 x) : sf_q12 x = sf_T 12 12 4105 x x :=
  sf_bas (f := fun x => sf_q12 x) (g := fun x => sf_T 12 12 4105 x x) (fun a b _ _ => by show sf_q12 (a ^^^ b) = sf_q12 a ^^^ sf_q12 b; unfold sf_q12; rw [sf_ex_x, sf_r12_x]) sf_ck12.sq sf_cq12 hx
theorem sf_q13_T {x : Int32} (hx : sf_Sm 13 x) : sf_q13 x = sf_T 13 13 8219 x x :=
  sf_bas (f := fun x => sf_q13 x) (g := fun x => sf_T 13 13 8219 x x) (fun a b _ _ => by show sf_q13 (a ^^^ b) = sf_q13 a ^^^ sf_q13 b; unfold sf_q13; rw [sf_ex_x, sf_r13_x]) sf_ck13.sq sf_cq13 hx
theorem sf_sqm_T {x m : Int32} (hx : sf_Sm 13 x) (hm : sf_Sm 13 m) : sf_sqm x m = sf_T 13 13 8219 (sf_T 13 13 8219 x x) m :=
  sf_bas2 (f := fun x m => sf_sqm x m) (g := fun x m => sf_T 13 13 8219 (sf_T 13 13 8219 x x) m) (fun y hy a b _ _ => sf_sqm_a hy a b) (fun x _ a b ha hb => sf_sqm_m x ha hb)
    (fun y _ a b ha hb => by
      have e : sf_T 13 13 8219 (a ^^^ b) (a ^^^ b) = sf_T 13 13 8219 a a ^^^ sf_T 13 13 8219 b b := sf_ck13.sq a b ha hb
      show sf_T 13 13 8219 (sf_T 13 13 8219 (a ^^^ b) (a ^^^ b)) y = _
      rw [e, sf_T_x])
    (fun x _ a b _ _ => sf_T_y 13 13 8219 _ a b) sf_csq hx hm
theorem sf_sq2m_T {x m : Int32} (hx : sf_Sm 13 x) (hm : sf_Sm 13 m) : sf_sq2m x m = sf_T 13 13 8219 (sf_T 13 13 8219 (sf_T 13 13 8219 x x) (sf_T 13 13 8219 x x)) m :=
  sf_bas2 (f := fun x m => sf_sq2m x m) (g := fun x m => sf_T 13 13 8219 (sf_T 13 13 8219 (sf_T 13 13 8219 x x) (sf_T 13 13 8219 x x)) m) (fun y hy a b _ _ => sf_sq2m_a hy a b) (fun x _ a b ha hb => sf_sq2m_m x ha hb)
    (fun y _ a b ha hb => by
      have e : sf_T 13 13 8219 (a ^^^ b) (a ^^^ b) = sf_T 13 13 8219 a a ^^^ sf_T 13 13 8219 b b := sf_ck13.sq a b ha hb
      have e2 : sf_T 13 13 8219 (sf_T 13 13 8219 a a ^^^ sf_T 13 13 8219 b b) (sf_T 13 13 8219 a a ^^^ sf_T 13 13 8219 b b) = sf_T 13 13 8219 (sf_T 13 13 8219 a a) (sf_T 13 13 8219 a a) ^^^ sf_T 13 13 8219 (sf_T 13 13 8219 b b) (sf_T 13 13 8219 b b) := sf_ck13.sq _ _ (sf_ck13.sm ha ha) (sf_ck13.sm hb hb)
      show sf_T 13 13 8219 (sf_T 13 13 8219 (sf_T 13 13 8219 (a ^^^ b) (a ^^^ b)) (sf_T 13 13 8219 (a ^^^ b) (a ^^^ b))) y = _
      rw [e, e2, sf_T_x])
    (fun x _ a b _ _ => sf_T_y 13 13 8219 _ a b) sf_csq2 hx hm
theorem sf_Sm.mono {n : Nat} {x : Int32} (h : sf_Sm n x) : sf_Sm (n + 1) x := by
  obtain ⟨a, ha, e⟩ := h
  exact ⟨a, Nat.lt_trans ha (Nat.pow_lt_pow_right (by omega) (by omega)), e⟩
theorem sf_sx_id {x : Int32} (h : sf_Sm 13 x) : sf_sx x = x :=
  sf_bas (f := fun x => sf_sx x) (g := fun x => x) (fun a b _ _ => sf_sx_x a b) (fun _ _ _ _ => rfl) sf_csx h
theorem sf_S12 (v : Int32) : sf_Sm 12 (v &&& 4095) := sf_Sm.of sf_ck12.1.1
theorem sf_S13 (v : Int32) : sf_Sm 13 (v &&& 8191) := sf_Sm.of sf_ck13.1.1
theorem sf_fair0 {k : Int32} (h : k &&& 1 = 0) (v : Int32) : sf_fair k v = v &&& 4095 := by
  unfold sf_fair
  rw [if_pos h]
  exact sf_sx_id (sf_S12 v).mono
theorem sf_fair1 {k : Int32} (h : ¬ k &&& 1 = 0) (v : Int32) : sf_fair k v = v &&& 8191 := by
  unfold sf_fair
  rw [if_neg h]
  exact sf_sx_id (sf_S13 v)
theorem sf_tms0 {k : Int32} (h : k &&& 1 = 0) (a b : Int32) : sf_times k a b = sf_T 12 12 4105 (a &&& 4095) (b &&& 4095) := by
  unfold sf_times
  rw [if_pos h]
  rfl
theorem sf_tms1 {k : Int32} (h : ¬ k &&& 1 = 0) (a b : Int32) : sf_times k a b = sf_T 13 13 8219 (a &&& 8191) (b &&& 8191) := by
  unfold sf_times
  rw [if_neg h]
  rfl
theorem sf_tmS0 {k : Int32} (h : k &&& 1 = 0) {a b : Int32} (ha : sf_Sm 12 a) (hb : sf_Sm 12 b) : sf_times k a b = sf_T 12 12 4105 a b := by
  rw [sf_tms0 h, ha.eq sf_ck12.1.1 (by decide), hb.eq sf_ck12.1.1 (by decide)]
theorem sf_tmS1 {k : Int32} (h : ¬ k &&& 1 = 0) {a b : Int32} (ha : sf_Sm 13 a) (hb : sf_Sm 13 b) : sf_times k a b = sf_T 13 13 8219 a b := by
  rw [sf_tms1 h, ha.eq sf_ck13.1.1 (by decide), hb.eq sf_ck13.1.1 (by decide)]
theorem sf_ar (e f r : Nat) : e + (f + f) + (f + f) * (2 ^ (r + 1) - 2) = e + f * (2 ^ (r + 1 + 1) - 2) := by
  obtain ⟨Q, hQ⟩ : ∃ Q, 2 ^ (r + 1) = Q + 2 := ⟨2 ^ (r + 1) - 2, by
    have : 2 ^ 1 ≤ 2 ^ (r + 1) := Nat.pow_le_pow_right (by omega) (by omega)
    omega⟩
  rw [Nat.pow_succ 2 (r + 1), hQ, show Q + 2 - 2 = Q by omega, show (Q + 2) * 2 - 2 = Q + Q + 2 by omega, Nat.mul_add, Nat.mul_add, Nat.add_mul]
  omega
theorem sf_iv0 {k : Int32} (h : k &&& 1 = 0) {a : Int32} (ha : sf_Sm 12 a) : ∀ r e f, sf_iv k r (sf_pw 12 12 4105 a e) (sf_pw 12 12 4105 a f) = sf_pw 12 12 4105 a (e + f * (2 ^ (r + 1) - 2)) := by
  intro r
  induction r with
  | zero => intro e f; rfl
  | succ r ih =>
    intro e f
    show sf_iv k r (sf_times k (sf_pw 12 12 4105 a e) (sf_times k (sf_pw 12 12 4105 a f) (sf_pw 12 12 4105 a f))) (sf_times k (sf_pw 12 12 4105 a f) (sf_pw 12 12 4105 a f)) = _
    rw [sf_tmS0 h (sf_ck12.pwS ha f) (sf_ck12.pwS ha f), sf_ck12.pwA ha, sf_tmS0 h (sf_ck12.pwS ha e) (sf_ck12.pwS ha (f + f)), sf_ck12.pwA ha, ih, sf_ar]
theorem sf_iv1 {k : Int32} (h : ¬ k &&& 1 = 0) {a : Int32} (ha : sf_Sm 13 a) : ∀ r e f, sf_iv k r (sf_pw 13 13 8219 a e) (sf_pw 13 13 8219 a f) = sf_pw 13 13 8219 a (e + f * (2 ^ (r + 1) - 2)) := by
  intro r
  induction r with
  | zero => intro e f; rfl
  | succ r ih =>
    intro e f
    show sf_iv k r (sf_times k (sf_pw 13 13 8219 a e) (sf_times k (sf_pw 13 13 8219 a f) (sf_pw 13 13 8219 a f))) (sf_times k (sf_pw 13 13 8219 a f) (sf_pw 13 13 8219 a f)) = _
    rw [sf_tmS1 h (sf_ck13.pwS ha f) (sf_ck13.pwS ha f), sf_ck13.pwA ha, sf_tmS1 h (sf_ck13.pwS ha e) (sf_ck13.pwS ha (f + f)), sf_ck13.pwA ha, ih, sf_ar]
theorem sf_ivE0 {k : Int32} (h : k &&& 1 = 0) {a : Int32} (ha : sf_Sm 12 a) : sf_iv k 11 1 a = sf_pw 12 12 4105 a 4094 := by
  have e := sf_iv0 h ha 11 0 1
  rw [sf_ck12.pw1 ha, show 0 + 1 * (2 ^ (11 + 1) - 2) = 4094 from rfl] at e
  exact e
theorem sf_ivE1 {k : Int32} (h : ¬ k &&& 1 = 0) {a : Int32} (ha : sf_Sm 13 a) : sf_iv k 12 1 a = sf_pw 13 13 8219 a 8190 := by
  have e := sf_iv1 h ha 12 0 1
  rw [sf_ck13.pw1 ha, show 0 + 1 * (2 ^ (12 + 1) - 2) = 8190 from rfl] at e
  exact e
theorem sf_i12_pw {a : Int32} (ha : sf_Sm 12 a) : sf_i12 a = sf_pw 12 12 4105 a 4094 := by
  have hq : ∀ i, sf_q12 (sf_pw 12 12 4105 a i) = sf_pw 12 12 4105 a (i + i) := fun i => by rw [sf_q12_T (sf_ck12.pwS ha i), sf_ck12.pwA ha]
  have hm : ∀ i j, sf_m12 (sf_pw 12 12 4105 a i) (sf_pw 12 12 4105 a j) = sf_pw 12 12 4105 a (i + j) := fun i j => by rw [sf_m12_T (sf_ck12.pwS ha i) (sf_ck12.pwS ha j), sf_ck12.pwA ha]
  have e : sf_i12 (sf_pw 12 12 4105 a 1) = sf_pw 12 12 4105 a 4094 := by
    unfold sf_i12 sf_i12d sf_i12c sf_i12b sf_i12a
    simp only [hq, hm, Nat.reduceAdd]
  rw [sf_ck12.pw1 ha] at e
  exact e
theorem sf_d13_pw {a n : Int32} (ha : sf_Sm 13 a) (hn : sf_Sm 13 n) : sf_d13 a n = sf_T 13 13 8219 (sf_pw 13 13 8219 a 8190) n := by
  have hq : ∀ i, sf_q13 (sf_pw 13 13 8219 a i) = sf_pw 13 13 8219 a (i + i) := fun i => by rw [sf_q13_T (sf_ck13.pwS ha i), sf_ck13.pwA ha]
  have hs : ∀ i j, sf_sqm (sf_pw 13 13 8219 a i) (sf_pw 13 13 8219 a j) = sf_pw 13 13 8219 a (i + i + j) := fun i j => by rw [sf_sqm_T (sf_ck13.pwS ha i) (sf_ck13.pwS ha j), sf_ck13.pwA ha, sf_ck13.pwA ha]
  have hs2 : ∀ i j, sf_sq2m (sf_pw 13 13 8219 a i) (sf_pw 13 13 8219 a j) = sf_pw 13 13 8219 a (i + i + (i + i) + j) := fun i j => by rw [sf_sq2m_T (sf_ck13.pwS ha i) (sf_ck13.pwS ha j), sf_ck13.pwA ha, sf_ck13.pwA ha, sf_ck13.pwA ha]
  have hl : ∀ i, sf_sqm (sf_pw 13 13 8219 a i) n = sf_T 13 13 8219 (sf_pw 13 13 8219 a (i + i)) n := fun i => by rw [sf_sqm_T (sf_ck13.pwS ha i) hn, sf_ck13.pwA ha]
  have e : sf_d13 (sf_pw 13 13 8219 a 1) n = sf_T 13 13 8219 (sf_pw 13 13 8219 a 8190) n := by
    unfold sf_d13 sf_d13a sf_d13b sf_qq13
    simp only [hq, hs, hs2, Nat.reduceAdd, hl]
  rw [sf_ck13.pw1 ha] at e
  exact e
theorem sf_i13_pw {a : Int32} (ha : sf_Sm 13 a) : sf_i13 a = sf_pw 13 13 8219 a 8190 := by
  unfold sf_i13
  rw [sf_d13_pw ha sf_ck13.one1, sf_ck13.comm (sf_ck13.pwS ha _) sf_ck13.one1, sf_ck13.one (sf_ck13.pwS ha _)]
/-! the six laws -/
theorem sf_L_mul (k a b : Int32) : sf_fmul k a b = sf_times k a b := by
  unfold sf_fmul
  by_cases h : k &&& 1 = 0
  · rw [if_pos h, sf_fair0 h, sf_fair0 h, sf_m12_T (sf_S12 a) (sf_S12 b), sf_tms0 h]
  · rw [if_neg h, sf_fair1 h, sf_fair1 h, sf_m13_T (sf_S13 a) (sf_S13 b), sf_tms1 h]
theorem sf_L_sq (k a : Int32) : sf_fsq k a = sf_times k a a := by
  unfold sf_fsq
  by_cases h : k &&& 1 = 0
  · rw [if_pos h, sf_fair0 h, sf_q12_T (sf_S12 a), sf_tms0 h]
  · rw [if_neg h, sf_fair1 h, sf_q13_T (sf_S13 a), sf_tms1 h]
theorem sf_L_inv (k a : Int32) : sf_finv k a = sf_minv k a := by
  unfold sf_finv sf_minv sf_one
  by_cases h : k &&& 1 = 0
  · rw [if_pos h, if_pos h, if_pos h, sf_fair0 h, sf_i12_pw (sf_S12 a), sf_ivE0 h (sf_S12 a)]
  · rw [if_neg h, if_neg h, if_neg h, sf_fair1 h, sf_i13_pw (sf_S13 a), sf_ivE1 h (sf_S13 a)]
theorem sf_L_quo (k o u : Int32) : sf_fquo k o u = sf_mquo k o u := by
  unfold sf_mquo sf_fquo sf_minv sf_one
  by_cases h : k &&& 1 = 0
  · rw [if_pos h, if_pos h, if_pos h, sf_fair0 h, sf_fair0 h, sf_ivE0 h (sf_S12 u)]
    by_cases g : u &&& 4095 = 0
    · rw [if_pos g, if_pos g, if_pos rfl]
    · have hp := sf_ck12.pwS (sf_S12 u) 4094
      rw [if_neg g, if_neg g, if_neg (hp.ne (by decide)), sf_tms0 h, hp.eq sf_ck12.1.1 (by decide)]
      unfold sf_d12
      rw [sf_i12_pw (sf_S12 u), sf_m12_T hp (sf_S12 o), sf_ck12.comm hp (sf_S12 o)]
  · rw [if_neg h, if_neg h, if_neg h, sf_fair1 h, sf_fair1 h, sf_ivE1 h (sf_S13 u)]
    by_cases g : u &&& 8191 = 0
    · rw [if_pos g, if_pos g, if_pos rfl]
    · have hp := sf_ck13.pwS (sf_S13 u) 8190
      rw [if_neg g, if_neg g, if_neg (hp.ne (by decide)), sf_tms1 h, hp.eq sf_ck13.1.1 (by decide)]
      rw [sf_d13_pw (sf_S13 u) (sf_S13 o), sf_ck13.comm hp (sf_S13 o)]
theorem sf_L_pro (k a b c d : Int32) : sf_fpro k a b c d = sf_times k a b ^^^ sf_times k c d := by
  unfold sf_fpro
  by_cases h : k &&& 1 = 0
  · rw [if_pos h, sf_r12_x, sf_fair0 h, sf_fair0 h, sf_fair0 h, sf_fair0 h, sf_tms0 h, sf_tms0 h, ← sf_m12_T (sf_S12 a) (sf_S12 b), ← sf_m12_T (sf_S12 c) (sf_S12 d)]
    rfl
  · rw [if_neg h, sf_r13_x, sf_fair1 h, sf_fair1 h, sf_fair1 h, sf_fair1 h, sf_tms1 h, sf_tms1 h, ← sf_m13_T (sf_S13 a) (sf_S13 b), ← sf_m13_T (sf_S13 c) (sf_S13 d)]
    rfl
theorem sf_nou {x : Int32} (hx : sf_Sm 13 x) : (if sf_sx ((x - 1) >>> ((31 : Int32) &&& 31)) = 0 then (0 : Int32) else 1) = if x = 0 then 1 else 0 := by
  obtain ⟨j, hj, rfl⟩ := hx
  have hj : j < 8192 := hj
  rcases Nat.eq_zero_or_pos j with rfl | h0
  · decide +kernel
  · obtain ⟨i, rfl⟩ : ∃ i, j = i + 1 := ⟨j - 1, by omega⟩
    rw [nI_pred, pk_shrN (by omega) _ 31 (by decide +kernel), Nat.div_eq_of_lt (by omega), if_neg (nI_ne0 h0 (by omega)), if_pos (by decide +kernel)]
theorem sf_L_nou (k a : Int32) : sf_fnou k a = sf_mnou k a := by
  unfold sf_fnou sf_mnou sf_one
  by_cases h : k &&& 1 = 0
  · rw [if_pos h, sf_fair0 h, sf_nou (sf_S12 a).mono]
  · rw [if_neg h, sf_fair1 h, sf_nou (sf_S13 a)]
end
section
set_option maxRecDepth 100000
/-! THE CLAIM OUT OF ONE WALK OF THE LAW'S BODY. Your part is whole_start (and what it stands on); all else here is the same for every law, but numbers. -/
def R_law : String := "SmallFieldsLaw"
def lw_P (b : Addr) (xs : List Int32) (args : Array Value) (s : State) : Prop := args = #[.ref b] ∧ s.IntsAt b xs ∧ xs.length ≤ 384 ∧ (Jvm.Cond.and given_1 narrow_1).before args s = true
def lw_Q (_ : Array Value) (s : State) (o : Outcome) (t : State) : Prop := o = .returned (some (.int 1)) ∧ Framed s o t [] 600000 7290000
def lw_Z (below : List Frame) (a : Array Value) (s : State) : State → Prop := fun t => ∃ o, t.status = .running ∧ Ended t below o ∧ lw_Q a s o t
/-- the law's own end, with 1 on the stack, nothing written that was there before, its room as the claim has it -/
theorem lw_ret {p : Program} {l : Launch} {e : Env} {s : State} {m : MethodId} {below : List Frame} {meth : Method} {c : Code} {b : Nat} (hx : p.tables.exec = Jvm.exec) (hb : c.code = code) (hr : meth.sig.returnType = ret) (hlocks : meth.locks = false) {pc : Nat} {H : Heap} {ls : Array Slot} (hdg : decode code pc = .ok (.ireturn, 1)) : W p l e room_1 s m #[Value.ref b] below meth c H [] 600000 7290000 (lw_Z below #[Value.ref b] s) (F0 m pc ls [.int 1]) := by
  intro T hT X
  obtain ⟨fs, hret, hrun, hended, hW, hframe⟩ := X.leave (v := some (.int 1)) (hlocks := hlocks) (fun h => by rw [hr] at h; cases h)
  have hmeth' : T.vm.method? m = some meth := X.method'
  refine ⟨T.setFrames fs, ?_, .returned (some (.int 1)), hrun, hended, rfl, ⟨_, rfl⟩, hW, hframe⟩
  jvm_step X.here [X.here.top, hx, hb, hdg, hmeth', hr, ret, narrow_b1]
  (try refine ⟨rfl, ?_⟩); (try refine ⟨rfl, ?_⟩)
  first | (intro acts; rw [hret _ acts rfl rfl rfl]) | rw [hret _ _ rfl rfl rfl]
  exact Steps.refl _
/-- what holds at the law's entry: the machine, the code, the tables' words (any of lw_tbl by 'hts w (by decide +kernel)'), the script of L ints xs at the cell b, what the Statement gives of the start (any of its parts by flat_of_before) -/
def lw_At (p : Program) (s : State) (m : MethodId) (meth : Method) (c : Code) (b L : Nat) (xs : Nat → Int32) : Prop :=
  p.tables.exec = Jvm.exec ∧ c.code = code ∧ meth.sig.returnType = ret ∧ c.maxLocals = 4 ∧ s.vm.findClass R_law = some m.cls ∧ (∀ w ∈ lw_tbl, w.before #[Value.ref b] s = true) ∧ va_X b L xs s s.heap ∧ b < s.heap.size ∧ meth.locks = false ∧ (Jvm.Cond.and given_1 narrow_1).before #[Value.ref b] s = true
end
section
/-! THE LAW: its cases, its loop -/
set_option maxRecDepth 100000
theorem sf_sld {p : Program} {l : Launch} {e : Env} {R : Room} {s : State} {m : MethodId} {args : Array Value} {below : List Frame} {meth : Method} {c : Code} {H : Heap} {locs : List Loc} {cells slots : Nat} {Q : State → Prop} {cc : ByteArray} {pc : Nat} {ls : Array Slot} {rest : List Value} {A : Nat → Prop} {H0 : Heap} (hexec : p.tables.exec = Jvm.exec) (hb : c.code = cc) {b L : Nat} {xs : Nat → Int32} (hX : va_X b L xs s H0) (hbl : b < H0.size) (hbA : ¬ A b) (hS : va_S A H0 H locs) {i v : Int32} (hin : vp_in i L) (hv : xs i.toNatClampNeg = v) (hdg : decode cc pc = .ok (.iaload, 1))
    (kk : W p l e R s m args below meth c H locs cells slots Q (F0 m (pc + 1) ls (.int v :: rest))) : W p l e R s m args below meth c H locs cells slots Q (F0 m pc ls (.int i :: .ref b :: rest)) :=
  va_sld hexec hb hX hbl hbA hS hin hdg (by rw [hv]; exact kk)
theorem sf_lt6 {i L : Nat} (hL : L ≤ 384) (hi : i ≤ L) (h : ¬ (Int32.ofNat L - 6 < nI i)) : i + 6 ≤ L := by
  have e := pk_sub_toInt (a := L) (b := 6) (by omega) (by omega)
  rcases Nat.lt_or_ge L (i + 6) with q | q
  · exfalso
    apply h
    show nI L - nI 6 < nI i
    rw [Int32.lt_iff_toInt_lt, e, nI_toInt (by omega)]
    omega
  · exact q
set_option maxHeartbeats 4000000 in
set_option maxRecDepth 100000 in
/-- the law's case 0 -/
theorem sf_lc_0 {p : Program} {l : Launch} {e : Env} {s : State} {m : MethodId} {below : List Frame} {meth : Method} {c : Code} {D : va_G} {b L : Nat} {xs : Nat → Int32} {h0 qa g12 g13 qm : Nat} {cA : ClassId} (C0 : lw_At p s m meth c b L xs) (hK : va_K D sf_cl [(cA, .object "GF")] s) (hN : ∀ x ∈ sf_xs, va_Nw (.declares x) s) (i : Nat) (hj : ∀ j, j < 6 → vp_in (nI i + nI j) L) (y1 y2 y3 y4 y5 : Int32) (ey1 : xs (nI i + 1).toNatClampNeg = y1) (ey2 : xs (nI i + 2).toNatClampNeg = y2) (ey3 : xs (nI i + 3).toNatClampNeg = y3) (ey4 : xs (nI i + 4).toNatClampNeg = y4) (ey5 : xs (nI i + 5).toNatClampNeg = y5) {H : Heap} {locs : List Loc} {ls : Array Slot} (hP : va_P D sf_cl [(h0, .inr (0, [.ref qa])), (qa, .inl (cA, 2, .inr (.inr (.inr (.inr (sf_F g12 g13)))))), (g12, .inr (1, [])), (g13, .inr (2, [])), (qm, .inr (3, []))] H) (hS : va_S (fun q : Nat => s.heap.size ≤ q) s.heap H locs) (hl : lv_has ls 4 [(0, .ref b), (1, .ref h0), (2, .ref qm), (3, .int (nI i))]) (K : ∀ (H : Heap) (locs : List Loc), va_P D sf_cl [(h0, .inr (0, [.ref qa])), (qa, .inl (cA, 2, .inr (.inr (.inr (.inr (sf_F g12 g13)))))), (g12, .inr (1, [])), (g13, .inr (2, [])), (qm, .inr (3, []))] H → va_S (fun q : Nat => s.heap.size ≤ q) s.heap H locs → W p l e room_1 s m #[Value.ref b] below meth c H locs 5 3 (lw_Z below #[Value.ref b] s) (F0 m 357 ls [])) : W p l e room_1 s m #[Value.ref b] below meth c H locs 5 3 (lw_Z below #[Value.ref b] s) (F0 m 76 ls []) := by
  obtain ⟨hx, hb, hr, hml, hown, hts0, hX, hbl, hlocks, hgv⟩ := id C0
  have hA : ∀ q : Nat, s.heap.size ≤ q → (fun q : Nat => s.heap.size ≤ q) q := fun _ h => h
  have hbA : ¬ (fun q : Nat => s.heap.size ≤ q) b := Nat.not_le.mpr hbl
  have hts : ∀ w ∈ lw_all, w.before #[Value.ref b] s = true := fun w h => hts0 w (lw_all_tbl h)
  refine lv_aload_n hx hb dL_law_76 rfl (lv_at hl 1 rfl) ?_
  refine lv_aload_n hx hb dL_law_77 rfl (lv_at hl 0 rfl) ?_
  refine lv_iload_n hx hb dL_law_78 rfl (lv_at hl 3 rfl) ?_
  refine lv_iconst (v := 1) hx hb dL_law_79 (by decide) ?_
  refine lv_iadd hx hb dL_law_80 ?_
  refine sf_sld hx hb hX hbl hbA hS (hj 1 (by decide)) ey1 dL_law_81 ?_
  refine lv_aload_n hx hb dL_law_82 rfl (lv_at hl 0 rfl) ?_
  refine lv_iload_n hx hb dL_law_83 rfl (lv_at hl 3 rfl) ?_
  refine lv_iconst (v := 2) hx hb dL_law_84 (by decide) ?_
  refine lv_iadd hx hb dL_law_85 ?_
  refine sf_sld hx hb hX hbl hbA hS (hj 2 (by decide)) ey2 dL_law_86 ?_
  refine lv_aload_n hx hb dL_law_87 rfl (lv_at hl 0 rfl) ?_
  refine lv_iload_n hx hb dL_law_88 rfl (lv_at hl 3 rfl) ?_
  refine lv_iconst (v := 3) hx hb dL_law_89 (by decide) ?_
  refine lv_iadd hx hb dL_law_90 ?_
  refine sf_sld hx hb hX hbl hbA hS (hj 3 (by decide)) ey3 dL_law_91 ?_
  refine sf_goV (n := 3) (C := RX0) (As := [.int y1, .int y2, .int y3]) (rest := []) ⟨hx, hb, hml, hown, hts⟩ (sf_c_X0_multiply l D h0 qa g12 g13 cA y1 y2 y3) (lw_V q41 q42 q43 q4 q44) (by decide +kernel) ⟨Nat.le_of_ble_eq_true rfl, Nat.le_of_ble_eq_true rfl⟩ (hP.sub (ws' := [(h0, .inr (0, [.ref qa])), (qa, .inl (cA, 2, .inr (.inr (.inr (.inr (sf_F g12 g13)))))), (g12, .inr (1, [])), (g13, .inr (2, []))]) [0, 1, 2, 3] rfl) hK hN (va_recv hK hP (ci := 0) (q0 := 0) rfl rfl) rfl hl.1 rfl (Nat.le_of_ble_eq_true rfl) dL_law_92 ⟨Nat.le_of_ble_eq_true rfl, Nat.le_of_ble_eq_true rfl⟩ hS hA (fun H1 locs1 hk1 hS => ?_)
  have hP := hk1 _ _ _ hP
  refine lv_aload_n hx hb dL_law_95 rfl (lv_at hl 2 rfl) ?_
  refine lv_aload_n hx hb dL_law_96 rfl (lv_at hl 0 rfl) ?_
  refine lv_iload_n hx hb dL_law_97 rfl (lv_at hl 3 rfl) ?_
  refine lv_iconst (v := 1) hx hb dL_law_98 (by decide) ?_
  refine lv_iadd hx hb dL_law_99 ?_
  refine sf_sld hx hb hX hbl hbA hS (hj 1 (by decide)) ey1 dL_law_100 ?_
  refine lv_aload_n hx hb dL_law_101 rfl (lv_at hl 0 rfl) ?_
  refine lv_iload_n hx hb dL_law_102 rfl (lv_at hl 3 rfl) ?_
  refine lv_iconst (v := 2) hx hb dL_law_103 (by decide) ?_
  refine lv_iadd hx hb dL_law_104 ?_
  refine sf_sld hx hb hX hbl hbA hS (hj 2 (by decide)) ey2 dL_law_105 ?_
  refine lv_aload_n hx hb dL_law_106 rfl (lv_at hl 0 rfl) ?_
  refine lv_iload_n hx hb dL_law_107 rfl (lv_at hl 3 rfl) ?_
  refine lv_iconst (v := 3) hx hb dL_law_108 (by decide) ?_
  refine lv_iadd hx hb dL_law_109 ?_
  refine sf_sld hx hb hX hbl hbA hS (hj 3 (by decide)) ey3 dL_law_110 ?_
  refine sf_goV (n := 3) (C := RX4) (As := [.int y1, .int y2, .int y3]) (rest := [.int (sf_fmul y1 y2 y3)]) ⟨hx, hb, hml, hown, hts⟩ (sf_c_X4_multiply l D qm y1 y2 y3) (lw_V q197 q198 q199 q8 q200) (by decide +kernel) ⟨Nat.le_of_ble_eq_true rfl, Nat.le_of_ble_eq_true rfl⟩ (hP.sub [] rfl) (hK.sub [] rfl) sf_nN (va_recv hK hP (ci := 3) (q0 := 4) rfl rfl) rfl hl.1 rfl (Nat.le_of_ble_eq_true rfl) dL_law_111 ⟨Nat.le_of_ble_eq_true rfl, Nat.le_of_ble_eq_true rfl⟩ hS hA (fun H1 locs1 hk1 hS => ?_)
  have hP := hk1 _ _ _ hP
  exact lv_icmp_eq (tgt := 357) hx hb dL_law_114 (by decide) (fun _ => K _ _ hP hS) (fun h => absurd (sf_L_mul y1 y2 y3) h)
set_option maxHeartbeats 4000000 in
set_option maxRecDepth 100000 in
/-- the law's case 1 -/
theorem sf_lc_1 {p : Program} {l : Launch} {e : Env} {s : State} {m : MethodId} {below : List Frame} {meth : Method} {c : Code} {D : va_G} {b L : Nat} {xs : Nat → Int32} {h0 qa g12 g13 qm : Nat} {cA : ClassId} (C0 : lw_At p s m meth c b L xs) (hK : va_K D sf_cl [(cA, .object "GF")] s) (hN : ∀ x ∈ sf_xs, va_Nw (.declares x) s) (i : Nat) (hj : ∀ j, j < 6 → vp_in (nI i + nI j) L) (y1 y2 y3 y4 y5 : Int32) (ey1 : xs (nI i + 1).toNatClampNeg = y1) (ey2 : xs (nI i + 2).toNatClampNeg = y2) (ey3 : xs (nI i + 3).toNatClampNeg = y3) (ey4 : xs (nI i + 4).toNatClampNeg = y4) (ey5 : xs (nI i + 5).toNatClampNeg = y5) {H : Heap} {locs : List Loc} {ls : Array Slot} (hP : va_P D sf_cl [(h0, .inr (0, [.ref qa])), (qa, .inl (cA, 2, .inr (.inr (.inr (.inr (sf_F g12 g13)))))), (g12, .inr (1, [])), (g13, .inr (2, [])), (qm, .inr (3, []))] H) (hS : va_S (fun q : Nat => s.heap.size ≤ q) s.heap H locs) (hl : lv_has ls 4 [(0, .ref b), (1, .ref h0), (2, .ref qm), (3, .int (nI i))]) (K : ∀ (H : Heap) (locs : List Loc), va_P D sf_cl [(h0, .inr (0, [.ref qa])), (qa, .inl (cA, 2, .inr (.inr (.inr (.inr (sf_F g12 g13)))))), (g12, .inr (1, [])), (g13, .inr (2, [])), (qm, .inr (3, []))] H → va_S (fun q : Nat => s.heap.size ≤ q) s.heap H locs → W p l e room_1 s m #[Value.ref b] below meth c H locs 5 3 (lw_Z below #[Value.ref b] s) (F0 m 357 ls [])) : W p l e room_1 s m #[Value.ref b] below meth c H locs 5 3 (lw_Z below #[Value.ref b] s) (F0 m 119 ls []) := by
  obtain ⟨hx, hb, hr, hml, hown, hts0, hX, hbl, hlocks, hgv⟩ := id C0
  have hA : ∀ q : Nat, s.heap.size ≤ q → (fun q : Nat => s.heap.size ≤ q) q := fun _ h => h
  have hbA : ¬ (fun q : Nat => s.heap.size ≤ q) b := Nat.not_le.mpr hbl
  have hts : ∀ w ∈ lw_all, w.before #[Value.ref b] s = true := fun w h => hts0 w (lw_all_tbl h)
  refine lv_aload_n hx hb dL_law_119 rfl (lv_at hl 1 rfl) ?_
  refine lv_aload_n hx hb dL_law_120 rfl (lv_at hl 0 rfl) ?_
  refine lv_iload_n hx hb dL_law_121 rfl (lv_at hl 3 rfl) ?_
  refine lv_iconst (v := 1) hx hb dL_law_122 (by decide) ?_
  refine lv_iadd hx hb dL_law_123 ?_
  refine sf_sld hx hb hX hbl hbA hS (hj 1 (by decide)) ey1 dL_law_124 ?_
  refine lv_aload_n hx hb dL_law_125 rfl (lv_at hl 0 rfl) ?_
  refine lv_iload_n hx hb dL_law_126 rfl (lv_at hl 3 rfl) ?_
  refine lv_iconst (v := 2) hx hb dL_law_127 (by decide) ?_
  refine lv_iadd hx hb dL_law_128 ?_
  refine sf_sld hx hb hX hbl hbA hS (hj 2 (by decide)) ey2 dL_law_129 ?_
  refine sf_goV (n := 2) (C := RX0) (As := [.int y1, .int y2]) (rest := []) ⟨hx, hb, hml, hown, hts⟩ (sf_c_X0_square l D h0 qa g12 g13 cA y1 y2) (lw_V q67 q68 q69 q4 q70) (by decide +kernel) ⟨Nat.le_of_ble_eq_true rfl, Nat.le_of_ble_eq_true rfl⟩ (hP.sub (ws' := [(h0, .inr (0, [.ref qa])), (qa, .inl (cA, 2, .inr (.inr (.inr (.inr (sf_F g12 g13)))))), (g12, .inr (1, [])), (g13, .inr (2, []))]) [0, 1, 2, 3] rfl) hK hN (va_recv hK hP (ci := 0) (q0 := 0) rfl rfl) rfl hl.1 rfl (Nat.le_of_ble_eq_true rfl) dL_law_130 ⟨Nat.le_of_ble_eq_true rfl, Nat.le_of_ble_eq_true rfl⟩ hS hA (fun H1 locs1 hk1 hS => ?_)
  have hP := hk1 _ _ _ hP
  refine lv_aload_n hx hb dL_law_133 rfl (lv_at hl 2 rfl) ?_
  refine lv_aload_n hx hb dL_law_134 rfl (lv_at hl 0 rfl) ?_
  refine lv_iload_n hx hb dL_law_135 rfl (lv_at hl 3 rfl) ?_
  refine lv_iconst (v := 1) hx hb dL_law_136 (by decide) ?_
  refine lv_iadd hx hb dL_law_137 ?_
  refine sf_sld hx hb hX hbl hbA hS (hj 1 (by decide)) ey1 dL_law_138 ?_
  refine lv_aload_n hx hb dL_law_139 rfl (lv_at hl 0 rfl) ?_
  refine lv_iload_n hx hb dL_law_140 rfl (lv_at hl 3 rfl) ?_
  refine lv_iconst (v := 2) hx hb dL_law_141 (by decide) ?_
  refine lv_iadd hx hb dL_law_142 ?_
  refine sf_sld hx hb hX hbl hbA hS (hj 2 (by decide)) ey2 dL_law_143 ?_
  refine sf_goV (n := 2) (C := RX4) (As := [.int y1, .int y2]) (rest := [.int (sf_fsq y1 y2)]) ⟨hx, hb, hml, hown, hts⟩ (sf_c_X4_square l D qm y1 y2) (lw_V q204 q205 q206 q8 q207) (by decide +kernel) ⟨Nat.le_of_ble_eq_true rfl, Nat.le_of_ble_eq_true rfl⟩ (hP.sub [] rfl) (hK.sub [] rfl) sf_nN (va_recv hK hP (ci := 3) (q0 := 4) rfl rfl) rfl hl.1 rfl (Nat.le_of_ble_eq_true rfl) dL_law_144 ⟨Nat.le_of_ble_eq_true rfl, Nat.le_of_ble_eq_true rfl⟩ hS hA (fun H1 locs1 hk1 hS => ?_)
  have hP := hk1 _ _ _ hP
  exact lv_icmp_eq (tgt := 357) hx hb dL_law_147 (by decide) (fun _ => K _ _ hP hS) (fun h => absurd (sf_L_sq y1 y2) h)
set_option maxHeartbeats 4000000 in
set_option maxRecDepth 100000 in
/-- the law's case 2 -/
theorem sf_lc_2 {p : Program} {l : Launch} {e : Env} {s : State} {m : MethodId} {below : List Frame} {meth : Method} {c : Code} {D : va_G} {b L : Nat} {xs : Nat → Int32} {h0 qa g12 g13 qm : Nat} {cA : ClassId} (C0 : lw_At p s m meth c b L xs) (hK : va_K D sf_cl [(cA, .object "GF")] s) (hN : ∀ x ∈ sf_xs, va_Nw (.declares x) s) (i : Nat) (hj : ∀ j, j < 6 → vp_in (nI i + nI j) L) (y1 y2 y3 y4 y5 : Int32) (ey1 : xs (nI i + 1).toNatClampNeg = y1) (ey2 : xs (nI i + 2).toNatClampNeg = y2) (ey3 : xs (nI i + 3).toNatClampNeg = y3) (ey4 : xs (nI i + 4).toNatClampNeg = y4) (ey5 : xs (nI i + 5).toNatClampNeg = y5) {H : Heap} {locs : List Loc} {ls : Array Slot} (hP : va_P D sf_cl [(h0, .inr (0, [.ref qa])), (qa, .inl (cA, 2, .inr (.inr (.inr (.inr (sf_F g12 g13)))))), (g12, .inr (1, [])), (g13, .inr (2, [])), (qm, .inr (3, []))] H) (hS : va_S (fun q : Nat => s.heap.size ≤ q) s.heap H locs) (hl : lv_has ls 4 [(0, .ref b), (1, .ref h0), (2, .ref qm), (3, .int (nI i))]) (K : ∀ (H : Heap) (locs : List Loc), va_P D sf_cl [(h0, .inr (0, [.ref qa])), (qa, .inl (cA, 2, .inr (.inr (.inr (.inr (sf_F g12 g13)))))), (g12, .inr (1, [])), (g13, .inr (2, [])), (qm, .inr (3, []))] H → va_S (fun q : Nat => s.heap.size ≤ q) s.heap H locs → W p l e room_1 s m #[Value.ref b] below meth c H locs 5 3 (lw_Z below #[Value.ref b] s) (F0 m 357 ls [])) : W p l e room_1 s m #[Value.ref b] below meth c H locs 5 3 (lw_Z below #[Value.ref b] s) (F0 m 152 ls []) := by
  obtain ⟨hx, hb, hr, hml, hown, hts0, hX, hbl, hlocks, hgv⟩ := id C0
  have hA : ∀ q : Nat, s.heap.size ≤ q → (fun q : Nat => s.heap.size ≤ q) q := fun _ h => h
  have hbA : ¬ (fun q : Nat => s.heap.size ≤ q) b := Nat.not_le.mpr hbl
  have hts : ∀ w ∈ lw_all, w.before #[Value.ref b] s = true := fun w h => hts0 w (lw_all_tbl h)
  refine lv_aload_n hx hb dL_law_152 rfl (lv_at hl 1 rfl) ?_
  refine lv_aload_n hx hb dL_law_153 rfl (lv_at hl 0 rfl) ?_
  refine lv_iload_n hx hb dL_law_154 rfl (lv_at hl 3 rfl) ?_
  refine lv_iconst (v := 1) hx hb dL_law_155 (by decide) ?_
  refine lv_iadd hx hb dL_law_156 ?_
  refine sf_sld hx hb hX hbl hbA hS (hj 1 (by decide)) ey1 dL_law_157 ?_
  refine lv_aload_n hx hb dL_law_158 rfl (lv_at hl 0 rfl) ?_
  refine lv_iload_n hx hb dL_law_159 rfl (lv_at hl 3 rfl) ?_
  refine lv_iconst (v := 2) hx hb dL_law_160 (by decide) ?_
  refine lv_iadd hx hb dL_law_161 ?_
  refine sf_sld hx hb hX hbl hbA hS (hj 2 (by decide)) ey2 dL_law_162 ?_
  refine sf_goV (n := 2) (C := RX0) (As := [.int y1, .int y2]) (rest := []) ⟨hx, hb, hml, hown, hts⟩ (sf_c_X0_inverse l D h0 qa g12 g13 cA y1 y2) (lw_V q89 q90 q91 q4 q92) (by decide +kernel) ⟨Nat.le_of_ble_eq_true rfl, Nat.le_of_ble_eq_true rfl⟩ (hP.sub (ws' := [(h0, .inr (0, [.ref qa])), (qa, .inl (cA, 2, .inr (.inr (.inr (.inr (sf_F g12 g13)))))), (g12, .inr (1, [])), (g13, .inr (2, []))]) [0, 1, 2, 3] rfl) hK hN (va_recv hK hP (ci := 0) (q0 := 0) rfl rfl) rfl hl.1 rfl (Nat.le_of_ble_eq_true rfl) dL_law_163 ⟨Nat.le_of_ble_eq_true rfl, Nat.le_of_ble_eq_true rfl⟩ hS hA (fun H1 locs1 hk1 hS => ?_)
  have hP := hk1 _ _ _ hP
  refine lv_aload_n hx hb dL_law_166 rfl (lv_at hl 2 rfl) ?_
  refine lv_aload_n hx hb dL_law_167 rfl (lv_at hl 0 rfl) ?_
  refine lv_iload_n hx hb dL_law_168 rfl (lv_at hl 3 rfl) ?_
  refine lv_iconst (v := 1) hx hb dL_law_169 (by decide) ?_
  refine lv_iadd hx hb dL_law_170 ?_
  refine sf_sld hx hb hX hbl hbA hS (hj 1 (by decide)) ey1 dL_law_171 ?_
  refine lv_aload_n hx hb dL_law_172 rfl (lv_at hl 0 rfl) ?_
  refine lv_iload_n hx hb dL_law_173 rfl (lv_at hl 3 rfl) ?_
  refine lv_iconst (v := 2) hx hb dL_law_174 (by decide) ?_
  refine lv_iadd hx hb dL_law_175 ?_
  refine sf_sld hx hb hX hbl hbA hS (hj 2 (by decide)) ey2 dL_law_176 ?_
  refine sf_goV (n := 2) (C := RX4) (As := [.int y1, .int y2]) (rest := [.int (sf_finv y1 y2)]) ⟨hx, hb, hml, hown, hts⟩ (sf_c_X4_inverse l D qm y1 y2) (lw_V q208 q209 q210 q8 q211) (by decide +kernel) ⟨Nat.le_of_ble_eq_true rfl, Nat.le_of_ble_eq_true rfl⟩ (hP.sub [] rfl) (hK.sub [] rfl) sf_nN (va_recv hK hP (ci := 3) (q0 := 4) rfl rfl) rfl hl.1 rfl (Nat.le_of_ble_eq_true rfl) dL_law_177 ⟨Nat.le_of_ble_eq_true rfl, Nat.le_of_ble_eq_true rfl⟩ hS hA (fun H1 locs1 hk1 hS => ?_)
  have hP := hk1 _ _ _ hP
  exact lv_icmp_eq (tgt := 357) hx hb dL_law_180 (by decide) (fun _ => K _ _ hP hS) (fun h => absurd (sf_L_inv y1 y2) h)
set_option maxHeartbeats 4000000 in
set_option maxRecDepth 100000 in
/-- the law's case 3 -/
theorem sf_lc_3 {p : Program} {l : Launch} {e : Env} {s : State} {m : MethodId} {below : List Frame} {meth : Method} {c : Code} {D : va_G} {b L : Nat} {xs : Nat → Int32} {h0 qa g12 g13 qm : Nat} {cA : ClassId} (C0 : lw_At p s m meth c b L xs) (hK : va_K D sf_cl [(cA, .object "GF")] s) (hN : ∀ x ∈ sf_xs, va_Nw (.declares x) s) (i : Nat) (hj : ∀ j, j < 6 → vp_in (nI i + nI j) L) (y1 y2 y3 y4 y5 : Int32) (ey1 : xs (nI i + 1).toNatClampNeg = y1) (ey2 : xs (nI i + 2).toNatClampNeg = y2) (ey3 : xs (nI i + 3).toNatClampNeg = y3) (ey4 : xs (nI i + 4).toNatClampNeg = y4) (ey5 : xs (nI i + 5).toNatClampNeg = y5) {H : Heap} {locs : List Loc} {ls : Array Slot} (hP : va_P D sf_cl [(h0, .inr (0, [.ref qa])), (qa, .inl (cA, 2, .inr (.inr (.inr (.inr (sf_F g12 g13)))))), (g12, .inr (1, [])), (g13, .inr (2, [])), (qm, .inr (3, []))] H) (hS : va_S (fun q : Nat => s.heap.size ≤ q) s.heap H locs) (hl : lv_has ls 4 [(0, .ref b), (1, .ref h0), (2, .ref qm), (3, .int (nI i))]) (K : ∀ (H : Heap) (locs : List Loc), va_P D sf_cl [(h0, .inr (0, [.ref qa])), (qa, .inl (cA, 2, .inr (.inr (.inr (.inr (sf_F g12 g13)))))), (g12, .inr (1, [])), (g13, .inr (2, [])), (qm, .inr (3, []))] H → va_S (fun q : Nat => s.heap.size ≤ q) s.heap H locs → W p l e room_1 s m #[Value.ref b] below meth c H locs 5 3 (lw_Z below #[Value.ref b] s) (F0 m 357 ls [])) : W p l e room_1 s m #[Value.ref b] below meth c H locs 5 3 (lw_Z below #[Value.ref b] s) (F0 m 185 ls []) := by
  obtain ⟨hx, hb, hr, hml, hown, hts0, hX, hbl, hlocks, hgv⟩ := id C0
  have hA : ∀ q : Nat, s.heap.size ≤ q → (fun q : Nat => s.heap.size ≤ q) q := fun _ h => h
  have hbA : ¬ (fun q : Nat => s.heap.size ≤ q) b := Nat.not_le.mpr hbl
  have hts : ∀ w ∈ lw_all, w.before #[Value.ref b] s = true := fun w h => hts0 w (lw_all_tbl h)
  refine lv_aload_n hx hb dL_law_185 rfl (lv_at hl 1 rfl) ?_
  refine lv_aload_n hx hb dL_law_186 rfl (lv_at hl 0 rfl) ?_
  refine lv_iload_n hx hb dL_law_187 rfl (lv_at hl 3 rfl) ?_
  refine lv_iconst (v := 1) hx hb dL_law_188 (by decide) ?_
  refine lv_iadd hx hb dL_law_189 ?_
  refine sf_sld hx hb hX hbl hbA hS (hj 1 (by decide)) ey1 dL_law_190 ?_
  refine lv_aload_n hx hb dL_law_191 rfl (lv_at hl 0 rfl) ?_
  refine lv_iload_n hx hb dL_law_192 rfl (lv_at hl 3 rfl) ?_
  refine lv_iconst (v := 2) hx hb dL_law_193 (by decide) ?_
  refine lv_iadd hx hb dL_law_194 ?_
  refine sf_sld hx hb hX hbl hbA hS (hj 2 (by decide)) ey2 dL_law_195 ?_
  refine lv_aload_n hx hb dL_law_196 rfl (lv_at hl 0 rfl) ?_
  refine lv_iload_n hx hb dL_law_197 rfl (lv_at hl 3 rfl) ?_
  refine lv_iconst (v := 3) hx hb dL_law_198 (by decide) ?_
  refine lv_iadd hx hb dL_law_199 ?_
  refine sf_sld hx hb hX hbl hbA hS (hj 3 (by decide)) ey3 dL_law_200 ?_
  refine sf_goV (n := 3) (C := RX0) (As := [.int y1, .int y2, .int y3]) (rest := []) ⟨hx, hb, hml, hown, hts⟩ (sf_c_X0_quotient l D h0 qa g12 g13 cA y1 y2 y3) (lw_V q137 q138 q139 q4 q140) (by decide +kernel) ⟨Nat.le_of_ble_eq_true rfl, Nat.le_of_ble_eq_true rfl⟩ (hP.sub (ws' := [(h0, .inr (0, [.ref qa])), (qa, .inl (cA, 2, .inr (.inr (.inr (.inr (sf_F g12 g13)))))), (g12, .inr (1, [])), (g13, .inr (2, []))]) [0, 1, 2, 3] rfl) hK hN (va_recv hK hP (ci := 0) (q0 := 0) rfl rfl) rfl hl.1 rfl (Nat.le_of_ble_eq_true rfl) dL_law_201 ⟨Nat.le_of_ble_eq_true rfl, Nat.le_of_ble_eq_true rfl⟩ hS hA (fun H1 locs1 hk1 hS => ?_)
  have hP := hk1 _ _ _ hP
  refine lv_aload_n hx hb dL_law_204 rfl (lv_at hl 2 rfl) ?_
  refine lv_aload_n hx hb dL_law_205 rfl (lv_at hl 0 rfl) ?_
  refine lv_iload_n hx hb dL_law_206 rfl (lv_at hl 3 rfl) ?_
  refine lv_iconst (v := 1) hx hb dL_law_207 (by decide) ?_
  refine lv_iadd hx hb dL_law_208 ?_
  refine sf_sld hx hb hX hbl hbA hS (hj 1 (by decide)) ey1 dL_law_209 ?_
  refine lv_aload_n hx hb dL_law_210 rfl (lv_at hl 0 rfl) ?_
  refine lv_iload_n hx hb dL_law_211 rfl (lv_at hl 3 rfl) ?_
  refine lv_iconst (v := 2) hx hb dL_law_212 (by decide) ?_
  refine lv_iadd hx hb dL_law_213 ?_
  refine sf_sld hx hb hX hbl hbA hS (hj 2 (by decide)) ey2 dL_law_214 ?_
  refine lv_aload_n hx hb dL_law_215 rfl (lv_at hl 0 rfl) ?_
  refine lv_iload_n hx hb dL_law_216 rfl (lv_at hl 3 rfl) ?_
  refine lv_iconst (v := 3) hx hb dL_law_217 (by decide) ?_
  refine lv_iadd hx hb dL_law_218 ?_
  refine sf_sld hx hb hX hbl hbA hS (hj 3 (by decide)) ey3 dL_law_219 ?_
  refine sf_goV (n := 3) (C := RX4) (As := [.int y1, .int y2, .int y3]) (rest := [.int (sf_fquo y1 y2 y3)]) ⟨hx, hb, hml, hown, hts⟩ (sf_c_X4_quotient l D qm y1 y2 y3) (lw_V q215 q216 q217 q8 q218) (by decide +kernel) ⟨Nat.le_of_ble_eq_true rfl, Nat.le_of_ble_eq_true rfl⟩ (hP.sub (ws' := [(qm, .inr (3, []))]) [4] rfl) (hK.sub [] rfl) sf_nN (va_recv hK hP (ci := 3) (q0 := 4) rfl rfl) rfl hl.1 rfl (Nat.le_of_ble_eq_true rfl) dL_law_220 ⟨Nat.le_of_ble_eq_true rfl, Nat.le_of_ble_eq_true rfl⟩ hS hA (fun H1 locs1 hk1 hS => ?_)
  have hP := hk1 _ _ _ hP
  exact lv_icmp_eq (tgt := 357) hx hb dL_law_223 (by decide) (fun _ => K _ _ hP hS) (fun h => absurd (sf_L_quo y1 y2 y3) h)
set_option maxHeartbeats 4000000 in
set_option maxRecDepth 100000 in
/-- the law's case 4 -/
theorem sf_lc_4 {p : Program} {l : Launch} {e : Env} {s : State} {m : MethodId} {below : List Frame} {meth : Method} {c : Code} {D : va_G} {b L : Nat} {xs : Nat → Int32} {h0 qa g12 g13 qm : Nat} {cA : ClassId} (C0 : lw_At p s m meth c b L xs) (hK : va_K D sf_cl [(cA, .object "GF")] s) (hN : ∀ x ∈ sf_xs, va_Nw (.declares x) s) (i : Nat) (hj : ∀ j, j < 6 → vp_in (nI i + nI j) L) (y1 y2 y3 y4 y5 : Int32) (ey1 : xs (nI i + 1).toNatClampNeg = y1) (ey2 : xs (nI i + 2).toNatClampNeg = y2) (ey3 : xs (nI i + 3).toNatClampNeg = y3) (ey4 : xs (nI i + 4).toNatClampNeg = y4) (ey5 : xs (nI i + 5).toNatClampNeg = y5) {H : Heap} {locs : List Loc} {ls : Array Slot} (hP : va_P D sf_cl [(h0, .inr (0, [.ref qa])), (qa, .inl (cA, 2, .inr (.inr (.inr (.inr (sf_F g12 g13)))))), (g12, .inr (1, [])), (g13, .inr (2, [])), (qm, .inr (3, []))] H) (hS : va_S (fun q : Nat => s.heap.size ≤ q) s.heap H locs) (hl : lv_has ls 4 [(0, .ref b), (1, .ref h0), (2, .ref qm), (3, .int (nI i))]) (K : ∀ (H : Heap) (locs : List Loc), va_P D sf_cl [(h0, .inr (0, [.ref qa])), (qa, .inl (cA, 2, .inr (.inr (.inr (.inr (sf_F g12 g13)))))), (g12, .inr (1, [])), (g13, .inr (2, [])), (qm, .inr (3, []))] H → va_S (fun q : Nat => s.heap.size ≤ q) s.heap H locs → W p l e room_1 s m #[Value.ref b] below meth c H locs 5 3 (lw_Z below #[Value.ref b] s) (F0 m 357 ls [])) : W p l e room_1 s m #[Value.ref b] below meth c H locs 5 3 (lw_Z below #[Value.ref b] s) (F0 m 228 ls []) := by
  obtain ⟨hx, hb, hr, hml, hown, hts0, hX, hbl, hlocks, hgv⟩ := id C0
  have hA : ∀ q : Nat, s.heap.size ≤ q → (fun q : Nat => s.heap.size ≤ q) q := fun _ h => h
  have hbA : ¬ (fun q : Nat => s.heap.size ≤ q) b := Nat.not_le.mpr hbl
  have hts : ∀ w ∈ lw_all, w.before #[Value.ref b] s = true := fun w h => hts0 w (lw_all_tbl h)
  refine lv_aload_n hx hb dL_law_228 rfl (lv_at hl 1 rfl) ?_
  refine lv_aload_n hx hb dL_law_229 rfl (lv_at hl 0 rfl) ?_
  refine lv_iload_n hx hb dL_law_230 rfl (lv_at hl 3 rfl) ?_
  refine lv_iconst (v := 1) hx hb dL_law_231 (by decide) ?_
  refine lv_iadd hx hb dL_law_232 ?_
  refine sf_sld hx hb hX hbl hbA hS (hj 1 (by decide)) ey1 dL_law_233 ?_
  refine lv_aload_n hx hb dL_law_234 rfl (lv_at hl 0 rfl) ?_
  refine lv_iload_n hx hb dL_law_235 rfl (lv_at hl 3 rfl) ?_
  refine lv_iconst (v := 2) hx hb dL_law_236 (by decide) ?_
  refine lv_iadd hx hb dL_law_237 ?_
  refine sf_sld hx hb hX hbl hbA hS (hj 2 (by decide)) ey2 dL_law_238 ?_
  refine lv_aload_n hx hb dL_law_239 rfl (lv_at hl 0 rfl) ?_
  refine lv_iload_n hx hb dL_law_240 rfl (lv_at hl 3 rfl) ?_
  refine lv_iconst (v := 3) hx hb dL_law_241 (by decide) ?_
  refine lv_iadd hx hb dL_law_242 ?_
  refine sf_sld hx hb hX hbl hbA hS (hj 3 (by decide)) ey3 dL_law_243 ?_
  refine lv_aload_n hx hb dL_law_244 rfl (lv_at hl 0 rfl) ?_
  refine lv_iload_n hx hb dL_law_245 rfl (lv_at hl 3 rfl) ?_
  refine lv_iconst (v := 4) hx hb dL_law_246 (by decide) ?_
  refine lv_iadd hx hb dL_law_247 ?_
  refine sf_sld hx hb hX hbl hbA hS (hj 4 (by decide)) ey4 dL_law_248 ?_
  refine lv_aload_n hx hb dL_law_249 rfl (lv_at hl 0 rfl) ?_
  refine lv_iload_n hx hb dL_law_250 rfl (lv_at hl 3 rfl) ?_
  refine lv_iconst (v := 5) hx hb dL_law_251 (by decide) ?_
  refine lv_iadd hx hb dL_law_252 ?_
  refine sf_sld hx hb hX hbl hbA hS (hj 5 (by decide)) ey5 dL_law_253 ?_
  refine sf_goV (n := 5) (C := RX0) (As := [.int y1, .int y2, .int y3, .int y4, .int y5]) (rest := []) ⟨hx, hb, hml, hown, hts⟩ (sf_c_X0_product l D h0 qa g12 g13 cA y1 y2 y3 y4 y5) (lw_V q149 q150 q151 q4 q152) (by decide +kernel) ⟨Nat.le_of_ble_eq_true rfl, Nat.le_of_ble_eq_true rfl⟩ (hP.sub (ws' := [(h0, .inr (0, [.ref qa])), (qa, .inl (cA, 2, .inr (.inr (.inr (.inr (sf_F g12 g13)))))), (g12, .inr (1, [])), (g13, .inr (2, []))]) [0, 1, 2, 3] rfl) hK hN (va_recv hK hP (ci := 0) (q0 := 0) rfl rfl) rfl hl.1 rfl (Nat.le_of_ble_eq_true rfl) dL_law_254 ⟨Nat.le_of_ble_eq_true rfl, Nat.le_of_ble_eq_true rfl⟩ hS hA (fun H1 locs1 hk1 hS => ?_)
  have hP := hk1 _ _ _ hP
  refine lv_aload_n hx hb dL_law_257 rfl (lv_at hl 2 rfl) ?_
  refine lv_aload_n hx hb dL_law_258 rfl (lv_at hl 0 rfl) ?_
  refine lv_iload_n hx hb dL_law_259 rfl (lv_at hl 3 rfl) ?_
  refine lv_iconst (v := 1) hx hb dL_law_260 (by decide) ?_
  refine lv_iadd hx hb dL_law_261 ?_
  refine sf_sld hx hb hX hbl hbA hS (hj 1 (by decide)) ey1 dL_law_262 ?_
  refine lv_aload_n hx hb dL_law_263 rfl (lv_at hl 0 rfl) ?_
  refine lv_iload_n hx hb dL_law_264 rfl (lv_at hl 3 rfl) ?_
  refine lv_iconst (v := 2) hx hb dL_law_265 (by decide) ?_
  refine lv_iadd hx hb dL_law_266 ?_
  refine sf_sld hx hb hX hbl hbA hS (hj 2 (by decide)) ey2 dL_law_267 ?_
  refine lv_aload_n hx hb dL_law_268 rfl (lv_at hl 0 rfl) ?_
  refine lv_iload_n hx hb dL_law_269 rfl (lv_at hl 3 rfl) ?_
  refine lv_iconst (v := 3) hx hb dL_law_270 (by decide) ?_
  refine lv_iadd hx hb dL_law_271 ?_
  refine sf_sld hx hb hX hbl hbA hS (hj 3 (by decide)) ey3 dL_law_272 ?_
  refine lv_aload_n hx hb dL_law_273 rfl (lv_at hl 0 rfl) ?_
  refine lv_iload_n hx hb dL_law_274 rfl (lv_at hl 3 rfl) ?_
  refine lv_iconst (v := 4) hx hb dL_law_275 (by decide) ?_
  refine lv_iadd hx hb dL_law_276 ?_
  refine sf_sld hx hb hX hbl hbA hS (hj 4 (by decide)) ey4 dL_law_277 ?_
  refine lv_aload_n hx hb dL_law_278 rfl (lv_at hl 0 rfl) ?_
  refine lv_iload_n hx hb dL_law_279 rfl (lv_at hl 3 rfl) ?_
  refine lv_iconst (v := 5) hx hb dL_law_280 (by decide) ?_
  refine lv_iadd hx hb dL_law_281 ?_
  refine sf_sld hx hb hX hbl hbA hS (hj 5 (by decide)) ey5 dL_law_282 ?_
  refine sf_goV (n := 5) (C := RX4) (As := [.int y1, .int y2, .int y3, .int y4, .int y5]) (rest := [.int (sf_fpro y1 y2 y3 y4 y5)]) ⟨hx, hb, hml, hown, hts⟩ (sf_c_X4_product l D qm y1 y2 y3 y4 y5) (lw_V q220 q221 q222 q8 q223) (by decide +kernel) ⟨Nat.le_of_ble_eq_true rfl, Nat.le_of_ble_eq_true rfl⟩ (hP.sub [] rfl) (hK.sub [] rfl) sf_nN (va_recv hK hP (ci := 3) (q0 := 4) rfl rfl) rfl hl.1 rfl (Nat.le_of_ble_eq_true rfl) dL_law_283 ⟨Nat.le_of_ble_eq_true rfl, Nat.le_of_ble_eq_true rfl⟩ hS hA (fun H1 locs1 hk1 hS => ?_)
  have hP := hk1 _ _ _ hP
  exact lv_icmp_eq (tgt := 357) hx hb dL_law_286 (by decide) (fun _ => K _ _ hP hS) (fun h => absurd (sf_L_pro y1 y2 y3 y4 y5) h)
set_option maxHeartbeats 4000000 in
set_option maxRecDepth 100000 in
/-- the law's case 5 -/
theorem sf_lc_5 {p : Program} {l : Launch} {e : Env} {s : State} {m : MethodId} {below : List Frame} {meth : Method} {c : Code} {D : va_G} {b L : Nat} {xs : Nat → Int32} {h0 qa g12 g13 qm : Nat} {cA : ClassId} (C0 : lw_At p s m meth c b L xs) (hK : va_K D sf_cl [(cA, .object "GF")] s) (hN : ∀ x ∈ sf_xs, va_Nw (.declares x) s) (i : Nat) (hj : ∀ j, j < 6 → vp_in (nI i + nI j) L) (y1 y2 y3 y4 y5 : Int32) (ey1 : xs (nI i + 1).toNatClampNeg = y1) (ey2 : xs (nI i + 2).toNatClampNeg = y2) (ey3 : xs (nI i + 3).toNatClampNeg = y3) (ey4 : xs (nI i + 4).toNatClampNeg = y4) (ey5 : xs (nI i + 5).toNatClampNeg = y5) {H : Heap} {locs : List Loc} {ls : Array Slot} (hP : va_P D sf_cl [(h0, .inr (0, [.ref qa])), (qa, .inl (cA, 2, .inr (.inr (.inr (.inr (sf_F g12 g13)))))), (g12, .inr (1, [])), (g13, .inr (2, [])), (qm, .inr (3, []))] H) (hS : va_S (fun q : Nat => s.heap.size ≤ q) s.heap H locs) (hl : lv_has ls 4 [(0, .ref b), (1, .ref h0), (2, .ref qm), (3, .int (nI i))]) (K : ∀ (H : Heap) (locs : List Loc), va_P D sf_cl [(h0, .inr (0, [.ref qa])), (qa, .inl (cA, 2, .inr (.inr (.inr (.inr (sf_F g12 g13)))))), (g12, .inr (1, [])), (g13, .inr (2, [])), (qm, .inr (3, []))] H → va_S (fun q : Nat => s.heap.size ≤ q) s.heap H locs → W p l e room_1 s m #[Value.ref b] below meth c H locs 5 3 (lw_Z below #[Value.ref b] s) (F0 m 357 ls [])) : W p l e room_1 s m #[Value.ref b] below meth c H locs 5 3 (lw_Z below #[Value.ref b] s) (F0 m 291 ls []) := by
  obtain ⟨hx, hb, hr, hml, hown, hts0, hX, hbl, hlocks, hgv⟩ := id C0
  have hA : ∀ q : Nat, s.heap.size ≤ q → (fun q : Nat => s.heap.size ≤ q) q := fun _ h => h
  have hbA : ¬ (fun q : Nat => s.heap.size ≤ q) b := Nat.not_le.mpr hbl
  have hts : ∀ w ∈ lw_all, w.before #[Value.ref b] s = true := fun w h => hts0 w (lw_all_tbl h)
  refine lv_aload_n hx hb dL_law_291 rfl (lv_at hl 1 rfl) ?_
  refine lv_aload_n hx hb dL_law_292 rfl (lv_at hl 0 rfl) ?_
  refine lv_iload_n hx hb dL_law_293 rfl (lv_at hl 3 rfl) ?_
  refine lv_iconst (v := 1) hx hb dL_law_294 (by decide) ?_
  refine lv_iadd hx hb dL_law_295 ?_
  refine sf_sld hx hb hX hbl hbA hS (hj 1 (by decide)) ey1 dL_law_296 ?_
  refine lv_aload_n hx hb dL_law_297 rfl (lv_at hl 0 rfl) ?_
  refine lv_iload_n hx hb dL_law_298 rfl (lv_at hl 3 rfl) ?_
  refine lv_iconst (v := 2) hx hb dL_law_299 (by decide) ?_
  refine lv_iadd hx hb dL_law_300 ?_
  refine sf_sld hx hb hX hbl hbA hS (hj 2 (by decide)) ey2 dL_law_301 ?_
  refine sf_goV (n := 2) (C := RX0) (As := [.int y1, .int y2]) (rest := []) ⟨hx, hb, hml, hown, hts⟩ (sf_c_X0_wideSquare l D h0 qa g12 g13 cA y1 y2) (lw_V q167 q168 q169 q4 q170) (by decide +kernel) ⟨Nat.le_of_ble_eq_true rfl, Nat.le_of_ble_eq_true rfl⟩ (hP.sub (ws' := [(h0, .inr (0, [.ref qa])), (qa, .inl (cA, 2, .inr (.inr (.inr (.inr (sf_F g12 g13)))))), (g12, .inr (1, [])), (g13, .inr (2, []))]) [0, 1, 2, 3] rfl) hK hN (va_recv hK hP (ci := 0) (q0 := 0) rfl rfl) rfl hl.1 rfl (Nat.le_of_ble_eq_true rfl) dL_law_302 ⟨Nat.le_of_ble_eq_true rfl, Nat.le_of_ble_eq_true rfl⟩ hS hA (fun H1 locs1 hk1 hS => ?_)
  have hP := hk1 _ _ _ hP
  refine lv_aload_n hx hb dL_law_305 rfl (lv_at hl 2 rfl) ?_
  refine lv_aload_n hx hb dL_law_306 rfl (lv_at hl 0 rfl) ?_
  refine lv_iload_n hx hb dL_law_307 rfl (lv_at hl 3 rfl) ?_
  refine lv_iconst (v := 1) hx hb dL_law_308 (by decide) ?_
  refine lv_iadd hx hb dL_law_309 ?_
  refine sf_sld hx hb hX hbl hbA hS (hj 1 (by decide)) ey1 dL_law_310 ?_
  refine lv_aload_n hx hb dL_law_311 rfl (lv_at hl 0 rfl) ?_
  refine lv_iload_n hx hb dL_law_312 rfl (lv_at hl 3 rfl) ?_
  refine lv_iconst (v := 2) hx hb dL_law_313 (by decide) ?_
  refine lv_iadd hx hb dL_law_314 ?_
  refine sf_sld hx hb hX hbl hbA hS (hj 2 (by decide)) ey2 dL_law_315 ?_
  refine sf_goV (n := 2) (C := RX4) (As := [.int y1, .int y2]) (rest := [.int (sf_fsq y1 y2)]) ⟨hx, hb, hml, hown, hts⟩ (sf_c_X4_wideSquare l D qm y1 y2) (lw_V q224 q225 q226 q8 q227) (by decide +kernel) ⟨Nat.le_of_ble_eq_true rfl, Nat.le_of_ble_eq_true rfl⟩ (hP.sub [] rfl) (hK.sub [] rfl) sf_nN (va_recv hK hP (ci := 3) (q0 := 4) rfl rfl) rfl hl.1 rfl (Nat.le_of_ble_eq_true rfl) dL_law_316 ⟨Nat.le_of_ble_eq_true rfl, Nat.le_of_ble_eq_true rfl⟩ hS hA (fun H1 locs1 hk1 hS => ?_)
  have hP := hk1 _ _ _ hP
  exact lv_icmp_eq (tgt := 357) hx hb dL_law_319 (by decide) (fun _ => K _ _ hP hS) (fun h => absurd (sf_L_sq y1 y2) h)
set_option maxHeartbeats 4000000 in
set_option maxRecDepth 100000 in
/-- the law's case 6 -/
theorem sf_lc_6 {p : Program} {l : Launch} {e : Env} {s : State} {m : MethodId} {below : List Frame} {meth : Method} {c : Code} {D : va_G} {b L : Nat} {xs : Nat → Int32} {h0 qa g12 g13 qm : Nat} {cA : ClassId} (C0 : lw_At p s m meth c b L xs) (hK : va_K D sf_cl [(cA, .object "GF")] s) (hN : ∀ x ∈ sf_xs, va_Nw (.declares x) s) (i : Nat) (hj : ∀ j, j < 6 → vp_in (nI i + nI j) L) (y1 y2 y3 y4 y5 : Int32) (ey1 : xs (nI i + 1).toNatClampNeg = y1) (ey2 : xs (nI i + 2).toNatClampNeg = y2) (ey3 : xs (nI i + 3).toNatClampNeg = y3) (ey4 : xs (nI i + 4).toNatClampNeg = y4) (ey5 : xs (nI i + 5).toNatClampNeg = y5) {H : Heap} {locs : List Loc} {ls : Array Slot} (hP : va_P D sf_cl [(h0, .inr (0, [.ref qa])), (qa, .inl (cA, 2, .inr (.inr (.inr (.inr (sf_F g12 g13)))))), (g12, .inr (1, [])), (g13, .inr (2, [])), (qm, .inr (3, []))] H) (hS : va_S (fun q : Nat => s.heap.size ≤ q) s.heap H locs) (hl : lv_has ls 4 [(0, .ref b), (1, .ref h0), (2, .ref qm), (3, .int (nI i))]) (K : ∀ (H : Heap) (locs : List Loc), va_P D sf_cl [(h0, .inr (0, [.ref qa])), (qa, .inl (cA, 2, .inr (.inr (.inr (.inr (sf_F g12 g13)))))), (g12, .inr (1, [])), (g13, .inr (2, [])), (qm, .inr (3, []))] H → va_S (fun q : Nat => s.heap.size ≤ q) s.heap H locs → W p l e room_1 s m #[Value.ref b] below meth c H locs 5 3 (lw_Z below #[Value.ref b] s) (F0 m 357 ls [])) : W p l e room_1 s m #[Value.ref b] below meth c H locs 5 3 (lw_Z below #[Value.ref b] s) (F0 m 324 ls []) := by
  obtain ⟨hx, hb, hr, hml, hown, hts0, hX, hbl, hlocks, hgv⟩ := id C0
  have hA : ∀ q : Nat, s.heap.size ≤ q → (fun q : Nat => s.heap.size ≤ q) q := fun _ h => h
  have hbA : ¬ (fun q : Nat => s.heap.size ≤ q) b := Nat.not_le.mpr hbl
  have hts : ∀ w ∈ lw_all, w.before #[Value.ref b] s = true := fun w h => hts0 w (lw_all_tbl h)
  refine lv_aload_n hx hb dL_law_324 rfl (lv_at hl 1 rfl) ?_
  refine lv_aload_n hx hb dL_law_325 rfl (lv_at hl 0 rfl) ?_
  refine lv_iload_n hx hb dL_law_326 rfl (lv_at hl 3 rfl) ?_
  refine lv_iconst (v := 1) hx hb dL_law_327 (by decide) ?_
  refine lv_iadd hx hb dL_law_328 ?_
  refine sf_sld hx hb hX hbl hbA hS (hj 1 (by decide)) ey1 dL_law_329 ?_
  refine lv_aload_n hx hb dL_law_330 rfl (lv_at hl 0 rfl) ?_
  refine lv_iload_n hx hb dL_law_331 rfl (lv_at hl 3 rfl) ?_
  refine lv_iconst (v := 2) hx hb dL_law_332 (by decide) ?_
  refine lv_iadd hx hb dL_law_333 ?_
  refine sf_sld hx hb hX hbl hbA hS (hj 2 (by decide)) ey2 dL_law_334 ?_
  refine sf_goV (n := 2) (C := RX0) (As := [.int y1, .int y2]) (rest := []) ⟨hx, hb, hml, hown, hts⟩ (sf_c_X0_nought l D h0 qa g12 g13 cA y1 y2) (lw_V q180 q181 q182 q4 q183) (by decide +kernel) ⟨Nat.le_of_ble_eq_true rfl, Nat.le_of_ble_eq_true rfl⟩ (hP.sub (ws' := [(h0, .inr (0, [.ref qa])), (qa, .inl (cA, 2, .inr (.inr (.inr (.inr (sf_F g12 g13)))))), (g12, .inr (1, [])), (g13, .inr (2, []))]) [0, 1, 2, 3] rfl) hK hN (va_recv hK hP (ci := 0) (q0 := 0) rfl rfl) rfl hl.1 rfl (Nat.le_of_ble_eq_true rfl) dL_law_335 ⟨Nat.le_of_ble_eq_true rfl, Nat.le_of_ble_eq_true rfl⟩ hS hA (fun H1 locs1 hk1 hS => ?_)
  have hP := hk1 _ _ _ hP
  refine lv_aload_n hx hb dL_law_338 rfl (lv_at hl 2 rfl) ?_
  refine lv_aload_n hx hb dL_law_339 rfl (lv_at hl 0 rfl) ?_
  refine lv_iload_n hx hb dL_law_340 rfl (lv_at hl 3 rfl) ?_
  refine lv_iconst (v := 1) hx hb dL_law_341 (by decide) ?_
  refine lv_iadd hx hb dL_law_342 ?_
  refine sf_sld hx hb hX hbl hbA hS (hj 1 (by decide)) ey1 dL_law_343 ?_
  refine lv_aload_n hx hb dL_law_344 rfl (lv_at hl 0 rfl) ?_
  refine lv_iload_n hx hb dL_law_345 rfl (lv_at hl 3 rfl) ?_
  refine lv_iconst (v := 2) hx hb dL_law_346 (by decide) ?_
  refine lv_iadd hx hb dL_law_347 ?_
  refine sf_sld hx hb hX hbl hbA hS (hj 2 (by decide)) ey2 dL_law_348 ?_
  refine sf_goV (n := 2) (C := RX4) (As := [.int y1, .int y2]) (rest := [.int (sf_fnou y1 y2)]) ⟨hx, hb, hml, hown, hts⟩ (sf_c_X4_nought l D qm y1 y2) (lw_V q228 q229 q230 q8 q231) (by decide +kernel) ⟨Nat.le_of_ble_eq_true rfl, Nat.le_of_ble_eq_true rfl⟩ (hP.sub [] rfl) (hK.sub [] rfl) sf_nN (va_recv hK hP (ci := 3) (q0 := 4) rfl rfl) rfl hl.1 rfl (Nat.le_of_ble_eq_true rfl) dL_law_349 ⟨Nat.le_of_ble_eq_true rfl, Nat.le_of_ble_eq_true rfl⟩ hS hA (fun H1 locs1 hk1 hS => ?_)
  have hP := hk1 _ _ _ hP
  exact lv_icmp_eq (tgt := 357) hx hb dL_law_352 (by decide) (fun _ => K _ _ hP hS) (fun h => absurd (sf_L_nou y1 y2) h)
end
section
/-! THE LAW: its loop, and its entry -/
set_option maxRecDepth 100000
set_option maxHeartbeats 4000000 in
set_option maxRecDepth 100000 in
/-- the law's loop at its head, i ints read -/
theorem sf_law_loop {p : Program} {l : Launch} {e : Env} {s : State} {m : MethodId} {below : List Frame} {meth : Method} {c : Code} {D : va_G} {b L : Nat} {xs : Nat → Int32} {h0 qa g12 g13 qm : Nat} {cA : ClassId} (hL : L ≤ 384) (C0 : lw_At p s m meth c b L xs) (hK : va_K D sf_cl [(cA, .object "GF")] s) (hN : ∀ x ∈ sf_xs, va_Nw (.declares x) s) :
    ∀ (n i : Nat), i ≤ L → L + 1 ≤ i + n → ∀ (H : Heap) (locs : List Loc), va_P D sf_cl [(h0, .inr (0, [.ref qa])), (qa, .inl (cA, 2, .inr (.inr (.inr (.inr (sf_F g12 g13)))))), (g12, .inr (1, [])), (g13, .inr (2, [])), (qm, .inr (3, []))] H → va_S (fun q : Nat => s.heap.size ≤ q) s.heap H locs → ∀ (ls : Array Slot), lv_has ls 4 [(0, .ref b), (1, .ref h0), (2, .ref qm), (3, .int (nI i))] → W p l e room_1 s m #[Value.ref b] below meth c H locs 5 3 (lw_Z below #[Value.ref b] s) (F0 m 18 ls []) := by
  obtain ⟨hx, hb, hr, hml, hown, hts0, hX, hbl, hlocks, hgv⟩ := id C0
  have hbA : ¬ (fun q : Nat => s.heap.size ≤ q) b := Nat.not_le.mpr hbl
  intro n
  induction n with
  | zero =>
    intro i h1 h2
    exact absurd h2 (by omega)
  | succ n ih =>
    intro i hi hin H locs hP hS ls hl
    refine lv_iload_n hx hb dL_law_18 rfl (lv_at hl 3 rfl) ?_
    refine lv_aload_n hx hb dL_law_19 rfl (lv_at hl 0 rfl) ?_
    refine va_slen hx hb hX hbl hbA hS dL_law_20 ?_
    refine lv_bipush (v := 6) hx hb dL_law_21 (by decide) ?_
    refine lv_isub hx hb dL_law_23 ?_
    refine lv_icmp_gt (tgt := 363) hx hb dL_law_24 (by decide) (fun h => ?_) (fun h => ?_)
    · refine lv_iconst (v := 1) hx hb dL_law_363 (by decide) ?_
      refine va_forget (fun q hq => hS.2.2 q hq) ?_
      refine W.widen (k := 600000) (n := 7290000) (Nat.le_of_ble_eq_true rfl) (Nat.le_of_ble_eq_true rfl) ?_
      exact lw_ret hx hb hr hlocks dL_law_364
    · have h6 : i + 6 ≤ L := sf_lt6 hL hi h
      have hj : ∀ j, j < 6 → vp_in (nI i + nI j) L := fun j hj => by rw [nI_add]; exact vp_in_nI (by omega) (by omega)
      have K : ∀ (H : Heap) (locs : List Loc), va_P D sf_cl [(h0, .inr (0, [.ref qa])), (qa, .inl (cA, 2, .inr (.inr (.inr (.inr (sf_F g12 g13)))))), (g12, .inr (1, [])), (g13, .inr (2, [])), (qm, .inr (3, []))] H → va_S (fun q : Nat => s.heap.size ≤ q) s.heap H locs → W p l e room_1 s m #[Value.ref b] below meth c H locs 5 3 (lw_Z below #[Value.ref b] s) (F0 m 357 ls []) := by
        intro H locs hP hS
        refine lv_iinc (v := nI (i + 6)) (lv' := [(3, .int (nI (i + 6))), (0, .ref b), (1, .ref h0), (2, .ref qm)]) hx hb dL_law_357 hl (k := 3) rfl (nI_add i 6) (by decide) rfl (fun ls hl => ?_)
        refine lv_goto (tgt := 18) hx hb dL_law_360 (by decide) ?_
        exact ih (i + 6) h6 (by omega) H locs hP hS ls (lv_sub hl [1, 2, 3, 0] rfl)
      refine lv_aload_n hx hb dL_law_27 rfl (lv_at hl 0 rfl) ?_
      refine lv_iload_n hx hb dL_law_28 rfl (lv_at hl 3 rfl) ?_
      refine va_sld hx hb hX hbl hbA hS (vp_in_nI (n := i) (N := L) (by omega) (by omega)) dL_law_29 ?_
      refine lv_bipush (v := 7) hx hb dL_law_30 (by decide) ?_
      refine lv_iand hx hb dL_law_32 ?_
      refine lv_topi (fun sw esw => ?_)
      obtain ⟨j, hj8, ej⟩ := pk_andE (xs (nI i).toNatClampNeg) (m := 7) 3 (by decide)
      have esw : sw = nI j := esw.trans ej
      subst esw
      have hj8 : j < 8 := hj8
      rcases (show j = 0 ∨ j = 1 ∨ j = 2 ∨ j = 3 ∨ j = 4 ∨ j = 5 ∨ j = 6 ∨ j = 7 by omega) with rfl | rfl | rfl | rfl | rfl | rfl | rfl | rfl
      · refine lv_tableIn (off := 43) (tgt := 76) hx hb dL_law_33 (by decide) (by decide) (by decide) (by decide) ?_
        exact sf_lc_0 C0 hK hN i hj _ _ _ _ _ rfl rfl rfl rfl rfl hP hS hl K
      · refine lv_tableIn (off := 86) (tgt := 119) hx hb dL_law_33 (by decide) (by decide) (by decide) (by decide) ?_
        exact sf_lc_1 C0 hK hN i hj _ _ _ _ _ rfl rfl rfl rfl rfl hP hS hl K
      · refine lv_tableIn (off := 119) (tgt := 152) hx hb dL_law_33 (by decide) (by decide) (by decide) (by decide) ?_
        exact sf_lc_2 C0 hK hN i hj _ _ _ _ _ rfl rfl rfl rfl rfl hP hS hl K
      · refine lv_tableIn (off := 152) (tgt := 185) hx hb dL_law_33 (by decide) (by decide) (by decide) (by decide) ?_
        exact sf_lc_3 C0 hK hN i hj _ _ _ _ _ rfl rfl rfl rfl rfl hP hS hl K
      · refine lv_tableIn (off := 195) (tgt := 228) hx hb dL_law_33 (by decide) (by decide) (by decide) (by decide) ?_
        exact sf_lc_4 C0 hK hN i hj _ _ _ _ _ rfl rfl rfl rfl rfl hP hS hl K
      · refine lv_tableIn (off := 258) (tgt := 291) hx hb dL_law_33 (by decide) (by decide) (by decide) (by decide) ?_
        exact sf_lc_5 C0 hK hN i hj _ _ _ _ _ rfl rfl rfl rfl rfl hP hS hl K
      · refine lv_tableIn (off := 291) (tgt := 324) hx hb dL_law_33 (by decide) (by decide) (by decide) (by decide) ?_
        exact sf_lc_6 C0 hK hN i hj _ _ _ _ _ rfl rfl rfl rfl rfl hP hS hl K
      · refine lv_tableOut (tgt := 357) hx hb dL_law_33 (Or.inr (by decide)) (by decide) ?_
        exact K H locs hP hS
set_option maxHeartbeats 4000000 in
set_option maxRecDepth 100000 in
/-- THE LAW, from its entry -/
theorem whole_start {p : Program} {e : Env} {s : State} {m : MethodId} {below : List Frame} {meth : Method} {c : Code} (l : Launch) (hflags : l.flags = flags0) {b L : Nat} {xs : Nat → Int32} (hL : L ≤ 384) (C0 : lw_At p s m meth c b L xs) : W p l e room_1 s m #[Value.ref b] below meth c s.heap [] 0 0 (lw_Z below #[Value.ref b] s) (entryFrame m ([Value.ref b] : List Value).toArray 4) := by
  obtain ⟨hx, hb, hr, hml, hown, hts0, hX, hbl, hlocks, hgv⟩ := id C0
  have hA : ∀ q : Nat, s.heap.size ≤ q → (fun q : Nat => s.heap.size ≤ q) q := fun _ h => h
  have hts : ∀ w ∈ lw_all, w.before #[Value.ref b] s = true := fun w h => hts0 w (lw_all_tbl h)
  obtain ⟨c0, iS0, hKn0⟩ := u_known (C := RX0) (T := TX0) (N := 1) (n := 1) hts0 (fun w h => lw_all_tbl (in_X0 w h)) (hts _ q11)
  obtain ⟨c1, iS1, hKn1⟩ := u_known (C := RX2) (T := sf_T0) (N := 0) (n := 0) hts0 (fun w h => lw_all_tbl (sf_in0 RX2 w h)) (hts _ q21)
  obtain ⟨c2, iS2, hKn2⟩ := u_known (C := RX3) (T := sf_T0) (N := 0) (n := 0) hts0 (fun w h => lw_all_tbl (sf_in0 RX3 w h)) (hts _ q31)
  obtain ⟨c3, iS3, hKn3⟩ := u_known (C := RX4) (T := sf_T0) (N := 0) (n := 0) hts0 (fun w h => lw_all_tbl (sf_in0 RX4 w h)) (hts _ q191)
  obtain ⟨D, hKc⟩ : ∃ D : va_G, ∀ (k : Nat) (q : vw_C), sf_cl[k]? = some q → u_Kn s q.1 q.2.1 q.2.2 (D.1 k) (D.2 k) := by
    refine ⟨(fun k => if k = 0 then c0 else if k = 1 then c1 else if k = 2 then c2 else c3, fun k => if k = 0 then iS0 else if k = 1 then iS1 else if k = 2 then iS2 else iS3), ?_⟩
    intro k q hq
    match k, hq with
    | 0, hq => cases hq; exact hKn0
    | 1, hq => cases hq; exact hKn1
    | 2, hq => cases hq; exact hKn2
    | 3, hq => cases hq; exact hKn3
    | k + 4, hq => simp [sf_cl] at hq
  have hAO : va_AO "GF" s := va_AO.of (hts0 _ q19)
  have hC2 : va_Nw (.castable RX2 "GF") s := va_Nw.of rfl (hts0 _ q235)
  have hC3 : va_Nw (.castable RX3 "GF") s := va_Nw.of rfl (hts0 _ q236)
  have hN : ∀ x ∈ sf_xs, va_Nw (.declares x) s := by
    intro x hx
    simp only [sf_xs, List.mem_cons, List.not_mem_nil, or_false] at hx
    rcases hx with rfl | rfl | rfl | rfl | rfl | rfl | rfl
    · exact va_Nw.of rfl (hts0 _ q49)
    · exact va_Nw.of rfl (hts0 _ q72)
    · exact va_Nw.of rfl (hts0 _ q94)
    · exact va_Nw.of rfl (hts0 _ q142)
    · exact va_Nw.of rfl (hts0 _ q154)
    · exact va_Nw.of rfl (hts0 _ q163)
    · exact va_Nw.of rfl (hts0 _ q172)
  have hS : va_S (fun q : Nat => s.heap.size ≤ q) s.heap s.heap [] := va_S.rf
  have hK : va_K D sf_cl [] s := ⟨hKc, fun k q h => by simp at h⟩
  have hP : va_P D sf_cl [] s.heap := fun k q h => by simp at h
  have hD : va_D (fun q : Nat => s.heap.size ≤ q) [] := ⟨fun i j p q h => by simp at h, fun k q h => by simp at h⟩
  have hl := lv_entry ([.ref b]) (n := 4) (Nat.le_of_ble_eq_true rfl)
  rw [lg_entry_eq]
  generalize (lg_sl ([.ref b]) ++ List.replicate (4 - (lg_sl ([.ref b])).length) Slot.unset).toArray = ls at hl ⊢
  have hl : lv_has ls 4 [(0, .ref b)] := hl
  refine va_new (ci := 0) (fs := [.null]) (C := RX0) (T := TX0) (N := 1) hx hb hts in_X0 tyX0 tyX0_ok hown (hts _ q10) (hts _ q11) (hts _ q4) hK hP hD hS hA rfl (fun j hj => by rcases (show j = 0 by omega) with rfl; rfl) (Nat.le_of_ble_eq_true rfl) (Nat.le_of_ble_eq_true rfl) dL_law_0 (fun h0 H hP hD hS => ?_)
  have hP : va_P D sf_cl [(h0, .inr (0, [.null]))] H := hP
  have hD : va_D (fun q : Nat => s.heap.size ≤ q) [(h0, .inr (0, [.null]))] := hD
  refine W.widen (k := 1) (n := 1) (by omega) (by omega) ?_
  refine lv_dup hx hb dL_law_3 rfl ?_
  have hFc := va_free (wc := [(h0, .inr (0, [.null]))]) hD hS hA [0] rfl
  refine va_callv (va_runI (As := []) (rest := [.ref h0]) ⟨hx, hb, hml, hown, hts⟩ (sf_c_X0_init l D h0 H.size) (cwI 0 hts (lw_meth q14) rfl rfl rfl (hts _ q4) (hts _ q12) (hts _ q13) rfl (by decide +kernel) ⟨Nat.le_of_ble_eq_true rfl, Nat.le_of_ble_eq_true rfl⟩) ⟨fun a U g mk q => by obtain ⟨q0, q1, qP, qK, qD, qa, qb, qc⟩ := q; exact ⟨q0, q1, qP, va_K.moved (u := U) (U := U.calling g mk a) (Vm.Alike.refl U.vm) qK, qD, va_AO.moved (u := U) (U := U.calling g mk a) (Vm.Alike.refl U.vm) qa, va_Nw.same (u := U) (U := U.calling g mk a) rfl rfl qb, va_Nw.same (u := U) (U := U.calling g mk a) rfl rfl qc⟩, fun U hU hW => ⟨rfl, by rw [hU], by rw [hU]; exact hP, va_K.moved hW.alike hK, hD.weaken (fun _ _ _ _ => trivial), va_AO.moved hW.alike hAO, va_Nw.warmC hW hC2, va_Nw.warmC hW hC3⟩⟩ rfl rfl hl.1 rfl (lv_room (Nat.le_of_ble_eq_true rfl)) dL_law_4 ⟨Nat.le_of_ble_eq_true rfl, Nat.le_of_ble_eq_true rfl⟩) hS (fun q _ h => hFc q h) hFc (fun u t H1 locs ht hvm hw hB hz1 hk1 hS => ?_)
  obtain ⟨qa, g12, g13, cA, hP1, hK1, hD1⟩ := hB
  rw [ht] at hP1
  have hK := va_K.moved hvm.symm hK1
  obtain ⟨hP, hD⟩ := va_join (wr := []) (w1 := [(h0, .inr (0, [.ref qa])), (qa, .inl (cA, 2, .inr (.inr (.inr (.inr (sf_F g12 g13)))))), (g12, .inr (1, [])), (g13, .inr (2, []))]) hP hD [0] [] rfl rfl (by decide) (by decide) hk1 hFc hP1 hD1
  have hP : va_P D sf_cl [(h0, .inr (0, [.ref qa])), (qa, .inl (cA, 2, .inr (.inr (.inr (.inr (sf_F g12 g13)))))), (g12, .inr (1, [])), (g13, .inr (2, []))] H1 := hP
  have hD : va_D (fun q : Nat => s.heap.size ≤ q) [(h0, .inr (0, [.ref qa])), (qa, .inl (cA, 2, .inr (.inr (.inr (.inr (sf_F g12 g13)))))), (g12, .inr (1, [])), (g13, .inr (2, []))] := hD
  refine W.widen (k := 4) (n := 3) (by omega) (by omega) ?_
  refine lv_astore_n (lv' := [(1, .ref h0), (0, .ref b)]) hx hb dL_law_7 rfl hl (by decide) rfl (fun ls hl => ?_)
  refine va_new (ci := 3) (fs := []) (C := RX4) (T := sf_T0) (N := 0) hx hb hts (sf_in0 RX4) (fun _ => .int) sf_ty0 hown (hts _ q190) (hts _ q191) (hts _ q8) hK hP hD hS hA rfl (fun j hj => absurd hj (Nat.not_lt_zero j)) (Nat.le_of_ble_eq_true rfl) (Nat.le_of_ble_eq_true rfl) dL_law_8 (fun qm H hP hD hS => ?_)
  have hP : va_P D sf_cl [(h0, .inr (0, [.ref qa])), (qa, .inl (cA, 2, .inr (.inr (.inr (.inr (sf_F g12 g13)))))), (g12, .inr (1, [])), (g13, .inr (2, [])), (qm, .inr (3, []))] H := hP
  refine W.widen (k := 5) (n := 3) (by omega) (by omega) ?_
  refine lv_dup hx hb dL_law_11 rfl ?_
  refine sf_goI (As := []) (rest := [.ref qm]) ⟨hx, hb, hml, hown, hts⟩ (sf_c_X4_init l D qm) q194 (hts _ q8) (hts _ q192) (hts _ q193) rfl (by decide +kernel) ⟨Nat.le_of_ble_eq_true rfl, Nat.le_of_ble_eq_true rfl⟩ (hP.sub [] rfl) (hK.sub [] rfl) sf_nN rfl hl.1 rfl (Nat.le_of_ble_eq_true rfl) dL_law_12 ⟨Nat.le_of_ble_eq_true rfl, Nat.le_of_ble_eq_true rfl⟩ hS hA (fun H1 locs1 hk1 hS => ?_)
  have hP := hk1 _ _ _ hP
  refine lv_astore_n (lv' := [(2, .ref qm), (1, .ref h0), (0, .ref b)]) hx hb dL_law_15 rfl hl (by decide) rfl (fun ls hl => ?_)
  refine lv_iconst (v := 0) hx hb dL_law_16 (by decide) ?_
  refine lv_istore_n (lv' := [(3, .int 0), (2, .ref qm), (1, .ref h0), (0, .ref b)]) hx hb dL_law_17 rfl hl (by decide) rfl (fun ls hl => ?_)
  exact sf_law_loop hL C0 hK hN (L + 1) 0 (Nat.zero_le L) (by omega) _ _ hP hS ls (lv_sub hl [3, 2, 1, 0] rfl)
end
section
set_option maxRecDepth 100000
set_option maxHeartbeats 4000000 in
theorem lw_walk (l : Launch) (hflags : l.flags = flags0) (b : Addr) (xs : List Int32) : MetFree l x (headSpec (Jvm.Cond.code x code maxLocals ret :: tables_1) room_1) (lw_P b xs) (fun _ _ _ _ _ => True) lw_Q := by
  refine MetFree.of_bodyS (code := code) (maxLocals := maxLocals) (ret := ret) (by decide) ?_ ?_
  · intro args s m h hn
    obtain ⟨meth, c, h1, h2, h3, h4, h5, h6, -, -⟩ := Cond.code_spec hn (atoms_spec (ws := Jvm.Cond.code x code maxLocals ret :: tables_1) h _ List.mem_cons_self)
    exact ⟨meth, c, h1, h2, h3, h4, h5, h6⟩
  · intro p e s m args below meth c s₁ B hml0 hP _
    obtain ⟨rfl, hx, hbd, hgv⟩ := hP
    obtain ⟨scr, harrAt, hlist, hof, hsmall⟩ := hx
    obtain ⟨hcb, hkn, -, -⟩ := State.arrayAt?_spec harrAt
    have hown : s.vm.findClass R_law = some m.cls := findClass_of_methodNamed B.named
    have hts0 : ∀ c ∈ (Jvm.Cond.code x code maxLocals ret :: tables_1), c.before #[Value.ref b] s = true := atoms_spec (ws := Jvm.Cond.code x code maxLocals ret :: tables_1) B.pre
    have hts : ∀ w ∈ lw_tbl, w.before #[Value.ref b] s = true := k2_hts_sels lw_privs (fun w hw => hts0 w (List.mem_cons_of_mem _ hw)) lw_privs_ok
    have hml : c.maxLocals = 4 := B.maxLocals_eq (hts0 _ List.mem_cons_self)
    have X₀ : Stand p l e room_1 s m #[Value.ref b] below meth c s₁ [] 0 0 := Stand.of_body B
    have hh0 : s₁.heap = s.heap := by rw [B.state]; rfl
    have hsz : scr.slots.size = xs.length := by rw [← Array.length_toList, hlist, List.length_map]
    have hval : ∀ j : Nat, j < xs.length → scr.slots[j]? = some (.int (xs.getD j 0)) := fun j hj => by
      rw [← Array.getElem?_toList, hlist]
      simp [hj]
    have hbl : b < s.heap.size := (Array.getElem?_eq_some_iff.mp hcb).1
    have hX : va_X b xs.length (fun j => xs.getD j 0) s s.heap := ⟨scr, hcb, hof, hkn, hsz, hval⟩
    have K : W p l e room_1 s m #[Value.ref b] below meth c s₁.heap [] 0 0 (lw_Z below #[Value.ref b] s) (entryFrame m ([Value.ref b] : List Value).toArray 4) := by
      rw [hh0]
      exact whole_start l hflags hbd ⟨B.exec, B.bytes, B.returns, hml, hown, hts, hX, hbl, B.notSynchronized, hgv⟩
    obtain ⟨t, a1, o, b1, b2, b3⟩ := K s₁ rfl X₀
    exact ⟨t, o, a1, b1, b2, b3⟩
theorem lw_pre_spec {args : Array Value} {s : State} (h : (Jvm.Cond.and given_1 narrow_1).before args s = true) (hr : rest_1_c.before args s = true) : ∃ (b : Addr) (xs : List Int32), lw_P b xs args s := by
  have hs := flat_of_before _ h
  have hq := flat_of_before _ hr
  have hc : (Cond.count 1).before args s = true := hs _ (by decide +kernel)
  have harr : (Cond.arrayOf (.arg 0) .int).before args s = true := hs _ (by decide +kernel)
  have hle : (Cond.le (.length (.arg 0)) (.int 384)).before args s = true := hs _ (by decide +kernel)
  have hlen : (Cond.isInt (.length (.arg 0))).before args s = true := hq _ (by decide +kernel)
  have hall : (Cond.all (.arg 0) (.isInt (.elem (.arg 0) (.index 0)))).before args s = true := hq _ (by decide +kernel)
  obtain ⟨b, xs, hb, hx⟩ := State.ints_of_pre rfl harr hlen hall
  have hsm : xs.length < 2 ^ 31 := hx.choose_spec.2.2.2
  have hev : (Term.length (.arg 0)).eval args s none [] s = some (.int xs.length.toInt32) := hx.length_eval hb
  have hv := Cond.le_ints hev (show (Term.int 384).eval args s none [] s = some (.int 384) from rfl)
  have hd : xs.length.toInt32 ≤ 384 := by
    simpa [Cond.before, Cond.holds, hv] using hle
  have hN : xs.length ≤ 384 := (Int32.ofNat_le_ofNat hsm (by decide)).mp (show Int32.ofNat xs.length ≤ Int32.ofNat 384 from hd)
  exact ⟨b, xs, Cond.one_arg hc (show args[0]? = some (.ref b) from hb), hx, hN, h⟩
theorem lw_comes (l : Launch) (hflags : l.flags = flags0) : Comes l x (Jvm.Cond.code x code maxLocals ret :: tables_1) room_1 (fun tb e args s => Calls_1 tb e args s ∧ rest_1 tb e args s ∧ Pre_1 tb e args s)
    (fun _ _ args s o t => lw_Q args s o t) := by
  intro p e ha hc hk s m args below hf hfit hheap happ hpre
  obtain ⟨b, xs, hP⟩ := lw_pre_spec hpre.2.2 hpre.2.1
  obtain ⟨k, o, h1, h2, h3, hQ⟩ := lw_walk l hflags b xs p e ha hc hk s m args below hf ((Spec.applies_iff_loose hf).mp happ).1 hP trivial
  exact ⟨k, o, h1, h2, h3, hQ⟩
theorem lw_frame {s t : State} {o : Outcome} {args : Array Value} (h : Framed s o t [] 600000 7290000) :
    Framed s o t (fieldLocs frame_1_writes args s ++ arrayLocs frame_1_arrays args s ++ staticLocs frame_1_statics s) 600000 7290000 := h
theorem lw_limb (L : Cond) (hL : ∀ (args : Array Value) (s t : State), L.after args s (.returned (some (.int 1))) t = true) :
    ArmFor flags0 classFile x code maxLocals ret World_1 tables_1 room_1 Calls_1 rest_1 Pre_1
      (fun tb e a s o t => postC L tb e a s o t ∧ Framed s o t (fieldLocs frame_1_writes a s ++ arrayLocs frame_1_arrays a s ++ staticLocs frame_1_statics s) 600000 7290000) := by
  intro l hflags _ _ p e ha hc hk s m args below hf hfit hheap happ hpre
  obtain ⟨k, o, h1, h2, h3, rfl, hF⟩ := lw_comes l hflags p e ha hc hk s m args below hf hfit hheap happ hpre
  exact ⟨k, _, h1, h2, h3, hL args s _, lw_frame hF⟩
theorem i_vc : Claimed_1_1 ∧ Claimed_1_2 := ⟨lw_limb limb_1_1 (fun args s t => by simp [limb_1_1, Cond.after, Cond.holds, Cond.value]), lw_limb limb_1_2 (fun args s t => Cond.after_iff.mpr (by
  first | (rw [show limb_1_2 = Cond.eq .result (.int 1) from rfl, Cond.eq_ints (x := 1) (y := 1) rfl rfl]; simp; done) | (simp [limb_1_2, Cond.value, Term.eval]; done)))⟩
end
