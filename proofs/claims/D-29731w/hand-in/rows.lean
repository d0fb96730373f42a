section
-- ===== PART A: goes FIRST, ahead of the names: the tables' words, and 'selects' of the private methods out of them =====
/-- a private method of a class that the tables say can be made, by its rows of tables_1 -/
def lw_okq (q : MethodName × Nat) : Prop := (q.1.cls ≠ "java/lang/invoke/MethodHandle" ∧ q.1.cls ≠ "java/lang/invoke/VarHandle") ∧ Cond.instantiable q.1.cls q.2 ∈ tables_1 ∧ Cond.privateMethod q.1 ∈ tables_1 ∧ Cond.instanceMethod q.1 ∈ tables_1
set_option maxRecDepth 100000
theorem lw_t1 {w : Cond} (h : w ∈ tables_1_1) : w ∈ tables_1 := List.mem_append_left _ h
theorem lw_t2 {w : Cond} (h : w ∈ tables_1_2) : w ∈ tables_1 := List.mem_append_right _ h
theorem lw_p0 : lw_okq (⟨"ZucDesk", "from", "(I)I"⟩, 8) := ⟨⟨by decide +kernel, by decide +kernel⟩, lw_t1 (List.mem_of_getElem? (i := 22) rfl), lw_t1 (List.mem_of_getElem? (i := 20) rfl), lw_t1 (List.mem_of_getElem? (i := 21) rfl)⟩
theorem lw_p1 : lw_okq (⟨"ZucDesk", "count", "(II)I"⟩, 8) := ⟨⟨by decide +kernel, by decide +kernel⟩, lw_t1 (List.mem_of_getElem? (i := 22) rfl), lw_t1 (List.mem_of_getElem? (i := 26) rfl), lw_t1 (List.mem_of_getElem? (i := 27) rfl)⟩
theorem lw_p2 : lw_okq (⟨"java/lang/Throwable", "fillInStackTrace", "(I)Ljava/lang/Throwable;"⟩, 6) := ⟨⟨by decide +kernel, by decide +kernel⟩, lw_t1 (List.mem_of_getElem? (i := 77) rfl), lw_t1 (List.mem_of_getElem? (i := 75) rfl), lw_t1 (List.mem_of_getElem? (i := 76) rfl)⟩
theorem lw_p3 : lw_okq (⟨"Zuc128CoreEngine", "makeKeyStream", "()V"⟩, 7) := ⟨⟨by decide +kernel, by decide +kernel⟩, lw_t1 (List.mem_of_getElem? (i := 152) rfl), lw_t1 (List.mem_of_getElem? (i := 150) rfl), lw_t1 (List.mem_of_getElem? (i := 151) rfl)⟩
theorem lw_p4 : lw_okq (⟨"Zuc128CoreEngine", "BitReorganization", "()V"⟩, 7) := ⟨⟨by decide +kernel, by decide +kernel⟩, lw_t1 (List.mem_of_getElem? (i := 152) rfl), lw_t1 (List.mem_of_getElem? (i := 168) rfl), lw_t1 (List.mem_of_getElem? (i := 169) rfl)⟩
theorem lw_p5 : lw_okq (⟨"Zuc128CoreEngine", "LFSRWithWorkMode", "()V"⟩, 7) := ⟨⟨by decide +kernel, by decide +kernel⟩, lw_t1 (List.mem_of_getElem? (i := 152) rfl), lw_t1 (List.mem_of_getElem? (i := 196) rfl), lw_t1 (List.mem_of_getElem? (i := 197) rfl)⟩
theorem lw_p6 : lw_okq (⟨"Zuc128CoreEngine", "AddM", "(II)I"⟩, 7) := ⟨⟨by decide +kernel, by decide +kernel⟩, lw_t1 (List.mem_of_getElem? (i := 152) rfl), lw_t1 (List.mem_of_getElem? (i := 204) rfl), lw_t1 (List.mem_of_getElem? (i := 205) rfl)⟩
theorem lw_p7 : lw_okq (⟨"Zuc128CoreEngine", "setKeyAndIV", "([B[B)V"⟩, 7) := ⟨⟨by decide +kernel, by decide +kernel⟩, lw_t1 (List.mem_of_getElem? (i := 152) rfl), lw_t2 (List.mem_of_getElem? (i := 148) rfl), lw_t2 (List.mem_of_getElem? (i := 149) rfl)⟩
theorem lw_p8 : lw_okq (⟨"Zuc128CoreEngine", "LFSRWithInitialisationMode", "(I)V"⟩, 7) := ⟨⟨by decide +kernel, by decide +kernel⟩, lw_t1 (List.mem_of_getElem? (i := 152) rfl), lw_t2 (List.mem_of_getElem? (i := 180) rfl), lw_t2 (List.mem_of_getElem? (i := 181) rfl)⟩
def lw_privs_1 : List (MethodName × Nat) := [(⟨"ZucDesk", "from", "(I)I"⟩, 8), (⟨"ZucDesk", "count", "(II)I"⟩, 8), (⟨"java/lang/Throwable", "fillInStackTrace", "(I)Ljava/lang/Throwable;"⟩, 6), (⟨"Zuc128CoreEngine", "makeKeyStream", "()V"⟩, 7), (⟨"Zuc128CoreEngine", "BitReorganization", "()V"⟩, 7), (⟨"Zuc128CoreEngine", "LFSRWithWorkMode", "()V"⟩, 7), (⟨"Zuc128CoreEngine", "AddM", "(II)I"⟩, 7), (⟨"Zuc128CoreEngine", "setKeyAndIV", "([B[B)V"⟩, 7), (⟨"Zuc128CoreEngine", "LFSRWithInitialisationMode", "(I)V"⟩, 7)]
theorem lw_r1 : ∀ q ∈ lw_privs_1, lw_okq q := List.forall_mem_cons.mpr ⟨lw_p0, List.forall_mem_cons.mpr ⟨lw_p1, List.forall_mem_cons.mpr ⟨lw_p2, List.forall_mem_cons.mpr ⟨lw_p3, List.forall_mem_cons.mpr ⟨lw_p4, List.forall_mem_cons.mpr ⟨lw_p5, List.forall_mem_cons.mpr ⟨lw_p6, List.forall_mem_cons.mpr ⟨lw_p7, List.forall_mem_cons.mpr ⟨lw_p8, fun _ h => absurd h List.not_mem_nil⟩⟩⟩⟩⟩⟩⟩⟩⟩
def lw_privs : List (MethodName × Nat) := lw_privs_1
/-- the private methods of Zuc128CoreEngine, called on a Zuc128Engine: they are selected, whatever the receiver's kind -/
def z_prv : List (MethodName × Nat) := [(⟨"Zuc128CoreEngine", "makeKeyStream", "()V"⟩, 7), (⟨"Zuc128CoreEngine", "BitReorganization", "()V"⟩, 7), (⟨"Zuc128CoreEngine", "LFSRWithWorkMode", "()V"⟩, 7), (⟨"Zuc128CoreEngine", "AddM", "(II)I"⟩, 7), (⟨"Zuc128CoreEngine", "setKeyAndIV", "([B[B)V"⟩, 7), (⟨"Zuc128CoreEngine", "LFSRWithInitialisationMode", "(I)V"⟩, 7)]
def z_sels : List Cond := z_prv.map fun q => Cond.selects "Zuc128Engine" q.1 q.1
theorem z_selP {C : String} {y : MethodName} {s : State} {args : Array Value} {n n2 : Nat} (hy : y.cls ≠ "java/lang/invoke/MethodHandle" ∧ y.cls ≠ "java/lang/invoke/VarHandle")
    (hinsC : (Cond.instantiable C n2).before args s = true) (hins : (Cond.instantiable y.cls n).before args s = true) (hpriv : (Cond.privateMethod y).before args s = true) (hinst : (Cond.instanceMethod y).before args s = true) :
    (Cond.selects C y y).before args s = true := by
  obtain ⟨c, k, hc, hk, -, hniab, -, -⟩ := Cond.instantiable_spec hins
  obtain ⟨c2, k2, hc2, hk2, -, -, -, -⟩ := Cond.instantiable_spec hinsC
  have hni : k.isInterface = false := (Bool.or_eq_false_iff.mp hniab).1
  obtain ⟨mk, methM, hnamed, hmethM, -, -⟩ := Cond.instanceMethod_spec hinst
  have hfound : s.methodFound? y.cls y.name y.desc = some mk := State.methodFound?_of_named hnamed hy
  have hcls : mk.cls = c := Option.some.inj ((findClass_of_methodNamed hnamed).symm.trans hc)
  have hsel : selectMethod {} s.vm c2 mk = .method mk := selectMethod_private hmethM (Cond.privateMethod_at hpriv mk methM hnamed hmethM)
  simp only [Cond.before, Cond.holds, Cond.value, hc2, hfound, hnamed, hsel, hcls, hk]
  simp; exact hni
theorem z_prv_ok : ∀ q ∈ z_prv, lw_okq q := List.forall_mem_cons.mpr ⟨lw_p3, List.forall_mem_cons.mpr ⟨lw_p4, List.forall_mem_cons.mpr ⟨lw_p5, List.forall_mem_cons.mpr ⟨lw_p6, List.forall_mem_cons.mpr ⟨lw_p7, List.forall_mem_cons.mpr ⟨lw_p8, fun _ h => absurd h List.not_mem_nil⟩⟩⟩⟩⟩⟩
theorem z_engI : Cond.instantiable "Zuc128Engine" 7 ∈ tables_1 := lw_t2 (List.mem_of_getElem? (i := 14) rfl)
def lw_tbl : List Cond := k2_sels lw_privs ++ (tables_1 ++ z_sels)
/-- all words of lw_tbl hold where the tables' hold -/
theorem z_hts {args : Array Value} {s : State} (hts : ∀ w ∈ tables_1, w.before args s = true) : ∀ w ∈ lw_tbl, w.before args s = true := by
  have h0 := k2_hts_sels (Ts := tables_1) lw_privs hts lw_r1
  intro w hw
  rcases List.mem_append.mp hw with h | h
  · exact h0 w (List.mem_append_left _ h)
  · rcases List.mem_append.mp h with h | h
    · exact hts w h
    · obtain ⟨q, hq, rfl⟩ := List.mem_map.mp h
      obtain ⟨h1, h2, h3, h4⟩ := z_prv_ok q hq
      exact z_selP h1 (hts _ z_engI) (hts _ h2) (hts _ h3) (hts _ h4)
theorem lw_privs_ok : ∀ q ∈ lw_privs, lw_okq q := lw_r1
-- ===== ONE list of words for every method: the tables' words that hold all through a run =====
def lw_all : List Cond := lw_tbl.filter goodWord
/-- a word of the tables by its place: claim/WORDS.tsv -/
theorem lw_w {w : Cond} (i : Nat) (h : lw_tbl[i]? = some w) (g : goodWord w = true) : w ∈ lw_all := List.mem_filter.mpr ⟨List.mem_of_getElem? h, g⟩
theorem lw_all_tbl {w : Cond} (h : w ∈ lw_all) : w ∈ lw_tbl := (List.mem_filter.mp h).1
theorem lw_self : GoodIn lw_all lw_all := fun w h => ⟨h, good_of_word (List.mem_filter.mp h).2⟩
/-- a class's field words, by their places -/
theorem lw_in (ws : List Cond) (ps : List Nat) (hp : ws = ps.filterMap (fun i => lw_tbl[i]?)) (hg : ws.all goodWord = true) : ∀ w ∈ ws, w ∈ lw_all := by
  intro w h
  have h1 := List.all_eq_true.mp hg w h
  rw [hp] at h
  obtain ⟨i, -, hi⟩ := List.mem_filterMap.mp h
  exact lw_w i hi h1
/-- the words of a contract for the method y with code b, L locals, answer r -/
abbrev ws_ (y : MethodName) (b : ByteArray) (L : Nat) (r : Option FieldType) : List Cond := Cond.code y b L r :: lw_all
theorem lw_meth {y : MethodName} {b : ByteArray} {L : Nat} {r : Option FieldType} (h : Cond.code y b L r ∈ lw_all) : GoodIn lw_all (ws_ y b L r) := by
  intro w hw
  rcases List.mem_cons.mp hw with e | e
  · rw [e]
    exact lw_self _ h
  · exact lw_self _ e
theorem lw_app {a c : List Cond} (ha : ∀ w ∈ a, w ∈ lw_all) (hc : GoodIn lw_all c) : GoodIn lw_all (a ++ c) := by
  intro w hw
  rcases List.mem_append.mp hw with e | e
  · exact lw_self w (ha w e)
  · exact hc w e
/-- what a call through an object asks: cwV n hts (lw_V ..) -/
theorem lw_V {own : String} {idx : Nat} {C : String} {y : MethodName} {b : ByteArray} {L : Nat} {r : Option FieldType} (h1 : Cond.methodLink own idx y ∈ lw_all) (h2 : Cond.instanceMethod y ∈ lw_all) (h3 : Cond.selects C y y ∈ lw_all) (h4 : Cond.initialized C ∈ lw_all) (h5 : Cond.code y b L r ∈ lw_all) : GoodIn lw_all (wsV own idx C y (ws_ y b L r)) := by
  refine lw_app ?_ (lw_meth h5)
  intro w hw
  simp only [List.mem_cons, List.not_mem_nil, or_false] at hw
  rcases hw with e | e | e | e
  · rw [e]; exact h1
  · rw [e]; exact h2
  · rw [e]; exact h3
  · rw [e]; exact h4
/-- what a static call asks: va_cwS n hts (lw_S ..) -/
theorem lw_S {own : String} {idx : Nat} {y : MethodName} {b : ByteArray} {L : Nat} {r : Option FieldType} (h1 : Cond.methodLink own idx y ∈ lw_all) (h2 : Cond.static y ∈ lw_all) (h3 : Cond.initialized y.cls ∈ lw_all) (h4 : Cond.code y b L r ∈ lw_all) : GoodIn lw_all (va_wsS own idx y (ws_ y b L r)) := by
  refine lw_app ?_ (lw_meth h4)
  intro w hw
  simp only [List.mem_cons, List.not_mem_nil, or_false] at hw
  rcases hw with e | e | e
  · rw [e]; exact h1
  · rw [e]; exact h2
  · rw [e]; exact h3
/-- the words of a contract for a method WITH HANDLERS (hh: its table) -/
abbrev wsW_ (y : MethodName) (b : ByteArray) (L : Nat) (r : Option FieldType) (hh : List (Nat × Nat × Nat × Nat)) : List Cond := Cond.codeWith y b L r hh :: lw_all
theorem lw_methW {y : MethodName} {b : ByteArray} {L : Nat} {r : Option FieldType} {hh : List (Nat × Nat × Nat × Nat)} (h : Cond.codeWith y b L r hh ∈ lw_all) : GoodIn lw_all (wsW_ y b L r hh) := by
  intro w hw
  rcases List.mem_cons.mp hw with e | e
  · rw [e]
    exact lw_self _ h
  · exact lw_self _ e
/-- any list of words by their places (lw_in), good -/
theorem lw_good {ws : List Cond} (h : ∀ w ∈ ws, w ∈ lw_all) : GoodIn lw_all ws := fun w hw => lw_self w (h w hw)
/-- what a call of a method with handlers asks: vx_cwVW n hts (lw_VW ..), vx_cwSW n hts (lw_SW ..) -/
theorem lw_VW {own : String} {idx : Nat} {C : String} {y : MethodName} {b : ByteArray} {L : Nat} {r : Option FieldType} {hh : List (Nat × Nat × Nat × Nat)} (h1 : Cond.methodLink own idx y ∈ lw_all) (h2 : Cond.instanceMethod y ∈ lw_all) (h3 : Cond.selects C y y ∈ lw_all) (h4 : Cond.initialized C ∈ lw_all) (h5 : Cond.codeWith y b L r hh ∈ lw_all) : GoodIn lw_all (wsV own idx C y (wsW_ y b L r hh)) := by
  refine lw_app ?_ (lw_methW h5)
  intro w hw
  simp only [List.mem_cons, List.not_mem_nil, or_false] at hw
  rcases hw with e | e | e | e
  · rw [e]; exact h1
  · rw [e]; exact h2
  · rw [e]; exact h3
  · rw [e]; exact h4
theorem lw_SW {own : String} {idx : Nat} {y : MethodName} {b : ByteArray} {L : Nat} {r : Option FieldType} {hh : List (Nat × Nat × Nat × Nat)} (h1 : Cond.methodLink own idx y ∈ lw_all) (h2 : Cond.static y ∈ lw_all) (h3 : Cond.initialized y.cls ∈ lw_all) (h4 : Cond.codeWith y b L r hh ∈ lw_all) : GoodIn lw_all (va_wsS own idx y (wsW_ y b L r hh)) := by
  refine lw_app ?_ (lw_methW h4)
  intro w hw
  simp only [List.mem_cons, List.not_mem_nil, or_false] at hw
  rcases hw with e | e | e
  · rw [e]; exact h1
  · rw [e]; exact h2
  · rw [e]; exact h3
/-- a word by its place in its run of the tables -/
theorem lw_at {r : List Cond} (hr : ∀ w ∈ r, w ∈ lw_tbl) {w : Cond} (i : Nat) (h : r[i]? = some w) : w ∈ lw_tbl := hr w (List.mem_of_getElem? h)
theorem lw_g {w : Cond} (h : w ∈ lw_tbl) (g : goodWord w = true) : w ∈ lw_all := List.mem_filter.mpr ⟨h, g⟩
theorem lw_ms : ∀ w ∈ k2_sels lw_privs, w ∈ lw_tbl := fun w h => show w ∈ k2_sels lw_privs ++ (tables_1 ++ z_sels) from List.mem_append_left _ h
theorem lw_m1 : ∀ w ∈ tables_1_1, w ∈ lw_tbl := fun w h => show w ∈ k2_sels lw_privs ++ (tables_1 ++ z_sels) from List.mem_append_right (k2_sels lw_privs) (List.mem_append_left z_sels (show w ∈ tables_1 from List.mem_append_left _ h))
theorem lw_m2 : ∀ w ∈ tables_1_2, w ∈ lw_tbl := fun w h => show w ∈ k2_sels lw_privs ++ (tables_1 ++ z_sels) from List.mem_append_right (k2_sels lw_privs) (List.mem_append_left z_sels (show w ∈ tables_1 from List.mem_append_right _ h))
theorem z_ms : ∀ w ∈ z_sels, w ∈ lw_tbl := fun w h => show w ∈ k2_sels lw_privs ++ (tables_1 ++ z_sels) from List.mem_append_right (k2_sels lw_privs) (List.mem_append_right tables_1 h)
theorem qs0 : (Cond.selects "ZucDesk" ⟨"ZucDesk", "from", "(I)I"⟩ ⟨"ZucDesk", "from", "(I)I"⟩) ∈ lw_all := lw_g (lw_at lw_ms 0 rfl) rfl
theorem qs1 : (Cond.selects "ZucDesk" ⟨"ZucDesk", "count", "(II)I"⟩ ⟨"ZucDesk", "count", "(II)I"⟩) ∈ lw_all := lw_g (lw_at lw_ms 1 rfl) rfl
theorem qs2 : (Cond.selects "java/lang/Throwable" ⟨"java/lang/Throwable", "fillInStackTrace", "(I)Ljava/lang/Throwable;"⟩ ⟨"java/lang/Throwable", "fillInStackTrace", "(I)Ljava/lang/Throwable;"⟩) ∈ lw_all := lw_g (lw_at lw_ms 2 rfl) rfl
theorem qs3 : (Cond.selects "Zuc128CoreEngine" ⟨"Zuc128CoreEngine", "makeKeyStream", "()V"⟩ ⟨"Zuc128CoreEngine", "makeKeyStream", "()V"⟩) ∈ lw_all := lw_g (lw_at lw_ms 3 rfl) rfl
theorem qs4 : (Cond.selects "Zuc128CoreEngine" ⟨"Zuc128CoreEngine", "BitReorganization", "()V"⟩ ⟨"Zuc128CoreEngine", "BitReorganization", "()V"⟩) ∈ lw_all := lw_g (lw_at lw_ms 4 rfl) rfl
theorem qs5 : (Cond.selects "Zuc128CoreEngine" ⟨"Zuc128CoreEngine", "LFSRWithWorkMode", "()V"⟩ ⟨"Zuc128CoreEngine", "LFSRWithWorkMode", "()V"⟩) ∈ lw_all := lw_g (lw_at lw_ms 5 rfl) rfl
theorem qs6 : (Cond.selects "Zuc128CoreEngine" ⟨"Zuc128CoreEngine", "AddM", "(II)I"⟩ ⟨"Zuc128CoreEngine", "AddM", "(II)I"⟩) ∈ lw_all := lw_g (lw_at lw_ms 6 rfl) rfl
theorem qs7 : (Cond.selects "Zuc128CoreEngine" ⟨"Zuc128CoreEngine", "setKeyAndIV", "([B[B)V"⟩ ⟨"Zuc128CoreEngine", "setKeyAndIV", "([B[B)V"⟩) ∈ lw_all := lw_g (lw_at lw_ms 7 rfl) rfl
theorem qs8 : (Cond.selects "Zuc128CoreEngine" ⟨"Zuc128CoreEngine", "LFSRWithInitialisationMode", "(I)V"⟩ ⟨"Zuc128CoreEngine", "LFSRWithInitialisationMode", "(I)V"⟩) ∈ lw_all := lw_g (lw_at lw_ms 8 rfl) rfl
theorem zs0 : (Cond.selects "Zuc128Engine" ⟨"Zuc128CoreEngine", "makeKeyStream", "()V"⟩ ⟨"Zuc128CoreEngine", "makeKeyStream", "()V"⟩) ∈ lw_all := lw_g (lw_at z_ms 0 rfl) rfl
theorem zs1 : (Cond.selects "Zuc128Engine" ⟨"Zuc128CoreEngine", "BitReorganization", "()V"⟩ ⟨"Zuc128CoreEngine", "BitReorganization", "()V"⟩) ∈ lw_all := lw_g (lw_at z_ms 1 rfl) rfl
theorem zs2 : (Cond.selects "Zuc128Engine" ⟨"Zuc128CoreEngine", "LFSRWithWorkMode", "()V"⟩ ⟨"Zuc128CoreEngine", "LFSRWithWorkMode", "()V"⟩) ∈ lw_all := lw_g (lw_at z_ms 2 rfl) rfl
theorem zs3 : (Cond.selects "Zuc128Engine" ⟨"Zuc128CoreEngine", "AddM", "(II)I"⟩ ⟨"Zuc128CoreEngine", "AddM", "(II)I"⟩) ∈ lw_all := lw_g (lw_at z_ms 3 rfl) rfl
theorem zs4 : (Cond.selects "Zuc128Engine" ⟨"Zuc128CoreEngine", "setKeyAndIV", "([B[B)V"⟩ ⟨"Zuc128CoreEngine", "setKeyAndIV", "([B[B)V"⟩) ∈ lw_all := lw_g (lw_at z_ms 4 rfl) rfl
theorem zs5 : (Cond.selects "Zuc128Engine" ⟨"Zuc128CoreEngine", "LFSRWithInitialisationMode", "(I)V"⟩ ⟨"Zuc128CoreEngine", "LFSRWithInitialisationMode", "(I)V"⟩) ∈ lw_all := lw_g (lw_at z_ms 5 rfl) rfl
end
section
/-! DECODE ROWS BY BYTES: one lemma an opcode; a method's code is cut into short pieces once, and a row reads its own piece alone. -/
set_option maxRecDepth 100000
/-- the code has just these bytes from pc on -/
def DkAt (code : ByteArray) (pc : Nat) (bs : List UInt8) : Prop := ∀ (j : Nat) (b : UInt8), bs[j]? = some b → code.data.toList[pc + j]? = some b
/-- the piece W has the bytes bs from its place j on -/
def dkIn (W : List UInt8) (j : Nat) (bs : List UInt8) : Bool := decide ((W.drop j).take bs.length = bs)
theorem dk_seg {l W T : List UInt8} {o o2 : Nat} (h : l.drop o = W ++ T) (n : Nat) (hn : W.length = n) (ho : o + n = o2) : l.drop o2 = T := by
  subst ho
  rw [← List.drop_drop, h, List.drop_left' hn]
theorem dk_at {code : ByteArray} {W T bs : List UInt8} {o pc : Nat} (h : code.data.toList.drop o = W ++ T) (j : Nat) (hp : o + j = pc) (hw : dkIn W j bs = true) : DkAt code pc bs := by
  subst hp
  intro i b e
  have h1 := of_decide_eq_true hw
  have h2 : i < bs.length := (List.getElem?_eq_some_iff.mp e).1
  have h3 : W[j + i]? = some b := by
    rw [← h1, List.getElem?_take, if_pos h2, List.getElem?_drop] at e
    exact e
  have h4 : j + i < W.length := (List.getElem?_eq_some_iff.mp h3).1
  have h5 : (code.data.toList.drop o)[j + i]? = some b := by
    rw [h, List.getElem?_append_left h4]
    exact h3
  rw [List.getElem?_drop, ← Nat.add_assoc] at h5
  exact h5
theorem dk_u1 {A : ByteArray} {p : Nat} {b : UInt8} (h : A.data.toList[p]? = some b) : (Reader.u1 : Reader DecodeError Nat) A p = .ok (b.toNat, p + 1) := by
  obtain ⟨h1, h2⟩ := List.getElem?_eq_some_iff.mp h
  have h3 : p < A.size := by simpa using h1
  have h4 : A[p]'h3 = b := h2
  have e : (Reader.u1 : Reader DecodeError Nat) A p = (if h : p < A.size then .ok (A[p].toNat, p + 1) else .error (HasTruncated.truncated p)) := by
    show (do if h : p < A.size then do set (p + 1); Pure.pure A[p].toNat else MonadExcept.throw (HasTruncated.truncated p) : Reader DecodeError Nat) A p = _
    by_cases hi : p < A.size
    · rw [dif_pos hi, dif_pos hi]; rfl
    · rw [dif_neg hi, dif_neg hi]; rfl
  rw [e, dif_pos h3, h4]
theorem dk_bind {α β : Type} {r : Reader DecodeError α} {f : α → Reader DecodeError β} {A : ByteArray} {p s : Nat} {a : α} (h : r A p = .ok (a, s)) : (r >>= f) A p = f a A s := by
  show (do let (a, s) ← r A p; f a A s : Except DecodeError (β × Nat)) = _
  rw [h]
  rfl
theorem dk_map {α β : Type} {r : Reader DecodeError α} {g : α → β} {A : ByteArray} {p s : Nat} {a : α} (h : r A p = .ok (a, s)) : (g <$> r) A p = .ok (g a, s) := by
  show (do let (a, s) ← r A p; .ok (g a, s) : Except DecodeError (β × Nat)) = _
  rw [h]
  rfl
theorem dk_u2 {A : ByteArray} {p : Nat} {a b : UInt8} (h : A.data.toList[p]? = some a) (h2 : A.data.toList[p + 1]? = some b) : (Reader.u2 : Reader DecodeError Nat) A p = .ok (a.toNat * 256 + b.toNat, p + 2) := by
  show (Reader.u1 >>= fun hi => Reader.u1 >>= fun lo => Pure.pure (hi * 256 + lo) : Reader DecodeError Nat) A p = _
  rw [dk_bind (dk_u1 h), dk_bind (dk_u1 h2)]
  rfl
theorem dk_of {code : ByteArray} {pc n : Nat} {i : Instr} (h : Decoder.instr pc code pc = .ok (i, pc + n)) : decode code pc = .ok (i, n) := by
  have e : decode code pc = (match Decoder.instr pc code pc with | .error x => .error x | .ok (j, s) => .ok (j, s - pc)) := by
    show (do let (j, s) ← Decoder.instr pc code pc; Pure.pure (j, s - pc) : Except DecodeError (Instr × Nat)) = _
    cases Decoder.instr pc code pc <;> rfl
  rw [e, h]
  show Except.ok (i, pc + n - pc) = _
  rw [Nat.add_sub_cancel_left]
theorem dk_1 {code : ByteArray} {pc : Nat} (h : DkAt code pc [1]) : decode code pc = .ok (.aconst_null, 1) := dk_of ((dk_bind (dk_u1 (h 0 _ rfl))).trans rfl)
theorem dk_2 {code : ByteArray} {pc : Nat} (h : DkAt code pc [2]) : decode code pc = .ok (.iconst (-1), 1) := dk_of ((dk_bind (dk_u1 (h 0 _ rfl))).trans rfl)
theorem dk_3 {code : ByteArray} {pc : Nat} (h : DkAt code pc [3]) : decode code pc = .ok (.iconst 0, 1) := dk_of ((dk_bind (dk_u1 (h 0 _ rfl))).trans rfl)
theorem dk_4 {code : ByteArray} {pc : Nat} (h : DkAt code pc [4]) : decode code pc = .ok (.iconst 1, 1) := dk_of ((dk_bind (dk_u1 (h 0 _ rfl))).trans rfl)
theorem dk_5 {code : ByteArray} {pc : Nat} (h : DkAt code pc [5]) : decode code pc = .ok (.iconst 2, 1) := dk_of ((dk_bind (dk_u1 (h 0 _ rfl))).trans rfl)
theorem dk_6 {code : ByteArray} {pc : Nat} (h : DkAt code pc [6]) : decode code pc = .ok (.iconst 3, 1) := dk_of ((dk_bind (dk_u1 (h 0 _ rfl))).trans rfl)
theorem dk_7 {code : ByteArray} {pc : Nat} (h : DkAt code pc [7]) : decode code pc = .ok (.iconst 4, 1) := dk_of ((dk_bind (dk_u1 (h 0 _ rfl))).trans rfl)
theorem dk_8 {code : ByteArray} {pc : Nat} (h : DkAt code pc [8]) : decode code pc = .ok (.iconst 5, 1) := dk_of ((dk_bind (dk_u1 (h 0 _ rfl))).trans rfl)
theorem dk_16 {code : ByteArray} {pc : Nat} (a : UInt8) (h : DkAt code pc [16, a]) : decode code pc = .ok (.bipush (Reader.signed 8 a.toNat), 2) := dk_of ((dk_bind (dk_u1 (h 0 _ rfl))).trans ((dk_bind (dk_map (dk_u1 (h 1 _ rfl)))).trans rfl))
theorem dk_17 {code : ByteArray} {pc : Nat} (a b : UInt8) (h : DkAt code pc [17, a, b]) : decode code pc = .ok (.sipush (Reader.signed 16 (a.toNat * 256 + b.toNat)), 3) := dk_of ((dk_bind (dk_u1 (h 0 _ rfl))).trans ((dk_bind (dk_map (dk_u2 (h 1 _ rfl) (h 2 _ rfl)))).trans rfl))
theorem dk_18 {code : ByteArray} {pc : Nat} (a : UInt8) (h : DkAt code pc [18, a]) : decode code pc = .ok (.ldc a.toNat, 2) := dk_of ((dk_bind (dk_u1 (h 0 _ rfl))).trans ((dk_bind (dk_u1 (h 1 _ rfl))).trans rfl))
theorem dk_21 {code : ByteArray} {pc : Nat} (a : UInt8) (h : DkAt code pc [21, a]) : decode code pc = .ok (.iload a.toNat, 2) := dk_of ((dk_bind (dk_u1 (h 0 _ rfl))).trans ((dk_bind (dk_u1 (h 1 _ rfl))).trans rfl))
theorem dk_25 {code : ByteArray} {pc : Nat} (a : UInt8) (h : DkAt code pc [25, a]) : decode code pc = .ok (.aload a.toNat, 2) := dk_of ((dk_bind (dk_u1 (h 0 _ rfl))).trans ((dk_bind (dk_u1 (h 1 _ rfl))).trans rfl))
theorem dk_26 {code : ByteArray} {pc : Nat} (h : DkAt code pc [26]) : decode code pc = .ok (.iload_n 0, 1) := dk_of ((dk_bind (dk_u1 (h 0 _ rfl))).trans rfl)
theorem dk_27 {code : ByteArray} {pc : Nat} (h : DkAt code pc [27]) : decode code pc = .ok (.iload_n 1, 1) := dk_of ((dk_bind (dk_u1 (h 0 _ rfl))).trans rfl)
theorem dk_28 {code : ByteArray} {pc : Nat} (h : DkAt code pc [28]) : decode code pc = .ok (.iload_n 2, 1) := dk_of ((dk_bind (dk_u1 (h 0 _ rfl))).trans rfl)
theorem dk_29 {code : ByteArray} {pc : Nat} (h : DkAt code pc [29]) : decode code pc = .ok (.iload_n 3, 1) := dk_of ((dk_bind (dk_u1 (h 0 _ rfl))).trans rfl)
theorem dk_42 {code : ByteArray} {pc : Nat} (h : DkAt code pc [42]) : decode code pc = .ok (.aload_n 0, 1) := dk_of ((dk_bind (dk_u1 (h 0 _ rfl))).trans rfl)
theorem dk_43 {code : ByteArray} {pc : Nat} (h : DkAt code pc [43]) : decode code pc = .ok (.aload_n 1, 1) := dk_of ((dk_bind (dk_u1 (h 0 _ rfl))).trans rfl)
theorem dk_44 {code : ByteArray} {pc : Nat} (h : DkAt code pc [44]) : decode code pc = .ok (.aload_n 2, 1) := dk_of ((dk_bind (dk_u1 (h 0 _ rfl))).trans rfl)
theorem dk_45 {code : ByteArray} {pc : Nat} (h : DkAt code pc [45]) : decode code pc = .ok (.aload_n 3, 1) := dk_of ((dk_bind (dk_u1 (h 0 _ rfl))).trans rfl)
theorem dk_46 {code : ByteArray} {pc : Nat} (h : DkAt code pc [46]) : decode code pc = .ok (.iaload, 1) := dk_of ((dk_bind (dk_u1 (h 0 _ rfl))).trans rfl)
theorem dk_51 {code : ByteArray} {pc : Nat} (h : DkAt code pc [51]) : decode code pc = .ok (.baload, 1) := dk_of ((dk_bind (dk_u1 (h 0 _ rfl))).trans rfl)
theorem dk_53 {code : ByteArray} {pc : Nat} (h : DkAt code pc [53]) : decode code pc = .ok (.saload, 1) := dk_of ((dk_bind (dk_u1 (h 0 _ rfl))).trans rfl)
theorem dk_54 {code : ByteArray} {pc : Nat} (a : UInt8) (h : DkAt code pc [54, a]) : decode code pc = .ok (.istore a.toNat, 2) := dk_of ((dk_bind (dk_u1 (h 0 _ rfl))).trans ((dk_bind (dk_u1 (h 1 _ rfl))).trans rfl))
theorem dk_58 {code : ByteArray} {pc : Nat} (a : UInt8) (h : DkAt code pc [58, a]) : decode code pc = .ok (.astore a.toNat, 2) := dk_of ((dk_bind (dk_u1 (h 0 _ rfl))).trans ((dk_bind (dk_u1 (h 1 _ rfl))).trans rfl))
theorem dk_60 {code : ByteArray} {pc : Nat} (h : DkAt code pc [60]) : decode code pc = .ok (.istore_n 1, 1) := dk_of ((dk_bind (dk_u1 (h 0 _ rfl))).trans rfl)
theorem dk_61 {code : ByteArray} {pc : Nat} (h : DkAt code pc [61]) : decode code pc = .ok (.istore_n 2, 1) := dk_of ((dk_bind (dk_u1 (h 0 _ rfl))).trans rfl)
theorem dk_62 {code : ByteArray} {pc : Nat} (h : DkAt code pc [62]) : decode code pc = .ok (.istore_n 3, 1) := dk_of ((dk_bind (dk_u1 (h 0 _ rfl))).trans rfl)
theorem dk_75 {code : ByteArray} {pc : Nat} (h : DkAt code pc [75]) : decode code pc = .ok (.astore_n 0, 1) := dk_of ((dk_bind (dk_u1 (h 0 _ rfl))).trans rfl)
theorem dk_76 {code : ByteArray} {pc : Nat} (h : DkAt code pc [76]) : decode code pc = .ok (.astore_n 1, 1) := dk_of ((dk_bind (dk_u1 (h 0 _ rfl))).trans rfl)
theorem dk_77 {code : ByteArray} {pc : Nat} (h : DkAt code pc [77]) : decode code pc = .ok (.astore_n 2, 1) := dk_of ((dk_bind (dk_u1 (h 0 _ rfl))).trans rfl)
theorem dk_78 {code : ByteArray} {pc : Nat} (h : DkAt code pc [78]) : decode code pc = .ok (.astore_n 3, 1) := dk_of ((dk_bind (dk_u1 (h 0 _ rfl))).trans rfl)
theorem dk_79 {code : ByteArray} {pc : Nat} (h : DkAt code pc [79]) : decode code pc = .ok (.iastore, 1) := dk_of ((dk_bind (dk_u1 (h 0 _ rfl))).trans rfl)
theorem dk_84 {code : ByteArray} {pc : Nat} (h : DkAt code pc [84]) : decode code pc = .ok (.bastore, 1) := dk_of ((dk_bind (dk_u1 (h 0 _ rfl))).trans rfl)
theorem dk_87 {code : ByteArray} {pc : Nat} (h : DkAt code pc [87]) : decode code pc = .ok (.pop, 1) := dk_of ((dk_bind (dk_u1 (h 0 _ rfl))).trans rfl)
theorem dk_89 {code : ByteArray} {pc : Nat} (h : DkAt code pc [89]) : decode code pc = .ok (.dup, 1) := dk_of ((dk_bind (dk_u1 (h 0 _ rfl))).trans rfl)
theorem dk_90 {code : ByteArray} {pc : Nat} (h : DkAt code pc [90]) : decode code pc = .ok (.dup_x1, 1) := dk_of ((dk_bind (dk_u1 (h 0 _ rfl))).trans rfl)
theorem dk_96 {code : ByteArray} {pc : Nat} (h : DkAt code pc [96]) : decode code pc = .ok (.iadd, 1) := dk_of ((dk_bind (dk_u1 (h 0 _ rfl))).trans rfl)
theorem dk_100 {code : ByteArray} {pc : Nat} (h : DkAt code pc [100]) : decode code pc = .ok (.isub, 1) := dk_of ((dk_bind (dk_u1 (h 0 _ rfl))).trans rfl)
theorem dk_104 {code : ByteArray} {pc : Nat} (h : DkAt code pc [104]) : decode code pc = .ok (.imul, 1) := dk_of ((dk_bind (dk_u1 (h 0 _ rfl))).trans rfl)
theorem dk_108 {code : ByteArray} {pc : Nat} (h : DkAt code pc [108]) : decode code pc = .ok (.idiv, 1) := dk_of ((dk_bind (dk_u1 (h 0 _ rfl))).trans rfl)
theorem dk_112 {code : ByteArray} {pc : Nat} (h : DkAt code pc [112]) : decode code pc = .ok (.irem, 1) := dk_of ((dk_bind (dk_u1 (h 0 _ rfl))).trans rfl)
theorem dk_120 {code : ByteArray} {pc : Nat} (h : DkAt code pc [120]) : decode code pc = .ok (.ishl, 1) := dk_of ((dk_bind (dk_u1 (h 0 _ rfl))).trans rfl)
theorem dk_122 {code : ByteArray} {pc : Nat} (h : DkAt code pc [122]) : decode code pc = .ok (.ishr, 1) := dk_of ((dk_bind (dk_u1 (h 0 _ rfl))).trans rfl)
theorem dk_124 {code : ByteArray} {pc : Nat} (h : DkAt code pc [124]) : decode code pc = .ok (.iushr, 1) := dk_of ((dk_bind (dk_u1 (h 0 _ rfl))).trans rfl)
theorem dk_126 {code : ByteArray} {pc : Nat} (h : DkAt code pc [126]) : decode code pc = .ok (.iand, 1) := dk_of ((dk_bind (dk_u1 (h 0 _ rfl))).trans rfl)
theorem dk_128 {code : ByteArray} {pc : Nat} (h : DkAt code pc [128]) : decode code pc = .ok (.ior, 1) := dk_of ((dk_bind (dk_u1 (h 0 _ rfl))).trans rfl)
theorem dk_130 {code : ByteArray} {pc : Nat} (h : DkAt code pc [130]) : decode code pc = .ok (.ixor, 1) := dk_of ((dk_bind (dk_u1 (h 0 _ rfl))).trans rfl)
theorem dk_132 {code : ByteArray} {pc : Nat} (a b : UInt8) (h : DkAt code pc [132, a, b]) : decode code pc = .ok (.iinc a.toNat (Reader.signed 8 b.toNat), 3) := dk_of ((dk_bind (dk_u1 (h 0 _ rfl))).trans ((dk_bind (dk_u1 (h 1 _ rfl))).trans ((dk_bind (dk_map (dk_u1 (h 2 _ rfl)))).trans rfl)))
theorem dk_145 {code : ByteArray} {pc : Nat} (h : DkAt code pc [145]) : decode code pc = .ok (.i2b, 1) := dk_of ((dk_bind (dk_u1 (h 0 _ rfl))).trans rfl)
theorem dk_153 {code : ByteArray} {pc : Nat} (a b : UInt8) (h : DkAt code pc [153, a, b]) : decode code pc = .ok (.ifCond .eq (Reader.signed 16 (a.toNat * 256 + b.toNat)), 3) := dk_of ((dk_bind (dk_u1 (h 0 _ rfl))).trans ((dk_bind (dk_map (dk_u2 (h 1 _ rfl) (h 2 _ rfl)))).trans rfl))
theorem dk_154 {code : ByteArray} {pc : Nat} (a b : UInt8) (h : DkAt code pc [154, a, b]) : decode code pc = .ok (.ifCond .ne (Reader.signed 16 (a.toNat * 256 + b.toNat)), 3) := dk_of ((dk_bind (dk_u1 (h 0 _ rfl))).trans ((dk_bind (dk_map (dk_u2 (h 1 _ rfl) (h 2 _ rfl)))).trans rfl))
theorem dk_158 {code : ByteArray} {pc : Nat} (a b : UInt8) (h : DkAt code pc [158, a, b]) : decode code pc = .ok (.ifCond .le (Reader.signed 16 (a.toNat * 256 + b.toNat)), 3) := dk_of ((dk_bind (dk_u1 (h 0 _ rfl))).trans ((dk_bind (dk_map (dk_u2 (h 1 _ rfl) (h 2 _ rfl)))).trans rfl))
theorem dk_159 {code : ByteArray} {pc : Nat} (a b : UInt8) (h : DkAt code pc [159, a, b]) : decode code pc = .ok (.if_icmp .eq (Reader.signed 16 (a.toNat * 256 + b.toNat)), 3) := dk_of ((dk_bind (dk_u1 (h 0 _ rfl))).trans ((dk_bind (dk_map (dk_u2 (h 1 _ rfl) (h 2 _ rfl)))).trans rfl))
theorem dk_160 {code : ByteArray} {pc : Nat} (a b : UInt8) (h : DkAt code pc [160, a, b]) : decode code pc = .ok (.if_icmp .ne (Reader.signed 16 (a.toNat * 256 + b.toNat)), 3) := dk_of ((dk_bind (dk_u1 (h 0 _ rfl))).trans ((dk_bind (dk_map (dk_u2 (h 1 _ rfl) (h 2 _ rfl)))).trans rfl))
theorem dk_161 {code : ByteArray} {pc : Nat} (a b : UInt8) (h : DkAt code pc [161, a, b]) : decode code pc = .ok (.if_icmp .lt (Reader.signed 16 (a.toNat * 256 + b.toNat)), 3) := dk_of ((dk_bind (dk_u1 (h 0 _ rfl))).trans ((dk_bind (dk_map (dk_u2 (h 1 _ rfl) (h 2 _ rfl)))).trans rfl))
theorem dk_162 {code : ByteArray} {pc : Nat} (a b : UInt8) (h : DkAt code pc [162, a, b]) : decode code pc = .ok (.if_icmp .ge (Reader.signed 16 (a.toNat * 256 + b.toNat)), 3) := dk_of ((dk_bind (dk_u1 (h 0 _ rfl))).trans ((dk_bind (dk_map (dk_u2 (h 1 _ rfl) (h 2 _ rfl)))).trans rfl))
theorem dk_164 {code : ByteArray} {pc : Nat} (a b : UInt8) (h : DkAt code pc [164, a, b]) : decode code pc = .ok (.if_icmp .le (Reader.signed 16 (a.toNat * 256 + b.toNat)), 3) := dk_of ((dk_bind (dk_u1 (h 0 _ rfl))).trans ((dk_bind (dk_map (dk_u2 (h 1 _ rfl) (h 2 _ rfl)))).trans rfl))
theorem dk_167 {code : ByteArray} {pc : Nat} (a b : UInt8) (h : DkAt code pc [167, a, b]) : decode code pc = .ok (.goto (Reader.signed 16 (a.toNat * 256 + b.toNat)), 3) := dk_of ((dk_bind (dk_u1 (h 0 _ rfl))).trans ((dk_bind (dk_map (dk_u2 (h 1 _ rfl) (h 2 _ rfl)))).trans rfl))
theorem dk_172 {code : ByteArray} {pc : Nat} (h : DkAt code pc [172]) : decode code pc = .ok (.ireturn, 1) := dk_of ((dk_bind (dk_u1 (h 0 _ rfl))).trans rfl)
theorem dk_176 {code : ByteArray} {pc : Nat} (h : DkAt code pc [176]) : decode code pc = .ok (.areturn, 1) := dk_of ((dk_bind (dk_u1 (h 0 _ rfl))).trans rfl)
theorem dk_177 {code : ByteArray} {pc : Nat} (h : DkAt code pc [177]) : decode code pc = .ok (.return_, 1) := dk_of ((dk_bind (dk_u1 (h 0 _ rfl))).trans rfl)
theorem dk_178 {code : ByteArray} {pc : Nat} (a b : UInt8) (h : DkAt code pc [178, a, b]) : decode code pc = .ok (.getstatic (a.toNat * 256 + b.toNat), 3) := dk_of ((dk_bind (dk_u1 (h 0 _ rfl))).trans ((dk_bind (dk_u2 (h 1 _ rfl) (h 2 _ rfl))).trans rfl))
theorem dk_180 {code : ByteArray} {pc : Nat} (a b : UInt8) (h : DkAt code pc [180, a, b]) : decode code pc = .ok (.getfield (a.toNat * 256 + b.toNat), 3) := dk_of ((dk_bind (dk_u1 (h 0 _ rfl))).trans ((dk_bind (dk_u2 (h 1 _ rfl) (h 2 _ rfl))).trans rfl))
theorem dk_181 {code : ByteArray} {pc : Nat} (a b : UInt8) (h : DkAt code pc [181, a, b]) : decode code pc = .ok (.putfield (a.toNat * 256 + b.toNat), 3) := dk_of ((dk_bind (dk_u1 (h 0 _ rfl))).trans ((dk_bind (dk_u2 (h 1 _ rfl) (h 2 _ rfl))).trans rfl))
theorem dk_182 {code : ByteArray} {pc : Nat} (a b : UInt8) (h : DkAt code pc [182, a, b]) : decode code pc = .ok (.invokevirtual (a.toNat * 256 + b.toNat), 3) := dk_of ((dk_bind (dk_u1 (h 0 _ rfl))).trans ((dk_bind (dk_u2 (h 1 _ rfl) (h 2 _ rfl))).trans rfl))
theorem dk_183 {code : ByteArray} {pc : Nat} (a b : UInt8) (h : DkAt code pc [183, a, b]) : decode code pc = .ok (.invokespecial (a.toNat * 256 + b.toNat), 3) := dk_of ((dk_bind (dk_u1 (h 0 _ rfl))).trans ((dk_bind (dk_u2 (h 1 _ rfl) (h 2 _ rfl))).trans rfl))
theorem dk_184 {code : ByteArray} {pc : Nat} (a b : UInt8) (h : DkAt code pc [184, a, b]) : decode code pc = .ok (.invokestatic (a.toNat * 256 + b.toNat), 3) := dk_of ((dk_bind (dk_u1 (h 0 _ rfl))).trans ((dk_bind (dk_u2 (h 1 _ rfl) (h 2 _ rfl))).trans rfl))
theorem dk_187 {code : ByteArray} {pc : Nat} (a b : UInt8) (h : DkAt code pc [187, a, b]) : decode code pc = .ok (.new (a.toNat * 256 + b.toNat), 3) := dk_of ((dk_bind (dk_u1 (h 0 _ rfl))).trans ((dk_bind (dk_u2 (h 1 _ rfl) (h 2 _ rfl))).trans rfl))
theorem dk_188_8 {code : ByteArray} {pc : Nat} (h : DkAt code pc [188, 8]) : decode code pc = .ok (.newarray .byte, 2) := dk_of ((dk_bind (dk_u1 (h 0 _ rfl))).trans ((dk_bind (dk_u1 (h 1 _ rfl))).trans rfl))
theorem dk_188_10 {code : ByteArray} {pc : Nat} (h : DkAt code pc [188, 10]) : decode code pc = .ok (.newarray .int, 2) := dk_of ((dk_bind (dk_u1 (h 0 _ rfl))).trans ((dk_bind (dk_u1 (h 1 _ rfl))).trans rfl))
theorem dk_190 {code : ByteArray} {pc : Nat} (h : DkAt code pc [190]) : decode code pc = .ok (.arraylength, 1) := dk_of ((dk_bind (dk_u1 (h 0 _ rfl))).trans rfl)
theorem dk_191 {code : ByteArray} {pc : Nat} (h : DkAt code pc [191]) : decode code pc = .ok (.athrow, 1) := dk_of ((dk_bind (dk_u1 (h 0 _ rfl))).trans rfl)
theorem dk_192 {code : ByteArray} {pc : Nat} (a b : UInt8) (h : DkAt code pc [192, a, b]) : decode code pc = .ok (.checkcast (a.toNat * 256 + b.toNat), 3) := dk_of ((dk_bind (dk_u1 (h 0 _ rfl))).trans ((dk_bind (dk_u2 (h 1 _ rfl) (h 2 _ rfl))).trans rfl))
theorem dk_193 {code : ByteArray} {pc : Nat} (a b : UInt8) (h : DkAt code pc [193, a, b]) : decode code pc = .ok (.instanceof (a.toNat * 256 + b.toNat), 3) := dk_of ((dk_bind (dk_u1 (h 0 _ rfl))).trans ((dk_bind (dk_u2 (h 1 _ rfl) (h 2 _ rfl))).trans rfl))
theorem dk_198 {code : ByteArray} {pc : Nat} (a b : UInt8) (h : DkAt code pc [198, a, b]) : decode code pc = .ok (.ifnull (Reader.signed 16 (a.toNat * 256 + b.toNat)), 3) := dk_of ((dk_bind (dk_u1 (h 0 _ rfl))).trans ((dk_bind (dk_map (dk_u2 (h 1 _ rfl) (h 2 _ rfl)))).trans rfl))
theorem dk_199 {code : ByteArray} {pc : Nat} (a b : UInt8) (h : DkAt code pc [199, a, b]) : decode code pc = .ok (.ifnonnull (Reader.signed 16 (a.toNat * 256 + b.toNat)), 3) := dk_of ((dk_bind (dk_u1 (h 0 _ rfl))).trans ((dk_bind (dk_map (dk_u2 (h 1 _ rfl) (h 2 _ rfl)))).trans rfl))
theorem q114 : (Jvm.Cond.arrayClass Jvm.ClassFile.FieldType.byte) ∈ lw_all := lw_g (lw_at lw_m1 105 rfl) rfl
set_option maxRecDepth 100000
theorem q293 : (Jvm.Cond.arrayClass Jvm.ClassFile.FieldType.int) ∈ lw_all := lw_g (lw_at lw_m2 44 rfl) rfl
theorem q468 : (Jvm.Cond.arrayClass Jvm.ClassFile.FieldType.short) ∈ lw_all := lw_g (lw_at lw_m2 219 rfl) rfl
theorem q15 : (Jvm.Cond.initialized "java/lang/System") ∈ lw_all := lw_g (lw_at lw_m1 6 rfl) rfl
set_option maxRecDepth 100000
theorem q245 : (Jvm.Cond.static ({ cls := "java/lang/System", name := "arraycopy", desc := "(Ljava/lang/Object;ILjava/lang/Object;II)V" } : Jvm.MethodName)) ∈ lw_all := lw_g (lw_at lw_m1 236 rfl) rfl
theorem q246 : (Jvm.Cond.native ({ cls := "java/lang/System", name := "arraycopy", desc := "(Ljava/lang/Object;ILjava/lang/Object;II)V" } : Jvm.MethodName)) ∈ lw_all := lw_g (lw_at lw_m1 237 rfl) rfl
/-! java/lang/Object -/
set_option maxRecDepth 100000
def RJ5 : String := "java/lang/Object"
abbrev cJ5_init : ByteArray := object_method_1_code
def yJ5_init : MethodName := ⟨RJ5, "<init>", "()V"⟩
theorem dJ5_init_0 : decode cJ5_init 0 = .ok (.return_, 1) := by decide +kernel
theorem q70 : (Jvm.Cond.instanceMethod ({ cls := "java/lang/Object", name := "<init>", desc := "()V" } : Jvm.MethodName)) ∈ lw_all := lw_g (lw_at lw_m1 61 rfl) rfl
theorem q71 : (Jvm.Cond.code ({ cls := "java/lang/Object", name := "<init>", desc := "()V" } : Jvm.MethodName) object_method_1_code (1 : Nat) (Option.none : Option Jvm.ClassFile.FieldType)) ∈ lw_all := lw_g (lw_at lw_m1 62 rfl) rfl
/-! KeyParameter -/
set_option maxRecDepth 100000
def RX5 : String := "KeyParameter"
def TX5 : u_T := fun k => match k with
  | _ => ("KeyParameter", "key", "[B", false)
def tyX5 : Nat → FieldType := fun k => match k with
  | _ => .array .byte
abbrev wsX50 : List Cond := u_ws RX5 TX5 1
theorem nmX5 : ∀ a, a < 1 → ∀ b, b < 1 → a ≠ b → (TX5 a).2.1 ≠ (TX5 b).2.1 := by decide +kernel
theorem tyX5_ok : ∀ k, k < 1 → parseFieldDescriptor (TX5 k).2.2.1 = some (tyX5 k) := by decide +kernel
abbrev cX5_init : ByteArray := prog_3_method_1_code
def yX5_init : MethodName := ⟨RX5, "<init>", "([B)V"⟩
def dkwX5_init_0 : List UInt8 := [42, 43, 3, 43, 190, 183, 0, 1, 177]
abbrev dktX5_init_0 : List UInt8 := dkwX5_init_0 ++ []
theorem dksX5_init_0 : cX5_init.data.toList.drop 0 = dktX5_init_0 := by decide +kernel
theorem dX5_init_0 : decode cX5_init 0 = .ok (.aload_n 0, 1) := dk_42 (dk_at dksX5_init_0 0 rfl rfl)
theorem dX5_init_1 : decode cX5_init 1 = .ok (.aload_n 1, 1) := dk_43 (dk_at dksX5_init_0 1 rfl rfl)
theorem dX5_init_2 : decode cX5_init 2 = .ok (.iconst 0, 1) := dk_3 (dk_at dksX5_init_0 2 rfl rfl)
theorem dX5_init_3 : decode cX5_init 3 = .ok (.aload_n 1, 1) := dk_43 (dk_at dksX5_init_0 3 rfl rfl)
theorem dX5_init_4 : decode cX5_init 4 = .ok (.arraylength, 1) := dk_190 (dk_at dksX5_init_0 4 rfl rfl)
theorem dX5_init_5 : decode cX5_init 5 = .ok (.invokespecial 1, 3) := dk_183 0 1 (dk_at dksX5_init_0 5 rfl rfl)
theorem dX5_init_8 : decode cX5_init 8 = .ok (.return_, 1) := dk_177 (dk_at dksX5_init_0 8 rfl rfl)
abbrev cX5_init_2 : ByteArray := prog_3_method_2_code
def yX5_init_2 : MethodName := ⟨RX5, "<init>", "([BII)V"⟩
def dkwX5_init_2_0 : List UInt8 := [42, 29, 183, 0, 7, 43, 28, 42, 180, 0, 10, 3, 29, 184, 0, 14, 177]
abbrev dktX5_init_2_0 : List UInt8 := dkwX5_init_2_0 ++ []
theorem dksX5_init_2_0 : cX5_init_2.data.toList.drop 0 = dktX5_init_2_0 := by decide +kernel
theorem dX5_init_2_0 : decode cX5_init_2 0 = .ok (.aload_n 0, 1) := dk_42 (dk_at dksX5_init_2_0 0 rfl rfl)
theorem dX5_init_2_1 : decode cX5_init_2 1 = .ok (.iload_n 3, 1) := dk_29 (dk_at dksX5_init_2_0 1 rfl rfl)
theorem dX5_init_2_2 : decode cX5_init_2 2 = .ok (.invokespecial 7, 3) := dk_183 0 7 (dk_at dksX5_init_2_0 2 rfl rfl)
theorem dX5_init_2_5 : decode cX5_init_2 5 = .ok (.aload_n 1, 1) := dk_43 (dk_at dksX5_init_2_0 5 rfl rfl)
theorem dX5_init_2_6 : decode cX5_init_2 6 = .ok (.iload_n 2, 1) := dk_28 (dk_at dksX5_init_2_0 6 rfl rfl)
theorem dX5_init_2_7 : decode cX5_init_2 7 = .ok (.aload_n 0, 1) := dk_42 (dk_at dksX5_init_2_0 7 rfl rfl)
theorem dX5_init_2_8 : decode cX5_init_2 8 = .ok (.getfield 10, 3) := dk_180 0 10 (dk_at dksX5_init_2_0 8 rfl rfl)
theorem dX5_init_2_11 : decode cX5_init_2 11 = .ok (.iconst 0, 1) := dk_3 (dk_at dksX5_init_2_0 11 rfl rfl)
theorem dX5_init_2_12 : decode cX5_init_2 12 = .ok (.iload_n 3, 1) := dk_29 (dk_at dksX5_init_2_0 12 rfl rfl)
theorem dX5_init_2_13 : decode cX5_init_2 13 = .ok (.invokestatic 14, 3) := dk_184 0 14 (dk_at dksX5_init_2_0 13 rfl rfl)
theorem dX5_init_2_16 : decode cX5_init_2 16 = .ok (.return_, 1) := dk_177 (dk_at dksX5_init_2_0 16 rfl rfl)
abbrev cX5_init_3 : ByteArray := prog_3_method_3_code
def yX5_init_3 : MethodName := ⟨RX5, "<init>", "(I)V"⟩
def dkwX5_init_3_0 : List UInt8 := [42, 183, 0, 20, 42, 27, 188, 8, 181, 0, 10, 177]
abbrev dktX5_init_3_0 : List UInt8 := dkwX5_init_3_0 ++ []
theorem dksX5_init_3_0 : cX5_init_3.data.toList.drop 0 = dktX5_init_3_0 := by decide +kernel
theorem dX5_init_3_0 : decode cX5_init_3 0 = .ok (.aload_n 0, 1) := dk_42 (dk_at dksX5_init_3_0 0 rfl rfl)
theorem dX5_init_3_1 : decode cX5_init_3 1 = .ok (.invokespecial 20, 3) := dk_183 0 20 (dk_at dksX5_init_3_0 1 rfl rfl)
theorem dX5_init_3_4 : decode cX5_init_3 4 = .ok (.aload_n 0, 1) := dk_42 (dk_at dksX5_init_3_0 4 rfl rfl)
theorem dX5_init_3_5 : decode cX5_init_3 5 = .ok (.iload_n 1, 1) := dk_27 (dk_at dksX5_init_3_0 5 rfl rfl)
theorem dX5_init_3_6 : decode cX5_init_3 6 = .ok (.newarray .byte, 2) := dk_188_8 (dk_at dksX5_init_3_0 6 rfl rfl)
theorem dX5_init_3_8 : decode cX5_init_3 8 = .ok (.putfield 10, 3) := dk_181 0 10 (dk_at dksX5_init_3_0 8 rfl rfl)
theorem dX5_init_3_11 : decode cX5_init_3 11 = .ok (.return_, 1) := dk_177 (dk_at dksX5_init_3_0 11 rfl rfl)
abbrev cX5_getKey : ByteArray := prog_3_method_4_code
def yX5_getKey : MethodName := ⟨RX5, "getKey", "()[B"⟩
theorem dX5_getKey_0 : decode cX5_getKey 0 = .ok (.aload_n 0, 1) := by decide +kernel
theorem dX5_getKey_1 : decode cX5_getKey 1 = .ok (.getfield 10, 3) := by decide +kernel
theorem dX5_getKey_4 : decode cX5_getKey 4 = .ok (.areturn, 1) := by decide +kernel
theorem q14 : (Jvm.Cond.initialized "KeyParameter") ∈ lw_all := lw_g (lw_at lw_m1 5 rfl) rfl
theorem q345 : (Jvm.Cond.instantiable "KeyParameter" (1 : Nat)) ∈ lw_all := lw_g (lw_at lw_m2 96 rfl) rfl
theorem q347 : (Jvm.Cond.instanceMethod ({ cls := "KeyParameter", name := "<init>", desc := "([B)V" } : Jvm.MethodName)) ∈ lw_all := lw_g (lw_at lw_m2 98 rfl) rfl
theorem q348 : (Jvm.Cond.code ({ cls := "KeyParameter", name := "<init>", desc := "([B)V" } : Jvm.MethodName) prog_3_method_1_code (2 : Nat) (Option.none : Option Jvm.ClassFile.FieldType)) ∈ lw_all := lw_g (lw_at lw_m2 99 rfl) rfl
theorem q349 : (Jvm.Cond.methodLink "KeyParameter" (1 : Nat) ({ cls := "KeyParameter", name := "<init>", desc := "([BII)V" } : Jvm.MethodName)) ∈ lw_all := lw_g (lw_at lw_m2 100 rfl) rfl
theorem q350 : (Jvm.Cond.instanceMethod ({ cls := "KeyParameter", name := "<init>", desc := "([BII)V" } : Jvm.MethodName)) ∈ lw_all := lw_g (lw_at lw_m2 101 rfl) rfl
theorem q351 : (Jvm.Cond.code ({ cls := "KeyParameter", name := "<init>", desc := "([BII)V" } : Jvm.MethodName) prog_3_method_2_code (4 : Nat) (Option.none : Option Jvm.ClassFile.FieldType)) ∈ lw_all := lw_g (lw_at lw_m2 102 rfl) rfl
theorem q352 : (Jvm.Cond.methodLink "KeyParameter" (7 : Nat) ({ cls := "KeyParameter", name := "<init>", desc := "(I)V" } : Jvm.MethodName)) ∈ lw_all := lw_g (lw_at lw_m2 103 rfl) rfl
theorem q353 : (Jvm.Cond.instanceMethod ({ cls := "KeyParameter", name := "<init>", desc := "(I)V" } : Jvm.MethodName)) ∈ lw_all := lw_g (lw_at lw_m2 104 rfl) rfl
theorem q354 : (Jvm.Cond.code ({ cls := "KeyParameter", name := "<init>", desc := "(I)V" } : Jvm.MethodName) prog_3_method_3_code (2 : Nat) (Option.none : Option Jvm.ClassFile.FieldType)) ∈ lw_all := lw_g (lw_at lw_m2 105 rfl) rfl
theorem q355 : (Jvm.Cond.methodLink "KeyParameter" (20 : Nat) ({ cls := "java/lang/Object", name := "<init>", desc := "()V" } : Jvm.MethodName)) ∈ lw_all := lw_g (lw_at lw_m2 106 rfl) rfl
theorem q356 : (Jvm.Cond.fieldLink "KeyParameter" (10 : Nat) "KeyParameter" "key" "[B") ∈ lw_all := lw_g (lw_at lw_m2 107 rfl) rfl
theorem q357 : (Jvm.Cond.lays "KeyParameter" "KeyParameter" "key" "[B") ∈ lw_all := lw_g (lw_at lw_m2 108 rfl) rfl
theorem q358 : (Jvm.Cond.soleField "KeyParameter" "key") ∈ lw_all := lw_g (lw_at lw_m2 109 rfl) rfl
theorem q359 : (Jvm.Cond.superclass "KeyParameter" "java/lang/Object") ∈ lw_all := lw_g (lw_at lw_m2 110 rfl) rfl
theorem q360 : (Jvm.Cond.methodLink "KeyParameter" (14 : Nat) ({ cls := "java/lang/System", name := "arraycopy", desc := "(Ljava/lang/Object;ILjava/lang/Object;II)V" } : Jvm.MethodName)) ∈ lw_all := lw_g (lw_at lw_m2 111 rfl) rfl
theorem q393 : (Jvm.Cond.instanceMethod ({ cls := "KeyParameter", name := "getKey", desc := "()[B" } : Jvm.MethodName)) ∈ lw_all := lw_g (lw_at lw_m2 144 rfl) rfl
theorem q394 : (Jvm.Cond.selects "KeyParameter" ({ cls := "KeyParameter", name := "getKey", desc := "()[B" } : Jvm.MethodName) ({ cls := "KeyParameter", name := "getKey", desc := "()[B" } : Jvm.MethodName)) ∈ lw_all := lw_g (lw_at lw_m2 145 rfl) rfl
theorem q395 : (Jvm.Cond.code ({ cls := "KeyParameter", name := "getKey", desc := "()[B" } : Jvm.MethodName) prog_3_method_4_code (1 : Nat) (Option.some (Jvm.ClassFile.FieldType.array Jvm.ClassFile.FieldType.byte))) ∈ lw_all := lw_g (lw_at lw_m2 146 rfl) rfl
theorem in_X5 : ∀ w ∈ wsX50, w ∈ lw_all := lw_in wsX50 [357] (by decide +kernel) (by decide +kernel)
/-! ParametersWithIV -/
set_option maxRecDepth 100000
def RX4 : String := "ParametersWithIV"
def TX4 : u_T := fun k => match k with
  | 0 => ("ParametersWithIV", "iv", "[B", false)
  | _ => ("ParametersWithIV", "parameters", "LCipherParameters;", false)
def tyX4 : Nat → FieldType := fun k => match k with
  | 0 => .array .byte
  | _ => .object "CipherParameters"
abbrev wsX40 : List Cond := u_ws RX4 TX4 2
theorem nmX4 : ∀ a, a < 2 → ∀ b, b < 2 → a ≠ b → (TX4 a).2.1 ≠ (TX4 b).2.1 := by decide +kernel
theorem tyX4_ok : ∀ k, k < 2 → parseFieldDescriptor (TX4 k).2.2.1 = some (tyX4 k) := by decide +kernel
abbrev cX4_init : ByteArray := prog_6_method_1_code
def yX4_init : MethodName := ⟨RX4, "<init>", "(LCipherParameters;[B)V"⟩
def dkwX4_init_0 : List UInt8 := [42, 43, 44, 3, 44, 190, 183, 0, 1, 177]
abbrev dktX4_init_0 : List UInt8 := dkwX4_init_0 ++ []
theorem dksX4_init_0 : cX4_init.data.toList.drop 0 = dktX4_init_0 := by decide +kernel
theorem dX4_init_0 : decode cX4_init 0 = .ok (.aload_n 0, 1) := dk_42 (dk_at dksX4_init_0 0 rfl rfl)
theorem dX4_init_1 : decode cX4_init 1 = .ok (.aload_n 1, 1) := dk_43 (dk_at dksX4_init_0 1 rfl rfl)
theorem dX4_init_2 : decode cX4_init 2 = .ok (.aload_n 2, 1) := dk_44 (dk_at dksX4_init_0 2 rfl rfl)
theorem dX4_init_3 : decode cX4_init 3 = .ok (.iconst 0, 1) := dk_3 (dk_at dksX4_init_0 3 rfl rfl)
theorem dX4_init_4 : decode cX4_init 4 = .ok (.aload_n 2, 1) := dk_44 (dk_at dksX4_init_0 4 rfl rfl)
theorem dX4_init_5 : decode cX4_init 5 = .ok (.arraylength, 1) := dk_190 (dk_at dksX4_init_0 5 rfl rfl)
theorem dX4_init_6 : decode cX4_init 6 = .ok (.invokespecial 1, 3) := dk_183 0 1 (dk_at dksX4_init_0 6 rfl rfl)
theorem dX4_init_9 : decode cX4_init 9 = .ok (.return_, 1) := dk_177 (dk_at dksX4_init_0 9 rfl rfl)
abbrev cX4_init_2 : ByteArray := prog_6_method_2_code
def yX4_init_2 : MethodName := ⟨RX4, "<init>", "(LCipherParameters;[BII)V"⟩
def dkwX4_init_2_1 : List UInt8 := [21, 4, 184, 0, 20, 177]
abbrev dktX4_init_2_1 : List UInt8 := dkwX4_init_2_1 ++ []
def dkwX4_init_2_0 : List UInt8 := [42, 183, 0, 7, 42, 21, 4, 188, 8, 181, 0, 12, 42, 43, 181, 0, 16, 44, 29, 42, 180, 0, 12, 3]
abbrev dktX4_init_2_0 : List UInt8 := dkwX4_init_2_0 ++ dktX4_init_2_1
theorem dksX4_init_2_0 : cX4_init_2.data.toList.drop 0 = dktX4_init_2_0 := by decide +kernel
theorem dksX4_init_2_1 : cX4_init_2.data.toList.drop 24 = dktX4_init_2_1 := dk_seg dksX4_init_2_0 24 rfl rfl
theorem dX4_init_2_0 : decode cX4_init_2 0 = .ok (.aload_n 0, 1) := dk_42 (dk_at dksX4_init_2_0 0 rfl rfl)
theorem dX4_init_2_1 : decode cX4_init_2 1 = .ok (.invokespecial 7, 3) := dk_183 0 7 (dk_at dksX4_init_2_0 1 rfl rfl)
theorem dX4_init_2_4 : decode cX4_init_2 4 = .ok (.aload_n 0, 1) := dk_42 (dk_at dksX4_init_2_0 4 rfl rfl)
theorem dX4_init_2_5 : decode cX4_init_2 5 = .ok (.iload 4, 2) := dk_21 4 (dk_at dksX4_init_2_0 5 rfl rfl)
theorem dX4_init_2_7 : decode cX4_init_2 7 = .ok (.newarray .byte, 2) := dk_188_8 (dk_at dksX4_init_2_0 7 rfl rfl)
theorem dX4_init_2_9 : decode cX4_init_2 9 = .ok (.putfield 12, 3) := dk_181 0 12 (dk_at dksX4_init_2_0 9 rfl rfl)
theorem dX4_init_2_12 : decode cX4_init_2 12 = .ok (.aload_n 0, 1) := dk_42 (dk_at dksX4_init_2_0 12 rfl rfl)
theorem dX4_init_2_13 : decode cX4_init_2 13 = .ok (.aload_n 1, 1) := dk_43 (dk_at dksX4_init_2_0 13 rfl rfl)
theorem dX4_init_2_14 : decode cX4_init_2 14 = .ok (.putfield 16, 3) := dk_181 0 16 (dk_at dksX4_init_2_0 14 rfl rfl)
theorem dX4_init_2_17 : decode cX4_init_2 17 = .ok (.aload_n 2, 1) := dk_44 (dk_at dksX4_init_2_0 17 rfl rfl)
theorem dX4_init_2_18 : decode cX4_init_2 18 = .ok (.iload_n 3, 1) := dk_29 (dk_at dksX4_init_2_0 18 rfl rfl)
theorem dX4_init_2_19 : decode cX4_init_2 19 = .ok (.aload_n 0, 1) := dk_42 (dk_at dksX4_init_2_0 19 rfl rfl)
theorem dX4_init_2_20 : decode cX4_init_2 20 = .ok (.getfield 12, 3) := dk_180 0 12 (dk_at dksX4_init_2_0 20 rfl rfl)
theorem dX4_init_2_23 : decode cX4_init_2 23 = .ok (.iconst 0, 1) := dk_3 (dk_at dksX4_init_2_0 23 rfl rfl)
theorem dX4_init_2_24 : decode cX4_init_2 24 = .ok (.iload 4, 2) := dk_21 4 (dk_at dksX4_init_2_1 0 rfl rfl)
theorem dX4_init_2_26 : decode cX4_init_2 26 = .ok (.invokestatic 20, 3) := dk_184 0 20 (dk_at dksX4_init_2_1 2 rfl rfl)
theorem dX4_init_2_29 : decode cX4_init_2 29 = .ok (.return_, 1) := dk_177 (dk_at dksX4_init_2_1 5 rfl rfl)
abbrev cX4_getIV : ByteArray := prog_6_method_3_code
def yX4_getIV : MethodName := ⟨RX4, "getIV", "()[B"⟩
theorem dX4_getIV_0 : decode cX4_getIV 0 = .ok (.aload_n 0, 1) := by decide +kernel
theorem dX4_getIV_1 : decode cX4_getIV 1 = .ok (.getfield 12, 3) := by decide +kernel
theorem dX4_getIV_4 : decode cX4_getIV 4 = .ok (.areturn, 1) := by decide +kernel
abbrev cX4_getParameters : ByteArray := prog_6_method_4_code
def yX4_getParameters : MethodName := ⟨RX4, "getParameters", "()LCipherParameters;"⟩
theorem dX4_getParameters_0 : decode cX4_getParameters 0 = .ok (.aload_n 0, 1) := by decide +kernel
theorem dX4_getParameters_1 : decode cX4_getParameters 1 = .ok (.getfield 16, 3) := by decide +kernel
theorem dX4_getParameters_4 : decode cX4_getParameters 4 = .ok (.areturn, 1) := by decide +kernel
theorem q13 : (Jvm.Cond.initialized "ParametersWithIV") ∈ lw_all := lw_g (lw_at lw_m1 4 rfl) rfl
theorem q343 : (Jvm.Cond.instantiable "ParametersWithIV" (2 : Nat)) ∈ lw_all := lw_g (lw_at lw_m2 94 rfl) rfl
theorem q362 : (Jvm.Cond.instanceMethod ({ cls := "ParametersWithIV", name := "<init>", desc := "(LCipherParameters;[B)V" } : Jvm.MethodName)) ∈ lw_all := lw_g (lw_at lw_m2 113 rfl) rfl
theorem q363 : (Jvm.Cond.code ({ cls := "ParametersWithIV", name := "<init>", desc := "(LCipherParameters;[B)V" } : Jvm.MethodName) prog_6_method_1_code (3 : Nat) (Option.none : Option Jvm.ClassFile.FieldType)) ∈ lw_all := lw_g (lw_at lw_m2 114 rfl) rfl
theorem q364 : (Jvm.Cond.methodLink "ParametersWithIV" (1 : Nat) ({ cls := "ParametersWithIV", name := "<init>", desc := "(LCipherParameters;[BII)V" } : Jvm.MethodName)) ∈ lw_all := lw_g (lw_at lw_m2 115 rfl) rfl
theorem q365 : (Jvm.Cond.instanceMethod ({ cls := "ParametersWithIV", name := "<init>", desc := "(LCipherParameters;[BII)V" } : Jvm.MethodName)) ∈ lw_all := lw_g (lw_at lw_m2 116 rfl) rfl
theorem q366 : (Jvm.Cond.code ({ cls := "ParametersWithIV", name := "<init>", desc := "(LCipherParameters;[BII)V" } : Jvm.MethodName) prog_6_method_2_code (5 : Nat) (Option.none : Option Jvm.ClassFile.FieldType)) ∈ lw_all := lw_g (lw_at lw_m2 117 rfl) rfl
theorem q367 : (Jvm.Cond.methodLink "ParametersWithIV" (7 : Nat) ({ cls := "java/lang/Object", name := "<init>", desc := "()V" } : Jvm.MethodName)) ∈ lw_all := lw_g (lw_at lw_m2 118 rfl) rfl
theorem q368 : (Jvm.Cond.methodLink "ParametersWithIV" (20 : Nat) ({ cls := "java/lang/System", name := "arraycopy", desc := "(Ljava/lang/Object;ILjava/lang/Object;II)V" } : Jvm.MethodName)) ∈ lw_all := lw_g (lw_at lw_m2 119 rfl) rfl
theorem q369 : (Jvm.Cond.fieldLink "ParametersWithIV" (12 : Nat) "ParametersWithIV" "iv" "[B") ∈ lw_all := lw_g (lw_at lw_m2 120 rfl) rfl
theorem q370 : (Jvm.Cond.fieldLink "ParametersWithIV" (16 : Nat) "ParametersWithIV" "parameters" "LCipherParameters;") ∈ lw_all := lw_g (lw_at lw_m2 121 rfl) rfl
theorem q371 : (Jvm.Cond.lays "ParametersWithIV" "ParametersWithIV" "iv" "[B") ∈ lw_all := lw_g (lw_at lw_m2 122 rfl) rfl
theorem q372 : (Jvm.Cond.soleField "ParametersWithIV" "iv") ∈ lw_all := lw_g (lw_at lw_m2 123 rfl) rfl
theorem q373 : (Jvm.Cond.lays "ParametersWithIV" "ParametersWithIV" "parameters" "LCipherParameters;") ∈ lw_all := lw_g (lw_at lw_m2 124 rfl) rfl
theorem q374 : (Jvm.Cond.soleField "ParametersWithIV" "parameters") ∈ lw_all := lw_g (lw_at lw_m2 125 rfl) rfl
theorem q375 : (Jvm.Cond.superclass "ParametersWithIV" "java/lang/Object") ∈ lw_all := lw_g (lw_at lw_m2 126 rfl) rfl
theorem q384 : (Jvm.Cond.instanceMethod ({ cls := "ParametersWithIV", name := "getIV", desc := "()[B" } : Jvm.MethodName)) ∈ lw_all := lw_g (lw_at lw_m2 135 rfl) rfl
theorem q385 : (Jvm.Cond.selects "ParametersWithIV" ({ cls := "ParametersWithIV", name := "getIV", desc := "()[B" } : Jvm.MethodName) ({ cls := "ParametersWithIV", name := "getIV", desc := "()[B" } : Jvm.MethodName)) ∈ lw_all := lw_g (lw_at lw_m2 136 rfl) rfl
theorem q386 : (Jvm.Cond.code ({ cls := "ParametersWithIV", name := "getIV", desc := "()[B" } : Jvm.MethodName) prog_6_method_3_code (1 : Nat) (Option.some (Jvm.ClassFile.FieldType.array Jvm.ClassFile.FieldType.byte))) ∈ lw_all := lw_g (lw_at lw_m2 137 rfl) rfl
theorem q388 : (Jvm.Cond.instanceMethod ({ cls := "ParametersWithIV", name := "getParameters", desc := "()LCipherParameters;" } : Jvm.MethodName)) ∈ lw_all := lw_g (lw_at lw_m2 139 rfl) rfl
theorem q389 : (Jvm.Cond.selects "ParametersWithIV" ({ cls := "ParametersWithIV", name := "getParameters", desc := "()LCipherParameters;" } : Jvm.MethodName) ({ cls := "ParametersWithIV", name := "getParameters", desc := "()LCipherParameters;" } : Jvm.MethodName)) ∈ lw_all := lw_g (lw_at lw_m2 140 rfl) rfl
theorem q390 : (Jvm.Cond.code ({ cls := "ParametersWithIV", name := "getParameters", desc := "()LCipherParameters;" } : Jvm.MethodName) prog_6_method_4_code (1 : Nat) (Option.some (Jvm.ClassFile.FieldType.object "CipherParameters"))) ∈ lw_all := lw_g (lw_at lw_m2 141 rfl) rfl
theorem in_X4 : ∀ w ∈ wsX40, w ∈ lw_all := lw_in wsX40 [371, 373] (by decide +kernel) (by decide +kernel)
/-! Zuc128Engine -/
set_option maxRecDepth 100000
def RX3 : String := "Zuc128Engine"
def TX3 : u_T := fun k => match k with
  | 0 => ("Zuc128CoreEngine", "LFSR", "[I", true)
  | 1 => ("Zuc128CoreEngine", "F", "[I", true)
  | 2 => ("Zuc128CoreEngine", "BRC", "[I", true)
  | 3 => ("Zuc128CoreEngine", "theIndex", "I", false)
  | 4 => ("Zuc128CoreEngine", "keyStream", "[B", true)
  | 5 => ("Zuc128CoreEngine", "theIterations", "I", false)
  | _ => ("Zuc128CoreEngine", "theResetState", "LZuc128CoreEngine;", false)
def tyX3 : Nat → FieldType := fun k => match k with
  | 0 => .array .int
  | 1 => .array .int
  | 2 => .array .int
  | 3 => .int
  | 4 => .array .byte
  | 5 => .int
  | _ => .object "Zuc128CoreEngine"
abbrev wsX30 : List Cond := u_ws RX3 TX3 7
theorem nmX3 : ∀ a, a < 7 → ∀ b, b < 7 → a ≠ b → (TX3 a).2.1 ≠ (TX3 b).2.1 := by decide +kernel
theorem tyX3_ok : ∀ k, k < 7 → parseFieldDescriptor (TX3 k).2.2.1 = some (tyX3 k) := by decide +kernel
abbrev cX3_init : ByteArray := prog_9_method_1_code
def yX3_init : MethodName := ⟨RX3, "<init>", "()V"⟩
theorem dX3_init_0 : decode cX3_init 0 = .ok (.aload_n 0, 1) := by decide +kernel
theorem dX3_init_1 : decode cX3_init 1 = .ok (.invokespecial 1, 3) := by decide +kernel
theorem dX3_init_4 : decode cX3_init 4 = .ok (.return_, 1) := by decide +kernel
abbrev cX3_copy : ByteArray := prog_9_method_3_code
def yX3_copy : MethodName := ⟨RX3, "copy", "()LMemoable;"⟩
def dkwX3_copy_0 : List UInt8 := [187, 0, 10, 89, 42, 183, 0, 12, 176]
abbrev dktX3_copy_0 : List UInt8 := dkwX3_copy_0 ++ []
theorem dksX3_copy_0 : cX3_copy.data.toList.drop 0 = dktX3_copy_0 := by decide +kernel
theorem dX3_copy_0 : decode cX3_copy 0 = .ok (.new 10, 3) := dk_187 0 10 (dk_at dksX3_copy_0 0 rfl rfl)
theorem dX3_copy_3 : decode cX3_copy 3 = .ok (.dup, 1) := dk_89 (dk_at dksX3_copy_0 3 rfl rfl)
theorem dX3_copy_4 : decode cX3_copy 4 = .ok (.aload_n 0, 1) := dk_42 (dk_at dksX3_copy_0 4 rfl rfl)
theorem dX3_copy_5 : decode cX3_copy 5 = .ok (.invokespecial 12, 3) := dk_183 0 12 (dk_at dksX3_copy_0 5 rfl rfl)
theorem dX3_copy_8 : decode cX3_copy 8 = .ok (.areturn, 1) := dk_176 (dk_at dksX3_copy_0 8 rfl rfl)
abbrev cX3_init_2 : ByteArray := prog_9_method_2_code
def yX3_init_2 : MethodName := ⟨RX3, "<init>", "(LZuc128Engine;)V"⟩
def dkwX3_init_2_0 : List UInt8 := [42, 43, 183, 0, 7, 177]
abbrev dktX3_init_2_0 : List UInt8 := dkwX3_init_2_0 ++ []
theorem dksX3_init_2_0 : cX3_init_2.data.toList.drop 0 = dktX3_init_2_0 := by decide +kernel
theorem dX3_init_2_0 : decode cX3_init_2 0 = .ok (.aload_n 0, 1) := dk_42 (dk_at dksX3_init_2_0 0 rfl rfl)
theorem dX3_init_2_1 : decode cX3_init_2 1 = .ok (.aload_n 1, 1) := dk_43 (dk_at dksX3_init_2_0 1 rfl rfl)
theorem dX3_init_2_2 : decode cX3_init_2 2 = .ok (.invokespecial 7, 3) := dk_183 0 7 (dk_at dksX3_init_2_0 2 rfl rfl)
theorem dX3_init_2_5 : decode cX3_init_2 5 = .ok (.return_, 1) := dk_177 (dk_at dksX3_init_2_0 5 rfl rfl)
theorem q12 : (Jvm.Cond.initialized "Zuc128Engine") ∈ lw_all := lw_g (lw_at lw_m1 3 rfl) rfl
theorem q39 : (Jvm.Cond.sameMethod "Zuc128Engine" "Zuc128CoreEngine" "processBytes" "([BII[BI)I") ∈ lw_all := lw_g (lw_at lw_m1 30 rfl) rfl
theorem q41 : (Jvm.Cond.selects "Zuc128Engine" ({ cls := "Zuc128Engine", name := "processBytes", desc := "([BII[BI)I" } : Jvm.MethodName) ({ cls := "Zuc128CoreEngine", name := "processBytes", desc := "([BII[BI)I" } : Jvm.MethodName)) ∈ lw_all := lw_g (lw_at lw_m1 32 rfl) rfl
theorem q156 : (Jvm.Cond.selects "Zuc128Engine" ({ cls := "Zuc128CoreEngine", name := "returnByte", desc := "(B)B" } : Jvm.MethodName) ({ cls := "Zuc128CoreEngine", name := "returnByte", desc := "(B)B" } : Jvm.MethodName)) ∈ lw_all := lw_g (lw_at lw_m1 147 rfl) rfl
theorem q167 : (Jvm.Cond.selects "Zuc128Engine" ({ cls := "Zuc128CoreEngine", name := "makeKeyStreamWord", desc := "()I" } : Jvm.MethodName) ({ cls := "Zuc128CoreEngine", name := "makeKeyStreamWord", desc := "()I" } : Jvm.MethodName)) ∈ lw_all := lw_g (lw_at lw_m1 158 rfl) rfl
theorem q173 : (Jvm.Cond.selects "Zuc128Engine" ({ cls := "Zuc128CoreEngine", name := "getMaxIterations", desc := "()I" } : Jvm.MethodName) ({ cls := "Zuc128CoreEngine", name := "getMaxIterations", desc := "()I" } : Jvm.MethodName)) ∈ lw_all := lw_g (lw_at lw_m1 164 rfl) rfl
theorem q186 : (Jvm.Cond.selects "Zuc128Engine" ({ cls := "Zuc128CoreEngine", name := "F", desc := "()I" } : Jvm.MethodName) ({ cls := "Zuc128CoreEngine", name := "F", desc := "()I" } : Jvm.MethodName)) ∈ lw_all := lw_g (lw_at lw_m1 177 rfl) rfl
theorem q224 : (Jvm.Cond.sameMethod "Zuc128Engine" "Zuc128CoreEngine" "returnByte" "(B)B") ∈ lw_all := lw_g (lw_at lw_m1 215 rfl) rfl
theorem q226 : (Jvm.Cond.selects "Zuc128Engine" ({ cls := "Zuc128Engine", name := "returnByte", desc := "(B)B" } : Jvm.MethodName) ({ cls := "Zuc128CoreEngine", name := "returnByte", desc := "(B)B" } : Jvm.MethodName)) ∈ lw_all := lw_g (lw_at lw_m1 217 rfl) rfl
theorem q232 : (Jvm.Cond.sameMethod "Zuc128Engine" "Zuc128CoreEngine" "reset" "()V") ∈ lw_all := lw_g (lw_at lw_m1 223 rfl) rfl
theorem q234 : (Jvm.Cond.selects "Zuc128Engine" ({ cls := "Zuc128Engine", name := "reset", desc := "()V" } : Jvm.MethodName) ({ cls := "Zuc128CoreEngine", name := "reset", desc := "()V" } : Jvm.MethodName)) ∈ lw_all := lw_g (lw_at lw_m1 225 rfl) rfl
theorem q241 : (Jvm.Cond.selects "Zuc128Engine" ({ cls := "Zuc128CoreEngine", name := "reset", desc := "(LMemoable;)V" } : Jvm.MethodName) ({ cls := "Zuc128CoreEngine", name := "reset", desc := "(LMemoable;)V" } : Jvm.MethodName)) ∈ lw_all := lw_g (lw_at lw_m1 232 rfl) rfl
theorem q263 : (Jvm.Cond.instantiable "Zuc128Engine" (7 : Nat)) ∈ lw_all := lw_g (lw_at lw_m2 14 rfl) rfl
theorem q265 : (Jvm.Cond.instanceMethod ({ cls := "Zuc128Engine", name := "<init>", desc := "()V" } : Jvm.MethodName)) ∈ lw_all := lw_g (lw_at lw_m2 16 rfl) rfl
theorem q266 : (Jvm.Cond.code ({ cls := "Zuc128Engine", name := "<init>", desc := "()V" } : Jvm.MethodName) prog_9_method_1_code (1 : Nat) (Option.none : Option Jvm.ClassFile.FieldType)) ∈ lw_all := lw_g (lw_at lw_m2 17 rfl) rfl
theorem q267 : (Jvm.Cond.methodLink "Zuc128Engine" (1 : Nat) ({ cls := "Zuc128CoreEngine", name := "<init>", desc := "()V" } : Jvm.MethodName)) ∈ lw_all := lw_g (lw_at lw_m2 18 rfl) rfl
theorem q278 : (Jvm.Cond.laysFinal "Zuc128Engine" "Zuc128CoreEngine" "LFSR" "[I") ∈ lw_all := lw_g (lw_at lw_m2 29 rfl) rfl
theorem q280 : (Jvm.Cond.laysFinal "Zuc128Engine" "Zuc128CoreEngine" "F" "[I") ∈ lw_all := lw_g (lw_at lw_m2 31 rfl) rfl
theorem q282 : (Jvm.Cond.laysFinal "Zuc128Engine" "Zuc128CoreEngine" "BRC" "[I") ∈ lw_all := lw_g (lw_at lw_m2 33 rfl) rfl
theorem q284 : (Jvm.Cond.lays "Zuc128Engine" "Zuc128CoreEngine" "theIndex" "I") ∈ lw_all := lw_g (lw_at lw_m2 35 rfl) rfl
theorem q286 : (Jvm.Cond.laysFinal "Zuc128Engine" "Zuc128CoreEngine" "keyStream" "[B") ∈ lw_all := lw_g (lw_at lw_m2 37 rfl) rfl
theorem q288 : (Jvm.Cond.lays "Zuc128Engine" "Zuc128CoreEngine" "theIterations" "I") ∈ lw_all := lw_g (lw_at lw_m2 39 rfl) rfl
theorem q290 : (Jvm.Cond.lays "Zuc128Engine" "Zuc128CoreEngine" "theResetState" "LZuc128CoreEngine;") ∈ lw_all := lw_g (lw_at lw_m2 41 rfl) rfl
theorem q292 : (Jvm.Cond.superclass "Zuc128Engine" "Zuc128CoreEngine") ∈ lw_all := lw_g (lw_at lw_m2 43 rfl) rfl
theorem q377 : (Jvm.Cond.sameMethod "Zuc128Engine" "Zuc128CoreEngine" "init" "(ZLCipherParameters;)V") ∈ lw_all := lw_g (lw_at lw_m2 128 rfl) rfl
theorem q379 : (Jvm.Cond.selects "Zuc128Engine" ({ cls := "Zuc128Engine", name := "init", desc := "(ZLCipherParameters;)V" } : Jvm.MethodName) ({ cls := "Zuc128CoreEngine", name := "init", desc := "(ZLCipherParameters;)V" } : Jvm.MethodName)) ∈ lw_all := lw_g (lw_at lw_m2 130 rfl) rfl
theorem q404 : (Jvm.Cond.selects "Zuc128Engine" ({ cls := "Zuc128CoreEngine", name := "setKeyAndIV", desc := "([I[B[B)V" } : Jvm.MethodName) ({ cls := "Zuc128CoreEngine", name := "setKeyAndIV", desc := "([I[B[B)V" } : Jvm.MethodName)) ∈ lw_all := lw_g (lw_at lw_m2 155 rfl) rfl
theorem q436 : (Jvm.Cond.selects "Zuc128Engine" ({ cls := "Zuc128CoreEngine", name := "copy", desc := "()LMemoable;" } : Jvm.MethodName) ({ cls := "Zuc128Engine", name := "copy", desc := "()LMemoable;" } : Jvm.MethodName)) ∈ lw_all := lw_g (lw_at lw_m2 187 rfl) rfl
theorem q437 : (Jvm.Cond.instanceMethod ({ cls := "Zuc128Engine", name := "copy", desc := "()LMemoable;" } : Jvm.MethodName)) ∈ lw_all := lw_g (lw_at lw_m2 188 rfl) rfl
theorem q438 : (Jvm.Cond.code ({ cls := "Zuc128Engine", name := "copy", desc := "()LMemoable;" } : Jvm.MethodName) prog_9_method_3_code (1 : Nat) (Option.some (Jvm.ClassFile.FieldType.object "Memoable"))) ∈ lw_all := lw_g (lw_at lw_m2 189 rfl) rfl
theorem q439 : (Jvm.Cond.classLink "Zuc128Engine" (10 : Nat) "Zuc128Engine") ∈ lw_all := lw_g (lw_at lw_m2 190 rfl) rfl
theorem q440 : (Jvm.Cond.methodLink "Zuc128Engine" (12 : Nat) ({ cls := "Zuc128Engine", name := "<init>", desc := "(LZuc128Engine;)V" } : Jvm.MethodName)) ∈ lw_all := lw_g (lw_at lw_m2 191 rfl) rfl
theorem q441 : (Jvm.Cond.instanceMethod ({ cls := "Zuc128Engine", name := "<init>", desc := "(LZuc128Engine;)V" } : Jvm.MethodName)) ∈ lw_all := lw_g (lw_at lw_m2 192 rfl) rfl
theorem q442 : (Jvm.Cond.code ({ cls := "Zuc128Engine", name := "<init>", desc := "(LZuc128Engine;)V" } : Jvm.MethodName) prog_9_method_2_code (2 : Nat) (Option.none : Option Jvm.ClassFile.FieldType)) ∈ lw_all := lw_g (lw_at lw_m2 193 rfl) rfl
theorem q443 : (Jvm.Cond.methodLink "Zuc128Engine" (7 : Nat) ({ cls := "Zuc128CoreEngine", name := "<init>", desc := "(LZuc128CoreEngine;)V" } : Jvm.MethodName)) ∈ lw_all := lw_g (lw_at lw_m2 194 rfl) rfl
theorem q467 : (Jvm.Cond.castable "Zuc128Engine" "Zuc128CoreEngine") ∈ lw_tbl := lw_at lw_m2 218 rfl
theorem in_X3 : ∀ w ∈ wsX30, w ∈ lw_all := lw_in wsX30 [278, 280, 282, 284, 286, 288, 290] (by decide +kernel) (by decide +kernel)
/-! ZucDeskLaw -/
set_option maxRecDepth 100000
def RX0 : String := "ZucDeskLaw"
abbrev cX0_cell : ByteArray := method_2_code
def yX0_cell : MethodName := ⟨RX0, "cell", "([II)I"⟩
def dkwX0_cell_0 : List UInt8 := [27, 42, 190, 162, 0, 9, 42, 27, 46, 167, 0, 4, 3, 172]
abbrev dktX0_cell_0 : List UInt8 := dkwX0_cell_0 ++ []
theorem dksX0_cell_0 : cX0_cell.data.toList.drop 0 = dktX0_cell_0 := by decide +kernel
theorem dX0_cell_0 : decode cX0_cell 0 = .ok (.iload_n 1, 1) := dk_27 (dk_at dksX0_cell_0 0 rfl rfl)
theorem dX0_cell_1 : decode cX0_cell 1 = .ok (.aload_n 0, 1) := dk_42 (dk_at dksX0_cell_0 1 rfl rfl)
theorem dX0_cell_2 : decode cX0_cell 2 = .ok (.arraylength, 1) := dk_190 (dk_at dksX0_cell_0 2 rfl rfl)
theorem dX0_cell_3 : decode cX0_cell 3 = .ok (.if_icmp .ge 9, 3) := dk_162 0 9 (dk_at dksX0_cell_0 3 rfl rfl)
theorem dX0_cell_6 : decode cX0_cell 6 = .ok (.aload_n 0, 1) := dk_42 (dk_at dksX0_cell_0 6 rfl rfl)
theorem dX0_cell_7 : decode cX0_cell 7 = .ok (.iload_n 1, 1) := dk_27 (dk_at dksX0_cell_0 7 rfl rfl)
theorem dX0_cell_8 : decode cX0_cell 8 = .ok (.iaload, 1) := dk_46 (dk_at dksX0_cell_0 8 rfl rfl)
theorem dX0_cell_9 : decode cX0_cell 9 = .ok (.goto 4, 3) := dk_167 0 4 (dk_at dksX0_cell_0 9 rfl rfl)
theorem dX0_cell_12 : decode cX0_cell 12 = .ok (.iconst 0, 1) := dk_3 (dk_at dksX0_cell_0 12 rfl rfl)
theorem dX0_cell_13 : decode cX0_cell 13 = .ok (.ireturn, 1) := dk_172 (dk_at dksX0_cell_0 13 rfl rfl)
abbrev cX0_made : ByteArray := method_3_code
def yX0_made : MethodName := ⟨RX0, "made", "([I)LZucDesk;"⟩
def dkwX0_made_6 : List UInt8 := [43, 42, 16, 12, 184, 0, 10, 182, 0, 32, 43, 176]
abbrev dktX0_made_6 : List UInt8 := dkwX0_made_6 ++ []
def dkwX0_made_5 : List UInt8 := [184, 0, 10, 42, 16, 9, 184, 0, 10, 42, 16, 10, 184, 0, 10, 42, 16, 11, 184, 0, 10, 182, 0, 28]
abbrev dktX0_made_5 : List UInt8 := dkwX0_made_5 ++ dktX0_made_6
def dkwX0_made_4 : List UInt8 := [42, 8, 184, 0, 10, 42, 16, 6, 184, 0, 10, 42, 16, 7, 184, 0, 10, 182, 0, 24, 43, 42, 16, 8]
abbrev dktX0_made_4 : List UInt8 := dkwX0_made_4 ++ dktX0_made_5
def dkwX0_made_3 : List UInt8 := [4, 184, 0, 10, 42, 5, 184, 0, 10, 42, 6, 184, 0, 10, 182, 0, 24, 43, 4, 42, 7, 184, 0, 10]
abbrev dktX0_made_3 : List UInt8 := dkwX0_made_3 ++ dktX0_made_4
def dkwX0_made_2 : List UInt8 := [132, 2, 4, 167, 255, 216, 43, 42, 16, 13, 184, 0, 10, 182, 0, 20, 43, 3, 42, 3, 184, 0, 10, 42]
abbrev dktX0_made_2 : List UInt8 := dkwX0_made_2 ++ dktX0_made_3
def dkwX0_made_1 : List UInt8 := [28, 4, 96, 184, 0, 10, 42, 28, 5, 96, 184, 0, 10, 42, 28, 6, 96, 184, 0, 10, 182, 0, 16, 87]
abbrev dktX0_made_1 : List UInt8 := dkwX0_made_1 ++ dktX0_made_2
def dkwX0_made_0 : List UInt8 := [187, 0, 7, 89, 183, 0, 9, 76, 16, 20, 61, 28, 16, 52, 162, 0, 40, 43, 42, 28, 184, 0, 10, 42]
abbrev dktX0_made_0 : List UInt8 := dkwX0_made_0 ++ dktX0_made_1
theorem dksX0_made_0 : cX0_made.data.toList.drop 0 = dktX0_made_0 := by decide +kernel
theorem dksX0_made_1 : cX0_made.data.toList.drop 24 = dktX0_made_1 := dk_seg dksX0_made_0 24 rfl rfl
theorem dksX0_made_2 : cX0_made.data.toList.drop 48 = dktX0_made_2 := dk_seg dksX0_made_1 24 rfl rfl
theorem dksX0_made_3 : cX0_made.data.toList.drop 72 = dktX0_made_3 := dk_seg dksX0_made_2 24 rfl rfl
theorem dksX0_made_4 : cX0_made.data.toList.drop 96 = dktX0_made_4 := dk_seg dksX0_made_3 24 rfl rfl
theorem dksX0_made_5 : cX0_made.data.toList.drop 120 = dktX0_made_5 := dk_seg dksX0_made_4 24 rfl rfl
theorem dksX0_made_6 : cX0_made.data.toList.drop 144 = dktX0_made_6 := dk_seg dksX0_made_5 24 rfl rfl
theorem dX0_made_0 : decode cX0_made 0 = .ok (.new 7, 3) := dk_187 0 7 (dk_at dksX0_made_0 0 rfl rfl)
theorem dX0_made_3 : decode cX0_made 3 = .ok (.dup, 1) := dk_89 (dk_at dksX0_made_0 3 rfl rfl)
theorem dX0_made_4 : decode cX0_made 4 = .ok (.invokespecial 9, 3) := dk_183 0 9 (dk_at dksX0_made_0 4 rfl rfl)
theorem dX0_made_7 : decode cX0_made 7 = .ok (.astore_n 1, 1) := dk_76 (dk_at dksX0_made_0 7 rfl rfl)
theorem dX0_made_8 : decode cX0_made 8 = .ok (.bipush 20, 2) := dk_16 20 (dk_at dksX0_made_0 8 rfl rfl)
theorem dX0_made_10 : decode cX0_made 10 = .ok (.istore_n 2, 1) := dk_61 (dk_at dksX0_made_0 10 rfl rfl)
theorem dX0_made_11 : decode cX0_made 11 = .ok (.iload_n 2, 1) := dk_28 (dk_at dksX0_made_0 11 rfl rfl)
theorem dX0_made_12 : decode cX0_made 12 = .ok (.bipush 52, 2) := dk_16 52 (dk_at dksX0_made_0 12 rfl rfl)
theorem dX0_made_14 : decode cX0_made 14 = .ok (.if_icmp .ge 40, 3) := dk_162 0 40 (dk_at dksX0_made_0 14 rfl rfl)
theorem dX0_made_17 : decode cX0_made 17 = .ok (.aload_n 1, 1) := dk_43 (dk_at dksX0_made_0 17 rfl rfl)
theorem dX0_made_18 : decode cX0_made 18 = .ok (.aload_n 0, 1) := dk_42 (dk_at dksX0_made_0 18 rfl rfl)
theorem dX0_made_19 : decode cX0_made 19 = .ok (.iload_n 2, 1) := dk_28 (dk_at dksX0_made_0 19 rfl rfl)
theorem dX0_made_20 : decode cX0_made 20 = .ok (.invokestatic 10, 3) := dk_184 0 10 (dk_at dksX0_made_0 20 rfl rfl)
theorem dX0_made_23 : decode cX0_made 23 = .ok (.aload_n 0, 1) := dk_42 (dk_at dksX0_made_0 23 rfl rfl)
theorem dX0_made_24 : decode cX0_made 24 = .ok (.iload_n 2, 1) := dk_28 (dk_at dksX0_made_1 0 rfl rfl)
theorem dX0_made_25 : decode cX0_made 25 = .ok (.iconst 1, 1) := dk_4 (dk_at dksX0_made_1 1 rfl rfl)
theorem dX0_made_26 : decode cX0_made 26 = .ok (.iadd, 1) := dk_96 (dk_at dksX0_made_1 2 rfl rfl)
theorem dX0_made_27 : decode cX0_made 27 = .ok (.invokestatic 10, 3) := dk_184 0 10 (dk_at dksX0_made_1 3 rfl rfl)
theorem dX0_made_30 : decode cX0_made 30 = .ok (.aload_n 0, 1) := dk_42 (dk_at dksX0_made_1 6 rfl rfl)
theorem dX0_made_31 : decode cX0_made 31 = .ok (.iload_n 2, 1) := dk_28 (dk_at dksX0_made_1 7 rfl rfl)
theorem dX0_made_32 : decode cX0_made 32 = .ok (.iconst 2, 1) := dk_5 (dk_at dksX0_made_1 8 rfl rfl)
theorem dX0_made_33 : decode cX0_made 33 = .ok (.iadd, 1) := dk_96 (dk_at dksX0_made_1 9 rfl rfl)
theorem dX0_made_34 : decode cX0_made 34 = .ok (.invokestatic 10, 3) := dk_184 0 10 (dk_at dksX0_made_1 10 rfl rfl)
theorem dX0_made_37 : decode cX0_made 37 = .ok (.aload_n 0, 1) := dk_42 (dk_at dksX0_made_1 13 rfl rfl)
theorem dX0_made_38 : decode cX0_made 38 = .ok (.iload_n 2, 1) := dk_28 (dk_at dksX0_made_1 14 rfl rfl)
theorem dX0_made_39 : decode cX0_made 39 = .ok (.iconst 3, 1) := dk_6 (dk_at dksX0_made_1 15 rfl rfl)
theorem dX0_made_40 : decode cX0_made 40 = .ok (.iadd, 1) := dk_96 (dk_at dksX0_made_1 16 rfl rfl)
theorem dX0_made_41 : decode cX0_made 41 = .ok (.invokestatic 10, 3) := dk_184 0 10 (dk_at dksX0_made_1 17 rfl rfl)
theorem dX0_made_44 : decode cX0_made 44 = .ok (.invokevirtual 16, 3) := dk_182 0 16 (dk_at dksX0_made_1 20 rfl rfl)
theorem dX0_made_47 : decode cX0_made 47 = .ok (.pop, 1) := dk_87 (dk_at dksX0_made_1 23 rfl rfl)
theorem dX0_made_48 : decode cX0_made 48 = .ok (.iinc 2 4, 3) := dk_132 2 4 (dk_at dksX0_made_2 0 rfl rfl)
theorem dX0_made_51 : decode cX0_made 51 = .ok (.goto (-40), 3) := dk_167 255 216 (dk_at dksX0_made_2 3 rfl rfl)
theorem dX0_made_54 : decode cX0_made 54 = .ok (.aload_n 1, 1) := dk_43 (dk_at dksX0_made_2 6 rfl rfl)
theorem dX0_made_55 : decode cX0_made 55 = .ok (.aload_n 0, 1) := dk_42 (dk_at dksX0_made_2 7 rfl rfl)
theorem dX0_made_56 : decode cX0_made 56 = .ok (.bipush 13, 2) := dk_16 13 (dk_at dksX0_made_2 8 rfl rfl)
theorem dX0_made_58 : decode cX0_made 58 = .ok (.invokestatic 10, 3) := dk_184 0 10 (dk_at dksX0_made_2 10 rfl rfl)
theorem dX0_made_61 : decode cX0_made 61 = .ok (.invokevirtual 20, 3) := dk_182 0 20 (dk_at dksX0_made_2 13 rfl rfl)
theorem dX0_made_64 : decode cX0_made 64 = .ok (.aload_n 1, 1) := dk_43 (dk_at dksX0_made_2 16 rfl rfl)
theorem dX0_made_65 : decode cX0_made 65 = .ok (.iconst 0, 1) := dk_3 (dk_at dksX0_made_2 17 rfl rfl)
theorem dX0_made_66 : decode cX0_made 66 = .ok (.aload_n 0, 1) := dk_42 (dk_at dksX0_made_2 18 rfl rfl)
theorem dX0_made_67 : decode cX0_made 67 = .ok (.iconst 0, 1) := dk_3 (dk_at dksX0_made_2 19 rfl rfl)
theorem dX0_made_68 : decode cX0_made 68 = .ok (.invokestatic 10, 3) := dk_184 0 10 (dk_at dksX0_made_2 20 rfl rfl)
theorem dX0_made_71 : decode cX0_made 71 = .ok (.aload_n 0, 1) := dk_42 (dk_at dksX0_made_2 23 rfl rfl)
theorem dX0_made_72 : decode cX0_made 72 = .ok (.iconst 1, 1) := dk_4 (dk_at dksX0_made_3 0 rfl rfl)
theorem dX0_made_73 : decode cX0_made 73 = .ok (.invokestatic 10, 3) := dk_184 0 10 (dk_at dksX0_made_3 1 rfl rfl)
theorem dX0_made_76 : decode cX0_made 76 = .ok (.aload_n 0, 1) := dk_42 (dk_at dksX0_made_3 4 rfl rfl)
theorem dX0_made_77 : decode cX0_made 77 = .ok (.iconst 2, 1) := dk_5 (dk_at dksX0_made_3 5 rfl rfl)
theorem dX0_made_78 : decode cX0_made 78 = .ok (.invokestatic 10, 3) := dk_184 0 10 (dk_at dksX0_made_3 6 rfl rfl)
theorem dX0_made_81 : decode cX0_made 81 = .ok (.aload_n 0, 1) := dk_42 (dk_at dksX0_made_3 9 rfl rfl)
theorem dX0_made_82 : decode cX0_made 82 = .ok (.iconst 3, 1) := dk_6 (dk_at dksX0_made_3 10 rfl rfl)
theorem dX0_made_83 : decode cX0_made 83 = .ok (.invokestatic 10, 3) := dk_184 0 10 (dk_at dksX0_made_3 11 rfl rfl)
theorem dX0_made_86 : decode cX0_made 86 = .ok (.invokevirtual 24, 3) := dk_182 0 24 (dk_at dksX0_made_3 14 rfl rfl)
theorem dX0_made_89 : decode cX0_made 89 = .ok (.aload_n 1, 1) := dk_43 (dk_at dksX0_made_3 17 rfl rfl)
theorem dX0_made_90 : decode cX0_made 90 = .ok (.iconst 1, 1) := dk_4 (dk_at dksX0_made_3 18 rfl rfl)
theorem dX0_made_91 : decode cX0_made 91 = .ok (.aload_n 0, 1) := dk_42 (dk_at dksX0_made_3 19 rfl rfl)
theorem dX0_made_92 : decode cX0_made 92 = .ok (.iconst 4, 1) := dk_7 (dk_at dksX0_made_3 20 rfl rfl)
theorem dX0_made_93 : decode cX0_made 93 = .ok (.invokestatic 10, 3) := dk_184 0 10 (dk_at dksX0_made_3 21 rfl rfl)
theorem dX0_made_96 : decode cX0_made 96 = .ok (.aload_n 0, 1) := dk_42 (dk_at dksX0_made_4 0 rfl rfl)
theorem dX0_made_97 : decode cX0_made 97 = .ok (.iconst 5, 1) := dk_8 (dk_at dksX0_made_4 1 rfl rfl)
theorem dX0_made_98 : decode cX0_made 98 = .ok (.invokestatic 10, 3) := dk_184 0 10 (dk_at dksX0_made_4 2 rfl rfl)
theorem dX0_made_101 : decode cX0_made 101 = .ok (.aload_n 0, 1) := dk_42 (dk_at dksX0_made_4 5 rfl rfl)
theorem dX0_made_102 : decode cX0_made 102 = .ok (.bipush 6, 2) := dk_16 6 (dk_at dksX0_made_4 6 rfl rfl)
theorem dX0_made_104 : decode cX0_made 104 = .ok (.invokestatic 10, 3) := dk_184 0 10 (dk_at dksX0_made_4 8 rfl rfl)
theorem dX0_made_107 : decode cX0_made 107 = .ok (.aload_n 0, 1) := dk_42 (dk_at dksX0_made_4 11 rfl rfl)
theorem dX0_made_108 : decode cX0_made 108 = .ok (.bipush 7, 2) := dk_16 7 (dk_at dksX0_made_4 12 rfl rfl)
theorem dX0_made_110 : decode cX0_made 110 = .ok (.invokestatic 10, 3) := dk_184 0 10 (dk_at dksX0_made_4 14 rfl rfl)
theorem dX0_made_113 : decode cX0_made 113 = .ok (.invokevirtual 24, 3) := dk_182 0 24 (dk_at dksX0_made_4 17 rfl rfl)
theorem dX0_made_116 : decode cX0_made 116 = .ok (.aload_n 1, 1) := dk_43 (dk_at dksX0_made_4 20 rfl rfl)
theorem dX0_made_117 : decode cX0_made 117 = .ok (.aload_n 0, 1) := dk_42 (dk_at dksX0_made_4 21 rfl rfl)
theorem dX0_made_118 : decode cX0_made 118 = .ok (.bipush 8, 2) := dk_16 8 (dk_at dksX0_made_4 22 rfl rfl)
theorem dX0_made_120 : decode cX0_made 120 = .ok (.invokestatic 10, 3) := dk_184 0 10 (dk_at dksX0_made_5 0 rfl rfl)
theorem dX0_made_123 : decode cX0_made 123 = .ok (.aload_n 0, 1) := dk_42 (dk_at dksX0_made_5 3 rfl rfl)
theorem dX0_made_124 : decode cX0_made 124 = .ok (.bipush 9, 2) := dk_16 9 (dk_at dksX0_made_5 4 rfl rfl)
theorem dX0_made_126 : decode cX0_made 126 = .ok (.invokestatic 10, 3) := dk_184 0 10 (dk_at dksX0_made_5 6 rfl rfl)
theorem dX0_made_129 : decode cX0_made 129 = .ok (.aload_n 0, 1) := dk_42 (dk_at dksX0_made_5 9 rfl rfl)
theorem dX0_made_130 : decode cX0_made 130 = .ok (.bipush 10, 2) := dk_16 10 (dk_at dksX0_made_5 10 rfl rfl)
theorem dX0_made_132 : decode cX0_made 132 = .ok (.invokestatic 10, 3) := dk_184 0 10 (dk_at dksX0_made_5 12 rfl rfl)
theorem dX0_made_135 : decode cX0_made 135 = .ok (.aload_n 0, 1) := dk_42 (dk_at dksX0_made_5 15 rfl rfl)
theorem dX0_made_136 : decode cX0_made 136 = .ok (.bipush 11, 2) := dk_16 11 (dk_at dksX0_made_5 16 rfl rfl)
theorem dX0_made_138 : decode cX0_made 138 = .ok (.invokestatic 10, 3) := dk_184 0 10 (dk_at dksX0_made_5 18 rfl rfl)
theorem dX0_made_141 : decode cX0_made 141 = .ok (.invokevirtual 28, 3) := dk_182 0 28 (dk_at dksX0_made_5 21 rfl rfl)
theorem dX0_made_144 : decode cX0_made 144 = .ok (.aload_n 1, 1) := dk_43 (dk_at dksX0_made_6 0 rfl rfl)
theorem dX0_made_145 : decode cX0_made 145 = .ok (.aload_n 0, 1) := dk_42 (dk_at dksX0_made_6 1 rfl rfl)
theorem dX0_made_146 : decode cX0_made 146 = .ok (.bipush 12, 2) := dk_16 12 (dk_at dksX0_made_6 2 rfl rfl)
theorem dX0_made_148 : decode cX0_made 148 = .ok (.invokestatic 10, 3) := dk_184 0 10 (dk_at dksX0_made_6 4 rfl rfl)
theorem dX0_made_151 : decode cX0_made 151 = .ok (.invokevirtual 32, 3) := dk_182 0 32 (dk_at dksX0_made_6 7 rfl rfl)
theorem dX0_made_154 : decode cX0_made 154 = .ok (.aload_n 1, 1) := dk_43 (dk_at dksX0_made_6 10 rfl rfl)
theorem dX0_made_155 : decode cX0_made 155 = .ok (.areturn, 1) := dk_176 (dk_at dksX0_made_6 11 rfl rfl)
abbrev cX0_known : ByteArray := method_4_code
def yX0_known : MethodName := ⟨RX0, "known", "()Z"⟩
def dkwX0_known_4 : List UInt8 := [42, 28, 182, 0, 39, 43, 28, 46, 159, 0, 5, 3, 172, 132, 2, 1, 167, 255, 234, 4, 172]
abbrev dktX0_known_4 : List UInt8 := dkwX0_known_4 ++ []
def dkwX0_known_3 : List UInt8 := [79, 89, 16, 6, 17, 0, 130, 79, 89, 16, 7, 17, 0, 218, 79, 76, 3, 61, 28, 16, 8, 162, 0, 22]
abbrev dktX0_known_3 : List UInt8 := dkwX0_known_3 ++ dktX0_known_4
def dkwX0_known_2 : List UInt8 := [17, 0, 190, 79, 89, 5, 17, 0, 222, 79, 89, 6, 16, 116, 79, 89, 7, 4, 79, 89, 8, 17, 0, 128]
abbrev dktX0_known_2 : List UInt8 := dkwX0_known_2 ++ dktX0_known_3
def dkwX0_known_1 : List UInt8 := [3, 182, 0, 32, 42, 3, 16, 8, 182, 0, 35, 87, 16, 8, 188, 10, 89, 3, 16, 39, 79, 89, 4]
abbrev dktX0_known_1 : List UInt8 := dkwX0_known_1 ++ dktX0_known_2
def dkwX0_known_0 : List UInt8 := [187, 0, 7, 89, 183, 0, 9, 75, 42, 3, 3, 3, 3, 182, 0, 16, 87, 42, 16, 8, 182, 0, 20, 42]
abbrev dktX0_known_0 : List UInt8 := dkwX0_known_0 ++ dktX0_known_1
theorem dksX0_known_0 : cX0_known.data.toList.drop 0 = dktX0_known_0 := by decide +kernel
theorem dksX0_known_1 : cX0_known.data.toList.drop 24 = dktX0_known_1 := dk_seg dksX0_known_0 24 rfl rfl
theorem dksX0_known_2 : cX0_known.data.toList.drop 47 = dktX0_known_2 := dk_seg dksX0_known_1 23 rfl rfl
theorem dksX0_known_3 : cX0_known.data.toList.drop 71 = dktX0_known_3 := dk_seg dksX0_known_2 24 rfl rfl
theorem dksX0_known_4 : cX0_known.data.toList.drop 95 = dktX0_known_4 := dk_seg dksX0_known_3 24 rfl rfl
theorem dX0_known_0 : decode cX0_known 0 = .ok (.new 7, 3) := dk_187 0 7 (dk_at dksX0_known_0 0 rfl rfl)
theorem dX0_known_3 : decode cX0_known 3 = .ok (.dup, 1) := dk_89 (dk_at dksX0_known_0 3 rfl rfl)
theorem dX0_known_4 : decode cX0_known 4 = .ok (.invokespecial 9, 3) := dk_183 0 9 (dk_at dksX0_known_0 4 rfl rfl)
theorem dX0_known_7 : decode cX0_known 7 = .ok (.astore_n 0, 1) := dk_75 (dk_at dksX0_known_0 7 rfl rfl)
theorem dX0_known_8 : decode cX0_known 8 = .ok (.aload_n 0, 1) := dk_42 (dk_at dksX0_known_0 8 rfl rfl)
theorem dX0_known_9 : decode cX0_known 9 = .ok (.iconst 0, 1) := dk_3 (dk_at dksX0_known_0 9 rfl rfl)
theorem dX0_known_10 : decode cX0_known 10 = .ok (.iconst 0, 1) := dk_3 (dk_at dksX0_known_0 10 rfl rfl)
theorem dX0_known_11 : decode cX0_known 11 = .ok (.iconst 0, 1) := dk_3 (dk_at dksX0_known_0 11 rfl rfl)
theorem dX0_known_12 : decode cX0_known 12 = .ok (.iconst 0, 1) := dk_3 (dk_at dksX0_known_0 12 rfl rfl)
theorem dX0_known_13 : decode cX0_known 13 = .ok (.invokevirtual 16, 3) := dk_182 0 16 (dk_at dksX0_known_0 13 rfl rfl)
theorem dX0_known_16 : decode cX0_known 16 = .ok (.pop, 1) := dk_87 (dk_at dksX0_known_0 16 rfl rfl)
theorem dX0_known_17 : decode cX0_known 17 = .ok (.aload_n 0, 1) := dk_42 (dk_at dksX0_known_0 17 rfl rfl)
theorem dX0_known_18 : decode cX0_known 18 = .ok (.bipush 8, 2) := dk_16 8 (dk_at dksX0_known_0 18 rfl rfl)
theorem dX0_known_20 : decode cX0_known 20 = .ok (.invokevirtual 20, 3) := dk_182 0 20 (dk_at dksX0_known_0 20 rfl rfl)
theorem dX0_known_23 : decode cX0_known 23 = .ok (.aload_n 0, 1) := dk_42 (dk_at dksX0_known_0 23 rfl rfl)
theorem dX0_known_24 : decode cX0_known 24 = .ok (.iconst 0, 1) := dk_3 (dk_at dksX0_known_1 0 rfl rfl)
theorem dX0_known_25 : decode cX0_known 25 = .ok (.invokevirtual 32, 3) := dk_182 0 32 (dk_at dksX0_known_1 1 rfl rfl)
theorem dX0_known_28 : decode cX0_known 28 = .ok (.aload_n 0, 1) := dk_42 (dk_at dksX0_known_1 4 rfl rfl)
theorem dX0_known_29 : decode cX0_known 29 = .ok (.iconst 0, 1) := dk_3 (dk_at dksX0_known_1 5 rfl rfl)
theorem dX0_known_30 : decode cX0_known 30 = .ok (.bipush 8, 2) := dk_16 8 (dk_at dksX0_known_1 6 rfl rfl)
theorem dX0_known_32 : decode cX0_known 32 = .ok (.invokevirtual 35, 3) := dk_182 0 35 (dk_at dksX0_known_1 8 rfl rfl)
theorem dX0_known_35 : decode cX0_known 35 = .ok (.pop, 1) := dk_87 (dk_at dksX0_known_1 11 rfl rfl)
theorem dX0_known_36 : decode cX0_known 36 = .ok (.bipush 8, 2) := dk_16 8 (dk_at dksX0_known_1 12 rfl rfl)
theorem dX0_known_38 : decode cX0_known 38 = .ok (.newarray .int, 2) := dk_188_10 (dk_at dksX0_known_1 14 rfl rfl)
theorem dX0_known_40 : decode cX0_known 40 = .ok (.dup, 1) := dk_89 (dk_at dksX0_known_1 16 rfl rfl)
theorem dX0_known_41 : decode cX0_known 41 = .ok (.iconst 0, 1) := dk_3 (dk_at dksX0_known_1 17 rfl rfl)
theorem dX0_known_42 : decode cX0_known 42 = .ok (.bipush 39, 2) := dk_16 39 (dk_at dksX0_known_1 18 rfl rfl)
theorem dX0_known_44 : decode cX0_known 44 = .ok (.iastore, 1) := dk_79 (dk_at dksX0_known_1 20 rfl rfl)
theorem dX0_known_45 : decode cX0_known 45 = .ok (.dup, 1) := dk_89 (dk_at dksX0_known_1 21 rfl rfl)
theorem dX0_known_46 : decode cX0_known 46 = .ok (.iconst 1, 1) := dk_4 (dk_at dksX0_known_1 22 rfl rfl)
theorem dX0_known_47 : decode cX0_known 47 = .ok (.sipush 190, 3) := dk_17 0 190 (dk_at dksX0_known_2 0 rfl rfl)
theorem dX0_known_50 : decode cX0_known 50 = .ok (.iastore, 1) := dk_79 (dk_at dksX0_known_2 3 rfl rfl)
theorem dX0_known_51 : decode cX0_known 51 = .ok (.dup, 1) := dk_89 (dk_at dksX0_known_2 4 rfl rfl)
theorem dX0_known_52 : decode cX0_known 52 = .ok (.iconst 2, 1) := dk_5 (dk_at dksX0_known_2 5 rfl rfl)
theorem dX0_known_53 : decode cX0_known 53 = .ok (.sipush 222, 3) := dk_17 0 222 (dk_at dksX0_known_2 6 rfl rfl)
theorem dX0_known_56 : decode cX0_known 56 = .ok (.iastore, 1) := dk_79 (dk_at dksX0_known_2 9 rfl rfl)
theorem dX0_known_57 : decode cX0_known 57 = .ok (.dup, 1) := dk_89 (dk_at dksX0_known_2 10 rfl rfl)
theorem dX0_known_58 : decode cX0_known 58 = .ok (.iconst 3, 1) := dk_6 (dk_at dksX0_known_2 11 rfl rfl)
theorem dX0_known_59 : decode cX0_known 59 = .ok (.bipush 116, 2) := dk_16 116 (dk_at dksX0_known_2 12 rfl rfl)
theorem dX0_known_61 : decode cX0_known 61 = .ok (.iastore, 1) := dk_79 (dk_at dksX0_known_2 14 rfl rfl)
theorem dX0_known_62 : decode cX0_known 62 = .ok (.dup, 1) := dk_89 (dk_at dksX0_known_2 15 rfl rfl)
theorem dX0_known_63 : decode cX0_known 63 = .ok (.iconst 4, 1) := dk_7 (dk_at dksX0_known_2 16 rfl rfl)
theorem dX0_known_64 : decode cX0_known 64 = .ok (.iconst 1, 1) := dk_4 (dk_at dksX0_known_2 17 rfl rfl)
theorem dX0_known_65 : decode cX0_known 65 = .ok (.iastore, 1) := dk_79 (dk_at dksX0_known_2 18 rfl rfl)
theorem dX0_known_66 : decode cX0_known 66 = .ok (.dup, 1) := dk_89 (dk_at dksX0_known_2 19 rfl rfl)
theorem dX0_known_67 : decode cX0_known 67 = .ok (.iconst 5, 1) := dk_8 (dk_at dksX0_known_2 20 rfl rfl)
theorem dX0_known_68 : decode cX0_known 68 = .ok (.sipush 128, 3) := dk_17 0 128 (dk_at dksX0_known_2 21 rfl rfl)
theorem dX0_known_71 : decode cX0_known 71 = .ok (.iastore, 1) := dk_79 (dk_at dksX0_known_3 0 rfl rfl)
theorem dX0_known_72 : decode cX0_known 72 = .ok (.dup, 1) := dk_89 (dk_at dksX0_known_3 1 rfl rfl)
theorem dX0_known_73 : decode cX0_known 73 = .ok (.bipush 6, 2) := dk_16 6 (dk_at dksX0_known_3 2 rfl rfl)
theorem dX0_known_75 : decode cX0_known 75 = .ok (.sipush 130, 3) := dk_17 0 130 (dk_at dksX0_known_3 4 rfl rfl)
theorem dX0_known_78 : decode cX0_known 78 = .ok (.iastore, 1) := dk_79 (dk_at dksX0_known_3 7 rfl rfl)
theorem dX0_known_79 : decode cX0_known 79 = .ok (.dup, 1) := dk_89 (dk_at dksX0_known_3 8 rfl rfl)
theorem dX0_known_80 : decode cX0_known 80 = .ok (.bipush 7, 2) := dk_16 7 (dk_at dksX0_known_3 9 rfl rfl)
theorem dX0_known_82 : decode cX0_known 82 = .ok (.sipush 218, 3) := dk_17 0 218 (dk_at dksX0_known_3 11 rfl rfl)
theorem dX0_known_85 : decode cX0_known 85 = .ok (.iastore, 1) := dk_79 (dk_at dksX0_known_3 14 rfl rfl)
theorem dX0_known_86 : decode cX0_known 86 = .ok (.astore_n 1, 1) := dk_76 (dk_at dksX0_known_3 15 rfl rfl)
theorem dX0_known_87 : decode cX0_known 87 = .ok (.iconst 0, 1) := dk_3 (dk_at dksX0_known_3 16 rfl rfl)
theorem dX0_known_88 : decode cX0_known 88 = .ok (.istore_n 2, 1) := dk_61 (dk_at dksX0_known_3 17 rfl rfl)
theorem dX0_known_89 : decode cX0_known 89 = .ok (.iload_n 2, 1) := dk_28 (dk_at dksX0_known_3 18 rfl rfl)
theorem dX0_known_90 : decode cX0_known 90 = .ok (.bipush 8, 2) := dk_16 8 (dk_at dksX0_known_3 19 rfl rfl)
theorem dX0_known_92 : decode cX0_known 92 = .ok (.if_icmp .ge 22, 3) := dk_162 0 22 (dk_at dksX0_known_3 21 rfl rfl)
theorem dX0_known_95 : decode cX0_known 95 = .ok (.aload_n 0, 1) := dk_42 (dk_at dksX0_known_4 0 rfl rfl)
theorem dX0_known_96 : decode cX0_known 96 = .ok (.iload_n 2, 1) := dk_28 (dk_at dksX0_known_4 1 rfl rfl)
theorem dX0_known_97 : decode cX0_known 97 = .ok (.invokevirtual 39, 3) := dk_182 0 39 (dk_at dksX0_known_4 2 rfl rfl)
theorem dX0_known_100 : decode cX0_known 100 = .ok (.aload_n 1, 1) := dk_43 (dk_at dksX0_known_4 5 rfl rfl)
theorem dX0_known_101 : decode cX0_known 101 = .ok (.iload_n 2, 1) := dk_28 (dk_at dksX0_known_4 6 rfl rfl)
theorem dX0_known_102 : decode cX0_known 102 = .ok (.iaload, 1) := dk_46 (dk_at dksX0_known_4 7 rfl rfl)
theorem dX0_known_103 : decode cX0_known 103 = .ok (.if_icmp .eq 5, 3) := dk_159 0 5 (dk_at dksX0_known_4 8 rfl rfl)
theorem dX0_known_106 : decode cX0_known 106 = .ok (.iconst 0, 1) := dk_3 (dk_at dksX0_known_4 11 rfl rfl)
theorem dX0_known_107 : decode cX0_known 107 = .ok (.ireturn, 1) := dk_172 (dk_at dksX0_known_4 12 rfl rfl)
theorem dX0_known_108 : decode cX0_known 108 = .ok (.iinc 2 1, 3) := dk_132 2 1 (dk_at dksX0_known_4 13 rfl rfl)
theorem dX0_known_111 : decode cX0_known 111 = .ok (.goto (-22), 3) := dk_167 255 234 (dk_at dksX0_known_4 16 rfl rfl)
theorem dX0_known_114 : decode cX0_known 114 = .ok (.iconst 1, 1) := dk_4 (dk_at dksX0_known_4 19 rfl rfl)
theorem dX0_known_115 : decode cX0_known 115 = .ok (.ireturn, 1) := dk_172 (dk_at dksX0_known_4 20 rfl rfl)
theorem q9 : (Jvm.Cond.initialized "ZucDeskLaw") ∈ lw_all := lw_g (lw_at lw_m1 0 rfl) rfl
theorem q24 : (Jvm.Cond.methodLink "ZucDeskLaw" (35 : Nat) ({ cls := "ZucDesk", name := "run", desc := "(II)I" } : Jvm.MethodName)) ∈ lw_all := lw_g (lw_at lw_m1 15 rfl) rfl
theorem q219 : (Jvm.Cond.methodLink "ZucDeskLaw" (52 : Nat) ({ cls := "ZucDesk", name := "one", desc := "(I)I" } : Jvm.MethodName)) ∈ lw_all := lw_g (lw_at lw_m1 210 rfl) rfl
theorem q227 : (Jvm.Cond.methodLink "ZucDeskLaw" (55 : Nat) ({ cls := "ZucDesk", name := "again", desc := "()V" } : Jvm.MethodName)) ∈ lw_all := lw_g (lw_at lw_m1 218 rfl) rfl
theorem q247 : (Jvm.Cond.methodLink "ZucDeskLaw" (39 : Nat) ({ cls := "ZucDesk", name := "out", desc := "(I)I" } : Jvm.MethodName)) ∈ lw_all := lw_g (lw_at lw_m1 238 rfl) rfl
theorem q251 : (Jvm.Cond.methodLink "ZucDeskLaw" (10 : Nat) ({ cls := "ZucDeskLaw", name := "cell", desc := "([II)I" } : Jvm.MethodName)) ∈ lw_all := lw_g (lw_at lw_m2 2 rfl) rfl
theorem q252 : (Jvm.Cond.static ({ cls := "ZucDeskLaw", name := "cell", desc := "([II)I" } : Jvm.MethodName)) ∈ lw_all := lw_g (lw_at lw_m2 3 rfl) rfl
theorem q253 : (Jvm.Cond.code ({ cls := "ZucDeskLaw", name := "cell", desc := "([II)I" } : Jvm.MethodName) method_2_code (2 : Nat) (Option.some Jvm.ClassFile.FieldType.int)) ∈ lw_all := lw_g (lw_at lw_m2 4 rfl) rfl
theorem q254 : (Jvm.Cond.methodLink "ZucDeskLaw" (47 : Nat) ({ cls := "ZucDeskLaw", name := "made", desc := "([I)LZucDesk;" } : Jvm.MethodName)) ∈ lw_all := lw_g (lw_at lw_m2 5 rfl) rfl
theorem q255 : (Jvm.Cond.static ({ cls := "ZucDeskLaw", name := "made", desc := "([I)LZucDesk;" } : Jvm.MethodName)) ∈ lw_all := lw_g (lw_at lw_m2 6 rfl) rfl
theorem q256 : (Jvm.Cond.code ({ cls := "ZucDeskLaw", name := "made", desc := "([I)LZucDesk;" } : Jvm.MethodName) method_3_code (3 : Nat) (Option.some (Jvm.ClassFile.FieldType.object "ZucDesk"))) ∈ lw_all := lw_g (lw_at lw_m2 7 rfl) rfl
theorem q257 : (Jvm.Cond.classLink "ZucDeskLaw" (7 : Nat) "ZucDesk") ∈ lw_all := lw_g (lw_at lw_m2 8 rfl) rfl
theorem q258 : (Jvm.Cond.methodLink "ZucDeskLaw" (9 : Nat) ({ cls := "ZucDesk", name := "<init>", desc := "()V" } : Jvm.MethodName)) ∈ lw_all := lw_g (lw_at lw_m2 9 rfl) rfl
theorem q319 : (Jvm.Cond.methodLink "ZucDeskLaw" (16 : Nat) ({ cls := "ZucDesk", name := "put", desc := "(IIII)Z" } : Jvm.MethodName)) ∈ lw_all := lw_g (lw_at lw_m2 70 rfl) rfl
theorem q326 : (Jvm.Cond.methodLink "ZucDeskLaw" (20 : Nat) ({ cls := "ZucDesk", name := "trim", desc := "(I)V" } : Jvm.MethodName)) ∈ lw_all := lw_g (lw_at lw_m2 77 rfl) rfl
theorem q330 : (Jvm.Cond.methodLink "ZucDeskLaw" (24 : Nat) ({ cls := "ZucDesk", name := "key", desc := "(IIIII)V" } : Jvm.MethodName)) ∈ lw_all := lw_g (lw_at lw_m2 81 rfl) rfl
theorem q334 : (Jvm.Cond.methodLink "ZucDeskLaw" (28 : Nat) ({ cls := "ZucDesk", name := "nonce", desc := "(IIII)V" } : Jvm.MethodName)) ∈ lw_all := lw_g (lw_at lw_m2 85 rfl) rfl
theorem q338 : (Jvm.Cond.methodLink "ZucDeskLaw" (32 : Nat) ({ cls := "ZucDesk", name := "begin", desc := "(I)V" } : Jvm.MethodName)) ∈ lw_all := lw_g (lw_at lw_m2 89 rfl) rfl
theorem q456 : (Jvm.Cond.methodLink "ZucDeskLaw" (43 : Nat) ({ cls := "ZucDeskLaw", name := "known", desc := "()Z" } : Jvm.MethodName)) ∈ lw_all := lw_g (lw_at lw_m2 207 rfl) rfl
theorem q457 : (Jvm.Cond.static ({ cls := "ZucDeskLaw", name := "known", desc := "()Z" } : Jvm.MethodName)) ∈ lw_all := lw_g (lw_at lw_m2 208 rfl) rfl
theorem q458 : (Jvm.Cond.code ({ cls := "ZucDeskLaw", name := "known", desc := "()Z" } : Jvm.MethodName) method_4_code (3 : Nat) (Option.some Jvm.ClassFile.FieldType.boolean)) ∈ lw_all := lw_g (lw_at lw_m2 209 rfl) rfl
theorem q459 : (Jvm.Cond.constant "ZucDeskLaw" (51 : Nat) (2147483647 : Int32)) ∈ lw_all := lw_g (lw_at lw_m2 210 rfl) rfl
/-! ZucDesk -/
set_option maxRecDepth 100000
def RX1 : String := "ZucDesk"
def TX1 : u_T := fun k => match k with
  | 0 => ("ZucDesk", "run", "LZuc128Engine;", false)
  | 1 => ("ZucDesk", "set", "Z", false)
  | 2 => ("ZucDesk", "given", "I", false)
  | 3 => ("ZucDesk", "key", "[B", true)
  | 4 => ("ZucDesk", "nonce", "[B", true)
  | 5 => ("ZucDesk", "text", "[B", true)
  | 6 => ("ZucDesk", "size", "I", false)
  | _ => ("ZucDesk", "out", "[B", false)
def tyX1 : Nat → FieldType := fun k => match k with
  | 0 => .object "Zuc128Engine"
  | 1 => .boolean
  | 2 => .int
  | 3 => .array .byte
  | 4 => .array .byte
  | 5 => .array .byte
  | 6 => .int
  | _ => .array .byte
abbrev wsX10 : List Cond := u_ws RX1 TX1 8
theorem nmX1 : ∀ a, a < 8 → ∀ b, b < 8 → a ≠ b → (TX1 a).2.1 ≠ (TX1 b).2.1 := by decide +kernel
theorem tyX1_ok : ∀ k, k < 8 → parseFieldDescriptor (TX1 k).2.2.1 = some (tyX1 k) := by decide +kernel
abbrev cX1_run : ByteArray := prog_10_method_10_code
def yX1_run : MethodName := ⟨RX1, "run", "(II)I"⟩
def dkwX1_run_3 : List UInt8 := [182, 0, 67, 87, 42, 25, 5, 181, 0, 26, 21, 4, 172]
abbrev dktX1_run_3 : List UInt8 := dkwX1_run_3 ++ []
def dkwX1_run_2 : List UInt8 := [181, 0, 60, 21, 4, 188, 8, 58, 5, 42, 180, 0, 10, 42, 180, 0, 23, 29, 21, 4, 25, 5, 3]
abbrev dktX1_run_2 : List UInt8 := dkwX1_run_2 ++ dktX1_run_3
def dkwX1_run_1 : List UInt8 := [180, 0, 60, 21, 4, 96, 17, 4, 0, 164, 0, 6, 16, 254, 172, 42, 89, 180, 0, 60, 21, 4, 96]
abbrev dktX1_run_1 : List UInt8 := dkwX1_run_1 ++ dktX1_run_2
def dkwX1_run_0 : List UInt8 := [42, 180, 0, 56, 154, 0, 5, 2, 172, 42, 27, 182, 0, 37, 62, 42, 29, 28, 182, 0, 63, 54, 4, 42]
abbrev dktX1_run_0 : List UInt8 := dkwX1_run_0 ++ dktX1_run_1
theorem dksX1_run_0 : cX1_run.data.toList.drop 0 = dktX1_run_0 := by decide +kernel
theorem dksX1_run_1 : cX1_run.data.toList.drop 24 = dktX1_run_1 := dk_seg dksX1_run_0 24 rfl rfl
theorem dksX1_run_2 : cX1_run.data.toList.drop 47 = dktX1_run_2 := dk_seg dksX1_run_1 23 rfl rfl
theorem dksX1_run_3 : cX1_run.data.toList.drop 70 = dktX1_run_3 := dk_seg dksX1_run_2 23 rfl rfl
theorem dX1_run_0 : decode cX1_run 0 = .ok (.aload_n 0, 1) := dk_42 (dk_at dksX1_run_0 0 rfl rfl)
theorem dX1_run_1 : decode cX1_run 1 = .ok (.getfield 56, 3) := dk_180 0 56 (dk_at dksX1_run_0 1 rfl rfl)
theorem dX1_run_4 : decode cX1_run 4 = .ok (.ifCond .ne 5, 3) := dk_154 0 5 (dk_at dksX1_run_0 4 rfl rfl)
theorem dX1_run_7 : decode cX1_run 7 = .ok (.iconst (-1), 1) := dk_2 (dk_at dksX1_run_0 7 rfl rfl)
theorem dX1_run_8 : decode cX1_run 8 = .ok (.ireturn, 1) := dk_172 (dk_at dksX1_run_0 8 rfl rfl)
theorem dX1_run_9 : decode cX1_run 9 = .ok (.aload_n 0, 1) := dk_42 (dk_at dksX1_run_0 9 rfl rfl)
theorem dX1_run_10 : decode cX1_run 10 = .ok (.iload_n 1, 1) := dk_27 (dk_at dksX1_run_0 10 rfl rfl)
theorem dX1_run_11 : decode cX1_run 11 = .ok (.invokevirtual 37, 3) := dk_182 0 37 (dk_at dksX1_run_0 11 rfl rfl)
theorem dX1_run_14 : decode cX1_run 14 = .ok (.istore_n 3, 1) := dk_62 (dk_at dksX1_run_0 14 rfl rfl)
theorem dX1_run_15 : decode cX1_run 15 = .ok (.aload_n 0, 1) := dk_42 (dk_at dksX1_run_0 15 rfl rfl)
theorem dX1_run_16 : decode cX1_run 16 = .ok (.iload_n 3, 1) := dk_29 (dk_at dksX1_run_0 16 rfl rfl)
theorem dX1_run_17 : decode cX1_run 17 = .ok (.iload_n 2, 1) := dk_28 (dk_at dksX1_run_0 17 rfl rfl)
theorem dX1_run_18 : decode cX1_run 18 = .ok (.invokevirtual 63, 3) := dk_182 0 63 (dk_at dksX1_run_0 18 rfl rfl)
theorem dX1_run_21 : decode cX1_run 21 = .ok (.istore 4, 2) := dk_54 4 (dk_at dksX1_run_0 21 rfl rfl)
theorem dX1_run_23 : decode cX1_run 23 = .ok (.aload_n 0, 1) := dk_42 (dk_at dksX1_run_0 23 rfl rfl)
theorem dX1_run_24 : decode cX1_run 24 = .ok (.getfield 60, 3) := dk_180 0 60 (dk_at dksX1_run_1 0 rfl rfl)
theorem dX1_run_27 : decode cX1_run 27 = .ok (.iload 4, 2) := dk_21 4 (dk_at dksX1_run_1 3 rfl rfl)
theorem dX1_run_29 : decode cX1_run 29 = .ok (.iadd, 1) := dk_96 (dk_at dksX1_run_1 5 rfl rfl)
theorem dX1_run_30 : decode cX1_run 30 = .ok (.sipush 1024, 3) := dk_17 4 0 (dk_at dksX1_run_1 6 rfl rfl)
theorem dX1_run_33 : decode cX1_run 33 = .ok (.if_icmp .le 6, 3) := dk_164 0 6 (dk_at dksX1_run_1 9 rfl rfl)
theorem dX1_run_36 : decode cX1_run 36 = .ok (.bipush (-2), 2) := dk_16 254 (dk_at dksX1_run_1 12 rfl rfl)
theorem dX1_run_38 : decode cX1_run 38 = .ok (.ireturn, 1) := dk_172 (dk_at dksX1_run_1 14 rfl rfl)
theorem dX1_run_39 : decode cX1_run 39 = .ok (.aload_n 0, 1) := dk_42 (dk_at dksX1_run_1 15 rfl rfl)
theorem dX1_run_40 : decode cX1_run 40 = .ok (.dup, 1) := dk_89 (dk_at dksX1_run_1 16 rfl rfl)
theorem dX1_run_41 : decode cX1_run 41 = .ok (.getfield 60, 3) := dk_180 0 60 (dk_at dksX1_run_1 17 rfl rfl)
theorem dX1_run_44 : decode cX1_run 44 = .ok (.iload 4, 2) := dk_21 4 (dk_at dksX1_run_1 20 rfl rfl)
theorem dX1_run_46 : decode cX1_run 46 = .ok (.iadd, 1) := dk_96 (dk_at dksX1_run_1 22 rfl rfl)
theorem dX1_run_47 : decode cX1_run 47 = .ok (.putfield 60, 3) := dk_181 0 60 (dk_at dksX1_run_2 0 rfl rfl)
theorem dX1_run_50 : decode cX1_run 50 = .ok (.iload 4, 2) := dk_21 4 (dk_at dksX1_run_2 3 rfl rfl)
theorem dX1_run_52 : decode cX1_run 52 = .ok (.newarray .byte, 2) := dk_188_8 (dk_at dksX1_run_2 5 rfl rfl)
theorem dX1_run_54 : decode cX1_run 54 = .ok (.astore 5, 2) := dk_58 5 (dk_at dksX1_run_2 7 rfl rfl)
theorem dX1_run_56 : decode cX1_run 56 = .ok (.aload_n 0, 1) := dk_42 (dk_at dksX1_run_2 9 rfl rfl)
theorem dX1_run_57 : decode cX1_run 57 = .ok (.getfield 10, 3) := dk_180 0 10 (dk_at dksX1_run_2 10 rfl rfl)
theorem dX1_run_60 : decode cX1_run 60 = .ok (.aload_n 0, 1) := dk_42 (dk_at dksX1_run_2 13 rfl rfl)
theorem dX1_run_61 : decode cX1_run 61 = .ok (.getfield 23, 3) := dk_180 0 23 (dk_at dksX1_run_2 14 rfl rfl)
theorem dX1_run_64 : decode cX1_run 64 = .ok (.iload_n 3, 1) := dk_29 (dk_at dksX1_run_2 17 rfl rfl)
theorem dX1_run_65 : decode cX1_run 65 = .ok (.iload 4, 2) := dk_21 4 (dk_at dksX1_run_2 18 rfl rfl)
theorem dX1_run_67 : decode cX1_run 67 = .ok (.aload 5, 2) := dk_25 5 (dk_at dksX1_run_2 20 rfl rfl)
theorem dX1_run_69 : decode cX1_run 69 = .ok (.iconst 0, 1) := dk_3 (dk_at dksX1_run_2 22 rfl rfl)
theorem dX1_run_70 : decode cX1_run 70 = .ok (.invokevirtual 67, 3) := dk_182 0 67 (dk_at dksX1_run_3 0 rfl rfl)
theorem dX1_run_73 : decode cX1_run 73 = .ok (.pop, 1) := dk_87 (dk_at dksX1_run_3 3 rfl rfl)
theorem dX1_run_74 : decode cX1_run 74 = .ok (.aload_n 0, 1) := dk_42 (dk_at dksX1_run_3 4 rfl rfl)
theorem dX1_run_75 : decode cX1_run 75 = .ok (.aload 5, 2) := dk_25 5 (dk_at dksX1_run_3 5 rfl rfl)
theorem dX1_run_77 : decode cX1_run 77 = .ok (.putfield 26, 3) := dk_181 0 26 (dk_at dksX1_run_3 7 rfl rfl)
theorem dX1_run_80 : decode cX1_run 80 = .ok (.iload 4, 2) := dk_21 4 (dk_at dksX1_run_3 10 rfl rfl)
theorem dX1_run_82 : decode cX1_run 82 = .ok (.ireturn, 1) := dk_172 (dk_at dksX1_run_3 12 rfl rfl)
abbrev cX1_from : ByteArray := prog_10_method_5_code
def yX1_from : MethodName := ⟨RX1, "from", "(I)I"⟩
def dkwX1_from_0 : List UInt8 := [27, 18, 41, 126, 42, 180, 0, 29, 4, 96, 112, 172]
abbrev dktX1_from_0 : List UInt8 := dkwX1_from_0 ++ []
theorem dksX1_from_0 : cX1_from.data.toList.drop 0 = dktX1_from_0 := by decide +kernel
theorem dX1_from_0 : decode cX1_from 0 = .ok (.iload_n 1, 1) := dk_27 (dk_at dksX1_from_0 0 rfl rfl)
theorem dX1_from_1 : decode cX1_from 1 = .ok (.ldc 41, 2) := dk_18 41 (dk_at dksX1_from_0 1 rfl rfl)
theorem dX1_from_3 : decode cX1_from 3 = .ok (.iand, 1) := dk_126 (dk_at dksX1_from_0 3 rfl rfl)
theorem dX1_from_4 : decode cX1_from 4 = .ok (.aload_n 0, 1) := dk_42 (dk_at dksX1_from_0 4 rfl rfl)
theorem dX1_from_5 : decode cX1_from 5 = .ok (.getfield 29, 3) := dk_180 0 29 (dk_at dksX1_from_0 5 rfl rfl)
theorem dX1_from_8 : decode cX1_from 8 = .ok (.iconst 1, 1) := dk_4 (dk_at dksX1_from_0 8 rfl rfl)
theorem dX1_from_9 : decode cX1_from 9 = .ok (.iadd, 1) := dk_96 (dk_at dksX1_from_0 9 rfl rfl)
theorem dX1_from_10 : decode cX1_from 10 = .ok (.irem, 1) := dk_112 (dk_at dksX1_from_0 10 rfl rfl)
theorem dX1_from_11 : decode cX1_from 11 = .ok (.ireturn, 1) := dk_172 (dk_at dksX1_from_0 11 rfl rfl)
abbrev cX1_count : ByteArray := prog_10_method_6_code
def yX1_count : MethodName := ⟨RX1, "count", "(II)I"⟩
def dkwX1_count_0 : List UInt8 := [28, 18, 41, 126, 42, 180, 0, 29, 27, 100, 4, 96, 112, 172]
abbrev dktX1_count_0 : List UInt8 := dkwX1_count_0 ++ []
theorem dksX1_count_0 : cX1_count.data.toList.drop 0 = dktX1_count_0 := by decide +kernel
theorem dX1_count_0 : decode cX1_count 0 = .ok (.iload_n 2, 1) := dk_28 (dk_at dksX1_count_0 0 rfl rfl)
theorem dX1_count_1 : decode cX1_count 1 = .ok (.ldc 41, 2) := dk_18 41 (dk_at dksX1_count_0 1 rfl rfl)
theorem dX1_count_3 : decode cX1_count 3 = .ok (.iand, 1) := dk_126 (dk_at dksX1_count_0 3 rfl rfl)
theorem dX1_count_4 : decode cX1_count 4 = .ok (.aload_n 0, 1) := dk_42 (dk_at dksX1_count_0 4 rfl rfl)
theorem dX1_count_5 : decode cX1_count 5 = .ok (.getfield 29, 3) := dk_180 0 29 (dk_at dksX1_count_0 5 rfl rfl)
theorem dX1_count_8 : decode cX1_count 8 = .ok (.iload_n 1, 1) := dk_27 (dk_at dksX1_count_0 8 rfl rfl)
theorem dX1_count_9 : decode cX1_count 9 = .ok (.isub, 1) := dk_100 (dk_at dksX1_count_0 9 rfl rfl)
theorem dX1_count_10 : decode cX1_count 10 = .ok (.iconst 1, 1) := dk_4 (dk_at dksX1_count_0 10 rfl rfl)
theorem dX1_count_11 : decode cX1_count 11 = .ok (.iadd, 1) := dk_96 (dk_at dksX1_count_0 11 rfl rfl)
theorem dX1_count_12 : decode cX1_count 12 = .ok (.irem, 1) := dk_112 (dk_at dksX1_count_0 12 rfl rfl)
theorem dX1_count_13 : decode cX1_count 13 = .ok (.ireturn, 1) := dk_172 (dk_at dksX1_count_0 13 rfl rfl)
abbrev cX1_one : ByteArray := prog_10_method_11_code
def yX1_one : MethodName := ⟨RX1, "one", "(I)I"⟩
def dkwX1_one_1 : List UInt8 := [180, 0, 60, 4, 96, 181, 0, 60, 42, 180, 0, 10, 27, 145, 182, 0, 71, 17, 0, 255, 126, 172]
abbrev dktX1_one_1 : List UInt8 := dkwX1_one_1 ++ []
def dkwX1_one_0 : List UInt8 := [42, 180, 0, 56, 154, 0, 5, 2, 172, 42, 180, 0, 60, 17, 4, 0, 161, 0, 6, 16, 254, 172, 42, 89]
abbrev dktX1_one_0 : List UInt8 := dkwX1_one_0 ++ dktX1_one_1
theorem dksX1_one_0 : cX1_one.data.toList.drop 0 = dktX1_one_0 := by decide +kernel
theorem dksX1_one_1 : cX1_one.data.toList.drop 24 = dktX1_one_1 := dk_seg dksX1_one_0 24 rfl rfl
theorem dX1_one_0 : decode cX1_one 0 = .ok (.aload_n 0, 1) := dk_42 (dk_at dksX1_one_0 0 rfl rfl)
theorem dX1_one_1 : decode cX1_one 1 = .ok (.getfield 56, 3) := dk_180 0 56 (dk_at dksX1_one_0 1 rfl rfl)
theorem dX1_one_4 : decode cX1_one 4 = .ok (.ifCond .ne 5, 3) := dk_154 0 5 (dk_at dksX1_one_0 4 rfl rfl)
theorem dX1_one_7 : decode cX1_one 7 = .ok (.iconst (-1), 1) := dk_2 (dk_at dksX1_one_0 7 rfl rfl)
theorem dX1_one_8 : decode cX1_one 8 = .ok (.ireturn, 1) := dk_172 (dk_at dksX1_one_0 8 rfl rfl)
theorem dX1_one_9 : decode cX1_one 9 = .ok (.aload_n 0, 1) := dk_42 (dk_at dksX1_one_0 9 rfl rfl)
theorem dX1_one_10 : decode cX1_one 10 = .ok (.getfield 60, 3) := dk_180 0 60 (dk_at dksX1_one_0 10 rfl rfl)
theorem dX1_one_13 : decode cX1_one 13 = .ok (.sipush 1024, 3) := dk_17 4 0 (dk_at dksX1_one_0 13 rfl rfl)
theorem dX1_one_16 : decode cX1_one 16 = .ok (.if_icmp .lt 6, 3) := dk_161 0 6 (dk_at dksX1_one_0 16 rfl rfl)
theorem dX1_one_19 : decode cX1_one 19 = .ok (.bipush (-2), 2) := dk_16 254 (dk_at dksX1_one_0 19 rfl rfl)
theorem dX1_one_21 : decode cX1_one 21 = .ok (.ireturn, 1) := dk_172 (dk_at dksX1_one_0 21 rfl rfl)
theorem dX1_one_22 : decode cX1_one 22 = .ok (.aload_n 0, 1) := dk_42 (dk_at dksX1_one_0 22 rfl rfl)
theorem dX1_one_23 : decode cX1_one 23 = .ok (.dup, 1) := dk_89 (dk_at dksX1_one_0 23 rfl rfl)
theorem dX1_one_24 : decode cX1_one 24 = .ok (.getfield 60, 3) := dk_180 0 60 (dk_at dksX1_one_1 0 rfl rfl)
theorem dX1_one_27 : decode cX1_one 27 = .ok (.iconst 1, 1) := dk_4 (dk_at dksX1_one_1 3 rfl rfl)
theorem dX1_one_28 : decode cX1_one 28 = .ok (.iadd, 1) := dk_96 (dk_at dksX1_one_1 4 rfl rfl)
theorem dX1_one_29 : decode cX1_one 29 = .ok (.putfield 60, 3) := dk_181 0 60 (dk_at dksX1_one_1 5 rfl rfl)
theorem dX1_one_32 : decode cX1_one 32 = .ok (.aload_n 0, 1) := dk_42 (dk_at dksX1_one_1 8 rfl rfl)
theorem dX1_one_33 : decode cX1_one 33 = .ok (.getfield 10, 3) := dk_180 0 10 (dk_at dksX1_one_1 9 rfl rfl)
theorem dX1_one_36 : decode cX1_one 36 = .ok (.iload_n 1, 1) := dk_27 (dk_at dksX1_one_1 12 rfl rfl)
theorem dX1_one_37 : decode cX1_one 37 = .ok (.i2b, 1) := dk_145 (dk_at dksX1_one_1 13 rfl rfl)
theorem dX1_one_38 : decode cX1_one 38 = .ok (.invokevirtual 71, 3) := dk_182 0 71 (dk_at dksX1_one_1 14 rfl rfl)
theorem dX1_one_41 : decode cX1_one 41 = .ok (.sipush 255, 3) := dk_17 0 255 (dk_at dksX1_one_1 17 rfl rfl)
theorem dX1_one_44 : decode cX1_one 44 = .ok (.iand, 1) := dk_126 (dk_at dksX1_one_1 20 rfl rfl)
theorem dX1_one_45 : decode cX1_one 45 = .ok (.ireturn, 1) := dk_172 (dk_at dksX1_one_1 21 rfl rfl)
abbrev cX1_again : ByteArray := prog_10_method_12_code
def yX1_again : MethodName := ⟨RX1, "again", "()V"⟩
def dkwX1_again_0 : List UInt8 := [42, 180, 0, 56, 153, 0, 15, 42, 180, 0, 10, 182, 0, 75, 42, 3, 181, 0, 60, 177]
abbrev dktX1_again_0 : List UInt8 := dkwX1_again_0 ++ []
theorem dksX1_again_0 : cX1_again.data.toList.drop 0 = dktX1_again_0 := by decide +kernel
theorem dX1_again_0 : decode cX1_again 0 = .ok (.aload_n 0, 1) := dk_42 (dk_at dksX1_again_0 0 rfl rfl)
theorem dX1_again_1 : decode cX1_again 1 = .ok (.getfield 56, 3) := dk_180 0 56 (dk_at dksX1_again_0 1 rfl rfl)
theorem dX1_again_4 : decode cX1_again 4 = .ok (.ifCond .eq 15, 3) := dk_153 0 15 (dk_at dksX1_again_0 4 rfl rfl)
theorem dX1_again_7 : decode cX1_again 7 = .ok (.aload_n 0, 1) := dk_42 (dk_at dksX1_again_0 7 rfl rfl)
theorem dX1_again_8 : decode cX1_again 8 = .ok (.getfield 10, 3) := dk_180 0 10 (dk_at dksX1_again_0 8 rfl rfl)
theorem dX1_again_11 : decode cX1_again 11 = .ok (.invokevirtual 75, 3) := dk_182 0 75 (dk_at dksX1_again_0 11 rfl rfl)
theorem dX1_again_14 : decode cX1_again 14 = .ok (.aload_n 0, 1) := dk_42 (dk_at dksX1_again_0 14 rfl rfl)
theorem dX1_again_15 : decode cX1_again 15 = .ok (.iconst 0, 1) := dk_3 (dk_at dksX1_again_0 15 rfl rfl)
theorem dX1_again_16 : decode cX1_again 16 = .ok (.putfield 60, 3) := dk_181 0 60 (dk_at dksX1_again_0 16 rfl rfl)
theorem dX1_again_19 : decode cX1_again 19 = .ok (.return_, 1) := dk_177 (dk_at dksX1_again_0 19 rfl rfl)
abbrev cX1_out : ByteArray := prog_10_method_13_code
def yX1_out : MethodName := ⟨RX1, "out", "(I)I"⟩
def dkwX1_out_1 : List UInt8 := [190, 112, 51, 17, 0, 255, 126, 172]
abbrev dktX1_out_1 : List UInt8 := dkwX1_out_1 ++ []
def dkwX1_out_0 : List UInt8 := [42, 180, 0, 26, 190, 154, 0, 7, 2, 167, 0, 22, 42, 180, 0, 26, 27, 18, 41, 126, 42, 180, 0, 26]
abbrev dktX1_out_0 : List UInt8 := dkwX1_out_0 ++ dktX1_out_1
theorem dksX1_out_0 : cX1_out.data.toList.drop 0 = dktX1_out_0 := by decide +kernel
theorem dksX1_out_1 : cX1_out.data.toList.drop 24 = dktX1_out_1 := dk_seg dksX1_out_0 24 rfl rfl
theorem dX1_out_0 : decode cX1_out 0 = .ok (.aload_n 0, 1) := dk_42 (dk_at dksX1_out_0 0 rfl rfl)
theorem dX1_out_1 : decode cX1_out 1 = .ok (.getfield 26, 3) := dk_180 0 26 (dk_at dksX1_out_0 1 rfl rfl)
theorem dX1_out_4 : decode cX1_out 4 = .ok (.arraylength, 1) := dk_190 (dk_at dksX1_out_0 4 rfl rfl)
theorem dX1_out_5 : decode cX1_out 5 = .ok (.ifCond .ne 7, 3) := dk_154 0 7 (dk_at dksX1_out_0 5 rfl rfl)
theorem dX1_out_8 : decode cX1_out 8 = .ok (.iconst (-1), 1) := dk_2 (dk_at dksX1_out_0 8 rfl rfl)
theorem dX1_out_9 : decode cX1_out 9 = .ok (.goto 22, 3) := dk_167 0 22 (dk_at dksX1_out_0 9 rfl rfl)
theorem dX1_out_12 : decode cX1_out 12 = .ok (.aload_n 0, 1) := dk_42 (dk_at dksX1_out_0 12 rfl rfl)
theorem dX1_out_13 : decode cX1_out 13 = .ok (.getfield 26, 3) := dk_180 0 26 (dk_at dksX1_out_0 13 rfl rfl)
theorem dX1_out_16 : decode cX1_out 16 = .ok (.iload_n 1, 1) := dk_27 (dk_at dksX1_out_0 16 rfl rfl)
theorem dX1_out_17 : decode cX1_out 17 = .ok (.ldc 41, 2) := dk_18 41 (dk_at dksX1_out_0 17 rfl rfl)
theorem dX1_out_19 : decode cX1_out 19 = .ok (.iand, 1) := dk_126 (dk_at dksX1_out_0 19 rfl rfl)
theorem dX1_out_20 : decode cX1_out 20 = .ok (.aload_n 0, 1) := dk_42 (dk_at dksX1_out_0 20 rfl rfl)
theorem dX1_out_21 : decode cX1_out 21 = .ok (.getfield 26, 3) := dk_180 0 26 (dk_at dksX1_out_0 21 rfl rfl)
theorem dX1_out_24 : decode cX1_out 24 = .ok (.arraylength, 1) := dk_190 (dk_at dksX1_out_1 0 rfl rfl)
theorem dX1_out_25 : decode cX1_out 25 = .ok (.irem, 1) := dk_112 (dk_at dksX1_out_1 1 rfl rfl)
theorem dX1_out_26 : decode cX1_out 26 = .ok (.baload, 1) := dk_51 (dk_at dksX1_out_1 2 rfl rfl)
theorem dX1_out_27 : decode cX1_out 27 = .ok (.sipush 255, 3) := dk_17 0 255 (dk_at dksX1_out_1 3 rfl rfl)
theorem dX1_out_30 : decode cX1_out 30 = .ok (.iand, 1) := dk_126 (dk_at dksX1_out_1 6 rfl rfl)
theorem dX1_out_31 : decode cX1_out 31 = .ok (.ireturn, 1) := dk_172 (dk_at dksX1_out_1 7 rfl rfl)
abbrev cX1_init : ByteArray := prog_10_method_1_code
def yX1_init : MethodName := ⟨RX1, "<init>", "()V"⟩
def dkwX1_init_1 : List UInt8 := [16, 16, 188, 8, 181, 0, 20, 42, 17, 1, 0, 188, 8, 181, 0, 23, 42, 3, 188, 8, 181, 0, 26, 177]
abbrev dktX1_init_1 : List UInt8 := dkwX1_init_1 ++ []
def dkwX1_init_0 : List UInt8 := [42, 183, 0, 1, 42, 187, 0, 7, 89, 183, 0, 9, 181, 0, 10, 42, 16, 32, 188, 8, 181, 0, 16, 42]
abbrev dktX1_init_0 : List UInt8 := dkwX1_init_0 ++ dktX1_init_1
theorem dksX1_init_0 : cX1_init.data.toList.drop 0 = dktX1_init_0 := by decide +kernel
theorem dksX1_init_1 : cX1_init.data.toList.drop 24 = dktX1_init_1 := dk_seg dksX1_init_0 24 rfl rfl
theorem dX1_init_0 : decode cX1_init 0 = .ok (.aload_n 0, 1) := dk_42 (dk_at dksX1_init_0 0 rfl rfl)
theorem dX1_init_1 : decode cX1_init 1 = .ok (.invokespecial 1, 3) := dk_183 0 1 (dk_at dksX1_init_0 1 rfl rfl)
theorem dX1_init_4 : decode cX1_init 4 = .ok (.aload_n 0, 1) := dk_42 (dk_at dksX1_init_0 4 rfl rfl)
theorem dX1_init_5 : decode cX1_init 5 = .ok (.new 7, 3) := dk_187 0 7 (dk_at dksX1_init_0 5 rfl rfl)
theorem dX1_init_8 : decode cX1_init 8 = .ok (.dup, 1) := dk_89 (dk_at dksX1_init_0 8 rfl rfl)
theorem dX1_init_9 : decode cX1_init 9 = .ok (.invokespecial 9, 3) := dk_183 0 9 (dk_at dksX1_init_0 9 rfl rfl)
theorem dX1_init_12 : decode cX1_init 12 = .ok (.putfield 10, 3) := dk_181 0 10 (dk_at dksX1_init_0 12 rfl rfl)
theorem dX1_init_15 : decode cX1_init 15 = .ok (.aload_n 0, 1) := dk_42 (dk_at dksX1_init_0 15 rfl rfl)
theorem dX1_init_16 : decode cX1_init 16 = .ok (.bipush 32, 2) := dk_16 32 (dk_at dksX1_init_0 16 rfl rfl)
theorem dX1_init_18 : decode cX1_init 18 = .ok (.newarray .byte, 2) := dk_188_8 (dk_at dksX1_init_0 18 rfl rfl)
theorem dX1_init_20 : decode cX1_init 20 = .ok (.putfield 16, 3) := dk_181 0 16 (dk_at dksX1_init_0 20 rfl rfl)
theorem dX1_init_23 : decode cX1_init 23 = .ok (.aload_n 0, 1) := dk_42 (dk_at dksX1_init_0 23 rfl rfl)
theorem dX1_init_24 : decode cX1_init 24 = .ok (.bipush 16, 2) := dk_16 16 (dk_at dksX1_init_1 0 rfl rfl)
theorem dX1_init_26 : decode cX1_init 26 = .ok (.newarray .byte, 2) := dk_188_8 (dk_at dksX1_init_1 2 rfl rfl)
theorem dX1_init_28 : decode cX1_init 28 = .ok (.putfield 20, 3) := dk_181 0 20 (dk_at dksX1_init_1 4 rfl rfl)
theorem dX1_init_31 : decode cX1_init 31 = .ok (.aload_n 0, 1) := dk_42 (dk_at dksX1_init_1 7 rfl rfl)
theorem dX1_init_32 : decode cX1_init 32 = .ok (.sipush 256, 3) := dk_17 1 0 (dk_at dksX1_init_1 8 rfl rfl)
theorem dX1_init_35 : decode cX1_init 35 = .ok (.newarray .byte, 2) := dk_188_8 (dk_at dksX1_init_1 11 rfl rfl)
theorem dX1_init_37 : decode cX1_init 37 = .ok (.putfield 23, 3) := dk_181 0 23 (dk_at dksX1_init_1 13 rfl rfl)
theorem dX1_init_40 : decode cX1_init 40 = .ok (.aload_n 0, 1) := dk_42 (dk_at dksX1_init_1 16 rfl rfl)
theorem dX1_init_41 : decode cX1_init 41 = .ok (.iconst 0, 1) := dk_3 (dk_at dksX1_init_1 17 rfl rfl)
theorem dX1_init_42 : decode cX1_init 42 = .ok (.newarray .byte, 2) := dk_188_8 (dk_at dksX1_init_1 18 rfl rfl)
theorem dX1_init_44 : decode cX1_init 44 = .ok (.putfield 26, 3) := dk_181 0 26 (dk_at dksX1_init_1 20 rfl rfl)
theorem dX1_init_47 : decode cX1_init 47 = .ok (.return_, 1) := dk_177 (dk_at dksX1_init_1 23 rfl rfl)
abbrev cX1_put : ByteArray := prog_10_method_2_code
def yX1_put : MethodName := ⟨RX1, "put", "(IIII)Z"⟩
def dkwX1_put_3 : List UInt8 := [96, 21, 4, 184, 0, 33, 42, 89, 180, 0, 29, 16, 16, 96, 181, 0, 29, 4, 172]
abbrev dktX1_put_3 : List UInt8 := dkwX1_put_3 ++ []
def dkwX1_put_2 : List UInt8 := [180, 0, 23, 42, 180, 0, 29, 16, 8, 96, 29, 184, 0, 33, 42, 180, 0, 23, 42, 180, 0, 29, 16, 12]
abbrev dktX1_put_2 : List UInt8 := dkwX1_put_2 ++ dktX1_put_3
def dkwX1_put_1 : List UInt8 := [180, 0, 29, 27, 184, 0, 33, 42, 180, 0, 23, 42, 180, 0, 29, 7, 96, 28, 184, 0, 33, 42]
abbrev dktX1_put_1 : List UInt8 := dkwX1_put_1 ++ dktX1_put_2
def dkwX1_put_0 : List UInt8 := [42, 180, 0, 29, 42, 180, 0, 23, 190, 16, 16, 100, 164, 0, 5, 3, 172, 42, 180, 0, 23, 42]
abbrev dktX1_put_0 : List UInt8 := dkwX1_put_0 ++ dktX1_put_1
theorem dksX1_put_0 : cX1_put.data.toList.drop 0 = dktX1_put_0 := by decide +kernel
theorem dksX1_put_1 : cX1_put.data.toList.drop 22 = dktX1_put_1 := dk_seg dksX1_put_0 22 rfl rfl
theorem dksX1_put_2 : cX1_put.data.toList.drop 44 = dktX1_put_2 := dk_seg dksX1_put_1 22 rfl rfl
theorem dksX1_put_3 : cX1_put.data.toList.drop 68 = dktX1_put_3 := dk_seg dksX1_put_2 24 rfl rfl
theorem dX1_put_0 : decode cX1_put 0 = .ok (.aload_n 0, 1) := dk_42 (dk_at dksX1_put_0 0 rfl rfl)
theorem dX1_put_1 : decode cX1_put 1 = .ok (.getfield 29, 3) := dk_180 0 29 (dk_at dksX1_put_0 1 rfl rfl)
theorem dX1_put_4 : decode cX1_put 4 = .ok (.aload_n 0, 1) := dk_42 (dk_at dksX1_put_0 4 rfl rfl)
theorem dX1_put_5 : decode cX1_put 5 = .ok (.getfield 23, 3) := dk_180 0 23 (dk_at dksX1_put_0 5 rfl rfl)
theorem dX1_put_8 : decode cX1_put 8 = .ok (.arraylength, 1) := dk_190 (dk_at dksX1_put_0 8 rfl rfl)
theorem dX1_put_9 : decode cX1_put 9 = .ok (.bipush 16, 2) := dk_16 16 (dk_at dksX1_put_0 9 rfl rfl)
theorem dX1_put_11 : decode cX1_put 11 = .ok (.isub, 1) := dk_100 (dk_at dksX1_put_0 11 rfl rfl)
theorem dX1_put_12 : decode cX1_put 12 = .ok (.if_icmp .le 5, 3) := dk_164 0 5 (dk_at dksX1_put_0 12 rfl rfl)
theorem dX1_put_15 : decode cX1_put 15 = .ok (.iconst 0, 1) := dk_3 (dk_at dksX1_put_0 15 rfl rfl)
theorem dX1_put_16 : decode cX1_put 16 = .ok (.ireturn, 1) := dk_172 (dk_at dksX1_put_0 16 rfl rfl)
theorem dX1_put_17 : decode cX1_put 17 = .ok (.aload_n 0, 1) := dk_42 (dk_at dksX1_put_0 17 rfl rfl)
theorem dX1_put_18 : decode cX1_put 18 = .ok (.getfield 23, 3) := dk_180 0 23 (dk_at dksX1_put_0 18 rfl rfl)
theorem dX1_put_21 : decode cX1_put 21 = .ok (.aload_n 0, 1) := dk_42 (dk_at dksX1_put_0 21 rfl rfl)
theorem dX1_put_22 : decode cX1_put 22 = .ok (.getfield 29, 3) := dk_180 0 29 (dk_at dksX1_put_1 0 rfl rfl)
theorem dX1_put_25 : decode cX1_put 25 = .ok (.iload_n 1, 1) := dk_27 (dk_at dksX1_put_1 3 rfl rfl)
theorem dX1_put_26 : decode cX1_put 26 = .ok (.invokestatic 33, 3) := dk_184 0 33 (dk_at dksX1_put_1 4 rfl rfl)
theorem dX1_put_29 : decode cX1_put 29 = .ok (.aload_n 0, 1) := dk_42 (dk_at dksX1_put_1 7 rfl rfl)
theorem dX1_put_30 : decode cX1_put 30 = .ok (.getfield 23, 3) := dk_180 0 23 (dk_at dksX1_put_1 8 rfl rfl)
theorem dX1_put_33 : decode cX1_put 33 = .ok (.aload_n 0, 1) := dk_42 (dk_at dksX1_put_1 11 rfl rfl)
theorem dX1_put_34 : decode cX1_put 34 = .ok (.getfield 29, 3) := dk_180 0 29 (dk_at dksX1_put_1 12 rfl rfl)
theorem dX1_put_37 : decode cX1_put 37 = .ok (.iconst 4, 1) := dk_7 (dk_at dksX1_put_1 15 rfl rfl)
theorem dX1_put_38 : decode cX1_put 38 = .ok (.iadd, 1) := dk_96 (dk_at dksX1_put_1 16 rfl rfl)
theorem dX1_put_39 : decode cX1_put 39 = .ok (.iload_n 2, 1) := dk_28 (dk_at dksX1_put_1 17 rfl rfl)
theorem dX1_put_40 : decode cX1_put 40 = .ok (.invokestatic 33, 3) := dk_184 0 33 (dk_at dksX1_put_1 18 rfl rfl)
theorem dX1_put_43 : decode cX1_put 43 = .ok (.aload_n 0, 1) := dk_42 (dk_at dksX1_put_1 21 rfl rfl)
theorem dX1_put_44 : decode cX1_put 44 = .ok (.getfield 23, 3) := dk_180 0 23 (dk_at dksX1_put_2 0 rfl rfl)
theorem dX1_put_47 : decode cX1_put 47 = .ok (.aload_n 0, 1) := dk_42 (dk_at dksX1_put_2 3 rfl rfl)
theorem dX1_put_48 : decode cX1_put 48 = .ok (.getfield 29, 3) := dk_180 0 29 (dk_at dksX1_put_2 4 rfl rfl)
theorem dX1_put_51 : decode cX1_put 51 = .ok (.bipush 8, 2) := dk_16 8 (dk_at dksX1_put_2 7 rfl rfl)
theorem dX1_put_53 : decode cX1_put 53 = .ok (.iadd, 1) := dk_96 (dk_at dksX1_put_2 9 rfl rfl)
theorem dX1_put_54 : decode cX1_put 54 = .ok (.iload_n 3, 1) := dk_29 (dk_at dksX1_put_2 10 rfl rfl)
theorem dX1_put_55 : decode cX1_put 55 = .ok (.invokestatic 33, 3) := dk_184 0 33 (dk_at dksX1_put_2 11 rfl rfl)
theorem dX1_put_58 : decode cX1_put 58 = .ok (.aload_n 0, 1) := dk_42 (dk_at dksX1_put_2 14 rfl rfl)
theorem dX1_put_59 : decode cX1_put 59 = .ok (.getfield 23, 3) := dk_180 0 23 (dk_at dksX1_put_2 15 rfl rfl)
theorem dX1_put_62 : decode cX1_put 62 = .ok (.aload_n 0, 1) := dk_42 (dk_at dksX1_put_2 18 rfl rfl)
theorem dX1_put_63 : decode cX1_put 63 = .ok (.getfield 29, 3) := dk_180 0 29 (dk_at dksX1_put_2 19 rfl rfl)
theorem dX1_put_66 : decode cX1_put 66 = .ok (.bipush 12, 2) := dk_16 12 (dk_at dksX1_put_2 22 rfl rfl)
theorem dX1_put_68 : decode cX1_put 68 = .ok (.iadd, 1) := dk_96 (dk_at dksX1_put_3 0 rfl rfl)
theorem dX1_put_69 : decode cX1_put 69 = .ok (.iload 4, 2) := dk_21 4 (dk_at dksX1_put_3 1 rfl rfl)
theorem dX1_put_71 : decode cX1_put 71 = .ok (.invokestatic 33, 3) := dk_184 0 33 (dk_at dksX1_put_3 3 rfl rfl)
theorem dX1_put_74 : decode cX1_put 74 = .ok (.aload_n 0, 1) := dk_42 (dk_at dksX1_put_3 6 rfl rfl)
theorem dX1_put_75 : decode cX1_put 75 = .ok (.dup, 1) := dk_89 (dk_at dksX1_put_3 7 rfl rfl)
theorem dX1_put_76 : decode cX1_put 76 = .ok (.getfield 29, 3) := dk_180 0 29 (dk_at dksX1_put_3 8 rfl rfl)
theorem dX1_put_79 : decode cX1_put 79 = .ok (.bipush 16, 2) := dk_16 16 (dk_at dksX1_put_3 11 rfl rfl)
theorem dX1_put_81 : decode cX1_put 81 = .ok (.iadd, 1) := dk_96 (dk_at dksX1_put_3 13 rfl rfl)
theorem dX1_put_82 : decode cX1_put 82 = .ok (.putfield 29, 3) := dk_181 0 29 (dk_at dksX1_put_3 14 rfl rfl)
theorem dX1_put_85 : decode cX1_put 85 = .ok (.iconst 1, 1) := dk_4 (dk_at dksX1_put_3 17 rfl rfl)
theorem dX1_put_86 : decode cX1_put 86 = .ok (.ireturn, 1) := dk_172 (dk_at dksX1_put_3 18 rfl rfl)
abbrev cX1_word : ByteArray := prog_10_method_3_code
def yX1_word : MethodName := ⟨RX1, "word", "([BII)V"⟩
def dkwX1_word_1 : List UInt8 := [16, 8, 122, 145, 84, 42, 27, 6, 96, 28, 145, 84, 177]
abbrev dktX1_word_1 : List UInt8 := dkwX1_word_1 ++ []
def dkwX1_word_0 : List UInt8 := [42, 27, 28, 16, 24, 122, 145, 84, 42, 27, 4, 96, 28, 16, 16, 122, 145, 84, 42, 27, 5, 96, 28]
abbrev dktX1_word_0 : List UInt8 := dkwX1_word_0 ++ dktX1_word_1
theorem dksX1_word_0 : cX1_word.data.toList.drop 0 = dktX1_word_0 := by decide +kernel
theorem dksX1_word_1 : cX1_word.data.toList.drop 23 = dktX1_word_1 := dk_seg dksX1_word_0 23 rfl rfl
theorem dX1_word_0 : decode cX1_word 0 = .ok (.aload_n 0, 1) := dk_42 (dk_at dksX1_word_0 0 rfl rfl)
theorem dX1_word_1 : decode cX1_word 1 = .ok (.iload_n 1, 1) := dk_27 (dk_at dksX1_word_0 1 rfl rfl)
theorem dX1_word_2 : decode cX1_word 2 = .ok (.iload_n 2, 1) := dk_28 (dk_at dksX1_word_0 2 rfl rfl)
theorem dX1_word_3 : decode cX1_word 3 = .ok (.bipush 24, 2) := dk_16 24 (dk_at dksX1_word_0 3 rfl rfl)
theorem dX1_word_5 : decode cX1_word 5 = .ok (.ishr, 1) := dk_122 (dk_at dksX1_word_0 5 rfl rfl)
theorem dX1_word_6 : decode cX1_word 6 = .ok (.i2b, 1) := dk_145 (dk_at dksX1_word_0 6 rfl rfl)
theorem dX1_word_7 : decode cX1_word 7 = .ok (.bastore, 1) := dk_84 (dk_at dksX1_word_0 7 rfl rfl)
theorem dX1_word_8 : decode cX1_word 8 = .ok (.aload_n 0, 1) := dk_42 (dk_at dksX1_word_0 8 rfl rfl)
theorem dX1_word_9 : decode cX1_word 9 = .ok (.iload_n 1, 1) := dk_27 (dk_at dksX1_word_0 9 rfl rfl)
theorem dX1_word_10 : decode cX1_word 10 = .ok (.iconst 1, 1) := dk_4 (dk_at dksX1_word_0 10 rfl rfl)
theorem dX1_word_11 : decode cX1_word 11 = .ok (.iadd, 1) := dk_96 (dk_at dksX1_word_0 11 rfl rfl)
theorem dX1_word_12 : decode cX1_word 12 = .ok (.iload_n 2, 1) := dk_28 (dk_at dksX1_word_0 12 rfl rfl)
theorem dX1_word_13 : decode cX1_word 13 = .ok (.bipush 16, 2) := dk_16 16 (dk_at dksX1_word_0 13 rfl rfl)
theorem dX1_word_15 : decode cX1_word 15 = .ok (.ishr, 1) := dk_122 (dk_at dksX1_word_0 15 rfl rfl)
theorem dX1_word_16 : decode cX1_word 16 = .ok (.i2b, 1) := dk_145 (dk_at dksX1_word_0 16 rfl rfl)
theorem dX1_word_17 : decode cX1_word 17 = .ok (.bastore, 1) := dk_84 (dk_at dksX1_word_0 17 rfl rfl)
theorem dX1_word_18 : decode cX1_word 18 = .ok (.aload_n 0, 1) := dk_42 (dk_at dksX1_word_0 18 rfl rfl)
theorem dX1_word_19 : decode cX1_word 19 = .ok (.iload_n 1, 1) := dk_27 (dk_at dksX1_word_0 19 rfl rfl)
theorem dX1_word_20 : decode cX1_word 20 = .ok (.iconst 2, 1) := dk_5 (dk_at dksX1_word_0 20 rfl rfl)
theorem dX1_word_21 : decode cX1_word 21 = .ok (.iadd, 1) := dk_96 (dk_at dksX1_word_0 21 rfl rfl)
theorem dX1_word_22 : decode cX1_word 22 = .ok (.iload_n 2, 1) := dk_28 (dk_at dksX1_word_0 22 rfl rfl)
theorem dX1_word_23 : decode cX1_word 23 = .ok (.bipush 8, 2) := dk_16 8 (dk_at dksX1_word_1 0 rfl rfl)
theorem dX1_word_25 : decode cX1_word 25 = .ok (.ishr, 1) := dk_122 (dk_at dksX1_word_1 2 rfl rfl)
theorem dX1_word_26 : decode cX1_word 26 = .ok (.i2b, 1) := dk_145 (dk_at dksX1_word_1 3 rfl rfl)
theorem dX1_word_27 : decode cX1_word 27 = .ok (.bastore, 1) := dk_84 (dk_at dksX1_word_1 4 rfl rfl)
theorem dX1_word_28 : decode cX1_word 28 = .ok (.aload_n 0, 1) := dk_42 (dk_at dksX1_word_1 5 rfl rfl)
theorem dX1_word_29 : decode cX1_word 29 = .ok (.iload_n 1, 1) := dk_27 (dk_at dksX1_word_1 6 rfl rfl)
theorem dX1_word_30 : decode cX1_word 30 = .ok (.iconst 3, 1) := dk_6 (dk_at dksX1_word_1 7 rfl rfl)
theorem dX1_word_31 : decode cX1_word 31 = .ok (.iadd, 1) := dk_96 (dk_at dksX1_word_1 8 rfl rfl)
theorem dX1_word_32 : decode cX1_word 32 = .ok (.iload_n 2, 1) := dk_28 (dk_at dksX1_word_1 9 rfl rfl)
theorem dX1_word_33 : decode cX1_word 33 = .ok (.i2b, 1) := dk_145 (dk_at dksX1_word_1 10 rfl rfl)
theorem dX1_word_34 : decode cX1_word 34 = .ok (.bastore, 1) := dk_84 (dk_at dksX1_word_1 11 rfl rfl)
theorem dX1_word_35 : decode cX1_word 35 = .ok (.return_, 1) := dk_177 (dk_at dksX1_word_1 12 rfl rfl)
abbrev cX1_trim : ByteArray := prog_10_method_4_code
def yX1_trim : MethodName := ⟨RX1, "trim", "(I)V"⟩
def dkwX1_trim_0 : List UInt8 := [42, 42, 27, 182, 0, 37, 181, 0, 29, 177]
abbrev dktX1_trim_0 : List UInt8 := dkwX1_trim_0 ++ []
theorem dksX1_trim_0 : cX1_trim.data.toList.drop 0 = dktX1_trim_0 := by decide +kernel
theorem dX1_trim_0 : decode cX1_trim 0 = .ok (.aload_n 0, 1) := dk_42 (dk_at dksX1_trim_0 0 rfl rfl)
theorem dX1_trim_1 : decode cX1_trim 1 = .ok (.aload_n 0, 1) := dk_42 (dk_at dksX1_trim_0 1 rfl rfl)
theorem dX1_trim_2 : decode cX1_trim 2 = .ok (.iload_n 1, 1) := dk_27 (dk_at dksX1_trim_0 2 rfl rfl)
theorem dX1_trim_3 : decode cX1_trim 3 = .ok (.invokevirtual 37, 3) := dk_182 0 37 (dk_at dksX1_trim_0 3 rfl rfl)
theorem dX1_trim_6 : decode cX1_trim 6 = .ok (.putfield 29, 3) := dk_181 0 29 (dk_at dksX1_trim_0 6 rfl rfl)
theorem dX1_trim_9 : decode cX1_trim 9 = .ok (.return_, 1) := dk_177 (dk_at dksX1_trim_0 9 rfl rfl)
abbrev cX1_key : ByteArray := prog_10_method_7_code
def yX1_key : MethodName := ⟨RX1, "key", "(IIIII)V"⟩
def dkwX1_key_2 : List UInt8 := [21, 6, 16, 12, 96, 21, 5, 184, 0, 33, 177]
abbrev dktX1_key_2 : List UInt8 := dkwX1_key_2 ++ []
def dkwX1_key_1 : List UInt8 := [96, 29, 184, 0, 33, 42, 180, 0, 16, 21, 6, 16, 8, 96, 21, 4, 184, 0, 33, 42, 180, 0, 16]
abbrev dktX1_key_1 : List UInt8 := dkwX1_key_1 ++ dktX1_key_2
def dkwX1_key_0 : List UInt8 := [27, 4, 126, 7, 120, 54, 6, 42, 180, 0, 16, 21, 6, 28, 184, 0, 33, 42, 180, 0, 16, 21, 6, 7]
abbrev dktX1_key_0 : List UInt8 := dkwX1_key_0 ++ dktX1_key_1
theorem dksX1_key_0 : cX1_key.data.toList.drop 0 = dktX1_key_0 := by decide +kernel
theorem dksX1_key_1 : cX1_key.data.toList.drop 24 = dktX1_key_1 := dk_seg dksX1_key_0 24 rfl rfl
theorem dksX1_key_2 : cX1_key.data.toList.drop 47 = dktX1_key_2 := dk_seg dksX1_key_1 23 rfl rfl
theorem dX1_key_0 : decode cX1_key 0 = .ok (.iload_n 1, 1) := dk_27 (dk_at dksX1_key_0 0 rfl rfl)
theorem dX1_key_1 : decode cX1_key 1 = .ok (.iconst 1, 1) := dk_4 (dk_at dksX1_key_0 1 rfl rfl)
theorem dX1_key_2 : decode cX1_key 2 = .ok (.iand, 1) := dk_126 (dk_at dksX1_key_0 2 rfl rfl)
theorem dX1_key_3 : decode cX1_key 3 = .ok (.iconst 4, 1) := dk_7 (dk_at dksX1_key_0 3 rfl rfl)
theorem dX1_key_4 : decode cX1_key 4 = .ok (.ishl, 1) := dk_120 (dk_at dksX1_key_0 4 rfl rfl)
theorem dX1_key_5 : decode cX1_key 5 = .ok (.istore 6, 2) := dk_54 6 (dk_at dksX1_key_0 5 rfl rfl)
theorem dX1_key_7 : decode cX1_key 7 = .ok (.aload_n 0, 1) := dk_42 (dk_at dksX1_key_0 7 rfl rfl)
theorem dX1_key_8 : decode cX1_key 8 = .ok (.getfield 16, 3) := dk_180 0 16 (dk_at dksX1_key_0 8 rfl rfl)
theorem dX1_key_11 : decode cX1_key 11 = .ok (.iload 6, 2) := dk_21 6 (dk_at dksX1_key_0 11 rfl rfl)
theorem dX1_key_13 : decode cX1_key 13 = .ok (.iload_n 2, 1) := dk_28 (dk_at dksX1_key_0 13 rfl rfl)
theorem dX1_key_14 : decode cX1_key 14 = .ok (.invokestatic 33, 3) := dk_184 0 33 (dk_at dksX1_key_0 14 rfl rfl)
theorem dX1_key_17 : decode cX1_key 17 = .ok (.aload_n 0, 1) := dk_42 (dk_at dksX1_key_0 17 rfl rfl)
theorem dX1_key_18 : decode cX1_key 18 = .ok (.getfield 16, 3) := dk_180 0 16 (dk_at dksX1_key_0 18 rfl rfl)
theorem dX1_key_21 : decode cX1_key 21 = .ok (.iload 6, 2) := dk_21 6 (dk_at dksX1_key_0 21 rfl rfl)
theorem dX1_key_23 : decode cX1_key 23 = .ok (.iconst 4, 1) := dk_7 (dk_at dksX1_key_0 23 rfl rfl)
theorem dX1_key_24 : decode cX1_key 24 = .ok (.iadd, 1) := dk_96 (dk_at dksX1_key_1 0 rfl rfl)
theorem dX1_key_25 : decode cX1_key 25 = .ok (.iload_n 3, 1) := dk_29 (dk_at dksX1_key_1 1 rfl rfl)
theorem dX1_key_26 : decode cX1_key 26 = .ok (.invokestatic 33, 3) := dk_184 0 33 (dk_at dksX1_key_1 2 rfl rfl)
theorem dX1_key_29 : decode cX1_key 29 = .ok (.aload_n 0, 1) := dk_42 (dk_at dksX1_key_1 5 rfl rfl)
theorem dX1_key_30 : decode cX1_key 30 = .ok (.getfield 16, 3) := dk_180 0 16 (dk_at dksX1_key_1 6 rfl rfl)
theorem dX1_key_33 : decode cX1_key 33 = .ok (.iload 6, 2) := dk_21 6 (dk_at dksX1_key_1 9 rfl rfl)
theorem dX1_key_35 : decode cX1_key 35 = .ok (.bipush 8, 2) := dk_16 8 (dk_at dksX1_key_1 11 rfl rfl)
theorem dX1_key_37 : decode cX1_key 37 = .ok (.iadd, 1) := dk_96 (dk_at dksX1_key_1 13 rfl rfl)
theorem dX1_key_38 : decode cX1_key 38 = .ok (.iload 4, 2) := dk_21 4 (dk_at dksX1_key_1 14 rfl rfl)
theorem dX1_key_40 : decode cX1_key 40 = .ok (.invokestatic 33, 3) := dk_184 0 33 (dk_at dksX1_key_1 16 rfl rfl)
theorem dX1_key_43 : decode cX1_key 43 = .ok (.aload_n 0, 1) := dk_42 (dk_at dksX1_key_1 19 rfl rfl)
theorem dX1_key_44 : decode cX1_key 44 = .ok (.getfield 16, 3) := dk_180 0 16 (dk_at dksX1_key_1 20 rfl rfl)
theorem dX1_key_47 : decode cX1_key 47 = .ok (.iload 6, 2) := dk_21 6 (dk_at dksX1_key_2 0 rfl rfl)
theorem dX1_key_49 : decode cX1_key 49 = .ok (.bipush 12, 2) := dk_16 12 (dk_at dksX1_key_2 2 rfl rfl)
theorem dX1_key_51 : decode cX1_key 51 = .ok (.iadd, 1) := dk_96 (dk_at dksX1_key_2 4 rfl rfl)
theorem dX1_key_52 : decode cX1_key 52 = .ok (.iload 5, 2) := dk_21 5 (dk_at dksX1_key_2 5 rfl rfl)
theorem dX1_key_54 : decode cX1_key 54 = .ok (.invokestatic 33, 3) := dk_184 0 33 (dk_at dksX1_key_2 7 rfl rfl)
theorem dX1_key_57 : decode cX1_key 57 = .ok (.return_, 1) := dk_177 (dk_at dksX1_key_2 10 rfl rfl)
abbrev cX1_nonce : ByteArray := prog_10_method_8_code
def yX1_nonce : MethodName := ⟨RX1, "nonce", "(IIII)V"⟩
def dkwX1_nonce_1 : List UInt8 := [29, 184, 0, 33, 42, 180, 0, 20, 16, 12, 21, 4, 184, 0, 33, 177]
abbrev dktX1_nonce_1 : List UInt8 := dkwX1_nonce_1 ++ []
def dkwX1_nonce_0 : List UInt8 := [42, 180, 0, 20, 3, 27, 184, 0, 33, 42, 180, 0, 20, 7, 28, 184, 0, 33, 42, 180, 0, 20, 16, 8]
abbrev dktX1_nonce_0 : List UInt8 := dkwX1_nonce_0 ++ dktX1_nonce_1
theorem dksX1_nonce_0 : cX1_nonce.data.toList.drop 0 = dktX1_nonce_0 := by decide +kernel
theorem dksX1_nonce_1 : cX1_nonce.data.toList.drop 24 = dktX1_nonce_1 := dk_seg dksX1_nonce_0 24 rfl rfl
theorem dX1_nonce_0 : decode cX1_nonce 0 = .ok (.aload_n 0, 1) := dk_42 (dk_at dksX1_nonce_0 0 rfl rfl)
theorem dX1_nonce_1 : decode cX1_nonce 1 = .ok (.getfield 20, 3) := dk_180 0 20 (dk_at dksX1_nonce_0 1 rfl rfl)
theorem dX1_nonce_4 : decode cX1_nonce 4 = .ok (.iconst 0, 1) := dk_3 (dk_at dksX1_nonce_0 4 rfl rfl)
theorem dX1_nonce_5 : decode cX1_nonce 5 = .ok (.iload_n 1, 1) := dk_27 (dk_at dksX1_nonce_0 5 rfl rfl)
theorem dX1_nonce_6 : decode cX1_nonce 6 = .ok (.invokestatic 33, 3) := dk_184 0 33 (dk_at dksX1_nonce_0 6 rfl rfl)
theorem dX1_nonce_9 : decode cX1_nonce 9 = .ok (.aload_n 0, 1) := dk_42 (dk_at dksX1_nonce_0 9 rfl rfl)
theorem dX1_nonce_10 : decode cX1_nonce 10 = .ok (.getfield 20, 3) := dk_180 0 20 (dk_at dksX1_nonce_0 10 rfl rfl)
theorem dX1_nonce_13 : decode cX1_nonce 13 = .ok (.iconst 4, 1) := dk_7 (dk_at dksX1_nonce_0 13 rfl rfl)
theorem dX1_nonce_14 : decode cX1_nonce 14 = .ok (.iload_n 2, 1) := dk_28 (dk_at dksX1_nonce_0 14 rfl rfl)
theorem dX1_nonce_15 : decode cX1_nonce 15 = .ok (.invokestatic 33, 3) := dk_184 0 33 (dk_at dksX1_nonce_0 15 rfl rfl)
theorem dX1_nonce_18 : decode cX1_nonce 18 = .ok (.aload_n 0, 1) := dk_42 (dk_at dksX1_nonce_0 18 rfl rfl)
theorem dX1_nonce_19 : decode cX1_nonce 19 = .ok (.getfield 20, 3) := dk_180 0 20 (dk_at dksX1_nonce_0 19 rfl rfl)
theorem dX1_nonce_22 : decode cX1_nonce 22 = .ok (.bipush 8, 2) := dk_16 8 (dk_at dksX1_nonce_0 22 rfl rfl)
theorem dX1_nonce_24 : decode cX1_nonce 24 = .ok (.iload_n 3, 1) := dk_29 (dk_at dksX1_nonce_1 0 rfl rfl)
theorem dX1_nonce_25 : decode cX1_nonce 25 = .ok (.invokestatic 33, 3) := dk_184 0 33 (dk_at dksX1_nonce_1 1 rfl rfl)
theorem dX1_nonce_28 : decode cX1_nonce 28 = .ok (.aload_n 0, 1) := dk_42 (dk_at dksX1_nonce_1 4 rfl rfl)
theorem dX1_nonce_29 : decode cX1_nonce 29 = .ok (.getfield 20, 3) := dk_180 0 20 (dk_at dksX1_nonce_1 5 rfl rfl)
theorem dX1_nonce_32 : decode cX1_nonce 32 = .ok (.bipush 12, 2) := dk_16 12 (dk_at dksX1_nonce_1 8 rfl rfl)
theorem dX1_nonce_34 : decode cX1_nonce 34 = .ok (.iload 4, 2) := dk_21 4 (dk_at dksX1_nonce_1 10 rfl rfl)
theorem dX1_nonce_36 : decode cX1_nonce 36 = .ok (.invokestatic 33, 3) := dk_184 0 33 (dk_at dksX1_nonce_1 12 rfl rfl)
theorem dX1_nonce_39 : decode cX1_nonce 39 = .ok (.return_, 1) := dk_177 (dk_at dksX1_nonce_1 15 rfl rfl)
abbrev cX1_begin : ByteArray := prog_10_method_9_code
def yX1_begin : MethodName := ⟨RX1, "begin", "(I)V"⟩
def dkwX1_begin_4 : List UInt8 := [4, 25, 4, 182, 0, 52, 42, 4, 181, 0, 56, 42, 3, 181, 0, 60, 177]
abbrev dktX1_begin_4 : List UInt8 := dkwX1_begin_4 ++ []
def dkwX1_begin_3 : List UInt8 := [183, 0, 46, 45, 183, 0, 49, 58, 4, 42, 187, 0, 7, 89, 183, 0, 9, 181, 0, 10, 42, 180, 0, 10]
abbrev dktX1_begin_3 : List UInt8 := dkwX1_begin_3 ++ dktX1_begin_4
def dkwX1_begin_2 : List UInt8 := [42, 180, 0, 20, 21, 4, 51, 84, 132, 4, 1, 167, 255, 235, 187, 0, 42, 89, 187, 0, 44, 89, 44]
abbrev dktX1_begin_2 : List UInt8 := dkwX1_begin_2 ++ dktX1_begin_3
def dkwX1_begin_1 : List UInt8 := [132, 3, 1, 167, 255, 238, 16, 16, 188, 8, 78, 3, 54, 4, 21, 4, 16, 16, 162, 0, 20, 45, 21, 4]
abbrev dktX1_begin_1 : List UInt8 := dkwX1_begin_1 ++ dktX1_begin_2
def dkwX1_begin_0 : List UInt8 := [16, 16, 188, 8, 77, 3, 62, 29, 44, 190, 162, 0, 18, 44, 29, 42, 180, 0, 16, 29, 51, 84]
abbrev dktX1_begin_0 : List UInt8 := dkwX1_begin_0 ++ dktX1_begin_1
theorem dksX1_begin_0 : cX1_begin.data.toList.drop 0 = dktX1_begin_0 := by decide +kernel
theorem dksX1_begin_1 : cX1_begin.data.toList.drop 22 = dktX1_begin_1 := dk_seg dksX1_begin_0 22 rfl rfl
theorem dksX1_begin_2 : cX1_begin.data.toList.drop 46 = dktX1_begin_2 := dk_seg dksX1_begin_1 24 rfl rfl
theorem dksX1_begin_3 : cX1_begin.data.toList.drop 69 = dktX1_begin_3 := dk_seg dksX1_begin_2 23 rfl rfl
theorem dksX1_begin_4 : cX1_begin.data.toList.drop 93 = dktX1_begin_4 := dk_seg dksX1_begin_3 24 rfl rfl
theorem dX1_begin_0 : decode cX1_begin 0 = .ok (.bipush 16, 2) := dk_16 16 (dk_at dksX1_begin_0 0 rfl rfl)
theorem dX1_begin_2 : decode cX1_begin 2 = .ok (.newarray .byte, 2) := dk_188_8 (dk_at dksX1_begin_0 2 rfl rfl)
theorem dX1_begin_4 : decode cX1_begin 4 = .ok (.astore_n 2, 1) := dk_77 (dk_at dksX1_begin_0 4 rfl rfl)
theorem dX1_begin_5 : decode cX1_begin 5 = .ok (.iconst 0, 1) := dk_3 (dk_at dksX1_begin_0 5 rfl rfl)
theorem dX1_begin_6 : decode cX1_begin 6 = .ok (.istore_n 3, 1) := dk_62 (dk_at dksX1_begin_0 6 rfl rfl)
theorem dX1_begin_7 : decode cX1_begin 7 = .ok (.iload_n 3, 1) := dk_29 (dk_at dksX1_begin_0 7 rfl rfl)
theorem dX1_begin_8 : decode cX1_begin 8 = .ok (.aload_n 2, 1) := dk_44 (dk_at dksX1_begin_0 8 rfl rfl)
theorem dX1_begin_9 : decode cX1_begin 9 = .ok (.arraylength, 1) := dk_190 (dk_at dksX1_begin_0 9 rfl rfl)
theorem dX1_begin_10 : decode cX1_begin 10 = .ok (.if_icmp .ge 18, 3) := dk_162 0 18 (dk_at dksX1_begin_0 10 rfl rfl)
theorem dX1_begin_13 : decode cX1_begin 13 = .ok (.aload_n 2, 1) := dk_44 (dk_at dksX1_begin_0 13 rfl rfl)
theorem dX1_begin_14 : decode cX1_begin 14 = .ok (.iload_n 3, 1) := dk_29 (dk_at dksX1_begin_0 14 rfl rfl)
theorem dX1_begin_15 : decode cX1_begin 15 = .ok (.aload_n 0, 1) := dk_42 (dk_at dksX1_begin_0 15 rfl rfl)
theorem dX1_begin_16 : decode cX1_begin 16 = .ok (.getfield 16, 3) := dk_180 0 16 (dk_at dksX1_begin_0 16 rfl rfl)
theorem dX1_begin_19 : decode cX1_begin 19 = .ok (.iload_n 3, 1) := dk_29 (dk_at dksX1_begin_0 19 rfl rfl)
theorem dX1_begin_20 : decode cX1_begin 20 = .ok (.baload, 1) := dk_51 (dk_at dksX1_begin_0 20 rfl rfl)
theorem dX1_begin_21 : decode cX1_begin 21 = .ok (.bastore, 1) := dk_84 (dk_at dksX1_begin_0 21 rfl rfl)
theorem dX1_begin_22 : decode cX1_begin 22 = .ok (.iinc 3 1, 3) := dk_132 3 1 (dk_at dksX1_begin_1 0 rfl rfl)
theorem dX1_begin_25 : decode cX1_begin 25 = .ok (.goto (-18), 3) := dk_167 255 238 (dk_at dksX1_begin_1 3 rfl rfl)
theorem dX1_begin_28 : decode cX1_begin 28 = .ok (.bipush 16, 2) := dk_16 16 (dk_at dksX1_begin_1 6 rfl rfl)
theorem dX1_begin_30 : decode cX1_begin 30 = .ok (.newarray .byte, 2) := dk_188_8 (dk_at dksX1_begin_1 8 rfl rfl)
theorem dX1_begin_32 : decode cX1_begin 32 = .ok (.astore_n 3, 1) := dk_78 (dk_at dksX1_begin_1 10 rfl rfl)
theorem dX1_begin_33 : decode cX1_begin 33 = .ok (.iconst 0, 1) := dk_3 (dk_at dksX1_begin_1 11 rfl rfl)
theorem dX1_begin_34 : decode cX1_begin 34 = .ok (.istore 4, 2) := dk_54 4 (dk_at dksX1_begin_1 12 rfl rfl)
theorem dX1_begin_36 : decode cX1_begin 36 = .ok (.iload 4, 2) := dk_21 4 (dk_at dksX1_begin_1 14 rfl rfl)
theorem dX1_begin_38 : decode cX1_begin 38 = .ok (.bipush 16, 2) := dk_16 16 (dk_at dksX1_begin_1 16 rfl rfl)
theorem dX1_begin_40 : decode cX1_begin 40 = .ok (.if_icmp .ge 20, 3) := dk_162 0 20 (dk_at dksX1_begin_1 18 rfl rfl)
theorem dX1_begin_43 : decode cX1_begin 43 = .ok (.aload_n 3, 1) := dk_45 (dk_at dksX1_begin_1 21 rfl rfl)
theorem dX1_begin_44 : decode cX1_begin 44 = .ok (.iload 4, 2) := dk_21 4 (dk_at dksX1_begin_1 22 rfl rfl)
theorem dX1_begin_46 : decode cX1_begin 46 = .ok (.aload_n 0, 1) := dk_42 (dk_at dksX1_begin_2 0 rfl rfl)
theorem dX1_begin_47 : decode cX1_begin 47 = .ok (.getfield 20, 3) := dk_180 0 20 (dk_at dksX1_begin_2 1 rfl rfl)
theorem dX1_begin_50 : decode cX1_begin 50 = .ok (.iload 4, 2) := dk_21 4 (dk_at dksX1_begin_2 4 rfl rfl)
theorem dX1_begin_52 : decode cX1_begin 52 = .ok (.baload, 1) := dk_51 (dk_at dksX1_begin_2 6 rfl rfl)
theorem dX1_begin_53 : decode cX1_begin 53 = .ok (.bastore, 1) := dk_84 (dk_at dksX1_begin_2 7 rfl rfl)
theorem dX1_begin_54 : decode cX1_begin 54 = .ok (.iinc 4 1, 3) := dk_132 4 1 (dk_at dksX1_begin_2 8 rfl rfl)
theorem dX1_begin_57 : decode cX1_begin 57 = .ok (.goto (-21), 3) := dk_167 255 235 (dk_at dksX1_begin_2 11 rfl rfl)
theorem dX1_begin_60 : decode cX1_begin 60 = .ok (.new 42, 3) := dk_187 0 42 (dk_at dksX1_begin_2 14 rfl rfl)
theorem dX1_begin_63 : decode cX1_begin 63 = .ok (.dup, 1) := dk_89 (dk_at dksX1_begin_2 17 rfl rfl)
theorem dX1_begin_64 : decode cX1_begin 64 = .ok (.new 44, 3) := dk_187 0 44 (dk_at dksX1_begin_2 18 rfl rfl)
theorem dX1_begin_67 : decode cX1_begin 67 = .ok (.dup, 1) := dk_89 (dk_at dksX1_begin_2 21 rfl rfl)
theorem dX1_begin_68 : decode cX1_begin 68 = .ok (.aload_n 2, 1) := dk_44 (dk_at dksX1_begin_2 22 rfl rfl)
theorem dX1_begin_69 : decode cX1_begin 69 = .ok (.invokespecial 46, 3) := dk_183 0 46 (dk_at dksX1_begin_3 0 rfl rfl)
theorem dX1_begin_72 : decode cX1_begin 72 = .ok (.aload_n 3, 1) := dk_45 (dk_at dksX1_begin_3 3 rfl rfl)
theorem dX1_begin_73 : decode cX1_begin 73 = .ok (.invokespecial 49, 3) := dk_183 0 49 (dk_at dksX1_begin_3 4 rfl rfl)
theorem dX1_begin_76 : decode cX1_begin 76 = .ok (.astore 4, 2) := dk_58 4 (dk_at dksX1_begin_3 7 rfl rfl)
theorem dX1_begin_78 : decode cX1_begin 78 = .ok (.aload_n 0, 1) := dk_42 (dk_at dksX1_begin_3 9 rfl rfl)
theorem dX1_begin_79 : decode cX1_begin 79 = .ok (.new 7, 3) := dk_187 0 7 (dk_at dksX1_begin_3 10 rfl rfl)
theorem dX1_begin_82 : decode cX1_begin 82 = .ok (.dup, 1) := dk_89 (dk_at dksX1_begin_3 13 rfl rfl)
theorem dX1_begin_83 : decode cX1_begin 83 = .ok (.invokespecial 9, 3) := dk_183 0 9 (dk_at dksX1_begin_3 14 rfl rfl)
theorem dX1_begin_86 : decode cX1_begin 86 = .ok (.putfield 10, 3) := dk_181 0 10 (dk_at dksX1_begin_3 17 rfl rfl)
theorem dX1_begin_89 : decode cX1_begin 89 = .ok (.aload_n 0, 1) := dk_42 (dk_at dksX1_begin_3 20 rfl rfl)
theorem dX1_begin_90 : decode cX1_begin 90 = .ok (.getfield 10, 3) := dk_180 0 10 (dk_at dksX1_begin_3 21 rfl rfl)
theorem dX1_begin_93 : decode cX1_begin 93 = .ok (.iconst 1, 1) := dk_4 (dk_at dksX1_begin_4 0 rfl rfl)
theorem dX1_begin_94 : decode cX1_begin 94 = .ok (.aload 4, 2) := dk_25 4 (dk_at dksX1_begin_4 1 rfl rfl)
theorem dX1_begin_96 : decode cX1_begin 96 = .ok (.invokevirtual 52, 3) := dk_182 0 52 (dk_at dksX1_begin_4 3 rfl rfl)
theorem dX1_begin_99 : decode cX1_begin 99 = .ok (.aload_n 0, 1) := dk_42 (dk_at dksX1_begin_4 6 rfl rfl)
theorem dX1_begin_100 : decode cX1_begin 100 = .ok (.iconst 1, 1) := dk_4 (dk_at dksX1_begin_4 7 rfl rfl)
theorem dX1_begin_101 : decode cX1_begin 101 = .ok (.putfield 56, 3) := dk_181 0 56 (dk_at dksX1_begin_4 8 rfl rfl)
theorem dX1_begin_104 : decode cX1_begin 104 = .ok (.aload_n 0, 1) := dk_42 (dk_at dksX1_begin_4 11 rfl rfl)
theorem dX1_begin_105 : decode cX1_begin 105 = .ok (.iconst 0, 1) := dk_3 (dk_at dksX1_begin_4 12 rfl rfl)
theorem dX1_begin_106 : decode cX1_begin 106 = .ok (.putfield 60, 3) := dk_181 0 60 (dk_at dksX1_begin_4 13 rfl rfl)
theorem dX1_begin_109 : decode cX1_begin 109 = .ok (.return_, 1) := dk_177 (dk_at dksX1_begin_4 16 rfl rfl)
theorem q10 : (Jvm.Cond.initialized "ZucDesk") ∈ lw_all := lw_g (lw_at lw_m1 1 rfl) rfl
theorem q25 : (Jvm.Cond.instanceMethod ({ cls := "ZucDesk", name := "run", desc := "(II)I" } : Jvm.MethodName)) ∈ lw_all := lw_g (lw_at lw_m1 16 rfl) rfl
theorem q26 : (Jvm.Cond.selects "ZucDesk" ({ cls := "ZucDesk", name := "run", desc := "(II)I" } : Jvm.MethodName) ({ cls := "ZucDesk", name := "run", desc := "(II)I" } : Jvm.MethodName)) ∈ lw_all := lw_g (lw_at lw_m1 17 rfl) rfl
theorem q27 : (Jvm.Cond.code ({ cls := "ZucDesk", name := "run", desc := "(II)I" } : Jvm.MethodName) prog_10_method_10_code (6 : Nat) (Option.some Jvm.ClassFile.FieldType.int)) ∈ lw_all := lw_g (lw_at lw_m1 18 rfl) rfl
theorem q28 : (Jvm.Cond.methodLink "ZucDesk" (37 : Nat) ({ cls := "ZucDesk", name := "from", desc := "(I)I" } : Jvm.MethodName)) ∈ lw_all := lw_g (lw_at lw_m1 19 rfl) rfl
theorem q29 : (Jvm.Cond.privateMethod ({ cls := "ZucDesk", name := "from", desc := "(I)I" } : Jvm.MethodName)) ∈ lw_tbl := lw_at lw_m1 20 rfl
theorem q30 : (Jvm.Cond.instanceMethod ({ cls := "ZucDesk", name := "from", desc := "(I)I" } : Jvm.MethodName)) ∈ lw_all := lw_g (lw_at lw_m1 21 rfl) rfl
theorem q31 : (Jvm.Cond.instantiable "ZucDesk" (8 : Nat)) ∈ lw_all := lw_g (lw_at lw_m1 22 rfl) rfl
theorem q32 : (Jvm.Cond.code ({ cls := "ZucDesk", name := "from", desc := "(I)I" } : Jvm.MethodName) prog_10_method_5_code (2 : Nat) (Option.some Jvm.ClassFile.FieldType.int)) ∈ lw_all := lw_g (lw_at lw_m1 23 rfl) rfl
theorem q33 : (Jvm.Cond.constant "ZucDesk" (41 : Nat) (2147483647 : Int32)) ∈ lw_all := lw_g (lw_at lw_m1 24 rfl) rfl
theorem q34 : (Jvm.Cond.methodLink "ZucDesk" (63 : Nat) ({ cls := "ZucDesk", name := "count", desc := "(II)I" } : Jvm.MethodName)) ∈ lw_all := lw_g (lw_at lw_m1 25 rfl) rfl
theorem q35 : (Jvm.Cond.privateMethod ({ cls := "ZucDesk", name := "count", desc := "(II)I" } : Jvm.MethodName)) ∈ lw_tbl := lw_at lw_m1 26 rfl
theorem q36 : (Jvm.Cond.instanceMethod ({ cls := "ZucDesk", name := "count", desc := "(II)I" } : Jvm.MethodName)) ∈ lw_all := lw_g (lw_at lw_m1 27 rfl) rfl
theorem q37 : (Jvm.Cond.code ({ cls := "ZucDesk", name := "count", desc := "(II)I" } : Jvm.MethodName) prog_10_method_6_code (3 : Nat) (Option.some Jvm.ClassFile.FieldType.int)) ∈ lw_all := lw_g (lw_at lw_m1 28 rfl) rfl
theorem q38 : (Jvm.Cond.methodLink "ZucDesk" (67 : Nat) ({ cls := "Zuc128Engine", name := "processBytes", desc := "([BII[BI)I" } : Jvm.MethodName)) ∈ lw_all := lw_g (lw_at lw_m1 29 rfl) rfl
theorem q220 : (Jvm.Cond.instanceMethod ({ cls := "ZucDesk", name := "one", desc := "(I)I" } : Jvm.MethodName)) ∈ lw_all := lw_g (lw_at lw_m1 211 rfl) rfl
theorem q221 : (Jvm.Cond.selects "ZucDesk" ({ cls := "ZucDesk", name := "one", desc := "(I)I" } : Jvm.MethodName) ({ cls := "ZucDesk", name := "one", desc := "(I)I" } : Jvm.MethodName)) ∈ lw_all := lw_g (lw_at lw_m1 212 rfl) rfl
theorem q222 : (Jvm.Cond.code ({ cls := "ZucDesk", name := "one", desc := "(I)I" } : Jvm.MethodName) prog_10_method_11_code (2 : Nat) (Option.some Jvm.ClassFile.FieldType.int)) ∈ lw_all := lw_g (lw_at lw_m1 213 rfl) rfl
theorem q223 : (Jvm.Cond.methodLink "ZucDesk" (71 : Nat) ({ cls := "Zuc128Engine", name := "returnByte", desc := "(B)B" } : Jvm.MethodName)) ∈ lw_all := lw_g (lw_at lw_m1 214 rfl) rfl
theorem q228 : (Jvm.Cond.instanceMethod ({ cls := "ZucDesk", name := "again", desc := "()V" } : Jvm.MethodName)) ∈ lw_all := lw_g (lw_at lw_m1 219 rfl) rfl
theorem q229 : (Jvm.Cond.selects "ZucDesk" ({ cls := "ZucDesk", name := "again", desc := "()V" } : Jvm.MethodName) ({ cls := "ZucDesk", name := "again", desc := "()V" } : Jvm.MethodName)) ∈ lw_all := lw_g (lw_at lw_m1 220 rfl) rfl
theorem q230 : (Jvm.Cond.code ({ cls := "ZucDesk", name := "again", desc := "()V" } : Jvm.MethodName) prog_10_method_12_code (1 : Nat) (Option.none : Option Jvm.ClassFile.FieldType)) ∈ lw_all := lw_g (lw_at lw_m1 221 rfl) rfl
theorem q231 : (Jvm.Cond.methodLink "ZucDesk" (75 : Nat) ({ cls := "Zuc128Engine", name := "reset", desc := "()V" } : Jvm.MethodName)) ∈ lw_all := lw_g (lw_at lw_m1 222 rfl) rfl
theorem q248 : (Jvm.Cond.instanceMethod ({ cls := "ZucDesk", name := "out", desc := "(I)I" } : Jvm.MethodName)) ∈ lw_all := lw_g (lw_at lw_m1 239 rfl) rfl
theorem q249 : (Jvm.Cond.selects "ZucDesk" ({ cls := "ZucDesk", name := "out", desc := "(I)I" } : Jvm.MethodName) ({ cls := "ZucDesk", name := "out", desc := "(I)I" } : Jvm.MethodName)) ∈ lw_all := lw_g (lw_at lw_m2 0 rfl) rfl
theorem q250 : (Jvm.Cond.code ({ cls := "ZucDesk", name := "out", desc := "(I)I" } : Jvm.MethodName) prog_10_method_13_code (2 : Nat) (Option.some Jvm.ClassFile.FieldType.int)) ∈ lw_all := lw_g (lw_at lw_m2 1 rfl) rfl
theorem q259 : (Jvm.Cond.instanceMethod ({ cls := "ZucDesk", name := "<init>", desc := "()V" } : Jvm.MethodName)) ∈ lw_all := lw_g (lw_at lw_m2 10 rfl) rfl
theorem q260 : (Jvm.Cond.code ({ cls := "ZucDesk", name := "<init>", desc := "()V" } : Jvm.MethodName) prog_10_method_1_code (1 : Nat) (Option.none : Option Jvm.ClassFile.FieldType)) ∈ lw_all := lw_g (lw_at lw_m2 11 rfl) rfl
theorem q261 : (Jvm.Cond.methodLink "ZucDesk" (1 : Nat) ({ cls := "java/lang/Object", name := "<init>", desc := "()V" } : Jvm.MethodName)) ∈ lw_all := lw_g (lw_at lw_m2 12 rfl) rfl
theorem q262 : (Jvm.Cond.classLink "ZucDesk" (7 : Nat) "Zuc128Engine") ∈ lw_all := lw_g (lw_at lw_m2 13 rfl) rfl
theorem q264 : (Jvm.Cond.methodLink "ZucDesk" (9 : Nat) ({ cls := "Zuc128Engine", name := "<init>", desc := "()V" } : Jvm.MethodName)) ∈ lw_all := lw_g (lw_at lw_m2 15 rfl) rfl
theorem q294 : (Jvm.Cond.fieldLink "ZucDesk" (10 : Nat) "ZucDesk" "run" "LZuc128Engine;") ∈ lw_all := lw_g (lw_at lw_m2 45 rfl) rfl
theorem q295 : (Jvm.Cond.fieldLink "ZucDesk" (56 : Nat) "ZucDesk" "set" "Z") ∈ lw_all := lw_g (lw_at lw_m2 46 rfl) rfl
theorem q296 : (Jvm.Cond.fieldLink "ZucDesk" (60 : Nat) "ZucDesk" "given" "I") ∈ lw_all := lw_g (lw_at lw_m2 47 rfl) rfl
theorem q297 : (Jvm.Cond.fieldLink "ZucDesk" (16 : Nat) "ZucDesk" "key" "[B") ∈ lw_all := lw_g (lw_at lw_m2 48 rfl) rfl
theorem q298 : (Jvm.Cond.fieldLink "ZucDesk" (20 : Nat) "ZucDesk" "nonce" "[B") ∈ lw_all := lw_g (lw_at lw_m2 49 rfl) rfl
theorem q299 : (Jvm.Cond.fieldLink "ZucDesk" (23 : Nat) "ZucDesk" "text" "[B") ∈ lw_all := lw_g (lw_at lw_m2 50 rfl) rfl
theorem q300 : (Jvm.Cond.fieldLink "ZucDesk" (29 : Nat) "ZucDesk" "size" "I") ∈ lw_all := lw_g (lw_at lw_m2 51 rfl) rfl
theorem q301 : (Jvm.Cond.fieldLink "ZucDesk" (26 : Nat) "ZucDesk" "out" "[B") ∈ lw_all := lw_g (lw_at lw_m2 52 rfl) rfl
theorem q302 : (Jvm.Cond.lays "ZucDesk" "ZucDesk" "run" "LZuc128Engine;") ∈ lw_all := lw_g (lw_at lw_m2 53 rfl) rfl
theorem q303 : (Jvm.Cond.soleField "ZucDesk" "run") ∈ lw_all := lw_g (lw_at lw_m2 54 rfl) rfl
theorem q304 : (Jvm.Cond.lays "ZucDesk" "ZucDesk" "set" "Z") ∈ lw_all := lw_g (lw_at lw_m2 55 rfl) rfl
theorem q305 : (Jvm.Cond.soleField "ZucDesk" "set") ∈ lw_all := lw_g (lw_at lw_m2 56 rfl) rfl
theorem q306 : (Jvm.Cond.lays "ZucDesk" "ZucDesk" "given" "I") ∈ lw_all := lw_g (lw_at lw_m2 57 rfl) rfl
theorem q307 : (Jvm.Cond.soleField "ZucDesk" "given") ∈ lw_all := lw_g (lw_at lw_m2 58 rfl) rfl
theorem q308 : (Jvm.Cond.laysFinal "ZucDesk" "ZucDesk" "key" "[B") ∈ lw_all := lw_g (lw_at lw_m2 59 rfl) rfl
theorem q309 : (Jvm.Cond.soleField "ZucDesk" "key") ∈ lw_all := lw_g (lw_at lw_m2 60 rfl) rfl
theorem q310 : (Jvm.Cond.laysFinal "ZucDesk" "ZucDesk" "nonce" "[B") ∈ lw_all := lw_g (lw_at lw_m2 61 rfl) rfl
theorem q311 : (Jvm.Cond.soleField "ZucDesk" "nonce") ∈ lw_all := lw_g (lw_at lw_m2 62 rfl) rfl
theorem q312 : (Jvm.Cond.laysFinal "ZucDesk" "ZucDesk" "text" "[B") ∈ lw_all := lw_g (lw_at lw_m2 63 rfl) rfl
theorem q313 : (Jvm.Cond.soleField "ZucDesk" "text") ∈ lw_all := lw_g (lw_at lw_m2 64 rfl) rfl
theorem q314 : (Jvm.Cond.lays "ZucDesk" "ZucDesk" "size" "I") ∈ lw_all := lw_g (lw_at lw_m2 65 rfl) rfl
theorem q315 : (Jvm.Cond.soleField "ZucDesk" "size") ∈ lw_all := lw_g (lw_at lw_m2 66 rfl) rfl
theorem q316 : (Jvm.Cond.lays "ZucDesk" "ZucDesk" "out" "[B") ∈ lw_all := lw_g (lw_at lw_m2 67 rfl) rfl
theorem q317 : (Jvm.Cond.soleField "ZucDesk" "out") ∈ lw_all := lw_g (lw_at lw_m2 68 rfl) rfl
theorem q318 : (Jvm.Cond.superclass "ZucDesk" "java/lang/Object") ∈ lw_all := lw_g (lw_at lw_m2 69 rfl) rfl
theorem q320 : (Jvm.Cond.instanceMethod ({ cls := "ZucDesk", name := "put", desc := "(IIII)Z" } : Jvm.MethodName)) ∈ lw_all := lw_g (lw_at lw_m2 71 rfl) rfl
theorem q321 : (Jvm.Cond.selects "ZucDesk" ({ cls := "ZucDesk", name := "put", desc := "(IIII)Z" } : Jvm.MethodName) ({ cls := "ZucDesk", name := "put", desc := "(IIII)Z" } : Jvm.MethodName)) ∈ lw_all := lw_g (lw_at lw_m2 72 rfl) rfl
theorem q322 : (Jvm.Cond.code ({ cls := "ZucDesk", name := "put", desc := "(IIII)Z" } : Jvm.MethodName) prog_10_method_2_code (5 : Nat) (Option.some Jvm.ClassFile.FieldType.boolean)) ∈ lw_all := lw_g (lw_at lw_m2 73 rfl) rfl
theorem q323 : (Jvm.Cond.methodLink "ZucDesk" (33 : Nat) ({ cls := "ZucDesk", name := "word", desc := "([BII)V" } : Jvm.MethodName)) ∈ lw_all := lw_g (lw_at lw_m2 74 rfl) rfl
theorem q324 : (Jvm.Cond.static ({ cls := "ZucDesk", name := "word", desc := "([BII)V" } : Jvm.MethodName)) ∈ lw_all := lw_g (lw_at lw_m2 75 rfl) rfl
theorem q325 : (Jvm.Cond.code ({ cls := "ZucDesk", name := "word", desc := "([BII)V" } : Jvm.MethodName) prog_10_method_3_code (3 : Nat) (Option.none : Option Jvm.ClassFile.FieldType)) ∈ lw_all := lw_g (lw_at lw_m2 76 rfl) rfl
theorem q327 : (Jvm.Cond.instanceMethod ({ cls := "ZucDesk", name := "trim", desc := "(I)V" } : Jvm.MethodName)) ∈ lw_all := lw_g (lw_at lw_m2 78 rfl) rfl
theorem q328 : (Jvm.Cond.selects "ZucDesk" ({ cls := "ZucDesk", name := "trim", desc := "(I)V" } : Jvm.MethodName) ({ cls := "ZucDesk", name := "trim", desc := "(I)V" } : Jvm.MethodName)) ∈ lw_all := lw_g (lw_at lw_m2 79 rfl) rfl
theorem q329 : (Jvm.Cond.code ({ cls := "ZucDesk", name := "trim", desc := "(I)V" } : Jvm.MethodName) prog_10_method_4_code (2 : Nat) (Option.none : Option Jvm.ClassFile.FieldType)) ∈ lw_all := lw_g (lw_at lw_m2 80 rfl) rfl
theorem q331 : (Jvm.Cond.instanceMethod ({ cls := "ZucDesk", name := "key", desc := "(IIIII)V" } : Jvm.MethodName)) ∈ lw_all := lw_g (lw_at lw_m2 82 rfl) rfl
theorem q332 : (Jvm.Cond.selects "ZucDesk" ({ cls := "ZucDesk", name := "key", desc := "(IIIII)V" } : Jvm.MethodName) ({ cls := "ZucDesk", name := "key", desc := "(IIIII)V" } : Jvm.MethodName)) ∈ lw_all := lw_g (lw_at lw_m2 83 rfl) rfl
theorem q333 : (Jvm.Cond.code ({ cls := "ZucDesk", name := "key", desc := "(IIIII)V" } : Jvm.MethodName) prog_10_method_7_code (7 : Nat) (Option.none : Option Jvm.ClassFile.FieldType)) ∈ lw_all := lw_g (lw_at lw_m2 84 rfl) rfl
theorem q335 : (Jvm.Cond.instanceMethod ({ cls := "ZucDesk", name := "nonce", desc := "(IIII)V" } : Jvm.MethodName)) ∈ lw_all := lw_g (lw_at lw_m2 86 rfl) rfl
theorem q336 : (Jvm.Cond.selects "ZucDesk" ({ cls := "ZucDesk", name := "nonce", desc := "(IIII)V" } : Jvm.MethodName) ({ cls := "ZucDesk", name := "nonce", desc := "(IIII)V" } : Jvm.MethodName)) ∈ lw_all := lw_g (lw_at lw_m2 87 rfl) rfl
theorem q337 : (Jvm.Cond.code ({ cls := "ZucDesk", name := "nonce", desc := "(IIII)V" } : Jvm.MethodName) prog_10_method_8_code (5 : Nat) (Option.none : Option Jvm.ClassFile.FieldType)) ∈ lw_all := lw_g (lw_at lw_m2 88 rfl) rfl
theorem q339 : (Jvm.Cond.instanceMethod ({ cls := "ZucDesk", name := "begin", desc := "(I)V" } : Jvm.MethodName)) ∈ lw_all := lw_g (lw_at lw_m2 90 rfl) rfl
theorem q340 : (Jvm.Cond.selects "ZucDesk" ({ cls := "ZucDesk", name := "begin", desc := "(I)V" } : Jvm.MethodName) ({ cls := "ZucDesk", name := "begin", desc := "(I)V" } : Jvm.MethodName)) ∈ lw_all := lw_g (lw_at lw_m2 91 rfl) rfl
theorem q341 : (Jvm.Cond.code ({ cls := "ZucDesk", name := "begin", desc := "(I)V" } : Jvm.MethodName) prog_10_method_9_code (5 : Nat) (Option.none : Option Jvm.ClassFile.FieldType)) ∈ lw_all := lw_g (lw_at lw_m2 92 rfl) rfl
theorem q342 : (Jvm.Cond.classLink "ZucDesk" (42 : Nat) "ParametersWithIV") ∈ lw_all := lw_g (lw_at lw_m2 93 rfl) rfl
theorem q344 : (Jvm.Cond.classLink "ZucDesk" (44 : Nat) "KeyParameter") ∈ lw_all := lw_g (lw_at lw_m2 95 rfl) rfl
theorem q346 : (Jvm.Cond.methodLink "ZucDesk" (46 : Nat) ({ cls := "KeyParameter", name := "<init>", desc := "([B)V" } : Jvm.MethodName)) ∈ lw_all := lw_g (lw_at lw_m2 97 rfl) rfl
theorem q361 : (Jvm.Cond.methodLink "ZucDesk" (49 : Nat) ({ cls := "ParametersWithIV", name := "<init>", desc := "(LCipherParameters;[B)V" } : Jvm.MethodName)) ∈ lw_all := lw_g (lw_at lw_m2 112 rfl) rfl
theorem q376 : (Jvm.Cond.methodLink "ZucDesk" (52 : Nat) ({ cls := "Zuc128Engine", name := "init", desc := "(ZLCipherParameters;)V" } : Jvm.MethodName)) ∈ lw_all := lw_g (lw_at lw_m2 127 rfl) rfl
theorem in_X1 : ∀ w ∈ wsX10, w ∈ lw_all := lw_in wsX10 [302, 304, 306, 308, 310, 312, 314, 316] (by decide +kernel) (by decide +kernel)
/-! the law's own entry -/
set_option maxRecDepth 100000
abbrev cL_law : ByteArray := code
def dkwL_law_13 : List UInt8 := [167, 255, 205, 4, 172]
abbrev dktL_law_13 : List UInt8 := dkwL_law_13 ++ []
def dkwL_law_12 : List UInt8 := [16, 24, 16, 8, 21, 7, 7, 112, 104, 100, 124, 17, 0, 255, 126, 159, 0, 5, 3, 172, 132, 7, 1]
abbrev dktL_law_12 : List UInt8 := dkwL_law_12 ++ dktL_law_13
def dkwL_law_11 : List UInt8 := [162, 0, 50, 45, 43, 21, 7, 182, 0, 39, 182, 0, 52, 42, 16, 20, 21, 7, 7, 108, 96, 184, 0, 10]
abbrev dktL_law_11 : List UInt8 := dkwL_law_11 ++ dktL_law_12
def dkwL_law_10 : List UInt8 := [159, 0, 5, 3, 172, 132, 7, 1, 167, 255, 185, 45, 182, 0, 55, 3, 54, 7, 21, 7, 21, 5]
abbrev dktL_law_10 : List UInt8 := dkwL_law_10 ++ dktL_law_11
def dkwL_law_9 : List UInt8 := [54, 9, 21, 9, 43, 21, 7, 182, 0, 39, 160, 0, 15, 25, 4, 21, 9, 182, 0, 52, 21, 8]
abbrev dktL_law_9 : List UInt8 := dkwL_law_9 ++ dktL_law_10
def dkwL_law_8 : List UInt8 := [16, 24, 16, 8, 21, 7, 7, 112, 104, 100, 124, 17, 0, 255, 126, 54, 8, 45, 21, 8, 182, 0, 52]
abbrev dktL_law_8 : List UInt8 := dkwL_law_8 ++ dktL_law_9
def dkwL_law_7 : List UInt8 := [167, 255, 154, 3, 54, 7, 21, 7, 21, 5, 162, 0, 70, 42, 16, 20, 21, 7, 7, 108, 96, 184, 0, 10]
abbrev dktL_law_7 : List UInt8 := dkwL_law_7 ++ dktL_law_8
def dkwL_law_6 : List UInt8 := [182, 0, 39, 159, 0, 5, 3, 172, 132, 9, 1, 167, 255, 226, 21, 6, 21, 8, 96, 54, 6, 132, 7, 1]
abbrev dktL_law_6 : List UInt8 := dkwL_law_6 ++ dktL_law_7
def dkwL_law_5 : List UInt8 := [172, 3, 54, 9, 21, 9, 21, 8, 162, 0, 29, 44, 21, 9, 182, 0, 39, 43, 21, 6, 21, 9, 96]
abbrev dktL_law_5 : List UInt8 := dkwL_law_5 ++ dktL_law_6
def dkwL_law_4 : List UInt8 := [21, 5, 21, 6, 100, 4, 96, 112, 54, 8, 44, 21, 6, 21, 8, 182, 0, 35, 21, 8, 159, 0, 5, 3]
abbrev dktL_law_4 : List UInt8 := dkwL_law_4 ++ dktL_law_5
def dkwL_law_3 : List UInt8 := [21, 7, 16, 18, 160, 0, 11, 21, 5, 21, 6, 100, 167, 0, 20, 42, 21, 7, 184, 0, 10, 18, 51, 126]
abbrev dktL_law_3 : List UInt8 := dkwL_law_3 ++ dktL_law_4
def dkwL_law_2 : List UInt8 := [182, 0, 35, 21, 5, 159, 0, 5, 3, 172, 3, 54, 6, 16, 14, 54, 7, 21, 7, 16, 19, 162, 0, 101]
abbrev dktL_law_2 : List UInt8 := dkwL_law_2 ++ dktL_law_3
def dkwL_law_1 : List UInt8 := [184, 0, 47, 58, 4, 42, 16, 13, 184, 0, 10, 18, 51, 126, 17, 0, 129, 112, 54, 5, 43, 3, 21, 5]
abbrev dktL_law_1 : List UInt8 := dkwL_law_1 ++ dktL_law_2
def dkwL_law_0 : List UInt8 := [184, 0, 43, 154, 0, 5, 3, 172, 42, 184, 0, 47, 76, 42, 184, 0, 47, 77, 42, 184, 0, 47, 78, 42]
abbrev dktL_law_0 : List UInt8 := dkwL_law_0 ++ dktL_law_1
theorem dksL_law_0 : cL_law.data.toList.drop 0 = dktL_law_0 := by decide +kernel
theorem dksL_law_1 : cL_law.data.toList.drop 24 = dktL_law_1 := dk_seg dksL_law_0 24 rfl rfl
theorem dksL_law_2 : cL_law.data.toList.drop 48 = dktL_law_2 := dk_seg dksL_law_1 24 rfl rfl
theorem dksL_law_3 : cL_law.data.toList.drop 72 = dktL_law_3 := dk_seg dksL_law_2 24 rfl rfl
theorem dksL_law_4 : cL_law.data.toList.drop 96 = dktL_law_4 := dk_seg dksL_law_3 24 rfl rfl
theorem dksL_law_5 : cL_law.data.toList.drop 120 = dktL_law_5 := dk_seg dksL_law_4 24 rfl rfl
theorem dksL_law_6 : cL_law.data.toList.drop 143 = dktL_law_6 := dk_seg dksL_law_5 23 rfl rfl
theorem dksL_law_7 : cL_law.data.toList.drop 167 = dktL_law_7 := dk_seg dksL_law_6 24 rfl rfl
theorem dksL_law_8 : cL_law.data.toList.drop 191 = dktL_law_8 := dk_seg dksL_law_7 24 rfl rfl
theorem dksL_law_9 : cL_law.data.toList.drop 214 = dktL_law_9 := dk_seg dksL_law_8 23 rfl rfl
theorem dksL_law_10 : cL_law.data.toList.drop 236 = dktL_law_10 := dk_seg dksL_law_9 22 rfl rfl
theorem dksL_law_11 : cL_law.data.toList.drop 258 = dktL_law_11 := dk_seg dksL_law_10 22 rfl rfl
theorem dksL_law_12 : cL_law.data.toList.drop 282 = dktL_law_12 := dk_seg dksL_law_11 24 rfl rfl
theorem dksL_law_13 : cL_law.data.toList.drop 305 = dktL_law_13 := dk_seg dksL_law_12 23 rfl rfl
theorem dL_law_0 : decode cL_law 0 = .ok (.invokestatic 43, 3) := dk_184 0 43 (dk_at dksL_law_0 0 rfl rfl)
theorem dL_law_3 : decode cL_law 3 = .ok (.ifCond .ne 5, 3) := dk_154 0 5 (dk_at dksL_law_0 3 rfl rfl)
theorem dL_law_6 : decode cL_law 6 = .ok (.iconst 0, 1) := dk_3 (dk_at dksL_law_0 6 rfl rfl)
theorem dL_law_7 : decode cL_law 7 = .ok (.ireturn, 1) := dk_172 (dk_at dksL_law_0 7 rfl rfl)
theorem dL_law_8 : decode cL_law 8 = .ok (.aload_n 0, 1) := dk_42 (dk_at dksL_law_0 8 rfl rfl)
theorem dL_law_9 : decode cL_law 9 = .ok (.invokestatic 47, 3) := dk_184 0 47 (dk_at dksL_law_0 9 rfl rfl)
theorem dL_law_12 : decode cL_law 12 = .ok (.astore_n 1, 1) := dk_76 (dk_at dksL_law_0 12 rfl rfl)
theorem dL_law_13 : decode cL_law 13 = .ok (.aload_n 0, 1) := dk_42 (dk_at dksL_law_0 13 rfl rfl)
theorem dL_law_14 : decode cL_law 14 = .ok (.invokestatic 47, 3) := dk_184 0 47 (dk_at dksL_law_0 14 rfl rfl)
theorem dL_law_17 : decode cL_law 17 = .ok (.astore_n 2, 1) := dk_77 (dk_at dksL_law_0 17 rfl rfl)
theorem dL_law_18 : decode cL_law 18 = .ok (.aload_n 0, 1) := dk_42 (dk_at dksL_law_0 18 rfl rfl)
theorem dL_law_19 : decode cL_law 19 = .ok (.invokestatic 47, 3) := dk_184 0 47 (dk_at dksL_law_0 19 rfl rfl)
theorem dL_law_22 : decode cL_law 22 = .ok (.astore_n 3, 1) := dk_78 (dk_at dksL_law_0 22 rfl rfl)
theorem dL_law_23 : decode cL_law 23 = .ok (.aload_n 0, 1) := dk_42 (dk_at dksL_law_0 23 rfl rfl)
theorem dL_law_24 : decode cL_law 24 = .ok (.invokestatic 47, 3) := dk_184 0 47 (dk_at dksL_law_1 0 rfl rfl)
theorem dL_law_27 : decode cL_law 27 = .ok (.astore 4, 2) := dk_58 4 (dk_at dksL_law_1 3 rfl rfl)
theorem dL_law_29 : decode cL_law 29 = .ok (.aload_n 0, 1) := dk_42 (dk_at dksL_law_1 5 rfl rfl)
theorem dL_law_30 : decode cL_law 30 = .ok (.bipush 13, 2) := dk_16 13 (dk_at dksL_law_1 6 rfl rfl)
theorem dL_law_32 : decode cL_law 32 = .ok (.invokestatic 10, 3) := dk_184 0 10 (dk_at dksL_law_1 8 rfl rfl)
theorem dL_law_35 : decode cL_law 35 = .ok (.ldc 51, 2) := dk_18 51 (dk_at dksL_law_1 11 rfl rfl)
theorem dL_law_37 : decode cL_law 37 = .ok (.iand, 1) := dk_126 (dk_at dksL_law_1 13 rfl rfl)
theorem dL_law_38 : decode cL_law 38 = .ok (.sipush 129, 3) := dk_17 0 129 (dk_at dksL_law_1 14 rfl rfl)
theorem dL_law_41 : decode cL_law 41 = .ok (.irem, 1) := dk_112 (dk_at dksL_law_1 17 rfl rfl)
theorem dL_law_42 : decode cL_law 42 = .ok (.istore 5, 2) := dk_54 5 (dk_at dksL_law_1 18 rfl rfl)
theorem dL_law_44 : decode cL_law 44 = .ok (.aload_n 1, 1) := dk_43 (dk_at dksL_law_1 20 rfl rfl)
theorem dL_law_45 : decode cL_law 45 = .ok (.iconst 0, 1) := dk_3 (dk_at dksL_law_1 21 rfl rfl)
theorem dL_law_46 : decode cL_law 46 = .ok (.iload 5, 2) := dk_21 5 (dk_at dksL_law_1 22 rfl rfl)
theorem dL_law_48 : decode cL_law 48 = .ok (.invokevirtual 35, 3) := dk_182 0 35 (dk_at dksL_law_2 0 rfl rfl)
theorem dL_law_51 : decode cL_law 51 = .ok (.iload 5, 2) := dk_21 5 (dk_at dksL_law_2 3 rfl rfl)
theorem dL_law_53 : decode cL_law 53 = .ok (.if_icmp .eq 5, 3) := dk_159 0 5 (dk_at dksL_law_2 5 rfl rfl)
theorem dL_law_56 : decode cL_law 56 = .ok (.iconst 0, 1) := dk_3 (dk_at dksL_law_2 8 rfl rfl)
theorem dL_law_57 : decode cL_law 57 = .ok (.ireturn, 1) := dk_172 (dk_at dksL_law_2 9 rfl rfl)
theorem dL_law_58 : decode cL_law 58 = .ok (.iconst 0, 1) := dk_3 (dk_at dksL_law_2 10 rfl rfl)
theorem dL_law_59 : decode cL_law 59 = .ok (.istore 6, 2) := dk_54 6 (dk_at dksL_law_2 11 rfl rfl)
theorem dL_law_61 : decode cL_law 61 = .ok (.bipush 14, 2) := dk_16 14 (dk_at dksL_law_2 13 rfl rfl)
theorem dL_law_63 : decode cL_law 63 = .ok (.istore 7, 2) := dk_54 7 (dk_at dksL_law_2 15 rfl rfl)
theorem dL_law_65 : decode cL_law 65 = .ok (.iload 7, 2) := dk_21 7 (dk_at dksL_law_2 17 rfl rfl)
theorem dL_law_67 : decode cL_law 67 = .ok (.bipush 19, 2) := dk_16 19 (dk_at dksL_law_2 19 rfl rfl)
theorem dL_law_69 : decode cL_law 69 = .ok (.if_icmp .ge 101, 3) := dk_162 0 101 (dk_at dksL_law_2 21 rfl rfl)
theorem dL_law_72 : decode cL_law 72 = .ok (.iload 7, 2) := dk_21 7 (dk_at dksL_law_3 0 rfl rfl)
theorem dL_law_74 : decode cL_law 74 = .ok (.bipush 18, 2) := dk_16 18 (dk_at dksL_law_3 2 rfl rfl)
theorem dL_law_76 : decode cL_law 76 = .ok (.if_icmp .ne 11, 3) := dk_160 0 11 (dk_at dksL_law_3 4 rfl rfl)
theorem dL_law_79 : decode cL_law 79 = .ok (.iload 5, 2) := dk_21 5 (dk_at dksL_law_3 7 rfl rfl)
theorem dL_law_81 : decode cL_law 81 = .ok (.iload 6, 2) := dk_21 6 (dk_at dksL_law_3 9 rfl rfl)
theorem dL_law_83 : decode cL_law 83 = .ok (.isub, 1) := dk_100 (dk_at dksL_law_3 11 rfl rfl)
theorem dL_law_84 : decode cL_law 84 = .ok (.goto 20, 3) := dk_167 0 20 (dk_at dksL_law_3 12 rfl rfl)
theorem dL_law_87 : decode cL_law 87 = .ok (.aload_n 0, 1) := dk_42 (dk_at dksL_law_3 15 rfl rfl)
theorem dL_law_88 : decode cL_law 88 = .ok (.iload 7, 2) := dk_21 7 (dk_at dksL_law_3 16 rfl rfl)
theorem dL_law_90 : decode cL_law 90 = .ok (.invokestatic 10, 3) := dk_184 0 10 (dk_at dksL_law_3 18 rfl rfl)
theorem dL_law_93 : decode cL_law 93 = .ok (.ldc 51, 2) := dk_18 51 (dk_at dksL_law_3 21 rfl rfl)
theorem dL_law_95 : decode cL_law 95 = .ok (.iand, 1) := dk_126 (dk_at dksL_law_3 23 rfl rfl)
theorem dL_law_96 : decode cL_law 96 = .ok (.iload 5, 2) := dk_21 5 (dk_at dksL_law_4 0 rfl rfl)
theorem dL_law_98 : decode cL_law 98 = .ok (.iload 6, 2) := dk_21 6 (dk_at dksL_law_4 2 rfl rfl)
theorem dL_law_100 : decode cL_law 100 = .ok (.isub, 1) := dk_100 (dk_at dksL_law_4 4 rfl rfl)
theorem dL_law_101 : decode cL_law 101 = .ok (.iconst 1, 1) := dk_4 (dk_at dksL_law_4 5 rfl rfl)
theorem dL_law_102 : decode cL_law 102 = .ok (.iadd, 1) := dk_96 (dk_at dksL_law_4 6 rfl rfl)
theorem dL_law_103 : decode cL_law 103 = .ok (.irem, 1) := dk_112 (dk_at dksL_law_4 7 rfl rfl)
theorem dL_law_104 : decode cL_law 104 = .ok (.istore 8, 2) := dk_54 8 (dk_at dksL_law_4 8 rfl rfl)
theorem dL_law_106 : decode cL_law 106 = .ok (.aload_n 2, 1) := dk_44 (dk_at dksL_law_4 10 rfl rfl)
theorem dL_law_107 : decode cL_law 107 = .ok (.iload 6, 2) := dk_21 6 (dk_at dksL_law_4 11 rfl rfl)
theorem dL_law_109 : decode cL_law 109 = .ok (.iload 8, 2) := dk_21 8 (dk_at dksL_law_4 13 rfl rfl)
theorem dL_law_111 : decode cL_law 111 = .ok (.invokevirtual 35, 3) := dk_182 0 35 (dk_at dksL_law_4 15 rfl rfl)
theorem dL_law_114 : decode cL_law 114 = .ok (.iload 8, 2) := dk_21 8 (dk_at dksL_law_4 18 rfl rfl)
theorem dL_law_116 : decode cL_law 116 = .ok (.if_icmp .eq 5, 3) := dk_159 0 5 (dk_at dksL_law_4 20 rfl rfl)
theorem dL_law_119 : decode cL_law 119 = .ok (.iconst 0, 1) := dk_3 (dk_at dksL_law_4 23 rfl rfl)
theorem dL_law_120 : decode cL_law 120 = .ok (.ireturn, 1) := dk_172 (dk_at dksL_law_5 0 rfl rfl)
theorem dL_law_121 : decode cL_law 121 = .ok (.iconst 0, 1) := dk_3 (dk_at dksL_law_5 1 rfl rfl)
theorem dL_law_122 : decode cL_law 122 = .ok (.istore 9, 2) := dk_54 9 (dk_at dksL_law_5 2 rfl rfl)
theorem dL_law_124 : decode cL_law 124 = .ok (.iload 9, 2) := dk_21 9 (dk_at dksL_law_5 4 rfl rfl)
theorem dL_law_126 : decode cL_law 126 = .ok (.iload 8, 2) := dk_21 8 (dk_at dksL_law_5 6 rfl rfl)
theorem dL_law_128 : decode cL_law 128 = .ok (.if_icmp .ge 29, 3) := dk_162 0 29 (dk_at dksL_law_5 8 rfl rfl)
theorem dL_law_131 : decode cL_law 131 = .ok (.aload_n 2, 1) := dk_44 (dk_at dksL_law_5 11 rfl rfl)
theorem dL_law_132 : decode cL_law 132 = .ok (.iload 9, 2) := dk_21 9 (dk_at dksL_law_5 12 rfl rfl)
theorem dL_law_134 : decode cL_law 134 = .ok (.invokevirtual 39, 3) := dk_182 0 39 (dk_at dksL_law_5 14 rfl rfl)
theorem dL_law_137 : decode cL_law 137 = .ok (.aload_n 1, 1) := dk_43 (dk_at dksL_law_5 17 rfl rfl)
theorem dL_law_138 : decode cL_law 138 = .ok (.iload 6, 2) := dk_21 6 (dk_at dksL_law_5 18 rfl rfl)
theorem dL_law_140 : decode cL_law 140 = .ok (.iload 9, 2) := dk_21 9 (dk_at dksL_law_5 20 rfl rfl)
theorem dL_law_142 : decode cL_law 142 = .ok (.iadd, 1) := dk_96 (dk_at dksL_law_5 22 rfl rfl)
theorem dL_law_143 : decode cL_law 143 = .ok (.invokevirtual 39, 3) := dk_182 0 39 (dk_at dksL_law_6 0 rfl rfl)
theorem dL_law_146 : decode cL_law 146 = .ok (.if_icmp .eq 5, 3) := dk_159 0 5 (dk_at dksL_law_6 3 rfl rfl)
theorem dL_law_149 : decode cL_law 149 = .ok (.iconst 0, 1) := dk_3 (dk_at dksL_law_6 6 rfl rfl)
theorem dL_law_150 : decode cL_law 150 = .ok (.ireturn, 1) := dk_172 (dk_at dksL_law_6 7 rfl rfl)
theorem dL_law_151 : decode cL_law 151 = .ok (.iinc 9 1, 3) := dk_132 9 1 (dk_at dksL_law_6 8 rfl rfl)
theorem dL_law_154 : decode cL_law 154 = .ok (.goto (-30), 3) := dk_167 255 226 (dk_at dksL_law_6 11 rfl rfl)
theorem dL_law_157 : decode cL_law 157 = .ok (.iload 6, 2) := dk_21 6 (dk_at dksL_law_6 14 rfl rfl)
theorem dL_law_159 : decode cL_law 159 = .ok (.iload 8, 2) := dk_21 8 (dk_at dksL_law_6 16 rfl rfl)
theorem dL_law_161 : decode cL_law 161 = .ok (.iadd, 1) := dk_96 (dk_at dksL_law_6 18 rfl rfl)
theorem dL_law_162 : decode cL_law 162 = .ok (.istore 6, 2) := dk_54 6 (dk_at dksL_law_6 19 rfl rfl)
theorem dL_law_164 : decode cL_law 164 = .ok (.iinc 7 1, 3) := dk_132 7 1 (dk_at dksL_law_6 21 rfl rfl)
theorem dL_law_167 : decode cL_law 167 = .ok (.goto (-102), 3) := dk_167 255 154 (dk_at dksL_law_7 0 rfl rfl)
theorem dL_law_170 : decode cL_law 170 = .ok (.iconst 0, 1) := dk_3 (dk_at dksL_law_7 3 rfl rfl)
theorem dL_law_171 : decode cL_law 171 = .ok (.istore 7, 2) := dk_54 7 (dk_at dksL_law_7 4 rfl rfl)
theorem dL_law_173 : decode cL_law 173 = .ok (.iload 7, 2) := dk_21 7 (dk_at dksL_law_7 6 rfl rfl)
theorem dL_law_175 : decode cL_law 175 = .ok (.iload 5, 2) := dk_21 5 (dk_at dksL_law_7 8 rfl rfl)
theorem dL_law_177 : decode cL_law 177 = .ok (.if_icmp .ge 70, 3) := dk_162 0 70 (dk_at dksL_law_7 10 rfl rfl)
theorem dL_law_180 : decode cL_law 180 = .ok (.aload_n 0, 1) := dk_42 (dk_at dksL_law_7 13 rfl rfl)
theorem dL_law_181 : decode cL_law 181 = .ok (.bipush 20, 2) := dk_16 20 (dk_at dksL_law_7 14 rfl rfl)
theorem dL_law_183 : decode cL_law 183 = .ok (.iload 7, 2) := dk_21 7 (dk_at dksL_law_7 16 rfl rfl)
theorem dL_law_185 : decode cL_law 185 = .ok (.iconst 4, 1) := dk_7 (dk_at dksL_law_7 18 rfl rfl)
theorem dL_law_186 : decode cL_law 186 = .ok (.idiv, 1) := dk_108 (dk_at dksL_law_7 19 rfl rfl)
theorem dL_law_187 : decode cL_law 187 = .ok (.iadd, 1) := dk_96 (dk_at dksL_law_7 20 rfl rfl)
theorem dL_law_188 : decode cL_law 188 = .ok (.invokestatic 10, 3) := dk_184 0 10 (dk_at dksL_law_7 21 rfl rfl)
theorem dL_law_191 : decode cL_law 191 = .ok (.bipush 24, 2) := dk_16 24 (dk_at dksL_law_8 0 rfl rfl)
theorem dL_law_193 : decode cL_law 193 = .ok (.bipush 8, 2) := dk_16 8 (dk_at dksL_law_8 2 rfl rfl)
theorem dL_law_195 : decode cL_law 195 = .ok (.iload 7, 2) := dk_21 7 (dk_at dksL_law_8 4 rfl rfl)
theorem dL_law_197 : decode cL_law 197 = .ok (.iconst 4, 1) := dk_7 (dk_at dksL_law_8 6 rfl rfl)
theorem dL_law_198 : decode cL_law 198 = .ok (.irem, 1) := dk_112 (dk_at dksL_law_8 7 rfl rfl)
theorem dL_law_199 : decode cL_law 199 = .ok (.imul, 1) := dk_104 (dk_at dksL_law_8 8 rfl rfl)
theorem dL_law_200 : decode cL_law 200 = .ok (.isub, 1) := dk_100 (dk_at dksL_law_8 9 rfl rfl)
theorem dL_law_201 : decode cL_law 201 = .ok (.iushr, 1) := dk_124 (dk_at dksL_law_8 10 rfl rfl)
theorem dL_law_202 : decode cL_law 202 = .ok (.sipush 255, 3) := dk_17 0 255 (dk_at dksL_law_8 11 rfl rfl)
theorem dL_law_205 : decode cL_law 205 = .ok (.iand, 1) := dk_126 (dk_at dksL_law_8 14 rfl rfl)
theorem dL_law_206 : decode cL_law 206 = .ok (.istore 8, 2) := dk_54 8 (dk_at dksL_law_8 15 rfl rfl)
theorem dL_law_208 : decode cL_law 208 = .ok (.aload_n 3, 1) := dk_45 (dk_at dksL_law_8 17 rfl rfl)
theorem dL_law_209 : decode cL_law 209 = .ok (.iload 8, 2) := dk_21 8 (dk_at dksL_law_8 18 rfl rfl)
theorem dL_law_211 : decode cL_law 211 = .ok (.invokevirtual 52, 3) := dk_182 0 52 (dk_at dksL_law_8 20 rfl rfl)
theorem dL_law_214 : decode cL_law 214 = .ok (.istore 9, 2) := dk_54 9 (dk_at dksL_law_9 0 rfl rfl)
theorem dL_law_216 : decode cL_law 216 = .ok (.iload 9, 2) := dk_21 9 (dk_at dksL_law_9 2 rfl rfl)
theorem dL_law_218 : decode cL_law 218 = .ok (.aload_n 1, 1) := dk_43 (dk_at dksL_law_9 4 rfl rfl)
theorem dL_law_219 : decode cL_law 219 = .ok (.iload 7, 2) := dk_21 7 (dk_at dksL_law_9 5 rfl rfl)
theorem dL_law_221 : decode cL_law 221 = .ok (.invokevirtual 39, 3) := dk_182 0 39 (dk_at dksL_law_9 7 rfl rfl)
theorem dL_law_224 : decode cL_law 224 = .ok (.if_icmp .ne 15, 3) := dk_160 0 15 (dk_at dksL_law_9 10 rfl rfl)
theorem dL_law_227 : decode cL_law 227 = .ok (.aload 4, 2) := dk_25 4 (dk_at dksL_law_9 13 rfl rfl)
theorem dL_law_229 : decode cL_law 229 = .ok (.iload 9, 2) := dk_21 9 (dk_at dksL_law_9 15 rfl rfl)
theorem dL_law_231 : decode cL_law 231 = .ok (.invokevirtual 52, 3) := dk_182 0 52 (dk_at dksL_law_9 17 rfl rfl)
theorem dL_law_234 : decode cL_law 234 = .ok (.iload 8, 2) := dk_21 8 (dk_at dksL_law_9 20 rfl rfl)
theorem dL_law_236 : decode cL_law 236 = .ok (.if_icmp .eq 5, 3) := dk_159 0 5 (dk_at dksL_law_10 0 rfl rfl)
theorem dL_law_239 : decode cL_law 239 = .ok (.iconst 0, 1) := dk_3 (dk_at dksL_law_10 3 rfl rfl)
theorem dL_law_240 : decode cL_law 240 = .ok (.ireturn, 1) := dk_172 (dk_at dksL_law_10 4 rfl rfl)
theorem dL_law_241 : decode cL_law 241 = .ok (.iinc 7 1, 3) := dk_132 7 1 (dk_at dksL_law_10 5 rfl rfl)
theorem dL_law_244 : decode cL_law 244 = .ok (.goto (-71), 3) := dk_167 255 185 (dk_at dksL_law_10 8 rfl rfl)
theorem dL_law_247 : decode cL_law 247 = .ok (.aload_n 3, 1) := dk_45 (dk_at dksL_law_10 11 rfl rfl)
theorem dL_law_248 : decode cL_law 248 = .ok (.invokevirtual 55, 3) := dk_182 0 55 (dk_at dksL_law_10 12 rfl rfl)
theorem dL_law_251 : decode cL_law 251 = .ok (.iconst 0, 1) := dk_3 (dk_at dksL_law_10 15 rfl rfl)
theorem dL_law_252 : decode cL_law 252 = .ok (.istore 7, 2) := dk_54 7 (dk_at dksL_law_10 16 rfl rfl)
theorem dL_law_254 : decode cL_law 254 = .ok (.iload 7, 2) := dk_21 7 (dk_at dksL_law_10 18 rfl rfl)
theorem dL_law_256 : decode cL_law 256 = .ok (.iload 5, 2) := dk_21 5 (dk_at dksL_law_10 20 rfl rfl)
theorem dL_law_258 : decode cL_law 258 = .ok (.if_icmp .ge 50, 3) := dk_162 0 50 (dk_at dksL_law_11 0 rfl rfl)
theorem dL_law_261 : decode cL_law 261 = .ok (.aload_n 3, 1) := dk_45 (dk_at dksL_law_11 3 rfl rfl)
theorem dL_law_262 : decode cL_law 262 = .ok (.aload_n 1, 1) := dk_43 (dk_at dksL_law_11 4 rfl rfl)
theorem dL_law_263 : decode cL_law 263 = .ok (.iload 7, 2) := dk_21 7 (dk_at dksL_law_11 5 rfl rfl)
theorem dL_law_265 : decode cL_law 265 = .ok (.invokevirtual 39, 3) := dk_182 0 39 (dk_at dksL_law_11 7 rfl rfl)
theorem dL_law_268 : decode cL_law 268 = .ok (.invokevirtual 52, 3) := dk_182 0 52 (dk_at dksL_law_11 10 rfl rfl)
theorem dL_law_271 : decode cL_law 271 = .ok (.aload_n 0, 1) := dk_42 (dk_at dksL_law_11 13 rfl rfl)
theorem dL_law_272 : decode cL_law 272 = .ok (.bipush 20, 2) := dk_16 20 (dk_at dksL_law_11 14 rfl rfl)
theorem dL_law_274 : decode cL_law 274 = .ok (.iload 7, 2) := dk_21 7 (dk_at dksL_law_11 16 rfl rfl)
theorem dL_law_276 : decode cL_law 276 = .ok (.iconst 4, 1) := dk_7 (dk_at dksL_law_11 18 rfl rfl)
theorem dL_law_277 : decode cL_law 277 = .ok (.idiv, 1) := dk_108 (dk_at dksL_law_11 19 rfl rfl)
theorem dL_law_278 : decode cL_law 278 = .ok (.iadd, 1) := dk_96 (dk_at dksL_law_11 20 rfl rfl)
theorem dL_law_279 : decode cL_law 279 = .ok (.invokestatic 10, 3) := dk_184 0 10 (dk_at dksL_law_11 21 rfl rfl)
theorem dL_law_282 : decode cL_law 282 = .ok (.bipush 24, 2) := dk_16 24 (dk_at dksL_law_12 0 rfl rfl)
theorem dL_law_284 : decode cL_law 284 = .ok (.bipush 8, 2) := dk_16 8 (dk_at dksL_law_12 2 rfl rfl)
theorem dL_law_286 : decode cL_law 286 = .ok (.iload 7, 2) := dk_21 7 (dk_at dksL_law_12 4 rfl rfl)
theorem dL_law_288 : decode cL_law 288 = .ok (.iconst 4, 1) := dk_7 (dk_at dksL_law_12 6 rfl rfl)
theorem dL_law_289 : decode cL_law 289 = .ok (.irem, 1) := dk_112 (dk_at dksL_law_12 7 rfl rfl)
theorem dL_law_290 : decode cL_law 290 = .ok (.imul, 1) := dk_104 (dk_at dksL_law_12 8 rfl rfl)
theorem dL_law_291 : decode cL_law 291 = .ok (.isub, 1) := dk_100 (dk_at dksL_law_12 9 rfl rfl)
theorem dL_law_292 : decode cL_law 292 = .ok (.iushr, 1) := dk_124 (dk_at dksL_law_12 10 rfl rfl)
theorem dL_law_293 : decode cL_law 293 = .ok (.sipush 255, 3) := dk_17 0 255 (dk_at dksL_law_12 11 rfl rfl)
theorem dL_law_296 : decode cL_law 296 = .ok (.iand, 1) := dk_126 (dk_at dksL_law_12 14 rfl rfl)
theorem dL_law_297 : decode cL_law 297 = .ok (.if_icmp .eq 5, 3) := dk_159 0 5 (dk_at dksL_law_12 15 rfl rfl)
theorem dL_law_300 : decode cL_law 300 = .ok (.iconst 0, 1) := dk_3 (dk_at dksL_law_12 18 rfl rfl)
theorem dL_law_301 : decode cL_law 301 = .ok (.ireturn, 1) := dk_172 (dk_at dksL_law_12 19 rfl rfl)
theorem dL_law_302 : decode cL_law 302 = .ok (.iinc 7 1, 3) := dk_132 7 1 (dk_at dksL_law_12 20 rfl rfl)
theorem dL_law_305 : decode cL_law 305 = .ok (.goto (-51), 3) := dk_167 255 205 (dk_at dksL_law_13 0 rfl rfl)
theorem dL_law_308 : decode cL_law 308 = .ok (.iconst 1, 1) := dk_4 (dk_at dksL_law_13 3 rfl rfl)
theorem dL_law_309 : decode cL_law 309 = .ok (.ireturn, 1) := dk_172 (dk_at dksL_law_13 4 rfl rfl)
end
section
/-! Zuc128CoreEngine -/
set_option maxRecDepth 100000
def RX2 : String := "Zuc128CoreEngine"
def TX2 : u_T := fun k => match k with
  | 0 => ("Zuc128CoreEngine", "LFSR", "[I", true)
  | 1 => ("Zuc128CoreEngine", "F", "[I", true)
  | 2 => ("Zuc128CoreEngine", "BRC", "[I", true)
  | 3 => ("Zuc128CoreEngine", "theIndex", "I", false)
  | 4 => ("Zuc128CoreEngine", "keyStream", "[B", true)
  | 5 => ("Zuc128CoreEngine", "theIterations", "I", false)
  | _ => ("Zuc128CoreEngine", "theResetState", "LZuc128CoreEngine;", false)
def tyX2 : Nat → FieldType := fun k => match k with
  | 0 => .array .int
  | 1 => .array .int
  | 2 => .array .int
  | 3 => .int
  | 4 => .array .byte
  | 5 => .int
  | _ => .object "Zuc128CoreEngine"
abbrev wsX20 : List Cond := u_ws RX2 TX2 7
theorem nmX2 : ∀ a, a < 7 → ∀ b, b < 7 → a ≠ b → (TX2 a).2.1 ≠ (TX2 b).2.1 := by decide +kernel
theorem tyX2_ok : ∀ k, k < 7 → parseFieldDescriptor (TX2 k).2.2.1 = some (tyX2 k) := by decide +kernel
abbrev cX2_processBytes : ByteArray := prog_8_method_5_code
def yX2_processBytes : MethodName := ⟨RX2, "processBytes", "([BII[BI)I"⟩
def dkwX2_processBytes_3 : List UInt8 := [21, 5, 96, 42, 43, 21, 6, 28, 96, 51, 182, 0, 78, 84, 132, 6, 1, 167, 255, 229, 29, 172]
abbrev dktX2_processBytes_3 : List UInt8 := dkwX2_processBytes_3 ++ []
def dkwX2_processBytes_2 : List UInt8 := [187, 0, 73, 89, 18, 75, 183, 0, 77, 191, 3, 54, 6, 21, 6, 29, 162, 0, 27, 25, 4, 21, 6]
abbrev dktX2_processBytes_2 : List UInt8 := dkwX2_processBytes_2 ++ dktX2_processBytes_3
def dkwX2_processBytes_1 : List UInt8 := [164, 0, 13, 187, 0, 68, 89, 18, 70, 183, 0, 72, 191, 21, 5, 29, 96, 25, 4, 190, 164, 0, 13]
abbrev dktX2_processBytes_1 : List UInt8 := dkwX2_processBytes_1 ++ dktX2_processBytes_2
def dkwX2_processBytes_0 : List UInt8 := [42, 180, 0, 57, 199, 0, 13, 187, 0, 61, 89, 18, 63, 183, 0, 65, 191, 28, 29, 96, 43, 190]
abbrev dktX2_processBytes_0 : List UInt8 := dkwX2_processBytes_0 ++ dktX2_processBytes_1
theorem dksX2_processBytes_0 : cX2_processBytes.data.toList.drop 0 = dktX2_processBytes_0 := by decide +kernel
theorem dksX2_processBytes_1 : cX2_processBytes.data.toList.drop 22 = dktX2_processBytes_1 := dk_seg dksX2_processBytes_0 22 rfl rfl
theorem dksX2_processBytes_2 : cX2_processBytes.data.toList.drop 45 = dktX2_processBytes_2 := dk_seg dksX2_processBytes_1 23 rfl rfl
theorem dksX2_processBytes_3 : cX2_processBytes.data.toList.drop 68 = dktX2_processBytes_3 := dk_seg dksX2_processBytes_2 23 rfl rfl
theorem dX2_processBytes_0 : decode cX2_processBytes 0 = .ok (.aload_n 0, 1) := dk_42 (dk_at dksX2_processBytes_0 0 rfl rfl)
theorem dX2_processBytes_1 : decode cX2_processBytes 1 = .ok (.getfield 57, 3) := dk_180 0 57 (dk_at dksX2_processBytes_0 1 rfl rfl)
theorem dX2_processBytes_4 : decode cX2_processBytes 4 = .ok (.ifnonnull 13, 3) := dk_199 0 13 (dk_at dksX2_processBytes_0 4 rfl rfl)
theorem dX2_processBytes_7 : decode cX2_processBytes 7 = .ok (.new 61, 3) := dk_187 0 61 (dk_at dksX2_processBytes_0 7 rfl rfl)
theorem dX2_processBytes_10 : decode cX2_processBytes 10 = .ok (.dup, 1) := dk_89 (dk_at dksX2_processBytes_0 10 rfl rfl)
theorem dX2_processBytes_11 : decode cX2_processBytes 11 = .ok (.ldc 63, 2) := dk_18 63 (dk_at dksX2_processBytes_0 11 rfl rfl)
theorem dX2_processBytes_13 : decode cX2_processBytes 13 = .ok (.invokespecial 65, 3) := dk_183 0 65 (dk_at dksX2_processBytes_0 13 rfl rfl)
theorem dX2_processBytes_16 : decode cX2_processBytes 16 = .ok (.athrow, 1) := dk_191 (dk_at dksX2_processBytes_0 16 rfl rfl)
theorem dX2_processBytes_17 : decode cX2_processBytes 17 = .ok (.iload_n 2, 1) := dk_28 (dk_at dksX2_processBytes_0 17 rfl rfl)
theorem dX2_processBytes_18 : decode cX2_processBytes 18 = .ok (.iload_n 3, 1) := dk_29 (dk_at dksX2_processBytes_0 18 rfl rfl)
theorem dX2_processBytes_19 : decode cX2_processBytes 19 = .ok (.iadd, 1) := dk_96 (dk_at dksX2_processBytes_0 19 rfl rfl)
theorem dX2_processBytes_20 : decode cX2_processBytes 20 = .ok (.aload_n 1, 1) := dk_43 (dk_at dksX2_processBytes_0 20 rfl rfl)
theorem dX2_processBytes_21 : decode cX2_processBytes 21 = .ok (.arraylength, 1) := dk_190 (dk_at dksX2_processBytes_0 21 rfl rfl)
theorem dX2_processBytes_22 : decode cX2_processBytes 22 = .ok (.if_icmp .le 13, 3) := dk_164 0 13 (dk_at dksX2_processBytes_1 0 rfl rfl)
theorem dX2_processBytes_25 : decode cX2_processBytes 25 = .ok (.new 68, 3) := dk_187 0 68 (dk_at dksX2_processBytes_1 3 rfl rfl)
theorem dX2_processBytes_28 : decode cX2_processBytes 28 = .ok (.dup, 1) := dk_89 (dk_at dksX2_processBytes_1 6 rfl rfl)
theorem dX2_processBytes_29 : decode cX2_processBytes 29 = .ok (.ldc 70, 2) := dk_18 70 (dk_at dksX2_processBytes_1 7 rfl rfl)
theorem dX2_processBytes_31 : decode cX2_processBytes 31 = .ok (.invokespecial 72, 3) := dk_183 0 72 (dk_at dksX2_processBytes_1 9 rfl rfl)
theorem dX2_processBytes_34 : decode cX2_processBytes 34 = .ok (.athrow, 1) := dk_191 (dk_at dksX2_processBytes_1 12 rfl rfl)
theorem dX2_processBytes_35 : decode cX2_processBytes 35 = .ok (.iload 5, 2) := dk_21 5 (dk_at dksX2_processBytes_1 13 rfl rfl)
theorem dX2_processBytes_37 : decode cX2_processBytes 37 = .ok (.iload_n 3, 1) := dk_29 (dk_at dksX2_processBytes_1 15 rfl rfl)
theorem dX2_processBytes_38 : decode cX2_processBytes 38 = .ok (.iadd, 1) := dk_96 (dk_at dksX2_processBytes_1 16 rfl rfl)
theorem dX2_processBytes_39 : decode cX2_processBytes 39 = .ok (.aload 4, 2) := dk_25 4 (dk_at dksX2_processBytes_1 17 rfl rfl)
theorem dX2_processBytes_41 : decode cX2_processBytes 41 = .ok (.arraylength, 1) := dk_190 (dk_at dksX2_processBytes_1 19 rfl rfl)
theorem dX2_processBytes_42 : decode cX2_processBytes 42 = .ok (.if_icmp .le 13, 3) := dk_164 0 13 (dk_at dksX2_processBytes_1 20 rfl rfl)
theorem dX2_processBytes_45 : decode cX2_processBytes 45 = .ok (.new 73, 3) := dk_187 0 73 (dk_at dksX2_processBytes_2 0 rfl rfl)
theorem dX2_processBytes_48 : decode cX2_processBytes 48 = .ok (.dup, 1) := dk_89 (dk_at dksX2_processBytes_2 3 rfl rfl)
theorem dX2_processBytes_49 : decode cX2_processBytes 49 = .ok (.ldc 75, 2) := dk_18 75 (dk_at dksX2_processBytes_2 4 rfl rfl)
theorem dX2_processBytes_51 : decode cX2_processBytes 51 = .ok (.invokespecial 77, 3) := dk_183 0 77 (dk_at dksX2_processBytes_2 6 rfl rfl)
theorem dX2_processBytes_54 : decode cX2_processBytes 54 = .ok (.athrow, 1) := dk_191 (dk_at dksX2_processBytes_2 9 rfl rfl)
theorem dX2_processBytes_55 : decode cX2_processBytes 55 = .ok (.iconst 0, 1) := dk_3 (dk_at dksX2_processBytes_2 10 rfl rfl)
theorem dX2_processBytes_56 : decode cX2_processBytes 56 = .ok (.istore 6, 2) := dk_54 6 (dk_at dksX2_processBytes_2 11 rfl rfl)
theorem dX2_processBytes_58 : decode cX2_processBytes 58 = .ok (.iload 6, 2) := dk_21 6 (dk_at dksX2_processBytes_2 13 rfl rfl)
theorem dX2_processBytes_60 : decode cX2_processBytes 60 = .ok (.iload_n 3, 1) := dk_29 (dk_at dksX2_processBytes_2 15 rfl rfl)
theorem dX2_processBytes_61 : decode cX2_processBytes 61 = .ok (.if_icmp .ge 27, 3) := dk_162 0 27 (dk_at dksX2_processBytes_2 16 rfl rfl)
theorem dX2_processBytes_64 : decode cX2_processBytes 64 = .ok (.aload 4, 2) := dk_25 4 (dk_at dksX2_processBytes_2 19 rfl rfl)
theorem dX2_processBytes_66 : decode cX2_processBytes 66 = .ok (.iload 6, 2) := dk_21 6 (dk_at dksX2_processBytes_2 21 rfl rfl)
theorem dX2_processBytes_68 : decode cX2_processBytes 68 = .ok (.iload 5, 2) := dk_21 5 (dk_at dksX2_processBytes_3 0 rfl rfl)
theorem dX2_processBytes_70 : decode cX2_processBytes 70 = .ok (.iadd, 1) := dk_96 (dk_at dksX2_processBytes_3 2 rfl rfl)
theorem dX2_processBytes_71 : decode cX2_processBytes 71 = .ok (.aload_n 0, 1) := dk_42 (dk_at dksX2_processBytes_3 3 rfl rfl)
theorem dX2_processBytes_72 : decode cX2_processBytes 72 = .ok (.aload_n 1, 1) := dk_43 (dk_at dksX2_processBytes_3 4 rfl rfl)
theorem dX2_processBytes_73 : decode cX2_processBytes 73 = .ok (.iload 6, 2) := dk_21 6 (dk_at dksX2_processBytes_3 5 rfl rfl)
theorem dX2_processBytes_75 : decode cX2_processBytes 75 = .ok (.iload_n 2, 1) := dk_28 (dk_at dksX2_processBytes_3 7 rfl rfl)
theorem dX2_processBytes_76 : decode cX2_processBytes 76 = .ok (.iadd, 1) := dk_96 (dk_at dksX2_processBytes_3 8 rfl rfl)
theorem dX2_processBytes_77 : decode cX2_processBytes 77 = .ok (.baload, 1) := dk_51 (dk_at dksX2_processBytes_3 9 rfl rfl)
theorem dX2_processBytes_78 : decode cX2_processBytes 78 = .ok (.invokevirtual 78, 3) := dk_182 0 78 (dk_at dksX2_processBytes_3 10 rfl rfl)
theorem dX2_processBytes_81 : decode cX2_processBytes 81 = .ok (.bastore, 1) := dk_84 (dk_at dksX2_processBytes_3 13 rfl rfl)
theorem dX2_processBytes_82 : decode cX2_processBytes 82 = .ok (.iinc 6 1, 3) := dk_132 6 1 (dk_at dksX2_processBytes_3 14 rfl rfl)
theorem dX2_processBytes_85 : decode cX2_processBytes 85 = .ok (.goto (-27), 3) := dk_167 255 229 (dk_at dksX2_processBytes_3 17 rfl rfl)
theorem dX2_processBytes_88 : decode cX2_processBytes 88 = .ok (.iload_n 3, 1) := dk_29 (dk_at dksX2_processBytes_3 20 rfl rfl)
theorem dX2_processBytes_89 : decode cX2_processBytes 89 = .ok (.ireturn, 1) := dk_172 (dk_at dksX2_processBytes_3 21 rfl rfl)
abbrev cX2_returnByte : ByteArray := prog_8_method_7_code
def yX2_returnByte : MethodName := ⟨RX2, "returnByte", "(B)B"⟩
def dkwX2_returnByte_1 : List UInt8 := [42, 42, 180, 0, 42, 4, 96, 7, 112, 181, 0, 42, 28, 172]
abbrev dktX2_returnByte_1 : List UInt8 := dkwX2_returnByte_1 ++ []
def dkwX2_returnByte_0 : List UInt8 := [42, 180, 0, 42, 154, 0, 7, 42, 182, 0, 82, 42, 180, 0, 19, 42, 180, 0, 42, 51, 27, 130, 145, 61]
abbrev dktX2_returnByte_0 : List UInt8 := dkwX2_returnByte_0 ++ dktX2_returnByte_1
theorem dksX2_returnByte_0 : cX2_returnByte.data.toList.drop 0 = dktX2_returnByte_0 := by decide +kernel
theorem dksX2_returnByte_1 : cX2_returnByte.data.toList.drop 24 = dktX2_returnByte_1 := dk_seg dksX2_returnByte_0 24 rfl rfl
theorem dX2_returnByte_0 : decode cX2_returnByte 0 = .ok (.aload_n 0, 1) := dk_42 (dk_at dksX2_returnByte_0 0 rfl rfl)
theorem dX2_returnByte_1 : decode cX2_returnByte 1 = .ok (.getfield 42, 3) := dk_180 0 42 (dk_at dksX2_returnByte_0 1 rfl rfl)
theorem dX2_returnByte_4 : decode cX2_returnByte 4 = .ok (.ifCond .ne 7, 3) := dk_154 0 7 (dk_at dksX2_returnByte_0 4 rfl rfl)
theorem dX2_returnByte_7 : decode cX2_returnByte 7 = .ok (.aload_n 0, 1) := dk_42 (dk_at dksX2_returnByte_0 7 rfl rfl)
theorem dX2_returnByte_8 : decode cX2_returnByte 8 = .ok (.invokevirtual 82, 3) := dk_182 0 82 (dk_at dksX2_returnByte_0 8 rfl rfl)
theorem dX2_returnByte_11 : decode cX2_returnByte 11 = .ok (.aload_n 0, 1) := dk_42 (dk_at dksX2_returnByte_0 11 rfl rfl)
theorem dX2_returnByte_12 : decode cX2_returnByte 12 = .ok (.getfield 19, 3) := dk_180 0 19 (dk_at dksX2_returnByte_0 12 rfl rfl)
theorem dX2_returnByte_15 : decode cX2_returnByte 15 = .ok (.aload_n 0, 1) := dk_42 (dk_at dksX2_returnByte_0 15 rfl rfl)
theorem dX2_returnByte_16 : decode cX2_returnByte 16 = .ok (.getfield 42, 3) := dk_180 0 42 (dk_at dksX2_returnByte_0 16 rfl rfl)
theorem dX2_returnByte_19 : decode cX2_returnByte 19 = .ok (.baload, 1) := dk_51 (dk_at dksX2_returnByte_0 19 rfl rfl)
theorem dX2_returnByte_20 : decode cX2_returnByte 20 = .ok (.iload_n 1, 1) := dk_27 (dk_at dksX2_returnByte_0 20 rfl rfl)
theorem dX2_returnByte_21 : decode cX2_returnByte 21 = .ok (.ixor, 1) := dk_130 (dk_at dksX2_returnByte_0 21 rfl rfl)
theorem dX2_returnByte_22 : decode cX2_returnByte 22 = .ok (.i2b, 1) := dk_145 (dk_at dksX2_returnByte_0 22 rfl rfl)
theorem dX2_returnByte_23 : decode cX2_returnByte 23 = .ok (.istore_n 2, 1) := dk_61 (dk_at dksX2_returnByte_0 23 rfl rfl)
theorem dX2_returnByte_24 : decode cX2_returnByte 24 = .ok (.aload_n 0, 1) := dk_42 (dk_at dksX2_returnByte_1 0 rfl rfl)
theorem dX2_returnByte_25 : decode cX2_returnByte 25 = .ok (.aload_n 0, 1) := dk_42 (dk_at dksX2_returnByte_1 1 rfl rfl)
theorem dX2_returnByte_26 : decode cX2_returnByte 26 = .ok (.getfield 42, 3) := dk_180 0 42 (dk_at dksX2_returnByte_1 2 rfl rfl)
theorem dX2_returnByte_29 : decode cX2_returnByte 29 = .ok (.iconst 1, 1) := dk_4 (dk_at dksX2_returnByte_1 5 rfl rfl)
theorem dX2_returnByte_30 : decode cX2_returnByte 30 = .ok (.iadd, 1) := dk_96 (dk_at dksX2_returnByte_1 6 rfl rfl)
theorem dX2_returnByte_31 : decode cX2_returnByte 31 = .ok (.iconst 4, 1) := dk_7 (dk_at dksX2_returnByte_1 7 rfl rfl)
theorem dX2_returnByte_32 : decode cX2_returnByte 32 = .ok (.irem, 1) := dk_112 (dk_at dksX2_returnByte_1 8 rfl rfl)
theorem dX2_returnByte_33 : decode cX2_returnByte 33 = .ok (.putfield 42, 3) := dk_181 0 42 (dk_at dksX2_returnByte_1 9 rfl rfl)
theorem dX2_returnByte_36 : decode cX2_returnByte 36 = .ok (.iload_n 2, 1) := dk_28 (dk_at dksX2_returnByte_1 12 rfl rfl)
theorem dX2_returnByte_37 : decode cX2_returnByte 37 = .ok (.ireturn, 1) := dk_172 (dk_at dksX2_returnByte_1 13 rfl rfl)
abbrev cX2_makeKeyStream : ByteArray := prog_8_method_22_code
def yX2_makeKeyStream : MethodName := ⟨RX2, "makeKeyStream", "()V"⟩
def dkwX2_makeKeyStream_0 : List UInt8 := [42, 182, 0, 146, 42, 180, 0, 19, 3, 184, 0, 149, 177]
abbrev dktX2_makeKeyStream_0 : List UInt8 := dkwX2_makeKeyStream_0 ++ []
theorem dksX2_makeKeyStream_0 : cX2_makeKeyStream.data.toList.drop 0 = dktX2_makeKeyStream_0 := by decide +kernel
theorem dX2_makeKeyStream_0 : decode cX2_makeKeyStream 0 = .ok (.aload_n 0, 1) := dk_42 (dk_at dksX2_makeKeyStream_0 0 rfl rfl)
theorem dX2_makeKeyStream_1 : decode cX2_makeKeyStream 1 = .ok (.invokevirtual 146, 3) := dk_182 0 146 (dk_at dksX2_makeKeyStream_0 1 rfl rfl)
theorem dX2_makeKeyStream_4 : decode cX2_makeKeyStream 4 = .ok (.aload_n 0, 1) := dk_42 (dk_at dksX2_makeKeyStream_0 4 rfl rfl)
theorem dX2_makeKeyStream_5 : decode cX2_makeKeyStream 5 = .ok (.getfield 19, 3) := dk_180 0 19 (dk_at dksX2_makeKeyStream_0 5 rfl rfl)
theorem dX2_makeKeyStream_8 : decode cX2_makeKeyStream 8 = .ok (.iconst 0, 1) := dk_3 (dk_at dksX2_makeKeyStream_0 8 rfl rfl)
theorem dX2_makeKeyStream_9 : decode cX2_makeKeyStream 9 = .ok (.invokestatic 149, 3) := dk_184 0 149 (dk_at dksX2_makeKeyStream_0 9 rfl rfl)
theorem dX2_makeKeyStream_12 : decode cX2_makeKeyStream 12 = .ok (.return_, 1) := dk_177 (dk_at dksX2_makeKeyStream_0 12 rfl rfl)
abbrev cX2_makeKeyStreamWord : ByteArray := prog_8_method_23_code
def yX2_makeKeyStreamWord : MethodName := ⟨RX2, "makeKeyStreamWord", "()I"⟩
def dkwX2_makeKeyStreamWord_2 : List UInt8 := [27, 172]
abbrev dktX2_makeKeyStreamWord_2 : List UInt8 := dkwX2_makeKeyStreamWord_2 ++ []
def dkwX2_makeKeyStreamWord_1 : List UInt8 := [183, 0, 65, 191, 42, 182, 0, 133, 42, 182, 0, 136, 42, 180, 0, 16, 6, 46, 130, 60, 42, 182, 0, 143]
abbrev dktX2_makeKeyStreamWord_1 : List UInt8 := dkwX2_makeKeyStreamWord_1 ++ dktX2_makeKeyStreamWord_2
def dkwX2_makeKeyStreamWord_0 : List UInt8 := [42, 89, 180, 0, 46, 90, 4, 96, 181, 0, 46, 42, 182, 0, 153, 161, 0, 13, 187, 0, 61, 89, 18, 156]
abbrev dktX2_makeKeyStreamWord_0 : List UInt8 := dkwX2_makeKeyStreamWord_0 ++ dktX2_makeKeyStreamWord_1
theorem dksX2_makeKeyStreamWord_0 : cX2_makeKeyStreamWord.data.toList.drop 0 = dktX2_makeKeyStreamWord_0 := by decide +kernel
theorem dksX2_makeKeyStreamWord_1 : cX2_makeKeyStreamWord.data.toList.drop 24 = dktX2_makeKeyStreamWord_1 := dk_seg dksX2_makeKeyStreamWord_0 24 rfl rfl
theorem dksX2_makeKeyStreamWord_2 : cX2_makeKeyStreamWord.data.toList.drop 48 = dktX2_makeKeyStreamWord_2 := dk_seg dksX2_makeKeyStreamWord_1 24 rfl rfl
theorem dX2_makeKeyStreamWord_0 : decode cX2_makeKeyStreamWord 0 = .ok (.aload_n 0, 1) := dk_42 (dk_at dksX2_makeKeyStreamWord_0 0 rfl rfl)
theorem dX2_makeKeyStreamWord_1 : decode cX2_makeKeyStreamWord 1 = .ok (.dup, 1) := dk_89 (dk_at dksX2_makeKeyStreamWord_0 1 rfl rfl)
theorem dX2_makeKeyStreamWord_2 : decode cX2_makeKeyStreamWord 2 = .ok (.getfield 46, 3) := dk_180 0 46 (dk_at dksX2_makeKeyStreamWord_0 2 rfl rfl)
theorem dX2_makeKeyStreamWord_5 : decode cX2_makeKeyStreamWord 5 = .ok (.dup_x1, 1) := dk_90 (dk_at dksX2_makeKeyStreamWord_0 5 rfl rfl)
theorem dX2_makeKeyStreamWord_6 : decode cX2_makeKeyStreamWord 6 = .ok (.iconst 1, 1) := dk_4 (dk_at dksX2_makeKeyStreamWord_0 6 rfl rfl)
theorem dX2_makeKeyStreamWord_7 : decode cX2_makeKeyStreamWord 7 = .ok (.iadd, 1) := dk_96 (dk_at dksX2_makeKeyStreamWord_0 7 rfl rfl)
theorem dX2_makeKeyStreamWord_8 : decode cX2_makeKeyStreamWord 8 = .ok (.putfield 46, 3) := dk_181 0 46 (dk_at dksX2_makeKeyStreamWord_0 8 rfl rfl)
theorem dX2_makeKeyStreamWord_11 : decode cX2_makeKeyStreamWord 11 = .ok (.aload_n 0, 1) := dk_42 (dk_at dksX2_makeKeyStreamWord_0 11 rfl rfl)
theorem dX2_makeKeyStreamWord_12 : decode cX2_makeKeyStreamWord 12 = .ok (.invokevirtual 153, 3) := dk_182 0 153 (dk_at dksX2_makeKeyStreamWord_0 12 rfl rfl)
theorem dX2_makeKeyStreamWord_15 : decode cX2_makeKeyStreamWord 15 = .ok (.if_icmp .lt 13, 3) := dk_161 0 13 (dk_at dksX2_makeKeyStreamWord_0 15 rfl rfl)
theorem dX2_makeKeyStreamWord_18 : decode cX2_makeKeyStreamWord 18 = .ok (.new 61, 3) := dk_187 0 61 (dk_at dksX2_makeKeyStreamWord_0 18 rfl rfl)
theorem dX2_makeKeyStreamWord_21 : decode cX2_makeKeyStreamWord 21 = .ok (.dup, 1) := dk_89 (dk_at dksX2_makeKeyStreamWord_0 21 rfl rfl)
theorem dX2_makeKeyStreamWord_22 : decode cX2_makeKeyStreamWord 22 = .ok (.ldc 156, 2) := dk_18 156 (dk_at dksX2_makeKeyStreamWord_0 22 rfl rfl)
theorem dX2_makeKeyStreamWord_24 : decode cX2_makeKeyStreamWord 24 = .ok (.invokespecial 65, 3) := dk_183 0 65 (dk_at dksX2_makeKeyStreamWord_1 0 rfl rfl)
theorem dX2_makeKeyStreamWord_27 : decode cX2_makeKeyStreamWord 27 = .ok (.athrow, 1) := dk_191 (dk_at dksX2_makeKeyStreamWord_1 3 rfl rfl)
theorem dX2_makeKeyStreamWord_28 : decode cX2_makeKeyStreamWord 28 = .ok (.aload_n 0, 1) := dk_42 (dk_at dksX2_makeKeyStreamWord_1 4 rfl rfl)
theorem dX2_makeKeyStreamWord_29 : decode cX2_makeKeyStreamWord 29 = .ok (.invokevirtual 133, 3) := dk_182 0 133 (dk_at dksX2_makeKeyStreamWord_1 5 rfl rfl)
theorem dX2_makeKeyStreamWord_32 : decode cX2_makeKeyStreamWord 32 = .ok (.aload_n 0, 1) := dk_42 (dk_at dksX2_makeKeyStreamWord_1 8 rfl rfl)
theorem dX2_makeKeyStreamWord_33 : decode cX2_makeKeyStreamWord 33 = .ok (.invokevirtual 136, 3) := dk_182 0 136 (dk_at dksX2_makeKeyStreamWord_1 9 rfl rfl)
theorem dX2_makeKeyStreamWord_36 : decode cX2_makeKeyStreamWord 36 = .ok (.aload_n 0, 1) := dk_42 (dk_at dksX2_makeKeyStreamWord_1 12 rfl rfl)
theorem dX2_makeKeyStreamWord_37 : decode cX2_makeKeyStreamWord 37 = .ok (.getfield 16, 3) := dk_180 0 16 (dk_at dksX2_makeKeyStreamWord_1 13 rfl rfl)
theorem dX2_makeKeyStreamWord_40 : decode cX2_makeKeyStreamWord 40 = .ok (.iconst 3, 1) := dk_6 (dk_at dksX2_makeKeyStreamWord_1 16 rfl rfl)
theorem dX2_makeKeyStreamWord_41 : decode cX2_makeKeyStreamWord 41 = .ok (.iaload, 1) := dk_46 (dk_at dksX2_makeKeyStreamWord_1 17 rfl rfl)
theorem dX2_makeKeyStreamWord_42 : decode cX2_makeKeyStreamWord 42 = .ok (.ixor, 1) := dk_130 (dk_at dksX2_makeKeyStreamWord_1 18 rfl rfl)
theorem dX2_makeKeyStreamWord_43 : decode cX2_makeKeyStreamWord 43 = .ok (.istore_n 1, 1) := dk_60 (dk_at dksX2_makeKeyStreamWord_1 19 rfl rfl)
theorem dX2_makeKeyStreamWord_44 : decode cX2_makeKeyStreamWord 44 = .ok (.aload_n 0, 1) := dk_42 (dk_at dksX2_makeKeyStreamWord_1 20 rfl rfl)
theorem dX2_makeKeyStreamWord_45 : decode cX2_makeKeyStreamWord 45 = .ok (.invokevirtual 143, 3) := dk_182 0 143 (dk_at dksX2_makeKeyStreamWord_1 21 rfl rfl)
theorem dX2_makeKeyStreamWord_48 : decode cX2_makeKeyStreamWord 48 = .ok (.iload_n 1, 1) := dk_27 (dk_at dksX2_makeKeyStreamWord_2 0 rfl rfl)
theorem dX2_makeKeyStreamWord_49 : decode cX2_makeKeyStreamWord 49 = .ok (.ireturn, 1) := dk_172 (dk_at dksX2_makeKeyStreamWord_2 1 rfl rfl)
abbrev cX2_getMaxIterations : ByteArray := prog_8_method_4_code
def yX2_getMaxIterations : MethodName := ⟨RX2, "getMaxIterations", "()I"⟩
theorem dX2_getMaxIterations_0 : decode cX2_getMaxIterations 0 = .ok (.sipush 2047, 3) := by decide +kernel
theorem dX2_getMaxIterations_3 : decode cX2_getMaxIterations 3 = .ok (.ireturn, 1) := by decide +kernel
abbrev cX2_BitReorganization : ByteArray := prog_8_method_13_code
def yX2_BitReorganization : MethodName := ⟨RX2, "BitReorganization", "()V"⟩
def dkwX2_BitReorganization_4 : List UInt8 := [180, 0, 7, 5, 46, 18, 94, 126, 16, 16, 120, 42, 180, 0, 7, 3, 46, 16, 15, 124, 128, 79, 177]
abbrev dktX2_BitReorganization_4 : List UInt8 := dkwX2_BitReorganization_4 ++ []
def dkwX2_BitReorganization_3 : List UInt8 := [18, 94, 126, 16, 16, 120, 42, 180, 0, 7, 8, 46, 16, 15, 124, 128, 79, 42, 180, 0, 16, 6, 42]
abbrev dktX2_BitReorganization_3 : List UInt8 := dkwX2_BitReorganization_3 ++ dktX2_BitReorganization_4
def dkwX2_BitReorganization_2 : List UInt8 := [180, 0, 7, 16, 9, 46, 16, 15, 124, 128, 79, 42, 180, 0, 16, 5, 42, 180, 0, 7, 16, 7, 46]
abbrev dktX2_BitReorganization_2 : List UInt8 := dkwX2_BitReorganization_2 ++ dktX2_BitReorganization_3
def dkwX2_BitReorganization_1 : List UInt8 := [18, 94, 126, 128, 79, 42, 180, 0, 16, 4, 42, 180, 0, 7, 16, 11, 46, 18, 94, 126, 16, 16, 120, 42]
abbrev dktX2_BitReorganization_1 : List UInt8 := dkwX2_BitReorganization_1 ++ dktX2_BitReorganization_2
def dkwX2_BitReorganization_0 : List UInt8 := [42, 180, 0, 16, 3, 42, 180, 0, 7, 16, 15, 46, 18, 93, 126, 4, 120, 42, 180, 0, 7, 16, 14, 46]
abbrev dktX2_BitReorganization_0 : List UInt8 := dkwX2_BitReorganization_0 ++ dktX2_BitReorganization_1
theorem dksX2_BitReorganization_0 : cX2_BitReorganization.data.toList.drop 0 = dktX2_BitReorganization_0 := by decide +kernel
theorem dksX2_BitReorganization_1 : cX2_BitReorganization.data.toList.drop 24 = dktX2_BitReorganization_1 := dk_seg dksX2_BitReorganization_0 24 rfl rfl
theorem dksX2_BitReorganization_2 : cX2_BitReorganization.data.toList.drop 48 = dktX2_BitReorganization_2 := dk_seg dksX2_BitReorganization_1 24 rfl rfl
theorem dksX2_BitReorganization_3 : cX2_BitReorganization.data.toList.drop 71 = dktX2_BitReorganization_3 := dk_seg dksX2_BitReorganization_2 23 rfl rfl
theorem dksX2_BitReorganization_4 : cX2_BitReorganization.data.toList.drop 94 = dktX2_BitReorganization_4 := dk_seg dksX2_BitReorganization_3 23 rfl rfl
theorem dX2_BitReorganization_0 : decode cX2_BitReorganization 0 = .ok (.aload_n 0, 1) := dk_42 (dk_at dksX2_BitReorganization_0 0 rfl rfl)
theorem dX2_BitReorganization_1 : decode cX2_BitReorganization 1 = .ok (.getfield 16, 3) := dk_180 0 16 (dk_at dksX2_BitReorganization_0 1 rfl rfl)
theorem dX2_BitReorganization_4 : decode cX2_BitReorganization 4 = .ok (.iconst 0, 1) := dk_3 (dk_at dksX2_BitReorganization_0 4 rfl rfl)
theorem dX2_BitReorganization_5 : decode cX2_BitReorganization 5 = .ok (.aload_n 0, 1) := dk_42 (dk_at dksX2_BitReorganization_0 5 rfl rfl)
theorem dX2_BitReorganization_6 : decode cX2_BitReorganization 6 = .ok (.getfield 7, 3) := dk_180 0 7 (dk_at dksX2_BitReorganization_0 6 rfl rfl)
theorem dX2_BitReorganization_9 : decode cX2_BitReorganization 9 = .ok (.bipush 15, 2) := dk_16 15 (dk_at dksX2_BitReorganization_0 9 rfl rfl)
theorem dX2_BitReorganization_11 : decode cX2_BitReorganization 11 = .ok (.iaload, 1) := dk_46 (dk_at dksX2_BitReorganization_0 11 rfl rfl)
theorem dX2_BitReorganization_12 : decode cX2_BitReorganization 12 = .ok (.ldc 93, 2) := dk_18 93 (dk_at dksX2_BitReorganization_0 12 rfl rfl)
theorem dX2_BitReorganization_14 : decode cX2_BitReorganization 14 = .ok (.iand, 1) := dk_126 (dk_at dksX2_BitReorganization_0 14 rfl rfl)
theorem dX2_BitReorganization_15 : decode cX2_BitReorganization 15 = .ok (.iconst 1, 1) := dk_4 (dk_at dksX2_BitReorganization_0 15 rfl rfl)
theorem dX2_BitReorganization_16 : decode cX2_BitReorganization 16 = .ok (.ishl, 1) := dk_120 (dk_at dksX2_BitReorganization_0 16 rfl rfl)
theorem dX2_BitReorganization_17 : decode cX2_BitReorganization 17 = .ok (.aload_n 0, 1) := dk_42 (dk_at dksX2_BitReorganization_0 17 rfl rfl)
theorem dX2_BitReorganization_18 : decode cX2_BitReorganization 18 = .ok (.getfield 7, 3) := dk_180 0 7 (dk_at dksX2_BitReorganization_0 18 rfl rfl)
theorem dX2_BitReorganization_21 : decode cX2_BitReorganization 21 = .ok (.bipush 14, 2) := dk_16 14 (dk_at dksX2_BitReorganization_0 21 rfl rfl)
theorem dX2_BitReorganization_23 : decode cX2_BitReorganization 23 = .ok (.iaload, 1) := dk_46 (dk_at dksX2_BitReorganization_0 23 rfl rfl)
theorem dX2_BitReorganization_24 : decode cX2_BitReorganization 24 = .ok (.ldc 94, 2) := dk_18 94 (dk_at dksX2_BitReorganization_1 0 rfl rfl)
theorem dX2_BitReorganization_26 : decode cX2_BitReorganization 26 = .ok (.iand, 1) := dk_126 (dk_at dksX2_BitReorganization_1 2 rfl rfl)
theorem dX2_BitReorganization_27 : decode cX2_BitReorganization 27 = .ok (.ior, 1) := dk_128 (dk_at dksX2_BitReorganization_1 3 rfl rfl)
theorem dX2_BitReorganization_28 : decode cX2_BitReorganization 28 = .ok (.iastore, 1) := dk_79 (dk_at dksX2_BitReorganization_1 4 rfl rfl)
theorem dX2_BitReorganization_29 : decode cX2_BitReorganization 29 = .ok (.aload_n 0, 1) := dk_42 (dk_at dksX2_BitReorganization_1 5 rfl rfl)
theorem dX2_BitReorganization_30 : decode cX2_BitReorganization 30 = .ok (.getfield 16, 3) := dk_180 0 16 (dk_at dksX2_BitReorganization_1 6 rfl rfl)
theorem dX2_BitReorganization_33 : decode cX2_BitReorganization 33 = .ok (.iconst 1, 1) := dk_4 (dk_at dksX2_BitReorganization_1 9 rfl rfl)
theorem dX2_BitReorganization_34 : decode cX2_BitReorganization 34 = .ok (.aload_n 0, 1) := dk_42 (dk_at dksX2_BitReorganization_1 10 rfl rfl)
theorem dX2_BitReorganization_35 : decode cX2_BitReorganization 35 = .ok (.getfield 7, 3) := dk_180 0 7 (dk_at dksX2_BitReorganization_1 11 rfl rfl)
theorem dX2_BitReorganization_38 : decode cX2_BitReorganization 38 = .ok (.bipush 11, 2) := dk_16 11 (dk_at dksX2_BitReorganization_1 14 rfl rfl)
theorem dX2_BitReorganization_40 : decode cX2_BitReorganization 40 = .ok (.iaload, 1) := dk_46 (dk_at dksX2_BitReorganization_1 16 rfl rfl)
theorem dX2_BitReorganization_41 : decode cX2_BitReorganization 41 = .ok (.ldc 94, 2) := dk_18 94 (dk_at dksX2_BitReorganization_1 17 rfl rfl)
theorem dX2_BitReorganization_43 : decode cX2_BitReorganization 43 = .ok (.iand, 1) := dk_126 (dk_at dksX2_BitReorganization_1 19 rfl rfl)
theorem dX2_BitReorganization_44 : decode cX2_BitReorganization 44 = .ok (.bipush 16, 2) := dk_16 16 (dk_at dksX2_BitReorganization_1 20 rfl rfl)
theorem dX2_BitReorganization_46 : decode cX2_BitReorganization 46 = .ok (.ishl, 1) := dk_120 (dk_at dksX2_BitReorganization_1 22 rfl rfl)
theorem dX2_BitReorganization_47 : decode cX2_BitReorganization 47 = .ok (.aload_n 0, 1) := dk_42 (dk_at dksX2_BitReorganization_1 23 rfl rfl)
theorem dX2_BitReorganization_48 : decode cX2_BitReorganization 48 = .ok (.getfield 7, 3) := dk_180 0 7 (dk_at dksX2_BitReorganization_2 0 rfl rfl)
theorem dX2_BitReorganization_51 : decode cX2_BitReorganization 51 = .ok (.bipush 9, 2) := dk_16 9 (dk_at dksX2_BitReorganization_2 3 rfl rfl)
theorem dX2_BitReorganization_53 : decode cX2_BitReorganization 53 = .ok (.iaload, 1) := dk_46 (dk_at dksX2_BitReorganization_2 5 rfl rfl)
theorem dX2_BitReorganization_54 : decode cX2_BitReorganization 54 = .ok (.bipush 15, 2) := dk_16 15 (dk_at dksX2_BitReorganization_2 6 rfl rfl)
theorem dX2_BitReorganization_56 : decode cX2_BitReorganization 56 = .ok (.iushr, 1) := dk_124 (dk_at dksX2_BitReorganization_2 8 rfl rfl)
theorem dX2_BitReorganization_57 : decode cX2_BitReorganization 57 = .ok (.ior, 1) := dk_128 (dk_at dksX2_BitReorganization_2 9 rfl rfl)
theorem dX2_BitReorganization_58 : decode cX2_BitReorganization 58 = .ok (.iastore, 1) := dk_79 (dk_at dksX2_BitReorganization_2 10 rfl rfl)
theorem dX2_BitReorganization_59 : decode cX2_BitReorganization 59 = .ok (.aload_n 0, 1) := dk_42 (dk_at dksX2_BitReorganization_2 11 rfl rfl)
theorem dX2_BitReorganization_60 : decode cX2_BitReorganization 60 = .ok (.getfield 16, 3) := dk_180 0 16 (dk_at dksX2_BitReorganization_2 12 rfl rfl)
theorem dX2_BitReorganization_63 : decode cX2_BitReorganization 63 = .ok (.iconst 2, 1) := dk_5 (dk_at dksX2_BitReorganization_2 15 rfl rfl)
theorem dX2_BitReorganization_64 : decode cX2_BitReorganization 64 = .ok (.aload_n 0, 1) := dk_42 (dk_at dksX2_BitReorganization_2 16 rfl rfl)
theorem dX2_BitReorganization_65 : decode cX2_BitReorganization 65 = .ok (.getfield 7, 3) := dk_180 0 7 (dk_at dksX2_BitReorganization_2 17 rfl rfl)
theorem dX2_BitReorganization_68 : decode cX2_BitReorganization 68 = .ok (.bipush 7, 2) := dk_16 7 (dk_at dksX2_BitReorganization_2 20 rfl rfl)
theorem dX2_BitReorganization_70 : decode cX2_BitReorganization 70 = .ok (.iaload, 1) := dk_46 (dk_at dksX2_BitReorganization_2 22 rfl rfl)
theorem dX2_BitReorganization_71 : decode cX2_BitReorganization 71 = .ok (.ldc 94, 2) := dk_18 94 (dk_at dksX2_BitReorganization_3 0 rfl rfl)
theorem dX2_BitReorganization_73 : decode cX2_BitReorganization 73 = .ok (.iand, 1) := dk_126 (dk_at dksX2_BitReorganization_3 2 rfl rfl)
theorem dX2_BitReorganization_74 : decode cX2_BitReorganization 74 = .ok (.bipush 16, 2) := dk_16 16 (dk_at dksX2_BitReorganization_3 3 rfl rfl)
theorem dX2_BitReorganization_76 : decode cX2_BitReorganization 76 = .ok (.ishl, 1) := dk_120 (dk_at dksX2_BitReorganization_3 5 rfl rfl)
theorem dX2_BitReorganization_77 : decode cX2_BitReorganization 77 = .ok (.aload_n 0, 1) := dk_42 (dk_at dksX2_BitReorganization_3 6 rfl rfl)
theorem dX2_BitReorganization_78 : decode cX2_BitReorganization 78 = .ok (.getfield 7, 3) := dk_180 0 7 (dk_at dksX2_BitReorganization_3 7 rfl rfl)
theorem dX2_BitReorganization_81 : decode cX2_BitReorganization 81 = .ok (.iconst 5, 1) := dk_8 (dk_at dksX2_BitReorganization_3 10 rfl rfl)
theorem dX2_BitReorganization_82 : decode cX2_BitReorganization 82 = .ok (.iaload, 1) := dk_46 (dk_at dksX2_BitReorganization_3 11 rfl rfl)
theorem dX2_BitReorganization_83 : decode cX2_BitReorganization 83 = .ok (.bipush 15, 2) := dk_16 15 (dk_at dksX2_BitReorganization_3 12 rfl rfl)
theorem dX2_BitReorganization_85 : decode cX2_BitReorganization 85 = .ok (.iushr, 1) := dk_124 (dk_at dksX2_BitReorganization_3 14 rfl rfl)
theorem dX2_BitReorganization_86 : decode cX2_BitReorganization 86 = .ok (.ior, 1) := dk_128 (dk_at dksX2_BitReorganization_3 15 rfl rfl)
theorem dX2_BitReorganization_87 : decode cX2_BitReorganization 87 = .ok (.iastore, 1) := dk_79 (dk_at dksX2_BitReorganization_3 16 rfl rfl)
theorem dX2_BitReorganization_88 : decode cX2_BitReorganization 88 = .ok (.aload_n 0, 1) := dk_42 (dk_at dksX2_BitReorganization_3 17 rfl rfl)
theorem dX2_BitReorganization_89 : decode cX2_BitReorganization 89 = .ok (.getfield 16, 3) := dk_180 0 16 (dk_at dksX2_BitReorganization_3 18 rfl rfl)
theorem dX2_BitReorganization_92 : decode cX2_BitReorganization 92 = .ok (.iconst 3, 1) := dk_6 (dk_at dksX2_BitReorganization_3 21 rfl rfl)
theorem dX2_BitReorganization_93 : decode cX2_BitReorganization 93 = .ok (.aload_n 0, 1) := dk_42 (dk_at dksX2_BitReorganization_3 22 rfl rfl)
theorem dX2_BitReorganization_94 : decode cX2_BitReorganization 94 = .ok (.getfield 7, 3) := dk_180 0 7 (dk_at dksX2_BitReorganization_4 0 rfl rfl)
theorem dX2_BitReorganization_97 : decode cX2_BitReorganization 97 = .ok (.iconst 2, 1) := dk_5 (dk_at dksX2_BitReorganization_4 3 rfl rfl)
theorem dX2_BitReorganization_98 : decode cX2_BitReorganization 98 = .ok (.iaload, 1) := dk_46 (dk_at dksX2_BitReorganization_4 4 rfl rfl)
theorem dX2_BitReorganization_99 : decode cX2_BitReorganization 99 = .ok (.ldc 94, 2) := dk_18 94 (dk_at dksX2_BitReorganization_4 5 rfl rfl)
theorem dX2_BitReorganization_101 : decode cX2_BitReorganization 101 = .ok (.iand, 1) := dk_126 (dk_at dksX2_BitReorganization_4 7 rfl rfl)
theorem dX2_BitReorganization_102 : decode cX2_BitReorganization 102 = .ok (.bipush 16, 2) := dk_16 16 (dk_at dksX2_BitReorganization_4 8 rfl rfl)
theorem dX2_BitReorganization_104 : decode cX2_BitReorganization 104 = .ok (.ishl, 1) := dk_120 (dk_at dksX2_BitReorganization_4 10 rfl rfl)
theorem dX2_BitReorganization_105 : decode cX2_BitReorganization 105 = .ok (.aload_n 0, 1) := dk_42 (dk_at dksX2_BitReorganization_4 11 rfl rfl)
theorem dX2_BitReorganization_106 : decode cX2_BitReorganization 106 = .ok (.getfield 7, 3) := dk_180 0 7 (dk_at dksX2_BitReorganization_4 12 rfl rfl)
theorem dX2_BitReorganization_109 : decode cX2_BitReorganization 109 = .ok (.iconst 0, 1) := dk_3 (dk_at dksX2_BitReorganization_4 15 rfl rfl)
theorem dX2_BitReorganization_110 : decode cX2_BitReorganization 110 = .ok (.iaload, 1) := dk_46 (dk_at dksX2_BitReorganization_4 16 rfl rfl)
theorem dX2_BitReorganization_111 : decode cX2_BitReorganization 111 = .ok (.bipush 15, 2) := dk_16 15 (dk_at dksX2_BitReorganization_4 17 rfl rfl)
theorem dX2_BitReorganization_113 : decode cX2_BitReorganization 113 = .ok (.iushr, 1) := dk_124 (dk_at dksX2_BitReorganization_4 19 rfl rfl)
theorem dX2_BitReorganization_114 : decode cX2_BitReorganization 114 = .ok (.ior, 1) := dk_128 (dk_at dksX2_BitReorganization_4 20 rfl rfl)
theorem dX2_BitReorganization_115 : decode cX2_BitReorganization 115 = .ok (.iastore, 1) := dk_79 (dk_at dksX2_BitReorganization_4 21 rfl rfl)
theorem dX2_BitReorganization_116 : decode cX2_BitReorganization 116 = .ok (.return_, 1) := dk_177 (dk_at dksX2_BitReorganization_4 22 rfl rfl)
abbrev cX2_F : ByteArray := prog_8_method_18_code
def yX2_F : MethodName := ⟨RX2, "F", "()I"⟩
def dkwX2_F_7 : List UInt8 := [124, 17, 0, 255, 126, 51, 178, 0, 108, 21, 5, 17, 0, 255, 126, 51, 184, 0, 111, 79, 27, 172]
abbrev dktX2_F_7 : List UInt8 := dkwX2_F_7 ++ []
def dkwX2_F_6 : List UInt8 := [16, 24, 124, 51, 178, 0, 108, 21, 5, 16, 16, 124, 17, 0, 255, 126, 51, 178, 0, 105, 21, 5, 16, 8]
abbrev dktX2_F_6 : List UInt8 := dkwX2_F_6 ++ dktX2_F_7
def dkwX2_F_5 : List UInt8 := [178, 0, 108, 21, 4, 17, 0, 255, 126, 51, 184, 0, 111, 79, 42, 180, 0, 13, 4, 178, 0, 105, 21, 5]
abbrev dktX2_F_5 : List UInt8 := dkwX2_F_5 ++ dktX2_F_6
def dkwX2_F_4 : List UInt8 := [21, 4, 16, 16, 124, 17, 0, 255, 126, 51, 178, 0, 105, 21, 4, 16, 8, 124, 17, 0, 255, 126, 51]
abbrev dktX2_F_4 : List UInt8 := dkwX2_F_4 ++ dktX2_F_5
def dkwX2_F_3 : List UInt8 := [124, 128, 184, 0, 102, 54, 5, 42, 180, 0, 13, 3, 178, 0, 105, 21, 4, 16, 24, 124, 51, 178, 0, 108]
abbrev dktX2_F_3 : List UInt8 := dkwX2_F_3 ++ dktX2_F_4
def dkwX2_F_2 : List UInt8 := [46, 130, 62, 28, 16, 16, 120, 29, 16, 16, 124, 128, 184, 0, 98, 54, 4, 29, 16, 16, 120, 28, 16, 16]
abbrev dktX2_F_2 : List UInt8 := dkwX2_F_2 ++ dktX2_F_3
def dkwX2_F_1 : List UInt8 := [180, 0, 13, 3, 46, 42, 180, 0, 16, 4, 46, 96, 61, 42, 180, 0, 13, 4, 46, 42, 180, 0, 16, 5]
abbrev dktX2_F_1 : List UInt8 := dkwX2_F_1 ++ dktX2_F_2
def dkwX2_F_0 : List UInt8 := [42, 180, 0, 16, 3, 46, 42, 180, 0, 13, 3, 46, 130, 42, 180, 0, 13, 4, 46, 96, 60, 42]
abbrev dktX2_F_0 : List UInt8 := dkwX2_F_0 ++ dktX2_F_1
theorem dksX2_F_0 : cX2_F.data.toList.drop 0 = dktX2_F_0 := by decide +kernel
theorem dksX2_F_1 : cX2_F.data.toList.drop 22 = dktX2_F_1 := dk_seg dksX2_F_0 22 rfl rfl
theorem dksX2_F_2 : cX2_F.data.toList.drop 46 = dktX2_F_2 := dk_seg dksX2_F_1 24 rfl rfl
theorem dksX2_F_3 : cX2_F.data.toList.drop 70 = dktX2_F_3 := dk_seg dksX2_F_2 24 rfl rfl
theorem dksX2_F_4 : cX2_F.data.toList.drop 94 = dktX2_F_4 := dk_seg dksX2_F_3 24 rfl rfl
theorem dksX2_F_5 : cX2_F.data.toList.drop 117 = dktX2_F_5 := dk_seg dksX2_F_4 23 rfl rfl
theorem dksX2_F_6 : cX2_F.data.toList.drop 141 = dktX2_F_6 := dk_seg dksX2_F_5 24 rfl rfl
theorem dksX2_F_7 : cX2_F.data.toList.drop 165 = dktX2_F_7 := dk_seg dksX2_F_6 24 rfl rfl
theorem dX2_F_0 : decode cX2_F 0 = .ok (.aload_n 0, 1) := dk_42 (dk_at dksX2_F_0 0 rfl rfl)
theorem dX2_F_1 : decode cX2_F 1 = .ok (.getfield 16, 3) := dk_180 0 16 (dk_at dksX2_F_0 1 rfl rfl)
theorem dX2_F_4 : decode cX2_F 4 = .ok (.iconst 0, 1) := dk_3 (dk_at dksX2_F_0 4 rfl rfl)
theorem dX2_F_5 : decode cX2_F 5 = .ok (.iaload, 1) := dk_46 (dk_at dksX2_F_0 5 rfl rfl)
theorem dX2_F_6 : decode cX2_F 6 = .ok (.aload_n 0, 1) := dk_42 (dk_at dksX2_F_0 6 rfl rfl)
theorem dX2_F_7 : decode cX2_F 7 = .ok (.getfield 13, 3) := dk_180 0 13 (dk_at dksX2_F_0 7 rfl rfl)
theorem dX2_F_10 : decode cX2_F 10 = .ok (.iconst 0, 1) := dk_3 (dk_at dksX2_F_0 10 rfl rfl)
theorem dX2_F_11 : decode cX2_F 11 = .ok (.iaload, 1) := dk_46 (dk_at dksX2_F_0 11 rfl rfl)
theorem dX2_F_12 : decode cX2_F 12 = .ok (.ixor, 1) := dk_130 (dk_at dksX2_F_0 12 rfl rfl)
theorem dX2_F_13 : decode cX2_F 13 = .ok (.aload_n 0, 1) := dk_42 (dk_at dksX2_F_0 13 rfl rfl)
theorem dX2_F_14 : decode cX2_F 14 = .ok (.getfield 13, 3) := dk_180 0 13 (dk_at dksX2_F_0 14 rfl rfl)
theorem dX2_F_17 : decode cX2_F 17 = .ok (.iconst 1, 1) := dk_4 (dk_at dksX2_F_0 17 rfl rfl)
theorem dX2_F_18 : decode cX2_F 18 = .ok (.iaload, 1) := dk_46 (dk_at dksX2_F_0 18 rfl rfl)
theorem dX2_F_19 : decode cX2_F 19 = .ok (.iadd, 1) := dk_96 (dk_at dksX2_F_0 19 rfl rfl)
theorem dX2_F_20 : decode cX2_F 20 = .ok (.istore_n 1, 1) := dk_60 (dk_at dksX2_F_0 20 rfl rfl)
theorem dX2_F_21 : decode cX2_F 21 = .ok (.aload_n 0, 1) := dk_42 (dk_at dksX2_F_0 21 rfl rfl)
theorem dX2_F_22 : decode cX2_F 22 = .ok (.getfield 13, 3) := dk_180 0 13 (dk_at dksX2_F_1 0 rfl rfl)
theorem dX2_F_25 : decode cX2_F 25 = .ok (.iconst 0, 1) := dk_3 (dk_at dksX2_F_1 3 rfl rfl)
theorem dX2_F_26 : decode cX2_F 26 = .ok (.iaload, 1) := dk_46 (dk_at dksX2_F_1 4 rfl rfl)
theorem dX2_F_27 : decode cX2_F 27 = .ok (.aload_n 0, 1) := dk_42 (dk_at dksX2_F_1 5 rfl rfl)
theorem dX2_F_28 : decode cX2_F 28 = .ok (.getfield 16, 3) := dk_180 0 16 (dk_at dksX2_F_1 6 rfl rfl)
theorem dX2_F_31 : decode cX2_F 31 = .ok (.iconst 1, 1) := dk_4 (dk_at dksX2_F_1 9 rfl rfl)
theorem dX2_F_32 : decode cX2_F 32 = .ok (.iaload, 1) := dk_46 (dk_at dksX2_F_1 10 rfl rfl)
theorem dX2_F_33 : decode cX2_F 33 = .ok (.iadd, 1) := dk_96 (dk_at dksX2_F_1 11 rfl rfl)
theorem dX2_F_34 : decode cX2_F 34 = .ok (.istore_n 2, 1) := dk_61 (dk_at dksX2_F_1 12 rfl rfl)
theorem dX2_F_35 : decode cX2_F 35 = .ok (.aload_n 0, 1) := dk_42 (dk_at dksX2_F_1 13 rfl rfl)
theorem dX2_F_36 : decode cX2_F 36 = .ok (.getfield 13, 3) := dk_180 0 13 (dk_at dksX2_F_1 14 rfl rfl)
theorem dX2_F_39 : decode cX2_F 39 = .ok (.iconst 1, 1) := dk_4 (dk_at dksX2_F_1 17 rfl rfl)
theorem dX2_F_40 : decode cX2_F 40 = .ok (.iaload, 1) := dk_46 (dk_at dksX2_F_1 18 rfl rfl)
theorem dX2_F_41 : decode cX2_F 41 = .ok (.aload_n 0, 1) := dk_42 (dk_at dksX2_F_1 19 rfl rfl)
theorem dX2_F_42 : decode cX2_F 42 = .ok (.getfield 16, 3) := dk_180 0 16 (dk_at dksX2_F_1 20 rfl rfl)
theorem dX2_F_45 : decode cX2_F 45 = .ok (.iconst 2, 1) := dk_5 (dk_at dksX2_F_1 23 rfl rfl)
theorem dX2_F_46 : decode cX2_F 46 = .ok (.iaload, 1) := dk_46 (dk_at dksX2_F_2 0 rfl rfl)
theorem dX2_F_47 : decode cX2_F 47 = .ok (.ixor, 1) := dk_130 (dk_at dksX2_F_2 1 rfl rfl)
theorem dX2_F_48 : decode cX2_F 48 = .ok (.istore_n 3, 1) := dk_62 (dk_at dksX2_F_2 2 rfl rfl)
theorem dX2_F_49 : decode cX2_F 49 = .ok (.iload_n 2, 1) := dk_28 (dk_at dksX2_F_2 3 rfl rfl)
theorem dX2_F_50 : decode cX2_F 50 = .ok (.bipush 16, 2) := dk_16 16 (dk_at dksX2_F_2 4 rfl rfl)
theorem dX2_F_52 : decode cX2_F 52 = .ok (.ishl, 1) := dk_120 (dk_at dksX2_F_2 6 rfl rfl)
theorem dX2_F_53 : decode cX2_F 53 = .ok (.iload_n 3, 1) := dk_29 (dk_at dksX2_F_2 7 rfl rfl)
theorem dX2_F_54 : decode cX2_F 54 = .ok (.bipush 16, 2) := dk_16 16 (dk_at dksX2_F_2 8 rfl rfl)
theorem dX2_F_56 : decode cX2_F 56 = .ok (.iushr, 1) := dk_124 (dk_at dksX2_F_2 10 rfl rfl)
theorem dX2_F_57 : decode cX2_F 57 = .ok (.ior, 1) := dk_128 (dk_at dksX2_F_2 11 rfl rfl)
theorem dX2_F_58 : decode cX2_F 58 = .ok (.invokestatic 98, 3) := dk_184 0 98 (dk_at dksX2_F_2 12 rfl rfl)
theorem dX2_F_61 : decode cX2_F 61 = .ok (.istore 4, 2) := dk_54 4 (dk_at dksX2_F_2 15 rfl rfl)
theorem dX2_F_63 : decode cX2_F 63 = .ok (.iload_n 3, 1) := dk_29 (dk_at dksX2_F_2 17 rfl rfl)
theorem dX2_F_64 : decode cX2_F 64 = .ok (.bipush 16, 2) := dk_16 16 (dk_at dksX2_F_2 18 rfl rfl)
theorem dX2_F_66 : decode cX2_F 66 = .ok (.ishl, 1) := dk_120 (dk_at dksX2_F_2 20 rfl rfl)
theorem dX2_F_67 : decode cX2_F 67 = .ok (.iload_n 2, 1) := dk_28 (dk_at dksX2_F_2 21 rfl rfl)
theorem dX2_F_68 : decode cX2_F 68 = .ok (.bipush 16, 2) := dk_16 16 (dk_at dksX2_F_2 22 rfl rfl)
theorem dX2_F_70 : decode cX2_F 70 = .ok (.iushr, 1) := dk_124 (dk_at dksX2_F_3 0 rfl rfl)
theorem dX2_F_71 : decode cX2_F 71 = .ok (.ior, 1) := dk_128 (dk_at dksX2_F_3 1 rfl rfl)
theorem dX2_F_72 : decode cX2_F 72 = .ok (.invokestatic 102, 3) := dk_184 0 102 (dk_at dksX2_F_3 2 rfl rfl)
theorem dX2_F_75 : decode cX2_F 75 = .ok (.istore 5, 2) := dk_54 5 (dk_at dksX2_F_3 5 rfl rfl)
theorem dX2_F_77 : decode cX2_F 77 = .ok (.aload_n 0, 1) := dk_42 (dk_at dksX2_F_3 7 rfl rfl)
theorem dX2_F_78 : decode cX2_F 78 = .ok (.getfield 13, 3) := dk_180 0 13 (dk_at dksX2_F_3 8 rfl rfl)
theorem dX2_F_81 : decode cX2_F 81 = .ok (.iconst 0, 1) := dk_3 (dk_at dksX2_F_3 11 rfl rfl)
theorem dX2_F_82 : decode cX2_F 82 = .ok (.getstatic 105, 3) := dk_178 0 105 (dk_at dksX2_F_3 12 rfl rfl)
theorem dX2_F_85 : decode cX2_F 85 = .ok (.iload 4, 2) := dk_21 4 (dk_at dksX2_F_3 15 rfl rfl)
theorem dX2_F_87 : decode cX2_F 87 = .ok (.bipush 24, 2) := dk_16 24 (dk_at dksX2_F_3 17 rfl rfl)
theorem dX2_F_89 : decode cX2_F 89 = .ok (.iushr, 1) := dk_124 (dk_at dksX2_F_3 19 rfl rfl)
theorem dX2_F_90 : decode cX2_F 90 = .ok (.baload, 1) := dk_51 (dk_at dksX2_F_3 20 rfl rfl)
theorem dX2_F_91 : decode cX2_F 91 = .ok (.getstatic 108, 3) := dk_178 0 108 (dk_at dksX2_F_3 21 rfl rfl)
theorem dX2_F_94 : decode cX2_F 94 = .ok (.iload 4, 2) := dk_21 4 (dk_at dksX2_F_4 0 rfl rfl)
theorem dX2_F_96 : decode cX2_F 96 = .ok (.bipush 16, 2) := dk_16 16 (dk_at dksX2_F_4 2 rfl rfl)
theorem dX2_F_98 : decode cX2_F 98 = .ok (.iushr, 1) := dk_124 (dk_at dksX2_F_4 4 rfl rfl)
theorem dX2_F_99 : decode cX2_F 99 = .ok (.sipush 255, 3) := dk_17 0 255 (dk_at dksX2_F_4 5 rfl rfl)
theorem dX2_F_102 : decode cX2_F 102 = .ok (.iand, 1) := dk_126 (dk_at dksX2_F_4 8 rfl rfl)
theorem dX2_F_103 : decode cX2_F 103 = .ok (.baload, 1) := dk_51 (dk_at dksX2_F_4 9 rfl rfl)
theorem dX2_F_104 : decode cX2_F 104 = .ok (.getstatic 105, 3) := dk_178 0 105 (dk_at dksX2_F_4 10 rfl rfl)
theorem dX2_F_107 : decode cX2_F 107 = .ok (.iload 4, 2) := dk_21 4 (dk_at dksX2_F_4 13 rfl rfl)
theorem dX2_F_109 : decode cX2_F 109 = .ok (.bipush 8, 2) := dk_16 8 (dk_at dksX2_F_4 15 rfl rfl)
theorem dX2_F_111 : decode cX2_F 111 = .ok (.iushr, 1) := dk_124 (dk_at dksX2_F_4 17 rfl rfl)
theorem dX2_F_112 : decode cX2_F 112 = .ok (.sipush 255, 3) := dk_17 0 255 (dk_at dksX2_F_4 18 rfl rfl)
theorem dX2_F_115 : decode cX2_F 115 = .ok (.iand, 1) := dk_126 (dk_at dksX2_F_4 21 rfl rfl)
theorem dX2_F_116 : decode cX2_F 116 = .ok (.baload, 1) := dk_51 (dk_at dksX2_F_4 22 rfl rfl)
theorem dX2_F_117 : decode cX2_F 117 = .ok (.getstatic 108, 3) := dk_178 0 108 (dk_at dksX2_F_5 0 rfl rfl)
theorem dX2_F_120 : decode cX2_F 120 = .ok (.iload 4, 2) := dk_21 4 (dk_at dksX2_F_5 3 rfl rfl)
theorem dX2_F_122 : decode cX2_F 122 = .ok (.sipush 255, 3) := dk_17 0 255 (dk_at dksX2_F_5 5 rfl rfl)
theorem dX2_F_125 : decode cX2_F 125 = .ok (.iand, 1) := dk_126 (dk_at dksX2_F_5 8 rfl rfl)
theorem dX2_F_126 : decode cX2_F 126 = .ok (.baload, 1) := dk_51 (dk_at dksX2_F_5 9 rfl rfl)
theorem dX2_F_127 : decode cX2_F 127 = .ok (.invokestatic 111, 3) := dk_184 0 111 (dk_at dksX2_F_5 10 rfl rfl)
theorem dX2_F_130 : decode cX2_F 130 = .ok (.iastore, 1) := dk_79 (dk_at dksX2_F_5 13 rfl rfl)
theorem dX2_F_131 : decode cX2_F 131 = .ok (.aload_n 0, 1) := dk_42 (dk_at dksX2_F_5 14 rfl rfl)
theorem dX2_F_132 : decode cX2_F 132 = .ok (.getfield 13, 3) := dk_180 0 13 (dk_at dksX2_F_5 15 rfl rfl)
theorem dX2_F_135 : decode cX2_F 135 = .ok (.iconst 1, 1) := dk_4 (dk_at dksX2_F_5 18 rfl rfl)
theorem dX2_F_136 : decode cX2_F 136 = .ok (.getstatic 105, 3) := dk_178 0 105 (dk_at dksX2_F_5 19 rfl rfl)
theorem dX2_F_139 : decode cX2_F 139 = .ok (.iload 5, 2) := dk_21 5 (dk_at dksX2_F_5 22 rfl rfl)
theorem dX2_F_141 : decode cX2_F 141 = .ok (.bipush 24, 2) := dk_16 24 (dk_at dksX2_F_6 0 rfl rfl)
theorem dX2_F_143 : decode cX2_F 143 = .ok (.iushr, 1) := dk_124 (dk_at dksX2_F_6 2 rfl rfl)
theorem dX2_F_144 : decode cX2_F 144 = .ok (.baload, 1) := dk_51 (dk_at dksX2_F_6 3 rfl rfl)
theorem dX2_F_145 : decode cX2_F 145 = .ok (.getstatic 108, 3) := dk_178 0 108 (dk_at dksX2_F_6 4 rfl rfl)
theorem dX2_F_148 : decode cX2_F 148 = .ok (.iload 5, 2) := dk_21 5 (dk_at dksX2_F_6 7 rfl rfl)
theorem dX2_F_150 : decode cX2_F 150 = .ok (.bipush 16, 2) := dk_16 16 (dk_at dksX2_F_6 9 rfl rfl)
theorem dX2_F_152 : decode cX2_F 152 = .ok (.iushr, 1) := dk_124 (dk_at dksX2_F_6 11 rfl rfl)
theorem dX2_F_153 : decode cX2_F 153 = .ok (.sipush 255, 3) := dk_17 0 255 (dk_at dksX2_F_6 12 rfl rfl)
theorem dX2_F_156 : decode cX2_F 156 = .ok (.iand, 1) := dk_126 (dk_at dksX2_F_6 15 rfl rfl)
theorem dX2_F_157 : decode cX2_F 157 = .ok (.baload, 1) := dk_51 (dk_at dksX2_F_6 16 rfl rfl)
theorem dX2_F_158 : decode cX2_F 158 = .ok (.getstatic 105, 3) := dk_178 0 105 (dk_at dksX2_F_6 17 rfl rfl)
theorem dX2_F_161 : decode cX2_F 161 = .ok (.iload 5, 2) := dk_21 5 (dk_at dksX2_F_6 20 rfl rfl)
theorem dX2_F_163 : decode cX2_F 163 = .ok (.bipush 8, 2) := dk_16 8 (dk_at dksX2_F_6 22 rfl rfl)
theorem dX2_F_165 : decode cX2_F 165 = .ok (.iushr, 1) := dk_124 (dk_at dksX2_F_7 0 rfl rfl)
theorem dX2_F_166 : decode cX2_F 166 = .ok (.sipush 255, 3) := dk_17 0 255 (dk_at dksX2_F_7 1 rfl rfl)
theorem dX2_F_169 : decode cX2_F 169 = .ok (.iand, 1) := dk_126 (dk_at dksX2_F_7 4 rfl rfl)
theorem dX2_F_170 : decode cX2_F 170 = .ok (.baload, 1) := dk_51 (dk_at dksX2_F_7 5 rfl rfl)
theorem dX2_F_171 : decode cX2_F 171 = .ok (.getstatic 108, 3) := dk_178 0 108 (dk_at dksX2_F_7 6 rfl rfl)
theorem dX2_F_174 : decode cX2_F 174 = .ok (.iload 5, 2) := dk_21 5 (dk_at dksX2_F_7 9 rfl rfl)
theorem dX2_F_176 : decode cX2_F 176 = .ok (.sipush 255, 3) := dk_17 0 255 (dk_at dksX2_F_7 11 rfl rfl)
theorem dX2_F_179 : decode cX2_F 179 = .ok (.iand, 1) := dk_126 (dk_at dksX2_F_7 14 rfl rfl)
theorem dX2_F_180 : decode cX2_F 180 = .ok (.baload, 1) := dk_51 (dk_at dksX2_F_7 15 rfl rfl)
theorem dX2_F_181 : decode cX2_F 181 = .ok (.invokestatic 111, 3) := dk_184 0 111 (dk_at dksX2_F_7 16 rfl rfl)
theorem dX2_F_184 : decode cX2_F 184 = .ok (.iastore, 1) := dk_79 (dk_at dksX2_F_7 19 rfl rfl)
theorem dX2_F_185 : decode cX2_F 185 = .ok (.iload_n 1, 1) := dk_27 (dk_at dksX2_F_7 20 rfl rfl)
theorem dX2_F_186 : decode cX2_F 186 = .ok (.ireturn, 1) := dk_172 (dk_at dksX2_F_7 21 rfl rfl)
abbrev cX2_L1 : ByteArray := prog_8_method_15_code
def yX2_L1 : MethodName := ⟨RX2, "L1", "(I)I"⟩
def dkwX2_L1_1 : List UInt8 := [184, 0, 95, 130, 172]
abbrev dktX2_L1_1 : List UInt8 := dkwX2_L1_1 ++ []
def dkwX2_L1_0 : List UInt8 := [26, 26, 5, 184, 0, 95, 130, 26, 16, 10, 184, 0, 95, 130, 26, 16, 18, 184, 0, 95, 130, 26, 16, 24]
abbrev dktX2_L1_0 : List UInt8 := dkwX2_L1_0 ++ dktX2_L1_1
theorem dksX2_L1_0 : cX2_L1.data.toList.drop 0 = dktX2_L1_0 := by decide +kernel
theorem dksX2_L1_1 : cX2_L1.data.toList.drop 24 = dktX2_L1_1 := dk_seg dksX2_L1_0 24 rfl rfl
theorem dX2_L1_0 : decode cX2_L1 0 = .ok (.iload_n 0, 1) := dk_26 (dk_at dksX2_L1_0 0 rfl rfl)
theorem dX2_L1_1 : decode cX2_L1 1 = .ok (.iload_n 0, 1) := dk_26 (dk_at dksX2_L1_0 1 rfl rfl)
theorem dX2_L1_2 : decode cX2_L1 2 = .ok (.iconst 2, 1) := dk_5 (dk_at dksX2_L1_0 2 rfl rfl)
theorem dX2_L1_3 : decode cX2_L1 3 = .ok (.invokestatic 95, 3) := dk_184 0 95 (dk_at dksX2_L1_0 3 rfl rfl)
theorem dX2_L1_6 : decode cX2_L1 6 = .ok (.ixor, 1) := dk_130 (dk_at dksX2_L1_0 6 rfl rfl)
theorem dX2_L1_7 : decode cX2_L1 7 = .ok (.iload_n 0, 1) := dk_26 (dk_at dksX2_L1_0 7 rfl rfl)
theorem dX2_L1_8 : decode cX2_L1 8 = .ok (.bipush 10, 2) := dk_16 10 (dk_at dksX2_L1_0 8 rfl rfl)
theorem dX2_L1_10 : decode cX2_L1 10 = .ok (.invokestatic 95, 3) := dk_184 0 95 (dk_at dksX2_L1_0 10 rfl rfl)
theorem dX2_L1_13 : decode cX2_L1 13 = .ok (.ixor, 1) := dk_130 (dk_at dksX2_L1_0 13 rfl rfl)
theorem dX2_L1_14 : decode cX2_L1 14 = .ok (.iload_n 0, 1) := dk_26 (dk_at dksX2_L1_0 14 rfl rfl)
theorem dX2_L1_15 : decode cX2_L1 15 = .ok (.bipush 18, 2) := dk_16 18 (dk_at dksX2_L1_0 15 rfl rfl)
theorem dX2_L1_17 : decode cX2_L1 17 = .ok (.invokestatic 95, 3) := dk_184 0 95 (dk_at dksX2_L1_0 17 rfl rfl)
theorem dX2_L1_20 : decode cX2_L1 20 = .ok (.ixor, 1) := dk_130 (dk_at dksX2_L1_0 20 rfl rfl)
theorem dX2_L1_21 : decode cX2_L1 21 = .ok (.iload_n 0, 1) := dk_26 (dk_at dksX2_L1_0 21 rfl rfl)
theorem dX2_L1_22 : decode cX2_L1 22 = .ok (.bipush 24, 2) := dk_16 24 (dk_at dksX2_L1_0 22 rfl rfl)
theorem dX2_L1_24 : decode cX2_L1 24 = .ok (.invokestatic 95, 3) := dk_184 0 95 (dk_at dksX2_L1_1 0 rfl rfl)
theorem dX2_L1_27 : decode cX2_L1 27 = .ok (.ixor, 1) := dk_130 (dk_at dksX2_L1_1 3 rfl rfl)
theorem dX2_L1_28 : decode cX2_L1 28 = .ok (.ireturn, 1) := dk_172 (dk_at dksX2_L1_1 4 rfl rfl)
abbrev cX2_ROT : ByteArray := prog_8_method_14_code
def yX2_ROT : MethodName := ⟨RX2, "ROT", "(II)I"⟩
def dkwX2_ROT_0 : List UInt8 := [26, 27, 120, 26, 16, 32, 27, 100, 124, 128, 172]
abbrev dktX2_ROT_0 : List UInt8 := dkwX2_ROT_0 ++ []
theorem dksX2_ROT_0 : cX2_ROT.data.toList.drop 0 = dktX2_ROT_0 := by decide +kernel
theorem dX2_ROT_0 : decode cX2_ROT 0 = .ok (.iload_n 0, 1) := dk_26 (dk_at dksX2_ROT_0 0 rfl rfl)
theorem dX2_ROT_1 : decode cX2_ROT 1 = .ok (.iload_n 1, 1) := dk_27 (dk_at dksX2_ROT_0 1 rfl rfl)
theorem dX2_ROT_2 : decode cX2_ROT 2 = .ok (.ishl, 1) := dk_120 (dk_at dksX2_ROT_0 2 rfl rfl)
theorem dX2_ROT_3 : decode cX2_ROT 3 = .ok (.iload_n 0, 1) := dk_26 (dk_at dksX2_ROT_0 3 rfl rfl)
theorem dX2_ROT_4 : decode cX2_ROT 4 = .ok (.bipush 32, 2) := dk_16 32 (dk_at dksX2_ROT_0 4 rfl rfl)
theorem dX2_ROT_6 : decode cX2_ROT 6 = .ok (.iload_n 1, 1) := dk_27 (dk_at dksX2_ROT_0 6 rfl rfl)
theorem dX2_ROT_7 : decode cX2_ROT 7 = .ok (.isub, 1) := dk_100 (dk_at dksX2_ROT_0 7 rfl rfl)
theorem dX2_ROT_8 : decode cX2_ROT 8 = .ok (.iushr, 1) := dk_124 (dk_at dksX2_ROT_0 8 rfl rfl)
theorem dX2_ROT_9 : decode cX2_ROT 9 = .ok (.ior, 1) := dk_128 (dk_at dksX2_ROT_0 9 rfl rfl)
theorem dX2_ROT_10 : decode cX2_ROT 10 = .ok (.ireturn, 1) := dk_172 (dk_at dksX2_ROT_0 10 rfl rfl)
abbrev cX2_L2 : ByteArray := prog_8_method_16_code
def yX2_L2 : MethodName := ⟨RX2, "L2", "(I)I"⟩
def dkwX2_L2_1 : List UInt8 := [16, 30, 184, 0, 95, 130, 172]
abbrev dktX2_L2_1 : List UInt8 := dkwX2_L2_1 ++ []
def dkwX2_L2_0 : List UInt8 := [26, 26, 16, 8, 184, 0, 95, 130, 26, 16, 14, 184, 0, 95, 130, 26, 16, 22, 184, 0, 95, 130, 26]
abbrev dktX2_L2_0 : List UInt8 := dkwX2_L2_0 ++ dktX2_L2_1
theorem dksX2_L2_0 : cX2_L2.data.toList.drop 0 = dktX2_L2_0 := by decide +kernel
theorem dksX2_L2_1 : cX2_L2.data.toList.drop 23 = dktX2_L2_1 := dk_seg dksX2_L2_0 23 rfl rfl
theorem dX2_L2_0 : decode cX2_L2 0 = .ok (.iload_n 0, 1) := dk_26 (dk_at dksX2_L2_0 0 rfl rfl)
theorem dX2_L2_1 : decode cX2_L2 1 = .ok (.iload_n 0, 1) := dk_26 (dk_at dksX2_L2_0 1 rfl rfl)
theorem dX2_L2_2 : decode cX2_L2 2 = .ok (.bipush 8, 2) := dk_16 8 (dk_at dksX2_L2_0 2 rfl rfl)
theorem dX2_L2_4 : decode cX2_L2 4 = .ok (.invokestatic 95, 3) := dk_184 0 95 (dk_at dksX2_L2_0 4 rfl rfl)
theorem dX2_L2_7 : decode cX2_L2 7 = .ok (.ixor, 1) := dk_130 (dk_at dksX2_L2_0 7 rfl rfl)
theorem dX2_L2_8 : decode cX2_L2 8 = .ok (.iload_n 0, 1) := dk_26 (dk_at dksX2_L2_0 8 rfl rfl)
theorem dX2_L2_9 : decode cX2_L2 9 = .ok (.bipush 14, 2) := dk_16 14 (dk_at dksX2_L2_0 9 rfl rfl)
theorem dX2_L2_11 : decode cX2_L2 11 = .ok (.invokestatic 95, 3) := dk_184 0 95 (dk_at dksX2_L2_0 11 rfl rfl)
theorem dX2_L2_14 : decode cX2_L2 14 = .ok (.ixor, 1) := dk_130 (dk_at dksX2_L2_0 14 rfl rfl)
theorem dX2_L2_15 : decode cX2_L2 15 = .ok (.iload_n 0, 1) := dk_26 (dk_at dksX2_L2_0 15 rfl rfl)
theorem dX2_L2_16 : decode cX2_L2 16 = .ok (.bipush 22, 2) := dk_16 22 (dk_at dksX2_L2_0 16 rfl rfl)
theorem dX2_L2_18 : decode cX2_L2 18 = .ok (.invokestatic 95, 3) := dk_184 0 95 (dk_at dksX2_L2_0 18 rfl rfl)
theorem dX2_L2_21 : decode cX2_L2 21 = .ok (.ixor, 1) := dk_130 (dk_at dksX2_L2_0 21 rfl rfl)
theorem dX2_L2_22 : decode cX2_L2 22 = .ok (.iload_n 0, 1) := dk_26 (dk_at dksX2_L2_0 22 rfl rfl)
theorem dX2_L2_23 : decode cX2_L2 23 = .ok (.bipush 30, 2) := dk_16 30 (dk_at dksX2_L2_1 0 rfl rfl)
theorem dX2_L2_25 : decode cX2_L2 25 = .ok (.invokestatic 95, 3) := dk_184 0 95 (dk_at dksX2_L2_1 2 rfl rfl)
theorem dX2_L2_28 : decode cX2_L2 28 = .ok (.ixor, 1) := dk_130 (dk_at dksX2_L2_1 5 rfl rfl)
theorem dX2_L2_29 : decode cX2_L2 29 = .ok (.ireturn, 1) := dk_172 (dk_at dksX2_L2_1 6 rfl rfl)
abbrev cX2_MAKEU32 : ByteArray := prog_8_method_17_code
def yX2_MAKEU32 : MethodName := ⟨RX2, "MAKEU32", "(BBBB)I"⟩
def dkwX2_MAKEU32_1 : List UInt8 := [120, 128, 29, 17, 0, 255, 126, 128, 172]
abbrev dktX2_MAKEU32_1 : List UInt8 := dkwX2_MAKEU32_1 ++ []
def dkwX2_MAKEU32_0 : List UInt8 := [26, 17, 0, 255, 126, 16, 24, 120, 27, 17, 0, 255, 126, 16, 16, 120, 128, 28, 17, 0, 255, 126, 16, 8]
abbrev dktX2_MAKEU32_0 : List UInt8 := dkwX2_MAKEU32_0 ++ dktX2_MAKEU32_1
theorem dksX2_MAKEU32_0 : cX2_MAKEU32.data.toList.drop 0 = dktX2_MAKEU32_0 := by decide +kernel
theorem dksX2_MAKEU32_1 : cX2_MAKEU32.data.toList.drop 24 = dktX2_MAKEU32_1 := dk_seg dksX2_MAKEU32_0 24 rfl rfl
theorem dX2_MAKEU32_0 : decode cX2_MAKEU32 0 = .ok (.iload_n 0, 1) := dk_26 (dk_at dksX2_MAKEU32_0 0 rfl rfl)
theorem dX2_MAKEU32_1 : decode cX2_MAKEU32 1 = .ok (.sipush 255, 3) := dk_17 0 255 (dk_at dksX2_MAKEU32_0 1 rfl rfl)
theorem dX2_MAKEU32_4 : decode cX2_MAKEU32 4 = .ok (.iand, 1) := dk_126 (dk_at dksX2_MAKEU32_0 4 rfl rfl)
theorem dX2_MAKEU32_5 : decode cX2_MAKEU32 5 = .ok (.bipush 24, 2) := dk_16 24 (dk_at dksX2_MAKEU32_0 5 rfl rfl)
theorem dX2_MAKEU32_7 : decode cX2_MAKEU32 7 = .ok (.ishl, 1) := dk_120 (dk_at dksX2_MAKEU32_0 7 rfl rfl)
theorem dX2_MAKEU32_8 : decode cX2_MAKEU32 8 = .ok (.iload_n 1, 1) := dk_27 (dk_at dksX2_MAKEU32_0 8 rfl rfl)
theorem dX2_MAKEU32_9 : decode cX2_MAKEU32 9 = .ok (.sipush 255, 3) := dk_17 0 255 (dk_at dksX2_MAKEU32_0 9 rfl rfl)
theorem dX2_MAKEU32_12 : decode cX2_MAKEU32 12 = .ok (.iand, 1) := dk_126 (dk_at dksX2_MAKEU32_0 12 rfl rfl)
theorem dX2_MAKEU32_13 : decode cX2_MAKEU32 13 = .ok (.bipush 16, 2) := dk_16 16 (dk_at dksX2_MAKEU32_0 13 rfl rfl)
theorem dX2_MAKEU32_15 : decode cX2_MAKEU32 15 = .ok (.ishl, 1) := dk_120 (dk_at dksX2_MAKEU32_0 15 rfl rfl)
theorem dX2_MAKEU32_16 : decode cX2_MAKEU32 16 = .ok (.ior, 1) := dk_128 (dk_at dksX2_MAKEU32_0 16 rfl rfl)
theorem dX2_MAKEU32_17 : decode cX2_MAKEU32 17 = .ok (.iload_n 2, 1) := dk_28 (dk_at dksX2_MAKEU32_0 17 rfl rfl)
theorem dX2_MAKEU32_18 : decode cX2_MAKEU32 18 = .ok (.sipush 255, 3) := dk_17 0 255 (dk_at dksX2_MAKEU32_0 18 rfl rfl)
theorem dX2_MAKEU32_21 : decode cX2_MAKEU32 21 = .ok (.iand, 1) := dk_126 (dk_at dksX2_MAKEU32_0 21 rfl rfl)
theorem dX2_MAKEU32_22 : decode cX2_MAKEU32 22 = .ok (.bipush 8, 2) := dk_16 8 (dk_at dksX2_MAKEU32_0 22 rfl rfl)
theorem dX2_MAKEU32_24 : decode cX2_MAKEU32 24 = .ok (.ishl, 1) := dk_120 (dk_at dksX2_MAKEU32_1 0 rfl rfl)
theorem dX2_MAKEU32_25 : decode cX2_MAKEU32 25 = .ok (.ior, 1) := dk_128 (dk_at dksX2_MAKEU32_1 1 rfl rfl)
theorem dX2_MAKEU32_26 : decode cX2_MAKEU32 26 = .ok (.iload_n 3, 1) := dk_29 (dk_at dksX2_MAKEU32_1 2 rfl rfl)
theorem dX2_MAKEU32_27 : decode cX2_MAKEU32 27 = .ok (.sipush 255, 3) := dk_17 0 255 (dk_at dksX2_MAKEU32_1 3 rfl rfl)
theorem dX2_MAKEU32_30 : decode cX2_MAKEU32 30 = .ok (.iand, 1) := dk_126 (dk_at dksX2_MAKEU32_1 6 rfl rfl)
theorem dX2_MAKEU32_31 : decode cX2_MAKEU32 31 = .ok (.ior, 1) := dk_128 (dk_at dksX2_MAKEU32_1 7 rfl rfl)
theorem dX2_MAKEU32_32 : decode cX2_MAKEU32 32 = .ok (.ireturn, 1) := dk_172 (dk_at dksX2_MAKEU32_1 8 rfl rfl)
abbrev cX2_LFSRWithWorkMode : ByteArray := prog_8_method_12_code
def yX2_LFSRWithWorkMode : MethodName := ⟨RX2, "LFSRWithWorkMode", "()V"⟩
def dkwX2_LFSRWithWorkMode_13 : List UInt8 := [180, 0, 7, 16, 15, 27, 79, 177]
abbrev dktX2_LFSRWithWorkMode_13 : List UInt8 := dkwX2_LFSRWithWorkMode_13 ++ []
def dkwX2_LFSRWithWorkMode_12 : List UInt8 := [42, 180, 0, 7, 16, 14, 46, 79, 42, 180, 0, 7, 16, 14, 42, 180, 0, 7, 16, 15, 46, 79, 42]
abbrev dktX2_LFSRWithWorkMode_12 : List UInt8 := dkwX2_LFSRWithWorkMode_12 ++ dktX2_LFSRWithWorkMode_13
def dkwX2_LFSRWithWorkMode_11 : List UInt8 := [16, 12, 46, 79, 42, 180, 0, 7, 16, 12, 42, 180, 0, 7, 16, 13, 46, 79, 42, 180, 0, 7, 16, 13]
abbrev dktX2_LFSRWithWorkMode_11 : List UInt8 := dkwX2_LFSRWithWorkMode_11 ++ dktX2_LFSRWithWorkMode_12
def dkwX2_LFSRWithWorkMode_10 : List UInt8 := [180, 0, 7, 16, 10, 42, 180, 0, 7, 16, 11, 46, 79, 42, 180, 0, 7, 16, 11, 42, 180, 0, 7]
abbrev dktX2_LFSRWithWorkMode_10 : List UInt8 := dkwX2_LFSRWithWorkMode_10 ++ dktX2_LFSRWithWorkMode_11
def dkwX2_LFSRWithWorkMode_9 : List UInt8 := [42, 180, 0, 7, 16, 9, 46, 79, 42, 180, 0, 7, 16, 9, 42, 180, 0, 7, 16, 10, 46, 79, 42]
abbrev dktX2_LFSRWithWorkMode_9 : List UInt8 := dkwX2_LFSRWithWorkMode_9 ++ dktX2_LFSRWithWorkMode_10
def dkwX2_LFSRWithWorkMode_8 : List UInt8 := [16, 7, 46, 79, 42, 180, 0, 7, 16, 7, 42, 180, 0, 7, 16, 8, 46, 79, 42, 180, 0, 7, 16, 8]
abbrev dktX2_LFSRWithWorkMode_8 : List UInt8 := dkwX2_LFSRWithWorkMode_8 ++ dktX2_LFSRWithWorkMode_9
def dkwX2_LFSRWithWorkMode_7 : List UInt8 := [79, 42, 180, 0, 7, 8, 42, 180, 0, 7, 16, 6, 46, 79, 42, 180, 0, 7, 16, 6, 42, 180, 0, 7]
abbrev dktX2_LFSRWithWorkMode_7 : List UInt8 := dkwX2_LFSRWithWorkMode_7 ++ dktX2_LFSRWithWorkMode_8
def dkwX2_LFSRWithWorkMode_6 : List UInt8 := [79, 42, 180, 0, 7, 6, 42, 180, 0, 7, 7, 46, 79, 42, 180, 0, 7, 7, 42, 180, 0, 7, 8, 46]
abbrev dktX2_LFSRWithWorkMode_6 : List UInt8 := dkwX2_LFSRWithWorkMode_6 ++ dktX2_LFSRWithWorkMode_7
def dkwX2_LFSRWithWorkMode_5 : List UInt8 := [79, 42, 180, 0, 7, 4, 42, 180, 0, 7, 5, 46, 79, 42, 180, 0, 7, 5, 42, 180, 0, 7, 6, 46]
abbrev dktX2_LFSRWithWorkMode_5 : List UInt8 := dkwX2_LFSRWithWorkMode_5 ++ dktX2_LFSRWithWorkMode_6
def dkwX2_LFSRWithWorkMode_4 : List UInt8 := [16, 15, 184, 0, 86, 61, 42, 27, 28, 182, 0, 90, 60, 42, 180, 0, 7, 3, 42, 180, 0, 7, 4, 46]
abbrev dktX2_LFSRWithWorkMode_4 : List UInt8 := dkwX2_LFSRWithWorkMode_4 ++ dktX2_LFSRWithWorkMode_5
def dkwX2_LFSRWithWorkMode_3 : List UInt8 := [16, 13, 46, 16, 17, 184, 0, 86, 61, 42, 27, 28, 182, 0, 90, 60, 42, 180, 0, 7, 16, 15, 46]
abbrev dktX2_LFSRWithWorkMode_3 : List UInt8 := dkwX2_LFSRWithWorkMode_3 ++ dktX2_LFSRWithWorkMode_4
def dkwX2_LFSRWithWorkMode_2 : List UInt8 := [180, 0, 7, 16, 10, 46, 16, 21, 184, 0, 86, 61, 42, 27, 28, 182, 0, 90, 60, 42, 180, 0, 7]
abbrev dktX2_LFSRWithWorkMode_2 : List UInt8 := dkwX2_LFSRWithWorkMode_2 ++ dktX2_LFSRWithWorkMode_3
def dkwX2_LFSRWithWorkMode_1 : List UInt8 := [182, 0, 90, 60, 42, 180, 0, 7, 7, 46, 16, 20, 184, 0, 86, 61, 42, 27, 28, 182, 0, 90, 60, 42]
abbrev dktX2_LFSRWithWorkMode_1 : List UInt8 := dkwX2_LFSRWithWorkMode_1 ++ dktX2_LFSRWithWorkMode_2
def dkwX2_LFSRWithWorkMode_0 : List UInt8 := [42, 180, 0, 7, 3, 46, 60, 42, 180, 0, 7, 3, 46, 16, 8, 184, 0, 86, 61, 42, 27, 28]
abbrev dktX2_LFSRWithWorkMode_0 : List UInt8 := dkwX2_LFSRWithWorkMode_0 ++ dktX2_LFSRWithWorkMode_1
theorem dksX2_LFSRWithWorkMode_0 : cX2_LFSRWithWorkMode.data.toList.drop 0 = dktX2_LFSRWithWorkMode_0 := by decide +kernel
theorem dksX2_LFSRWithWorkMode_1 : cX2_LFSRWithWorkMode.data.toList.drop 22 = dktX2_LFSRWithWorkMode_1 := dk_seg dksX2_LFSRWithWorkMode_0 22 rfl rfl
theorem dksX2_LFSRWithWorkMode_2 : cX2_LFSRWithWorkMode.data.toList.drop 46 = dktX2_LFSRWithWorkMode_2 := dk_seg dksX2_LFSRWithWorkMode_1 24 rfl rfl
theorem dksX2_LFSRWithWorkMode_3 : cX2_LFSRWithWorkMode.data.toList.drop 69 = dktX2_LFSRWithWorkMode_3 := dk_seg dksX2_LFSRWithWorkMode_2 23 rfl rfl
theorem dksX2_LFSRWithWorkMode_4 : cX2_LFSRWithWorkMode.data.toList.drop 92 = dktX2_LFSRWithWorkMode_4 := dk_seg dksX2_LFSRWithWorkMode_3 23 rfl rfl
theorem dksX2_LFSRWithWorkMode_5 : cX2_LFSRWithWorkMode.data.toList.drop 116 = dktX2_LFSRWithWorkMode_5 := dk_seg dksX2_LFSRWithWorkMode_4 24 rfl rfl
theorem dksX2_LFSRWithWorkMode_6 : cX2_LFSRWithWorkMode.data.toList.drop 140 = dktX2_LFSRWithWorkMode_6 := dk_seg dksX2_LFSRWithWorkMode_5 24 rfl rfl
theorem dksX2_LFSRWithWorkMode_7 : cX2_LFSRWithWorkMode.data.toList.drop 164 = dktX2_LFSRWithWorkMode_7 := dk_seg dksX2_LFSRWithWorkMode_6 24 rfl rfl
theorem dksX2_LFSRWithWorkMode_8 : cX2_LFSRWithWorkMode.data.toList.drop 188 = dktX2_LFSRWithWorkMode_8 := dk_seg dksX2_LFSRWithWorkMode_7 24 rfl rfl
theorem dksX2_LFSRWithWorkMode_9 : cX2_LFSRWithWorkMode.data.toList.drop 212 = dktX2_LFSRWithWorkMode_9 := dk_seg dksX2_LFSRWithWorkMode_8 24 rfl rfl
theorem dksX2_LFSRWithWorkMode_10 : cX2_LFSRWithWorkMode.data.toList.drop 235 = dktX2_LFSRWithWorkMode_10 := dk_seg dksX2_LFSRWithWorkMode_9 23 rfl rfl
theorem dksX2_LFSRWithWorkMode_11 : cX2_LFSRWithWorkMode.data.toList.drop 258 = dktX2_LFSRWithWorkMode_11 := dk_seg dksX2_LFSRWithWorkMode_10 23 rfl rfl
theorem dksX2_LFSRWithWorkMode_12 : cX2_LFSRWithWorkMode.data.toList.drop 282 = dktX2_LFSRWithWorkMode_12 := dk_seg dksX2_LFSRWithWorkMode_11 24 rfl rfl
theorem dksX2_LFSRWithWorkMode_13 : cX2_LFSRWithWorkMode.data.toList.drop 305 = dktX2_LFSRWithWorkMode_13 := dk_seg dksX2_LFSRWithWorkMode_12 23 rfl rfl
theorem dX2_LFSRWithWorkMode_0 : decode cX2_LFSRWithWorkMode 0 = .ok (.aload_n 0, 1) := dk_42 (dk_at dksX2_LFSRWithWorkMode_0 0 rfl rfl)
theorem dX2_LFSRWithWorkMode_1 : decode cX2_LFSRWithWorkMode 1 = .ok (.getfield 7, 3) := dk_180 0 7 (dk_at dksX2_LFSRWithWorkMode_0 1 rfl rfl)
theorem dX2_LFSRWithWorkMode_4 : decode cX2_LFSRWithWorkMode 4 = .ok (.iconst 0, 1) := dk_3 (dk_at dksX2_LFSRWithWorkMode_0 4 rfl rfl)
theorem dX2_LFSRWithWorkMode_5 : decode cX2_LFSRWithWorkMode 5 = .ok (.iaload, 1) := dk_46 (dk_at dksX2_LFSRWithWorkMode_0 5 rfl rfl)
theorem dX2_LFSRWithWorkMode_6 : decode cX2_LFSRWithWorkMode 6 = .ok (.istore_n 1, 1) := dk_60 (dk_at dksX2_LFSRWithWorkMode_0 6 rfl rfl)
theorem dX2_LFSRWithWorkMode_7 : decode cX2_LFSRWithWorkMode 7 = .ok (.aload_n 0, 1) := dk_42 (dk_at dksX2_LFSRWithWorkMode_0 7 rfl rfl)
theorem dX2_LFSRWithWorkMode_8 : decode cX2_LFSRWithWorkMode 8 = .ok (.getfield 7, 3) := dk_180 0 7 (dk_at dksX2_LFSRWithWorkMode_0 8 rfl rfl)
theorem dX2_LFSRWithWorkMode_11 : decode cX2_LFSRWithWorkMode 11 = .ok (.iconst 0, 1) := dk_3 (dk_at dksX2_LFSRWithWorkMode_0 11 rfl rfl)
theorem dX2_LFSRWithWorkMode_12 : decode cX2_LFSRWithWorkMode 12 = .ok (.iaload, 1) := dk_46 (dk_at dksX2_LFSRWithWorkMode_0 12 rfl rfl)
theorem dX2_LFSRWithWorkMode_13 : decode cX2_LFSRWithWorkMode 13 = .ok (.bipush 8, 2) := dk_16 8 (dk_at dksX2_LFSRWithWorkMode_0 13 rfl rfl)
theorem dX2_LFSRWithWorkMode_15 : decode cX2_LFSRWithWorkMode 15 = .ok (.invokestatic 86, 3) := dk_184 0 86 (dk_at dksX2_LFSRWithWorkMode_0 15 rfl rfl)
theorem dX2_LFSRWithWorkMode_18 : decode cX2_LFSRWithWorkMode 18 = .ok (.istore_n 2, 1) := dk_61 (dk_at dksX2_LFSRWithWorkMode_0 18 rfl rfl)
theorem dX2_LFSRWithWorkMode_19 : decode cX2_LFSRWithWorkMode 19 = .ok (.aload_n 0, 1) := dk_42 (dk_at dksX2_LFSRWithWorkMode_0 19 rfl rfl)
theorem dX2_LFSRWithWorkMode_20 : decode cX2_LFSRWithWorkMode 20 = .ok (.iload_n 1, 1) := dk_27 (dk_at dksX2_LFSRWithWorkMode_0 20 rfl rfl)
theorem dX2_LFSRWithWorkMode_21 : decode cX2_LFSRWithWorkMode 21 = .ok (.iload_n 2, 1) := dk_28 (dk_at dksX2_LFSRWithWorkMode_0 21 rfl rfl)
theorem dX2_LFSRWithWorkMode_22 : decode cX2_LFSRWithWorkMode 22 = .ok (.invokevirtual 90, 3) := dk_182 0 90 (dk_at dksX2_LFSRWithWorkMode_1 0 rfl rfl)
theorem dX2_LFSRWithWorkMode_25 : decode cX2_LFSRWithWorkMode 25 = .ok (.istore_n 1, 1) := dk_60 (dk_at dksX2_LFSRWithWorkMode_1 3 rfl rfl)
theorem dX2_LFSRWithWorkMode_26 : decode cX2_LFSRWithWorkMode 26 = .ok (.aload_n 0, 1) := dk_42 (dk_at dksX2_LFSRWithWorkMode_1 4 rfl rfl)
theorem dX2_LFSRWithWorkMode_27 : decode cX2_LFSRWithWorkMode 27 = .ok (.getfield 7, 3) := dk_180 0 7 (dk_at dksX2_LFSRWithWorkMode_1 5 rfl rfl)
theorem dX2_LFSRWithWorkMode_30 : decode cX2_LFSRWithWorkMode 30 = .ok (.iconst 4, 1) := dk_7 (dk_at dksX2_LFSRWithWorkMode_1 8 rfl rfl)
theorem dX2_LFSRWithWorkMode_31 : decode cX2_LFSRWithWorkMode 31 = .ok (.iaload, 1) := dk_46 (dk_at dksX2_LFSRWithWorkMode_1 9 rfl rfl)
theorem dX2_LFSRWithWorkMode_32 : decode cX2_LFSRWithWorkMode 32 = .ok (.bipush 20, 2) := dk_16 20 (dk_at dksX2_LFSRWithWorkMode_1 10 rfl rfl)
theorem dX2_LFSRWithWorkMode_34 : decode cX2_LFSRWithWorkMode 34 = .ok (.invokestatic 86, 3) := dk_184 0 86 (dk_at dksX2_LFSRWithWorkMode_1 12 rfl rfl)
theorem dX2_LFSRWithWorkMode_37 : decode cX2_LFSRWithWorkMode 37 = .ok (.istore_n 2, 1) := dk_61 (dk_at dksX2_LFSRWithWorkMode_1 15 rfl rfl)
theorem dX2_LFSRWithWorkMode_38 : decode cX2_LFSRWithWorkMode 38 = .ok (.aload_n 0, 1) := dk_42 (dk_at dksX2_LFSRWithWorkMode_1 16 rfl rfl)
theorem dX2_LFSRWithWorkMode_39 : decode cX2_LFSRWithWorkMode 39 = .ok (.iload_n 1, 1) := dk_27 (dk_at dksX2_LFSRWithWorkMode_1 17 rfl rfl)
theorem dX2_LFSRWithWorkMode_40 : decode cX2_LFSRWithWorkMode 40 = .ok (.iload_n 2, 1) := dk_28 (dk_at dksX2_LFSRWithWorkMode_1 18 rfl rfl)
theorem dX2_LFSRWithWorkMode_41 : decode cX2_LFSRWithWorkMode 41 = .ok (.invokevirtual 90, 3) := dk_182 0 90 (dk_at dksX2_LFSRWithWorkMode_1 19 rfl rfl)
theorem dX2_LFSRWithWorkMode_44 : decode cX2_LFSRWithWorkMode 44 = .ok (.istore_n 1, 1) := dk_60 (dk_at dksX2_LFSRWithWorkMode_1 22 rfl rfl)
theorem dX2_LFSRWithWorkMode_45 : decode cX2_LFSRWithWorkMode 45 = .ok (.aload_n 0, 1) := dk_42 (dk_at dksX2_LFSRWithWorkMode_1 23 rfl rfl)
theorem dX2_LFSRWithWorkMode_46 : decode cX2_LFSRWithWorkMode 46 = .ok (.getfield 7, 3) := dk_180 0 7 (dk_at dksX2_LFSRWithWorkMode_2 0 rfl rfl)
theorem dX2_LFSRWithWorkMode_49 : decode cX2_LFSRWithWorkMode 49 = .ok (.bipush 10, 2) := dk_16 10 (dk_at dksX2_LFSRWithWorkMode_2 3 rfl rfl)
theorem dX2_LFSRWithWorkMode_51 : decode cX2_LFSRWithWorkMode 51 = .ok (.iaload, 1) := dk_46 (dk_at dksX2_LFSRWithWorkMode_2 5 rfl rfl)
theorem dX2_LFSRWithWorkMode_52 : decode cX2_LFSRWithWorkMode 52 = .ok (.bipush 21, 2) := dk_16 21 (dk_at dksX2_LFSRWithWorkMode_2 6 rfl rfl)
theorem dX2_LFSRWithWorkMode_54 : decode cX2_LFSRWithWorkMode 54 = .ok (.invokestatic 86, 3) := dk_184 0 86 (dk_at dksX2_LFSRWithWorkMode_2 8 rfl rfl)
theorem dX2_LFSRWithWorkMode_57 : decode cX2_LFSRWithWorkMode 57 = .ok (.istore_n 2, 1) := dk_61 (dk_at dksX2_LFSRWithWorkMode_2 11 rfl rfl)
theorem dX2_LFSRWithWorkMode_58 : decode cX2_LFSRWithWorkMode 58 = .ok (.aload_n 0, 1) := dk_42 (dk_at dksX2_LFSRWithWorkMode_2 12 rfl rfl)
theorem dX2_LFSRWithWorkMode_59 : decode cX2_LFSRWithWorkMode 59 = .ok (.iload_n 1, 1) := dk_27 (dk_at dksX2_LFSRWithWorkMode_2 13 rfl rfl)
theorem dX2_LFSRWithWorkMode_60 : decode cX2_LFSRWithWorkMode 60 = .ok (.iload_n 2, 1) := dk_28 (dk_at dksX2_LFSRWithWorkMode_2 14 rfl rfl)
theorem dX2_LFSRWithWorkMode_61 : decode cX2_LFSRWithWorkMode 61 = .ok (.invokevirtual 90, 3) := dk_182 0 90 (dk_at dksX2_LFSRWithWorkMode_2 15 rfl rfl)
theorem dX2_LFSRWithWorkMode_64 : decode cX2_LFSRWithWorkMode 64 = .ok (.istore_n 1, 1) := dk_60 (dk_at dksX2_LFSRWithWorkMode_2 18 rfl rfl)
theorem dX2_LFSRWithWorkMode_65 : decode cX2_LFSRWithWorkMode 65 = .ok (.aload_n 0, 1) := dk_42 (dk_at dksX2_LFSRWithWorkMode_2 19 rfl rfl)
theorem dX2_LFSRWithWorkMode_66 : decode cX2_LFSRWithWorkMode 66 = .ok (.getfield 7, 3) := dk_180 0 7 (dk_at dksX2_LFSRWithWorkMode_2 20 rfl rfl)
theorem dX2_LFSRWithWorkMode_69 : decode cX2_LFSRWithWorkMode 69 = .ok (.bipush 13, 2) := dk_16 13 (dk_at dksX2_LFSRWithWorkMode_3 0 rfl rfl)
theorem dX2_LFSRWithWorkMode_71 : decode cX2_LFSRWithWorkMode 71 = .ok (.iaload, 1) := dk_46 (dk_at dksX2_LFSRWithWorkMode_3 2 rfl rfl)
theorem dX2_LFSRWithWorkMode_72 : decode cX2_LFSRWithWorkMode 72 = .ok (.bipush 17, 2) := dk_16 17 (dk_at dksX2_LFSRWithWorkMode_3 3 rfl rfl)
theorem dX2_LFSRWithWorkMode_74 : decode cX2_LFSRWithWorkMode 74 = .ok (.invokestatic 86, 3) := dk_184 0 86 (dk_at dksX2_LFSRWithWorkMode_3 5 rfl rfl)
theorem dX2_LFSRWithWorkMode_77 : decode cX2_LFSRWithWorkMode 77 = .ok (.istore_n 2, 1) := dk_61 (dk_at dksX2_LFSRWithWorkMode_3 8 rfl rfl)
theorem dX2_LFSRWithWorkMode_78 : decode cX2_LFSRWithWorkMode 78 = .ok (.aload_n 0, 1) := dk_42 (dk_at dksX2_LFSRWithWorkMode_3 9 rfl rfl)
theorem dX2_LFSRWithWorkMode_79 : decode cX2_LFSRWithWorkMode 79 = .ok (.iload_n 1, 1) := dk_27 (dk_at dksX2_LFSRWithWorkMode_3 10 rfl rfl)
theorem dX2_LFSRWithWorkMode_80 : decode cX2_LFSRWithWorkMode 80 = .ok (.iload_n 2, 1) := dk_28 (dk_at dksX2_LFSRWithWorkMode_3 11 rfl rfl)
theorem dX2_LFSRWithWorkMode_81 : decode cX2_LFSRWithWorkMode 81 = .ok (.invokevirtual 90, 3) := dk_182 0 90 (dk_at dksX2_LFSRWithWorkMode_3 12 rfl rfl)
theorem dX2_LFSRWithWorkMode_84 : decode cX2_LFSRWithWorkMode 84 = .ok (.istore_n 1, 1) := dk_60 (dk_at dksX2_LFSRWithWorkMode_3 15 rfl rfl)
theorem dX2_LFSRWithWorkMode_85 : decode cX2_LFSRWithWorkMode 85 = .ok (.aload_n 0, 1) := dk_42 (dk_at dksX2_LFSRWithWorkMode_3 16 rfl rfl)
theorem dX2_LFSRWithWorkMode_86 : decode cX2_LFSRWithWorkMode 86 = .ok (.getfield 7, 3) := dk_180 0 7 (dk_at dksX2_LFSRWithWorkMode_3 17 rfl rfl)
theorem dX2_LFSRWithWorkMode_89 : decode cX2_LFSRWithWorkMode 89 = .ok (.bipush 15, 2) := dk_16 15 (dk_at dksX2_LFSRWithWorkMode_3 20 rfl rfl)
theorem dX2_LFSRWithWorkMode_91 : decode cX2_LFSRWithWorkMode 91 = .ok (.iaload, 1) := dk_46 (dk_at dksX2_LFSRWithWorkMode_3 22 rfl rfl)
theorem dX2_LFSRWithWorkMode_92 : decode cX2_LFSRWithWorkMode 92 = .ok (.bipush 15, 2) := dk_16 15 (dk_at dksX2_LFSRWithWorkMode_4 0 rfl rfl)
theorem dX2_LFSRWithWorkMode_94 : decode cX2_LFSRWithWorkMode 94 = .ok (.invokestatic 86, 3) := dk_184 0 86 (dk_at dksX2_LFSRWithWorkMode_4 2 rfl rfl)
theorem dX2_LFSRWithWorkMode_97 : decode cX2_LFSRWithWorkMode 97 = .ok (.istore_n 2, 1) := dk_61 (dk_at dksX2_LFSRWithWorkMode_4 5 rfl rfl)
theorem dX2_LFSRWithWorkMode_98 : decode cX2_LFSRWithWorkMode 98 = .ok (.aload_n 0, 1) := dk_42 (dk_at dksX2_LFSRWithWorkMode_4 6 rfl rfl)
theorem dX2_LFSRWithWorkMode_99 : decode cX2_LFSRWithWorkMode 99 = .ok (.iload_n 1, 1) := dk_27 (dk_at dksX2_LFSRWithWorkMode_4 7 rfl rfl)
theorem dX2_LFSRWithWorkMode_100 : decode cX2_LFSRWithWorkMode 100 = .ok (.iload_n 2, 1) := dk_28 (dk_at dksX2_LFSRWithWorkMode_4 8 rfl rfl)
theorem dX2_LFSRWithWorkMode_101 : decode cX2_LFSRWithWorkMode 101 = .ok (.invokevirtual 90, 3) := dk_182 0 90 (dk_at dksX2_LFSRWithWorkMode_4 9 rfl rfl)
theorem dX2_LFSRWithWorkMode_104 : decode cX2_LFSRWithWorkMode 104 = .ok (.istore_n 1, 1) := dk_60 (dk_at dksX2_LFSRWithWorkMode_4 12 rfl rfl)
theorem dX2_LFSRWithWorkMode_105 : decode cX2_LFSRWithWorkMode 105 = .ok (.aload_n 0, 1) := dk_42 (dk_at dksX2_LFSRWithWorkMode_4 13 rfl rfl)
theorem dX2_LFSRWithWorkMode_106 : decode cX2_LFSRWithWorkMode 106 = .ok (.getfield 7, 3) := dk_180 0 7 (dk_at dksX2_LFSRWithWorkMode_4 14 rfl rfl)
theorem dX2_LFSRWithWorkMode_109 : decode cX2_LFSRWithWorkMode 109 = .ok (.iconst 0, 1) := dk_3 (dk_at dksX2_LFSRWithWorkMode_4 17 rfl rfl)
theorem dX2_LFSRWithWorkMode_110 : decode cX2_LFSRWithWorkMode 110 = .ok (.aload_n 0, 1) := dk_42 (dk_at dksX2_LFSRWithWorkMode_4 18 rfl rfl)
theorem dX2_LFSRWithWorkMode_111 : decode cX2_LFSRWithWorkMode 111 = .ok (.getfield 7, 3) := dk_180 0 7 (dk_at dksX2_LFSRWithWorkMode_4 19 rfl rfl)
theorem dX2_LFSRWithWorkMode_114 : decode cX2_LFSRWithWorkMode 114 = .ok (.iconst 1, 1) := dk_4 (dk_at dksX2_LFSRWithWorkMode_4 22 rfl rfl)
theorem dX2_LFSRWithWorkMode_115 : decode cX2_LFSRWithWorkMode 115 = .ok (.iaload, 1) := dk_46 (dk_at dksX2_LFSRWithWorkMode_4 23 rfl rfl)
theorem dX2_LFSRWithWorkMode_116 : decode cX2_LFSRWithWorkMode 116 = .ok (.iastore, 1) := dk_79 (dk_at dksX2_LFSRWithWorkMode_5 0 rfl rfl)
theorem dX2_LFSRWithWorkMode_117 : decode cX2_LFSRWithWorkMode 117 = .ok (.aload_n 0, 1) := dk_42 (dk_at dksX2_LFSRWithWorkMode_5 1 rfl rfl)
theorem dX2_LFSRWithWorkMode_118 : decode cX2_LFSRWithWorkMode 118 = .ok (.getfield 7, 3) := dk_180 0 7 (dk_at dksX2_LFSRWithWorkMode_5 2 rfl rfl)
theorem dX2_LFSRWithWorkMode_121 : decode cX2_LFSRWithWorkMode 121 = .ok (.iconst 1, 1) := dk_4 (dk_at dksX2_LFSRWithWorkMode_5 5 rfl rfl)
theorem dX2_LFSRWithWorkMode_122 : decode cX2_LFSRWithWorkMode 122 = .ok (.aload_n 0, 1) := dk_42 (dk_at dksX2_LFSRWithWorkMode_5 6 rfl rfl)
theorem dX2_LFSRWithWorkMode_123 : decode cX2_LFSRWithWorkMode 123 = .ok (.getfield 7, 3) := dk_180 0 7 (dk_at dksX2_LFSRWithWorkMode_5 7 rfl rfl)
theorem dX2_LFSRWithWorkMode_126 : decode cX2_LFSRWithWorkMode 126 = .ok (.iconst 2, 1) := dk_5 (dk_at dksX2_LFSRWithWorkMode_5 10 rfl rfl)
theorem dX2_LFSRWithWorkMode_127 : decode cX2_LFSRWithWorkMode 127 = .ok (.iaload, 1) := dk_46 (dk_at dksX2_LFSRWithWorkMode_5 11 rfl rfl)
theorem dX2_LFSRWithWorkMode_128 : decode cX2_LFSRWithWorkMode 128 = .ok (.iastore, 1) := dk_79 (dk_at dksX2_LFSRWithWorkMode_5 12 rfl rfl)
theorem dX2_LFSRWithWorkMode_129 : decode cX2_LFSRWithWorkMode 129 = .ok (.aload_n 0, 1) := dk_42 (dk_at dksX2_LFSRWithWorkMode_5 13 rfl rfl)
theorem dX2_LFSRWithWorkMode_130 : decode cX2_LFSRWithWorkMode 130 = .ok (.getfield 7, 3) := dk_180 0 7 (dk_at dksX2_LFSRWithWorkMode_5 14 rfl rfl)
theorem dX2_LFSRWithWorkMode_133 : decode cX2_LFSRWithWorkMode 133 = .ok (.iconst 2, 1) := dk_5 (dk_at dksX2_LFSRWithWorkMode_5 17 rfl rfl)
theorem dX2_LFSRWithWorkMode_134 : decode cX2_LFSRWithWorkMode 134 = .ok (.aload_n 0, 1) := dk_42 (dk_at dksX2_LFSRWithWorkMode_5 18 rfl rfl)
theorem dX2_LFSRWithWorkMode_135 : decode cX2_LFSRWithWorkMode 135 = .ok (.getfield 7, 3) := dk_180 0 7 (dk_at dksX2_LFSRWithWorkMode_5 19 rfl rfl)
theorem dX2_LFSRWithWorkMode_138 : decode cX2_LFSRWithWorkMode 138 = .ok (.iconst 3, 1) := dk_6 (dk_at dksX2_LFSRWithWorkMode_5 22 rfl rfl)
theorem dX2_LFSRWithWorkMode_139 : decode cX2_LFSRWithWorkMode 139 = .ok (.iaload, 1) := dk_46 (dk_at dksX2_LFSRWithWorkMode_5 23 rfl rfl)
theorem dX2_LFSRWithWorkMode_140 : decode cX2_LFSRWithWorkMode 140 = .ok (.iastore, 1) := dk_79 (dk_at dksX2_LFSRWithWorkMode_6 0 rfl rfl)
theorem dX2_LFSRWithWorkMode_141 : decode cX2_LFSRWithWorkMode 141 = .ok (.aload_n 0, 1) := dk_42 (dk_at dksX2_LFSRWithWorkMode_6 1 rfl rfl)
theorem dX2_LFSRWithWorkMode_142 : decode cX2_LFSRWithWorkMode 142 = .ok (.getfield 7, 3) := dk_180 0 7 (dk_at dksX2_LFSRWithWorkMode_6 2 rfl rfl)
theorem dX2_LFSRWithWorkMode_145 : decode cX2_LFSRWithWorkMode 145 = .ok (.iconst 3, 1) := dk_6 (dk_at dksX2_LFSRWithWorkMode_6 5 rfl rfl)
theorem dX2_LFSRWithWorkMode_146 : decode cX2_LFSRWithWorkMode 146 = .ok (.aload_n 0, 1) := dk_42 (dk_at dksX2_LFSRWithWorkMode_6 6 rfl rfl)
theorem dX2_LFSRWithWorkMode_147 : decode cX2_LFSRWithWorkMode 147 = .ok (.getfield 7, 3) := dk_180 0 7 (dk_at dksX2_LFSRWithWorkMode_6 7 rfl rfl)
theorem dX2_LFSRWithWorkMode_150 : decode cX2_LFSRWithWorkMode 150 = .ok (.iconst 4, 1) := dk_7 (dk_at dksX2_LFSRWithWorkMode_6 10 rfl rfl)
theorem dX2_LFSRWithWorkMode_151 : decode cX2_LFSRWithWorkMode 151 = .ok (.iaload, 1) := dk_46 (dk_at dksX2_LFSRWithWorkMode_6 11 rfl rfl)
theorem dX2_LFSRWithWorkMode_152 : decode cX2_LFSRWithWorkMode 152 = .ok (.iastore, 1) := dk_79 (dk_at dksX2_LFSRWithWorkMode_6 12 rfl rfl)
theorem dX2_LFSRWithWorkMode_153 : decode cX2_LFSRWithWorkMode 153 = .ok (.aload_n 0, 1) := dk_42 (dk_at dksX2_LFSRWithWorkMode_6 13 rfl rfl)
theorem dX2_LFSRWithWorkMode_154 : decode cX2_LFSRWithWorkMode 154 = .ok (.getfield 7, 3) := dk_180 0 7 (dk_at dksX2_LFSRWithWorkMode_6 14 rfl rfl)
theorem dX2_LFSRWithWorkMode_157 : decode cX2_LFSRWithWorkMode 157 = .ok (.iconst 4, 1) := dk_7 (dk_at dksX2_LFSRWithWorkMode_6 17 rfl rfl)
theorem dX2_LFSRWithWorkMode_158 : decode cX2_LFSRWithWorkMode 158 = .ok (.aload_n 0, 1) := dk_42 (dk_at dksX2_LFSRWithWorkMode_6 18 rfl rfl)
theorem dX2_LFSRWithWorkMode_159 : decode cX2_LFSRWithWorkMode 159 = .ok (.getfield 7, 3) := dk_180 0 7 (dk_at dksX2_LFSRWithWorkMode_6 19 rfl rfl)
theorem dX2_LFSRWithWorkMode_162 : decode cX2_LFSRWithWorkMode 162 = .ok (.iconst 5, 1) := dk_8 (dk_at dksX2_LFSRWithWorkMode_6 22 rfl rfl)
theorem dX2_LFSRWithWorkMode_163 : decode cX2_LFSRWithWorkMode 163 = .ok (.iaload, 1) := dk_46 (dk_at dksX2_LFSRWithWorkMode_6 23 rfl rfl)
theorem dX2_LFSRWithWorkMode_164 : decode cX2_LFSRWithWorkMode 164 = .ok (.iastore, 1) := dk_79 (dk_at dksX2_LFSRWithWorkMode_7 0 rfl rfl)
theorem dX2_LFSRWithWorkMode_165 : decode cX2_LFSRWithWorkMode 165 = .ok (.aload_n 0, 1) := dk_42 (dk_at dksX2_LFSRWithWorkMode_7 1 rfl rfl)
theorem dX2_LFSRWithWorkMode_166 : decode cX2_LFSRWithWorkMode 166 = .ok (.getfield 7, 3) := dk_180 0 7 (dk_at dksX2_LFSRWithWorkMode_7 2 rfl rfl)
theorem dX2_LFSRWithWorkMode_169 : decode cX2_LFSRWithWorkMode 169 = .ok (.iconst 5, 1) := dk_8 (dk_at dksX2_LFSRWithWorkMode_7 5 rfl rfl)
theorem dX2_LFSRWithWorkMode_170 : decode cX2_LFSRWithWorkMode 170 = .ok (.aload_n 0, 1) := dk_42 (dk_at dksX2_LFSRWithWorkMode_7 6 rfl rfl)
theorem dX2_LFSRWithWorkMode_171 : decode cX2_LFSRWithWorkMode 171 = .ok (.getfield 7, 3) := dk_180 0 7 (dk_at dksX2_LFSRWithWorkMode_7 7 rfl rfl)
theorem dX2_LFSRWithWorkMode_174 : decode cX2_LFSRWithWorkMode 174 = .ok (.bipush 6, 2) := dk_16 6 (dk_at dksX2_LFSRWithWorkMode_7 10 rfl rfl)
theorem dX2_LFSRWithWorkMode_176 : decode cX2_LFSRWithWorkMode 176 = .ok (.iaload, 1) := dk_46 (dk_at dksX2_LFSRWithWorkMode_7 12 rfl rfl)
theorem dX2_LFSRWithWorkMode_177 : decode cX2_LFSRWithWorkMode 177 = .ok (.iastore, 1) := dk_79 (dk_at dksX2_LFSRWithWorkMode_7 13 rfl rfl)
theorem dX2_LFSRWithWorkMode_178 : decode cX2_LFSRWithWorkMode 178 = .ok (.aload_n 0, 1) := dk_42 (dk_at dksX2_LFSRWithWorkMode_7 14 rfl rfl)
theorem dX2_LFSRWithWorkMode_179 : decode cX2_LFSRWithWorkMode 179 = .ok (.getfield 7, 3) := dk_180 0 7 (dk_at dksX2_LFSRWithWorkMode_7 15 rfl rfl)
theorem dX2_LFSRWithWorkMode_182 : decode cX2_LFSRWithWorkMode 182 = .ok (.bipush 6, 2) := dk_16 6 (dk_at dksX2_LFSRWithWorkMode_7 18 rfl rfl)
theorem dX2_LFSRWithWorkMode_184 : decode cX2_LFSRWithWorkMode 184 = .ok (.aload_n 0, 1) := dk_42 (dk_at dksX2_LFSRWithWorkMode_7 20 rfl rfl)
theorem dX2_LFSRWithWorkMode_185 : decode cX2_LFSRWithWorkMode 185 = .ok (.getfield 7, 3) := dk_180 0 7 (dk_at dksX2_LFSRWithWorkMode_7 21 rfl rfl)
theorem dX2_LFSRWithWorkMode_188 : decode cX2_LFSRWithWorkMode 188 = .ok (.bipush 7, 2) := dk_16 7 (dk_at dksX2_LFSRWithWorkMode_8 0 rfl rfl)
theorem dX2_LFSRWithWorkMode_190 : decode cX2_LFSRWithWorkMode 190 = .ok (.iaload, 1) := dk_46 (dk_at dksX2_LFSRWithWorkMode_8 2 rfl rfl)
theorem dX2_LFSRWithWorkMode_191 : decode cX2_LFSRWithWorkMode 191 = .ok (.iastore, 1) := dk_79 (dk_at dksX2_LFSRWithWorkMode_8 3 rfl rfl)
theorem dX2_LFSRWithWorkMode_192 : decode cX2_LFSRWithWorkMode 192 = .ok (.aload_n 0, 1) := dk_42 (dk_at dksX2_LFSRWithWorkMode_8 4 rfl rfl)
theorem dX2_LFSRWithWorkMode_193 : decode cX2_LFSRWithWorkMode 193 = .ok (.getfield 7, 3) := dk_180 0 7 (dk_at dksX2_LFSRWithWorkMode_8 5 rfl rfl)
theorem dX2_LFSRWithWorkMode_196 : decode cX2_LFSRWithWorkMode 196 = .ok (.bipush 7, 2) := dk_16 7 (dk_at dksX2_LFSRWithWorkMode_8 8 rfl rfl)
theorem dX2_LFSRWithWorkMode_198 : decode cX2_LFSRWithWorkMode 198 = .ok (.aload_n 0, 1) := dk_42 (dk_at dksX2_LFSRWithWorkMode_8 10 rfl rfl)
theorem dX2_LFSRWithWorkMode_199 : decode cX2_LFSRWithWorkMode 199 = .ok (.getfield 7, 3) := dk_180 0 7 (dk_at dksX2_LFSRWithWorkMode_8 11 rfl rfl)
theorem dX2_LFSRWithWorkMode_202 : decode cX2_LFSRWithWorkMode 202 = .ok (.bipush 8, 2) := dk_16 8 (dk_at dksX2_LFSRWithWorkMode_8 14 rfl rfl)
theorem dX2_LFSRWithWorkMode_204 : decode cX2_LFSRWithWorkMode 204 = .ok (.iaload, 1) := dk_46 (dk_at dksX2_LFSRWithWorkMode_8 16 rfl rfl)
theorem dX2_LFSRWithWorkMode_205 : decode cX2_LFSRWithWorkMode 205 = .ok (.iastore, 1) := dk_79 (dk_at dksX2_LFSRWithWorkMode_8 17 rfl rfl)
theorem dX2_LFSRWithWorkMode_206 : decode cX2_LFSRWithWorkMode 206 = .ok (.aload_n 0, 1) := dk_42 (dk_at dksX2_LFSRWithWorkMode_8 18 rfl rfl)
theorem dX2_LFSRWithWorkMode_207 : decode cX2_LFSRWithWorkMode 207 = .ok (.getfield 7, 3) := dk_180 0 7 (dk_at dksX2_LFSRWithWorkMode_8 19 rfl rfl)
theorem dX2_LFSRWithWorkMode_210 : decode cX2_LFSRWithWorkMode 210 = .ok (.bipush 8, 2) := dk_16 8 (dk_at dksX2_LFSRWithWorkMode_8 22 rfl rfl)
theorem dX2_LFSRWithWorkMode_212 : decode cX2_LFSRWithWorkMode 212 = .ok (.aload_n 0, 1) := dk_42 (dk_at dksX2_LFSRWithWorkMode_9 0 rfl rfl)
theorem dX2_LFSRWithWorkMode_213 : decode cX2_LFSRWithWorkMode 213 = .ok (.getfield 7, 3) := dk_180 0 7 (dk_at dksX2_LFSRWithWorkMode_9 1 rfl rfl)
theorem dX2_LFSRWithWorkMode_216 : decode cX2_LFSRWithWorkMode 216 = .ok (.bipush 9, 2) := dk_16 9 (dk_at dksX2_LFSRWithWorkMode_9 4 rfl rfl)
theorem dX2_LFSRWithWorkMode_218 : decode cX2_LFSRWithWorkMode 218 = .ok (.iaload, 1) := dk_46 (dk_at dksX2_LFSRWithWorkMode_9 6 rfl rfl)
theorem dX2_LFSRWithWorkMode_219 : decode cX2_LFSRWithWorkMode 219 = .ok (.iastore, 1) := dk_79 (dk_at dksX2_LFSRWithWorkMode_9 7 rfl rfl)
theorem dX2_LFSRWithWorkMode_220 : decode cX2_LFSRWithWorkMode 220 = .ok (.aload_n 0, 1) := dk_42 (dk_at dksX2_LFSRWithWorkMode_9 8 rfl rfl)
theorem dX2_LFSRWithWorkMode_221 : decode cX2_LFSRWithWorkMode 221 = .ok (.getfield 7, 3) := dk_180 0 7 (dk_at dksX2_LFSRWithWorkMode_9 9 rfl rfl)
theorem dX2_LFSRWithWorkMode_224 : decode cX2_LFSRWithWorkMode 224 = .ok (.bipush 9, 2) := dk_16 9 (dk_at dksX2_LFSRWithWorkMode_9 12 rfl rfl)
theorem dX2_LFSRWithWorkMode_226 : decode cX2_LFSRWithWorkMode 226 = .ok (.aload_n 0, 1) := dk_42 (dk_at dksX2_LFSRWithWorkMode_9 14 rfl rfl)
theorem dX2_LFSRWithWorkMode_227 : decode cX2_LFSRWithWorkMode 227 = .ok (.getfield 7, 3) := dk_180 0 7 (dk_at dksX2_LFSRWithWorkMode_9 15 rfl rfl)
theorem dX2_LFSRWithWorkMode_230 : decode cX2_LFSRWithWorkMode 230 = .ok (.bipush 10, 2) := dk_16 10 (dk_at dksX2_LFSRWithWorkMode_9 18 rfl rfl)
theorem dX2_LFSRWithWorkMode_232 : decode cX2_LFSRWithWorkMode 232 = .ok (.iaload, 1) := dk_46 (dk_at dksX2_LFSRWithWorkMode_9 20 rfl rfl)
theorem dX2_LFSRWithWorkMode_233 : decode cX2_LFSRWithWorkMode 233 = .ok (.iastore, 1) := dk_79 (dk_at dksX2_LFSRWithWorkMode_9 21 rfl rfl)
theorem dX2_LFSRWithWorkMode_234 : decode cX2_LFSRWithWorkMode 234 = .ok (.aload_n 0, 1) := dk_42 (dk_at dksX2_LFSRWithWorkMode_9 22 rfl rfl)
theorem dX2_LFSRWithWorkMode_235 : decode cX2_LFSRWithWorkMode 235 = .ok (.getfield 7, 3) := dk_180 0 7 (dk_at dksX2_LFSRWithWorkMode_10 0 rfl rfl)
theorem dX2_LFSRWithWorkMode_238 : decode cX2_LFSRWithWorkMode 238 = .ok (.bipush 10, 2) := dk_16 10 (dk_at dksX2_LFSRWithWorkMode_10 3 rfl rfl)
theorem dX2_LFSRWithWorkMode_240 : decode cX2_LFSRWithWorkMode 240 = .ok (.aload_n 0, 1) := dk_42 (dk_at dksX2_LFSRWithWorkMode_10 5 rfl rfl)
theorem dX2_LFSRWithWorkMode_241 : decode cX2_LFSRWithWorkMode 241 = .ok (.getfield 7, 3) := dk_180 0 7 (dk_at dksX2_LFSRWithWorkMode_10 6 rfl rfl)
theorem dX2_LFSRWithWorkMode_244 : decode cX2_LFSRWithWorkMode 244 = .ok (.bipush 11, 2) := dk_16 11 (dk_at dksX2_LFSRWithWorkMode_10 9 rfl rfl)
theorem dX2_LFSRWithWorkMode_246 : decode cX2_LFSRWithWorkMode 246 = .ok (.iaload, 1) := dk_46 (dk_at dksX2_LFSRWithWorkMode_10 11 rfl rfl)
theorem dX2_LFSRWithWorkMode_247 : decode cX2_LFSRWithWorkMode 247 = .ok (.iastore, 1) := dk_79 (dk_at dksX2_LFSRWithWorkMode_10 12 rfl rfl)
theorem dX2_LFSRWithWorkMode_248 : decode cX2_LFSRWithWorkMode 248 = .ok (.aload_n 0, 1) := dk_42 (dk_at dksX2_LFSRWithWorkMode_10 13 rfl rfl)
theorem dX2_LFSRWithWorkMode_249 : decode cX2_LFSRWithWorkMode 249 = .ok (.getfield 7, 3) := dk_180 0 7 (dk_at dksX2_LFSRWithWorkMode_10 14 rfl rfl)
theorem dX2_LFSRWithWorkMode_252 : decode cX2_LFSRWithWorkMode 252 = .ok (.bipush 11, 2) := dk_16 11 (dk_at dksX2_LFSRWithWorkMode_10 17 rfl rfl)
theorem dX2_LFSRWithWorkMode_254 : decode cX2_LFSRWithWorkMode 254 = .ok (.aload_n 0, 1) := dk_42 (dk_at dksX2_LFSRWithWorkMode_10 19 rfl rfl)
theorem dX2_LFSRWithWorkMode_255 : decode cX2_LFSRWithWorkMode 255 = .ok (.getfield 7, 3) := dk_180 0 7 (dk_at dksX2_LFSRWithWorkMode_10 20 rfl rfl)
theorem dX2_LFSRWithWorkMode_258 : decode cX2_LFSRWithWorkMode 258 = .ok (.bipush 12, 2) := dk_16 12 (dk_at dksX2_LFSRWithWorkMode_11 0 rfl rfl)
theorem dX2_LFSRWithWorkMode_260 : decode cX2_LFSRWithWorkMode 260 = .ok (.iaload, 1) := dk_46 (dk_at dksX2_LFSRWithWorkMode_11 2 rfl rfl)
theorem dX2_LFSRWithWorkMode_261 : decode cX2_LFSRWithWorkMode 261 = .ok (.iastore, 1) := dk_79 (dk_at dksX2_LFSRWithWorkMode_11 3 rfl rfl)
theorem dX2_LFSRWithWorkMode_262 : decode cX2_LFSRWithWorkMode 262 = .ok (.aload_n 0, 1) := dk_42 (dk_at dksX2_LFSRWithWorkMode_11 4 rfl rfl)
theorem dX2_LFSRWithWorkMode_263 : decode cX2_LFSRWithWorkMode 263 = .ok (.getfield 7, 3) := dk_180 0 7 (dk_at dksX2_LFSRWithWorkMode_11 5 rfl rfl)
theorem dX2_LFSRWithWorkMode_266 : decode cX2_LFSRWithWorkMode 266 = .ok (.bipush 12, 2) := dk_16 12 (dk_at dksX2_LFSRWithWorkMode_11 8 rfl rfl)
theorem dX2_LFSRWithWorkMode_268 : decode cX2_LFSRWithWorkMode 268 = .ok (.aload_n 0, 1) := dk_42 (dk_at dksX2_LFSRWithWorkMode_11 10 rfl rfl)
theorem dX2_LFSRWithWorkMode_269 : decode cX2_LFSRWithWorkMode 269 = .ok (.getfield 7, 3) := dk_180 0 7 (dk_at dksX2_LFSRWithWorkMode_11 11 rfl rfl)
theorem dX2_LFSRWithWorkMode_272 : decode cX2_LFSRWithWorkMode 272 = .ok (.bipush 13, 2) := dk_16 13 (dk_at dksX2_LFSRWithWorkMode_11 14 rfl rfl)
theorem dX2_LFSRWithWorkMode_274 : decode cX2_LFSRWithWorkMode 274 = .ok (.iaload, 1) := dk_46 (dk_at dksX2_LFSRWithWorkMode_11 16 rfl rfl)
theorem dX2_LFSRWithWorkMode_275 : decode cX2_LFSRWithWorkMode 275 = .ok (.iastore, 1) := dk_79 (dk_at dksX2_LFSRWithWorkMode_11 17 rfl rfl)
theorem dX2_LFSRWithWorkMode_276 : decode cX2_LFSRWithWorkMode 276 = .ok (.aload_n 0, 1) := dk_42 (dk_at dksX2_LFSRWithWorkMode_11 18 rfl rfl)
theorem dX2_LFSRWithWorkMode_277 : decode cX2_LFSRWithWorkMode 277 = .ok (.getfield 7, 3) := dk_180 0 7 (dk_at dksX2_LFSRWithWorkMode_11 19 rfl rfl)
theorem dX2_LFSRWithWorkMode_280 : decode cX2_LFSRWithWorkMode 280 = .ok (.bipush 13, 2) := dk_16 13 (dk_at dksX2_LFSRWithWorkMode_11 22 rfl rfl)
theorem dX2_LFSRWithWorkMode_282 : decode cX2_LFSRWithWorkMode 282 = .ok (.aload_n 0, 1) := dk_42 (dk_at dksX2_LFSRWithWorkMode_12 0 rfl rfl)
theorem dX2_LFSRWithWorkMode_283 : decode cX2_LFSRWithWorkMode 283 = .ok (.getfield 7, 3) := dk_180 0 7 (dk_at dksX2_LFSRWithWorkMode_12 1 rfl rfl)
theorem dX2_LFSRWithWorkMode_286 : decode cX2_LFSRWithWorkMode 286 = .ok (.bipush 14, 2) := dk_16 14 (dk_at dksX2_LFSRWithWorkMode_12 4 rfl rfl)
theorem dX2_LFSRWithWorkMode_288 : decode cX2_LFSRWithWorkMode 288 = .ok (.iaload, 1) := dk_46 (dk_at dksX2_LFSRWithWorkMode_12 6 rfl rfl)
theorem dX2_LFSRWithWorkMode_289 : decode cX2_LFSRWithWorkMode 289 = .ok (.iastore, 1) := dk_79 (dk_at dksX2_LFSRWithWorkMode_12 7 rfl rfl)
theorem dX2_LFSRWithWorkMode_290 : decode cX2_LFSRWithWorkMode 290 = .ok (.aload_n 0, 1) := dk_42 (dk_at dksX2_LFSRWithWorkMode_12 8 rfl rfl)
theorem dX2_LFSRWithWorkMode_291 : decode cX2_LFSRWithWorkMode 291 = .ok (.getfield 7, 3) := dk_180 0 7 (dk_at dksX2_LFSRWithWorkMode_12 9 rfl rfl)
theorem dX2_LFSRWithWorkMode_294 : decode cX2_LFSRWithWorkMode 294 = .ok (.bipush 14, 2) := dk_16 14 (dk_at dksX2_LFSRWithWorkMode_12 12 rfl rfl)
theorem dX2_LFSRWithWorkMode_296 : decode cX2_LFSRWithWorkMode 296 = .ok (.aload_n 0, 1) := dk_42 (dk_at dksX2_LFSRWithWorkMode_12 14 rfl rfl)
theorem dX2_LFSRWithWorkMode_297 : decode cX2_LFSRWithWorkMode 297 = .ok (.getfield 7, 3) := dk_180 0 7 (dk_at dksX2_LFSRWithWorkMode_12 15 rfl rfl)
theorem dX2_LFSRWithWorkMode_300 : decode cX2_LFSRWithWorkMode 300 = .ok (.bipush 15, 2) := dk_16 15 (dk_at dksX2_LFSRWithWorkMode_12 18 rfl rfl)
theorem dX2_LFSRWithWorkMode_302 : decode cX2_LFSRWithWorkMode 302 = .ok (.iaload, 1) := dk_46 (dk_at dksX2_LFSRWithWorkMode_12 20 rfl rfl)
theorem dX2_LFSRWithWorkMode_303 : decode cX2_LFSRWithWorkMode 303 = .ok (.iastore, 1) := dk_79 (dk_at dksX2_LFSRWithWorkMode_12 21 rfl rfl)
theorem dX2_LFSRWithWorkMode_304 : decode cX2_LFSRWithWorkMode 304 = .ok (.aload_n 0, 1) := dk_42 (dk_at dksX2_LFSRWithWorkMode_12 22 rfl rfl)
theorem dX2_LFSRWithWorkMode_305 : decode cX2_LFSRWithWorkMode 305 = .ok (.getfield 7, 3) := dk_180 0 7 (dk_at dksX2_LFSRWithWorkMode_13 0 rfl rfl)
theorem dX2_LFSRWithWorkMode_308 : decode cX2_LFSRWithWorkMode 308 = .ok (.bipush 15, 2) := dk_16 15 (dk_at dksX2_LFSRWithWorkMode_13 3 rfl rfl)
theorem dX2_LFSRWithWorkMode_310 : decode cX2_LFSRWithWorkMode 310 = .ok (.iload_n 1, 1) := dk_27 (dk_at dksX2_LFSRWithWorkMode_13 5 rfl rfl)
theorem dX2_LFSRWithWorkMode_311 : decode cX2_LFSRWithWorkMode 311 = .ok (.iastore, 1) := dk_79 (dk_at dksX2_LFSRWithWorkMode_13 6 rfl rfl)
theorem dX2_LFSRWithWorkMode_312 : decode cX2_LFSRWithWorkMode 312 = .ok (.return_, 1) := dk_177 (dk_at dksX2_LFSRWithWorkMode_13 7 rfl rfl)
abbrev cX2_MulByPow2 : ByteArray := prog_8_method_10_code
def yX2_MulByPow2 : MethodName := ⟨RX2, "MulByPow2", "(II)I"⟩
def dkwX2_MulByPow2_0 : List UInt8 := [26, 27, 120, 26, 16, 31, 27, 100, 124, 128, 18, 85, 126, 172]
abbrev dktX2_MulByPow2_0 : List UInt8 := dkwX2_MulByPow2_0 ++ []
theorem dksX2_MulByPow2_0 : cX2_MulByPow2.data.toList.drop 0 = dktX2_MulByPow2_0 := by decide +kernel
theorem dX2_MulByPow2_0 : decode cX2_MulByPow2 0 = .ok (.iload_n 0, 1) := dk_26 (dk_at dksX2_MulByPow2_0 0 rfl rfl)
theorem dX2_MulByPow2_1 : decode cX2_MulByPow2 1 = .ok (.iload_n 1, 1) := dk_27 (dk_at dksX2_MulByPow2_0 1 rfl rfl)
theorem dX2_MulByPow2_2 : decode cX2_MulByPow2 2 = .ok (.ishl, 1) := dk_120 (dk_at dksX2_MulByPow2_0 2 rfl rfl)
theorem dX2_MulByPow2_3 : decode cX2_MulByPow2 3 = .ok (.iload_n 0, 1) := dk_26 (dk_at dksX2_MulByPow2_0 3 rfl rfl)
theorem dX2_MulByPow2_4 : decode cX2_MulByPow2 4 = .ok (.bipush 31, 2) := dk_16 31 (dk_at dksX2_MulByPow2_0 4 rfl rfl)
theorem dX2_MulByPow2_6 : decode cX2_MulByPow2 6 = .ok (.iload_n 1, 1) := dk_27 (dk_at dksX2_MulByPow2_0 6 rfl rfl)
theorem dX2_MulByPow2_7 : decode cX2_MulByPow2 7 = .ok (.isub, 1) := dk_100 (dk_at dksX2_MulByPow2_0 7 rfl rfl)
theorem dX2_MulByPow2_8 : decode cX2_MulByPow2 8 = .ok (.iushr, 1) := dk_124 (dk_at dksX2_MulByPow2_0 8 rfl rfl)
theorem dX2_MulByPow2_9 : decode cX2_MulByPow2 9 = .ok (.ior, 1) := dk_128 (dk_at dksX2_MulByPow2_0 9 rfl rfl)
theorem dX2_MulByPow2_10 : decode cX2_MulByPow2 10 = .ok (.ldc 85, 2) := dk_18 85 (dk_at dksX2_MulByPow2_0 10 rfl rfl)
theorem dX2_MulByPow2_12 : decode cX2_MulByPow2 12 = .ok (.iand, 1) := dk_126 (dk_at dksX2_MulByPow2_0 12 rfl rfl)
theorem dX2_MulByPow2_13 : decode cX2_MulByPow2 13 = .ok (.ireturn, 1) := dk_172 (dk_at dksX2_MulByPow2_0 13 rfl rfl)
abbrev cX2_AddM : ByteArray := prog_8_method_9_code
def yX2_AddM : MethodName := ⟨RX2, "AddM", "(II)I"⟩
def dkwX2_AddM_0 : List UInt8 := [27, 28, 96, 62, 29, 18, 85, 126, 29, 16, 31, 124, 96, 172]
abbrev dktX2_AddM_0 : List UInt8 := dkwX2_AddM_0 ++ []
theorem dksX2_AddM_0 : cX2_AddM.data.toList.drop 0 = dktX2_AddM_0 := by decide +kernel
theorem dX2_AddM_0 : decode cX2_AddM 0 = .ok (.iload_n 1, 1) := dk_27 (dk_at dksX2_AddM_0 0 rfl rfl)
theorem dX2_AddM_1 : decode cX2_AddM 1 = .ok (.iload_n 2, 1) := dk_28 (dk_at dksX2_AddM_0 1 rfl rfl)
theorem dX2_AddM_2 : decode cX2_AddM 2 = .ok (.iadd, 1) := dk_96 (dk_at dksX2_AddM_0 2 rfl rfl)
theorem dX2_AddM_3 : decode cX2_AddM 3 = .ok (.istore_n 3, 1) := dk_62 (dk_at dksX2_AddM_0 3 rfl rfl)
theorem dX2_AddM_4 : decode cX2_AddM 4 = .ok (.iload_n 3, 1) := dk_29 (dk_at dksX2_AddM_0 4 rfl rfl)
theorem dX2_AddM_5 : decode cX2_AddM 5 = .ok (.ldc 85, 2) := dk_18 85 (dk_at dksX2_AddM_0 5 rfl rfl)
theorem dX2_AddM_7 : decode cX2_AddM 7 = .ok (.iand, 1) := dk_126 (dk_at dksX2_AddM_0 7 rfl rfl)
theorem dX2_AddM_8 : decode cX2_AddM 8 = .ok (.iload_n 3, 1) := dk_29 (dk_at dksX2_AddM_0 8 rfl rfl)
theorem dX2_AddM_9 : decode cX2_AddM 9 = .ok (.bipush 31, 2) := dk_16 31 (dk_at dksX2_AddM_0 9 rfl rfl)
theorem dX2_AddM_11 : decode cX2_AddM 11 = .ok (.iushr, 1) := dk_124 (dk_at dksX2_AddM_0 11 rfl rfl)
theorem dX2_AddM_12 : decode cX2_AddM 12 = .ok (.iadd, 1) := dk_96 (dk_at dksX2_AddM_0 12 rfl rfl)
theorem dX2_AddM_13 : decode cX2_AddM 13 = .ok (.ireturn, 1) := dk_172 (dk_at dksX2_AddM_0 13 rfl rfl)
abbrev cX2_encode32be : ByteArray := prog_8_method_8_code
def yX2_encode32be : MethodName := ⟨RX2, "encode32be", "(I[BI)V"⟩
def dkwX2_encode32be_1 : List UInt8 := [16, 8, 122, 145, 84, 43, 28, 6, 96, 26, 145, 84, 177]
abbrev dktX2_encode32be_1 : List UInt8 := dkwX2_encode32be_1 ++ []
def dkwX2_encode32be_0 : List UInt8 := [43, 28, 26, 16, 24, 122, 145, 84, 43, 28, 4, 96, 26, 16, 16, 122, 145, 84, 43, 28, 5, 96, 26]
abbrev dktX2_encode32be_0 : List UInt8 := dkwX2_encode32be_0 ++ dktX2_encode32be_1
theorem dksX2_encode32be_0 : cX2_encode32be.data.toList.drop 0 = dktX2_encode32be_0 := by decide +kernel
theorem dksX2_encode32be_1 : cX2_encode32be.data.toList.drop 23 = dktX2_encode32be_1 := dk_seg dksX2_encode32be_0 23 rfl rfl
theorem dX2_encode32be_0 : decode cX2_encode32be 0 = .ok (.aload_n 1, 1) := dk_43 (dk_at dksX2_encode32be_0 0 rfl rfl)
theorem dX2_encode32be_1 : decode cX2_encode32be 1 = .ok (.iload_n 2, 1) := dk_28 (dk_at dksX2_encode32be_0 1 rfl rfl)
theorem dX2_encode32be_2 : decode cX2_encode32be 2 = .ok (.iload_n 0, 1) := dk_26 (dk_at dksX2_encode32be_0 2 rfl rfl)
theorem dX2_encode32be_3 : decode cX2_encode32be 3 = .ok (.bipush 24, 2) := dk_16 24 (dk_at dksX2_encode32be_0 3 rfl rfl)
theorem dX2_encode32be_5 : decode cX2_encode32be 5 = .ok (.ishr, 1) := dk_122 (dk_at dksX2_encode32be_0 5 rfl rfl)
theorem dX2_encode32be_6 : decode cX2_encode32be 6 = .ok (.i2b, 1) := dk_145 (dk_at dksX2_encode32be_0 6 rfl rfl)
theorem dX2_encode32be_7 : decode cX2_encode32be 7 = .ok (.bastore, 1) := dk_84 (dk_at dksX2_encode32be_0 7 rfl rfl)
theorem dX2_encode32be_8 : decode cX2_encode32be 8 = .ok (.aload_n 1, 1) := dk_43 (dk_at dksX2_encode32be_0 8 rfl rfl)
theorem dX2_encode32be_9 : decode cX2_encode32be 9 = .ok (.iload_n 2, 1) := dk_28 (dk_at dksX2_encode32be_0 9 rfl rfl)
theorem dX2_encode32be_10 : decode cX2_encode32be 10 = .ok (.iconst 1, 1) := dk_4 (dk_at dksX2_encode32be_0 10 rfl rfl)
theorem dX2_encode32be_11 : decode cX2_encode32be 11 = .ok (.iadd, 1) := dk_96 (dk_at dksX2_encode32be_0 11 rfl rfl)
theorem dX2_encode32be_12 : decode cX2_encode32be 12 = .ok (.iload_n 0, 1) := dk_26 (dk_at dksX2_encode32be_0 12 rfl rfl)
theorem dX2_encode32be_13 : decode cX2_encode32be 13 = .ok (.bipush 16, 2) := dk_16 16 (dk_at dksX2_encode32be_0 13 rfl rfl)
theorem dX2_encode32be_15 : decode cX2_encode32be 15 = .ok (.ishr, 1) := dk_122 (dk_at dksX2_encode32be_0 15 rfl rfl)
theorem dX2_encode32be_16 : decode cX2_encode32be 16 = .ok (.i2b, 1) := dk_145 (dk_at dksX2_encode32be_0 16 rfl rfl)
theorem dX2_encode32be_17 : decode cX2_encode32be 17 = .ok (.bastore, 1) := dk_84 (dk_at dksX2_encode32be_0 17 rfl rfl)
theorem dX2_encode32be_18 : decode cX2_encode32be 18 = .ok (.aload_n 1, 1) := dk_43 (dk_at dksX2_encode32be_0 18 rfl rfl)
theorem dX2_encode32be_19 : decode cX2_encode32be 19 = .ok (.iload_n 2, 1) := dk_28 (dk_at dksX2_encode32be_0 19 rfl rfl)
theorem dX2_encode32be_20 : decode cX2_encode32be 20 = .ok (.iconst 2, 1) := dk_5 (dk_at dksX2_encode32be_0 20 rfl rfl)
theorem dX2_encode32be_21 : decode cX2_encode32be 21 = .ok (.iadd, 1) := dk_96 (dk_at dksX2_encode32be_0 21 rfl rfl)
theorem dX2_encode32be_22 : decode cX2_encode32be 22 = .ok (.iload_n 0, 1) := dk_26 (dk_at dksX2_encode32be_0 22 rfl rfl)
theorem dX2_encode32be_23 : decode cX2_encode32be 23 = .ok (.bipush 8, 2) := dk_16 8 (dk_at dksX2_encode32be_1 0 rfl rfl)
theorem dX2_encode32be_25 : decode cX2_encode32be 25 = .ok (.ishr, 1) := dk_122 (dk_at dksX2_encode32be_1 2 rfl rfl)
theorem dX2_encode32be_26 : decode cX2_encode32be 26 = .ok (.i2b, 1) := dk_145 (dk_at dksX2_encode32be_1 3 rfl rfl)
theorem dX2_encode32be_27 : decode cX2_encode32be 27 = .ok (.bastore, 1) := dk_84 (dk_at dksX2_encode32be_1 4 rfl rfl)
theorem dX2_encode32be_28 : decode cX2_encode32be 28 = .ok (.aload_n 1, 1) := dk_43 (dk_at dksX2_encode32be_1 5 rfl rfl)
theorem dX2_encode32be_29 : decode cX2_encode32be 29 = .ok (.iload_n 2, 1) := dk_28 (dk_at dksX2_encode32be_1 6 rfl rfl)
theorem dX2_encode32be_30 : decode cX2_encode32be 30 = .ok (.iconst 3, 1) := dk_6 (dk_at dksX2_encode32be_1 7 rfl rfl)
theorem dX2_encode32be_31 : decode cX2_encode32be 31 = .ok (.iadd, 1) := dk_96 (dk_at dksX2_encode32be_1 8 rfl rfl)
theorem dX2_encode32be_32 : decode cX2_encode32be 32 = .ok (.iload_n 0, 1) := dk_26 (dk_at dksX2_encode32be_1 9 rfl rfl)
theorem dX2_encode32be_33 : decode cX2_encode32be 33 = .ok (.i2b, 1) := dk_145 (dk_at dksX2_encode32be_1 10 rfl rfl)
theorem dX2_encode32be_34 : decode cX2_encode32be 34 = .ok (.bastore, 1) := dk_84 (dk_at dksX2_encode32be_1 11 rfl rfl)
theorem dX2_encode32be_35 : decode cX2_encode32be 35 = .ok (.return_, 1) := dk_177 (dk_at dksX2_encode32be_1 12 rfl rfl)
abbrev cX2_reset : ByteArray := prog_8_method_6_code
def yX2_reset : MethodName := ⟨RX2, "reset", "()V"⟩
def dkwX2_reset_0 : List UInt8 := [42, 180, 0, 57, 198, 0, 11, 42, 42, 180, 0, 57, 182, 0, 23, 177]
abbrev dktX2_reset_0 : List UInt8 := dkwX2_reset_0 ++ []
theorem dksX2_reset_0 : cX2_reset.data.toList.drop 0 = dktX2_reset_0 := by decide +kernel
theorem dX2_reset_0 : decode cX2_reset 0 = .ok (.aload_n 0, 1) := dk_42 (dk_at dksX2_reset_0 0 rfl rfl)
theorem dX2_reset_1 : decode cX2_reset 1 = .ok (.getfield 57, 3) := dk_180 0 57 (dk_at dksX2_reset_0 1 rfl rfl)
theorem dX2_reset_4 : decode cX2_reset 4 = .ok (.ifnull 11, 3) := dk_198 0 11 (dk_at dksX2_reset_0 4 rfl rfl)
theorem dX2_reset_7 : decode cX2_reset 7 = .ok (.aload_n 0, 1) := dk_42 (dk_at dksX2_reset_0 7 rfl rfl)
theorem dX2_reset_8 : decode cX2_reset 8 = .ok (.aload_n 0, 1) := dk_42 (dk_at dksX2_reset_0 8 rfl rfl)
theorem dX2_reset_9 : decode cX2_reset 9 = .ok (.getfield 57, 3) := dk_180 0 57 (dk_at dksX2_reset_0 9 rfl rfl)
theorem dX2_reset_12 : decode cX2_reset 12 = .ok (.invokevirtual 23, 3) := dk_182 0 23 (dk_at dksX2_reset_0 12 rfl rfl)
theorem dX2_reset_15 : decode cX2_reset 15 = .ok (.return_, 1) := dk_177 (dk_at dksX2_reset_0 15 rfl rfl)
abbrev cX2_reset_2 : ByteArray := prog_8_method_25_code
def yX2_reset_2 : MethodName := ⟨RX2, "reset", "(LMemoable;)V"⟩
def dkwX2_reset_2_4 : List UInt8 := [44, 181, 0, 57, 177]
abbrev dktX2_reset_2_4 : List UInt8 := dkwX2_reset_2_4 ++ []
def dkwX2_reset_2_3 : List UInt8 := [180, 0, 19, 190, 184, 0, 161, 42, 44, 180, 0, 42, 181, 0, 42, 42, 44, 180, 0, 46, 181, 0, 46, 42]
abbrev dktX2_reset_2_3 : List UInt8 := dkwX2_reset_2_3 ++ dktX2_reset_2_4
def dkwX2_reset_2_2 : List UInt8 := [180, 0, 16, 3, 42, 180, 0, 16, 190, 184, 0, 161, 44, 180, 0, 19, 3, 42, 180, 0, 19, 3, 42]
abbrev dktX2_reset_2_2 : List UInt8 := dkwX2_reset_2_2 ++ dktX2_reset_2_3
def dkwX2_reset_2_1 : List UInt8 := [180, 0, 13, 3, 42, 180, 0, 13, 3, 42, 180, 0, 13, 190, 184, 0, 161, 44, 180, 0, 16, 3, 42]
abbrev dktX2_reset_2_1 : List UInt8 := dkwX2_reset_2_1 ++ dktX2_reset_2_2
def dkwX2_reset_2_0 : List UInt8 := [43, 192, 0, 8, 77, 44, 180, 0, 7, 3, 42, 180, 0, 7, 3, 42, 180, 0, 7, 190, 184, 0, 161, 44]
abbrev dktX2_reset_2_0 : List UInt8 := dkwX2_reset_2_0 ++ dktX2_reset_2_1
theorem dksX2_reset_2_0 : cX2_reset_2.data.toList.drop 0 = dktX2_reset_2_0 := by decide +kernel
theorem dksX2_reset_2_1 : cX2_reset_2.data.toList.drop 24 = dktX2_reset_2_1 := dk_seg dksX2_reset_2_0 24 rfl rfl
theorem dksX2_reset_2_2 : cX2_reset_2.data.toList.drop 47 = dktX2_reset_2_2 := dk_seg dksX2_reset_2_1 23 rfl rfl
theorem dksX2_reset_2_3 : cX2_reset_2.data.toList.drop 70 = dktX2_reset_2_3 := dk_seg dksX2_reset_2_2 23 rfl rfl
theorem dksX2_reset_2_4 : cX2_reset_2.data.toList.drop 94 = dktX2_reset_2_4 := dk_seg dksX2_reset_2_3 24 rfl rfl
theorem dX2_reset_2_0 : decode cX2_reset_2 0 = .ok (.aload_n 1, 1) := dk_43 (dk_at dksX2_reset_2_0 0 rfl rfl)
theorem dX2_reset_2_1 : decode cX2_reset_2 1 = .ok (.checkcast 8, 3) := dk_192 0 8 (dk_at dksX2_reset_2_0 1 rfl rfl)
theorem dX2_reset_2_4 : decode cX2_reset_2 4 = .ok (.astore_n 2, 1) := dk_77 (dk_at dksX2_reset_2_0 4 rfl rfl)
theorem dX2_reset_2_5 : decode cX2_reset_2 5 = .ok (.aload_n 2, 1) := dk_44 (dk_at dksX2_reset_2_0 5 rfl rfl)
theorem dX2_reset_2_6 : decode cX2_reset_2 6 = .ok (.getfield 7, 3) := dk_180 0 7 (dk_at dksX2_reset_2_0 6 rfl rfl)
theorem dX2_reset_2_9 : decode cX2_reset_2 9 = .ok (.iconst 0, 1) := dk_3 (dk_at dksX2_reset_2_0 9 rfl rfl)
theorem dX2_reset_2_10 : decode cX2_reset_2 10 = .ok (.aload_n 0, 1) := dk_42 (dk_at dksX2_reset_2_0 10 rfl rfl)
theorem dX2_reset_2_11 : decode cX2_reset_2 11 = .ok (.getfield 7, 3) := dk_180 0 7 (dk_at dksX2_reset_2_0 11 rfl rfl)
theorem dX2_reset_2_14 : decode cX2_reset_2 14 = .ok (.iconst 0, 1) := dk_3 (dk_at dksX2_reset_2_0 14 rfl rfl)
theorem dX2_reset_2_15 : decode cX2_reset_2 15 = .ok (.aload_n 0, 1) := dk_42 (dk_at dksX2_reset_2_0 15 rfl rfl)
theorem dX2_reset_2_16 : decode cX2_reset_2 16 = .ok (.getfield 7, 3) := dk_180 0 7 (dk_at dksX2_reset_2_0 16 rfl rfl)
theorem dX2_reset_2_19 : decode cX2_reset_2 19 = .ok (.arraylength, 1) := dk_190 (dk_at dksX2_reset_2_0 19 rfl rfl)
theorem dX2_reset_2_20 : decode cX2_reset_2 20 = .ok (.invokestatic 161, 3) := dk_184 0 161 (dk_at dksX2_reset_2_0 20 rfl rfl)
theorem dX2_reset_2_23 : decode cX2_reset_2 23 = .ok (.aload_n 2, 1) := dk_44 (dk_at dksX2_reset_2_0 23 rfl rfl)
theorem dX2_reset_2_24 : decode cX2_reset_2 24 = .ok (.getfield 13, 3) := dk_180 0 13 (dk_at dksX2_reset_2_1 0 rfl rfl)
theorem dX2_reset_2_27 : decode cX2_reset_2 27 = .ok (.iconst 0, 1) := dk_3 (dk_at dksX2_reset_2_1 3 rfl rfl)
theorem dX2_reset_2_28 : decode cX2_reset_2 28 = .ok (.aload_n 0, 1) := dk_42 (dk_at dksX2_reset_2_1 4 rfl rfl)
theorem dX2_reset_2_29 : decode cX2_reset_2 29 = .ok (.getfield 13, 3) := dk_180 0 13 (dk_at dksX2_reset_2_1 5 rfl rfl)
theorem dX2_reset_2_32 : decode cX2_reset_2 32 = .ok (.iconst 0, 1) := dk_3 (dk_at dksX2_reset_2_1 8 rfl rfl)
theorem dX2_reset_2_33 : decode cX2_reset_2 33 = .ok (.aload_n 0, 1) := dk_42 (dk_at dksX2_reset_2_1 9 rfl rfl)
theorem dX2_reset_2_34 : decode cX2_reset_2 34 = .ok (.getfield 13, 3) := dk_180 0 13 (dk_at dksX2_reset_2_1 10 rfl rfl)
theorem dX2_reset_2_37 : decode cX2_reset_2 37 = .ok (.arraylength, 1) := dk_190 (dk_at dksX2_reset_2_1 13 rfl rfl)
theorem dX2_reset_2_38 : decode cX2_reset_2 38 = .ok (.invokestatic 161, 3) := dk_184 0 161 (dk_at dksX2_reset_2_1 14 rfl rfl)
theorem dX2_reset_2_41 : decode cX2_reset_2 41 = .ok (.aload_n 2, 1) := dk_44 (dk_at dksX2_reset_2_1 17 rfl rfl)
theorem dX2_reset_2_42 : decode cX2_reset_2 42 = .ok (.getfield 16, 3) := dk_180 0 16 (dk_at dksX2_reset_2_1 18 rfl rfl)
theorem dX2_reset_2_45 : decode cX2_reset_2 45 = .ok (.iconst 0, 1) := dk_3 (dk_at dksX2_reset_2_1 21 rfl rfl)
theorem dX2_reset_2_46 : decode cX2_reset_2 46 = .ok (.aload_n 0, 1) := dk_42 (dk_at dksX2_reset_2_1 22 rfl rfl)
theorem dX2_reset_2_47 : decode cX2_reset_2 47 = .ok (.getfield 16, 3) := dk_180 0 16 (dk_at dksX2_reset_2_2 0 rfl rfl)
theorem dX2_reset_2_50 : decode cX2_reset_2 50 = .ok (.iconst 0, 1) := dk_3 (dk_at dksX2_reset_2_2 3 rfl rfl)
theorem dX2_reset_2_51 : decode cX2_reset_2 51 = .ok (.aload_n 0, 1) := dk_42 (dk_at dksX2_reset_2_2 4 rfl rfl)
theorem dX2_reset_2_52 : decode cX2_reset_2 52 = .ok (.getfield 16, 3) := dk_180 0 16 (dk_at dksX2_reset_2_2 5 rfl rfl)
theorem dX2_reset_2_55 : decode cX2_reset_2 55 = .ok (.arraylength, 1) := dk_190 (dk_at dksX2_reset_2_2 8 rfl rfl)
theorem dX2_reset_2_56 : decode cX2_reset_2 56 = .ok (.invokestatic 161, 3) := dk_184 0 161 (dk_at dksX2_reset_2_2 9 rfl rfl)
theorem dX2_reset_2_59 : decode cX2_reset_2 59 = .ok (.aload_n 2, 1) := dk_44 (dk_at dksX2_reset_2_2 12 rfl rfl)
theorem dX2_reset_2_60 : decode cX2_reset_2 60 = .ok (.getfield 19, 3) := dk_180 0 19 (dk_at dksX2_reset_2_2 13 rfl rfl)
theorem dX2_reset_2_63 : decode cX2_reset_2 63 = .ok (.iconst 0, 1) := dk_3 (dk_at dksX2_reset_2_2 16 rfl rfl)
theorem dX2_reset_2_64 : decode cX2_reset_2 64 = .ok (.aload_n 0, 1) := dk_42 (dk_at dksX2_reset_2_2 17 rfl rfl)
theorem dX2_reset_2_65 : decode cX2_reset_2 65 = .ok (.getfield 19, 3) := dk_180 0 19 (dk_at dksX2_reset_2_2 18 rfl rfl)
theorem dX2_reset_2_68 : decode cX2_reset_2 68 = .ok (.iconst 0, 1) := dk_3 (dk_at dksX2_reset_2_2 21 rfl rfl)
theorem dX2_reset_2_69 : decode cX2_reset_2 69 = .ok (.aload_n 0, 1) := dk_42 (dk_at dksX2_reset_2_2 22 rfl rfl)
theorem dX2_reset_2_70 : decode cX2_reset_2 70 = .ok (.getfield 19, 3) := dk_180 0 19 (dk_at dksX2_reset_2_3 0 rfl rfl)
theorem dX2_reset_2_73 : decode cX2_reset_2 73 = .ok (.arraylength, 1) := dk_190 (dk_at dksX2_reset_2_3 3 rfl rfl)
theorem dX2_reset_2_74 : decode cX2_reset_2 74 = .ok (.invokestatic 161, 3) := dk_184 0 161 (dk_at dksX2_reset_2_3 4 rfl rfl)
theorem dX2_reset_2_77 : decode cX2_reset_2 77 = .ok (.aload_n 0, 1) := dk_42 (dk_at dksX2_reset_2_3 7 rfl rfl)
theorem dX2_reset_2_78 : decode cX2_reset_2 78 = .ok (.aload_n 2, 1) := dk_44 (dk_at dksX2_reset_2_3 8 rfl rfl)
theorem dX2_reset_2_79 : decode cX2_reset_2 79 = .ok (.getfield 42, 3) := dk_180 0 42 (dk_at dksX2_reset_2_3 9 rfl rfl)
theorem dX2_reset_2_82 : decode cX2_reset_2 82 = .ok (.putfield 42, 3) := dk_181 0 42 (dk_at dksX2_reset_2_3 12 rfl rfl)
theorem dX2_reset_2_85 : decode cX2_reset_2 85 = .ok (.aload_n 0, 1) := dk_42 (dk_at dksX2_reset_2_3 15 rfl rfl)
theorem dX2_reset_2_86 : decode cX2_reset_2 86 = .ok (.aload_n 2, 1) := dk_44 (dk_at dksX2_reset_2_3 16 rfl rfl)
theorem dX2_reset_2_87 : decode cX2_reset_2 87 = .ok (.getfield 46, 3) := dk_180 0 46 (dk_at dksX2_reset_2_3 17 rfl rfl)
theorem dX2_reset_2_90 : decode cX2_reset_2 90 = .ok (.putfield 46, 3) := dk_181 0 46 (dk_at dksX2_reset_2_3 20 rfl rfl)
theorem dX2_reset_2_93 : decode cX2_reset_2 93 = .ok (.aload_n 0, 1) := dk_42 (dk_at dksX2_reset_2_3 23 rfl rfl)
theorem dX2_reset_2_94 : decode cX2_reset_2 94 = .ok (.aload_n 2, 1) := dk_44 (dk_at dksX2_reset_2_4 0 rfl rfl)
theorem dX2_reset_2_95 : decode cX2_reset_2 95 = .ok (.putfield 57, 3) := dk_181 0 57 (dk_at dksX2_reset_2_4 1 rfl rfl)
theorem dX2_reset_2_98 : decode cX2_reset_2 98 = .ok (.return_, 1) := dk_177 (dk_at dksX2_reset_2_4 4 rfl rfl)
abbrev cX2_init : ByteArray := prog_8_method_1_code
def yX2_init : MethodName := ⟨RX2, "<init>", "()V"⟩
def dkwX2_init_1 : List UInt8 := [181, 0, 16, 42, 7, 188, 8, 181, 0, 19, 177]
abbrev dktX2_init_1 : List UInt8 := dkwX2_init_1 ++ []
def dkwX2_init_0 : List UInt8 := [42, 183, 0, 1, 42, 16, 16, 188, 10, 181, 0, 7, 42, 5, 188, 10, 181, 0, 13, 42, 7, 188, 10]
abbrev dktX2_init_0 : List UInt8 := dkwX2_init_0 ++ dktX2_init_1
theorem dksX2_init_0 : cX2_init.data.toList.drop 0 = dktX2_init_0 := by decide +kernel
theorem dksX2_init_1 : cX2_init.data.toList.drop 23 = dktX2_init_1 := dk_seg dksX2_init_0 23 rfl rfl
theorem dX2_init_0 : decode cX2_init 0 = .ok (.aload_n 0, 1) := dk_42 (dk_at dksX2_init_0 0 rfl rfl)
theorem dX2_init_1 : decode cX2_init 1 = .ok (.invokespecial 1, 3) := dk_183 0 1 (dk_at dksX2_init_0 1 rfl rfl)
theorem dX2_init_4 : decode cX2_init 4 = .ok (.aload_n 0, 1) := dk_42 (dk_at dksX2_init_0 4 rfl rfl)
theorem dX2_init_5 : decode cX2_init 5 = .ok (.bipush 16, 2) := dk_16 16 (dk_at dksX2_init_0 5 rfl rfl)
theorem dX2_init_7 : decode cX2_init 7 = .ok (.newarray .int, 2) := dk_188_10 (dk_at dksX2_init_0 7 rfl rfl)
theorem dX2_init_9 : decode cX2_init 9 = .ok (.putfield 7, 3) := dk_181 0 7 (dk_at dksX2_init_0 9 rfl rfl)
theorem dX2_init_12 : decode cX2_init 12 = .ok (.aload_n 0, 1) := dk_42 (dk_at dksX2_init_0 12 rfl rfl)
theorem dX2_init_13 : decode cX2_init 13 = .ok (.iconst 2, 1) := dk_5 (dk_at dksX2_init_0 13 rfl rfl)
theorem dX2_init_14 : decode cX2_init 14 = .ok (.newarray .int, 2) := dk_188_10 (dk_at dksX2_init_0 14 rfl rfl)
theorem dX2_init_16 : decode cX2_init 16 = .ok (.putfield 13, 3) := dk_181 0 13 (dk_at dksX2_init_0 16 rfl rfl)
theorem dX2_init_19 : decode cX2_init 19 = .ok (.aload_n 0, 1) := dk_42 (dk_at dksX2_init_0 19 rfl rfl)
theorem dX2_init_20 : decode cX2_init 20 = .ok (.iconst 4, 1) := dk_7 (dk_at dksX2_init_0 20 rfl rfl)
theorem dX2_init_21 : decode cX2_init 21 = .ok (.newarray .int, 2) := dk_188_10 (dk_at dksX2_init_0 21 rfl rfl)
theorem dX2_init_23 : decode cX2_init 23 = .ok (.putfield 16, 3) := dk_181 0 16 (dk_at dksX2_init_1 0 rfl rfl)
theorem dX2_init_26 : decode cX2_init 26 = .ok (.aload_n 0, 1) := dk_42 (dk_at dksX2_init_1 3 rfl rfl)
theorem dX2_init_27 : decode cX2_init 27 = .ok (.iconst 4, 1) := dk_7 (dk_at dksX2_init_1 4 rfl rfl)
theorem dX2_init_28 : decode cX2_init 28 = .ok (.newarray .byte, 2) := dk_188_8 (dk_at dksX2_init_1 5 rfl rfl)
theorem dX2_init_30 : decode cX2_init 30 = .ok (.putfield 19, 3) := dk_181 0 19 (dk_at dksX2_init_1 7 rfl rfl)
theorem dX2_init_33 : decode cX2_init 33 = .ok (.return_, 1) := dk_177 (dk_at dksX2_init_1 10 rfl rfl)
abbrev cX2_init_2 : ByteArray := prog_8_method_3_code
def yX2_init_2 : MethodName := ⟨RX2, "init", "(ZLCipherParameters;)V"⟩
def dkwX2_init_2_3 : List UInt8 := [182, 0, 49, 42, 42, 182, 0, 53, 192, 0, 8, 181, 0, 57, 177]
abbrev dktX2_init_2_3 : List UInt8 := dkwX2_init_2_3 ++ []
def dkwX2_init_2_2 : List UInt8 := [25, 6, 182, 0, 39, 58, 4, 42, 3, 181, 0, 42, 42, 3, 181, 0, 46, 42, 25, 4, 25, 5]
abbrev dktX2_init_2_2 : List UInt8 := dkwX2_init_2_2 ++ dktX2_init_2_3
def dkwX2_init_2_1 : List UInt8 := [182, 0, 29, 58, 5, 25, 6, 182, 0, 33, 78, 45, 193, 0, 37, 153, 0, 16, 45, 192, 0, 37, 58, 6]
abbrev dktX2_init_2_1 : List UInt8 := dkwX2_init_2_1 ++ dktX2_init_2_2
def dkwX2_init_2_0 : List UInt8 := [44, 78, 1, 58, 4, 1, 58, 5, 45, 193, 0, 27, 153, 0, 22, 45, 192, 0, 27, 58, 6, 25, 6]
abbrev dktX2_init_2_0 : List UInt8 := dkwX2_init_2_0 ++ dktX2_init_2_1
theorem dksX2_init_2_0 : cX2_init_2.data.toList.drop 0 = dktX2_init_2_0 := by decide +kernel
theorem dksX2_init_2_1 : cX2_init_2.data.toList.drop 23 = dktX2_init_2_1 := dk_seg dksX2_init_2_0 23 rfl rfl
theorem dksX2_init_2_2 : cX2_init_2.data.toList.drop 47 = dktX2_init_2_2 := dk_seg dksX2_init_2_1 24 rfl rfl
theorem dksX2_init_2_3 : cX2_init_2.data.toList.drop 69 = dktX2_init_2_3 := dk_seg dksX2_init_2_2 22 rfl rfl
theorem dX2_init_2_0 : decode cX2_init_2 0 = .ok (.aload_n 2, 1) := dk_44 (dk_at dksX2_init_2_0 0 rfl rfl)
theorem dX2_init_2_1 : decode cX2_init_2 1 = .ok (.astore_n 3, 1) := dk_78 (dk_at dksX2_init_2_0 1 rfl rfl)
theorem dX2_init_2_2 : decode cX2_init_2 2 = .ok (.aconst_null, 1) := dk_1 (dk_at dksX2_init_2_0 2 rfl rfl)
theorem dX2_init_2_3 : decode cX2_init_2 3 = .ok (.astore 4, 2) := dk_58 4 (dk_at dksX2_init_2_0 3 rfl rfl)
theorem dX2_init_2_5 : decode cX2_init_2 5 = .ok (.aconst_null, 1) := dk_1 (dk_at dksX2_init_2_0 5 rfl rfl)
theorem dX2_init_2_6 : decode cX2_init_2 6 = .ok (.astore 5, 2) := dk_58 5 (dk_at dksX2_init_2_0 6 rfl rfl)
theorem dX2_init_2_8 : decode cX2_init_2 8 = .ok (.aload_n 3, 1) := dk_45 (dk_at dksX2_init_2_0 8 rfl rfl)
theorem dX2_init_2_9 : decode cX2_init_2 9 = .ok (.instanceof 27, 3) := dk_193 0 27 (dk_at dksX2_init_2_0 9 rfl rfl)
theorem dX2_init_2_12 : decode cX2_init_2 12 = .ok (.ifCond .eq 22, 3) := dk_153 0 22 (dk_at dksX2_init_2_0 12 rfl rfl)
theorem dX2_init_2_15 : decode cX2_init_2 15 = .ok (.aload_n 3, 1) := dk_45 (dk_at dksX2_init_2_0 15 rfl rfl)
theorem dX2_init_2_16 : decode cX2_init_2 16 = .ok (.checkcast 27, 3) := dk_192 0 27 (dk_at dksX2_init_2_0 16 rfl rfl)
theorem dX2_init_2_19 : decode cX2_init_2 19 = .ok (.astore 6, 2) := dk_58 6 (dk_at dksX2_init_2_0 19 rfl rfl)
theorem dX2_init_2_21 : decode cX2_init_2 21 = .ok (.aload 6, 2) := dk_25 6 (dk_at dksX2_init_2_0 21 rfl rfl)
theorem dX2_init_2_23 : decode cX2_init_2 23 = .ok (.invokevirtual 29, 3) := dk_182 0 29 (dk_at dksX2_init_2_1 0 rfl rfl)
theorem dX2_init_2_26 : decode cX2_init_2 26 = .ok (.astore 5, 2) := dk_58 5 (dk_at dksX2_init_2_1 3 rfl rfl)
theorem dX2_init_2_28 : decode cX2_init_2 28 = .ok (.aload 6, 2) := dk_25 6 (dk_at dksX2_init_2_1 5 rfl rfl)
theorem dX2_init_2_30 : decode cX2_init_2 30 = .ok (.invokevirtual 33, 3) := dk_182 0 33 (dk_at dksX2_init_2_1 7 rfl rfl)
theorem dX2_init_2_33 : decode cX2_init_2 33 = .ok (.astore_n 3, 1) := dk_78 (dk_at dksX2_init_2_1 10 rfl rfl)
theorem dX2_init_2_34 : decode cX2_init_2 34 = .ok (.aload_n 3, 1) := dk_45 (dk_at dksX2_init_2_1 11 rfl rfl)
theorem dX2_init_2_35 : decode cX2_init_2 35 = .ok (.instanceof 37, 3) := dk_193 0 37 (dk_at dksX2_init_2_1 12 rfl rfl)
theorem dX2_init_2_38 : decode cX2_init_2 38 = .ok (.ifCond .eq 16, 3) := dk_153 0 16 (dk_at dksX2_init_2_1 15 rfl rfl)
theorem dX2_init_2_41 : decode cX2_init_2 41 = .ok (.aload_n 3, 1) := dk_45 (dk_at dksX2_init_2_1 18 rfl rfl)
theorem dX2_init_2_42 : decode cX2_init_2 42 = .ok (.checkcast 37, 3) := dk_192 0 37 (dk_at dksX2_init_2_1 19 rfl rfl)
theorem dX2_init_2_45 : decode cX2_init_2 45 = .ok (.astore 6, 2) := dk_58 6 (dk_at dksX2_init_2_1 22 rfl rfl)
theorem dX2_init_2_47 : decode cX2_init_2 47 = .ok (.aload 6, 2) := dk_25 6 (dk_at dksX2_init_2_2 0 rfl rfl)
theorem dX2_init_2_49 : decode cX2_init_2 49 = .ok (.invokevirtual 39, 3) := dk_182 0 39 (dk_at dksX2_init_2_2 2 rfl rfl)
theorem dX2_init_2_52 : decode cX2_init_2 52 = .ok (.astore 4, 2) := dk_58 4 (dk_at dksX2_init_2_2 5 rfl rfl)
theorem dX2_init_2_54 : decode cX2_init_2 54 = .ok (.aload_n 0, 1) := dk_42 (dk_at dksX2_init_2_2 7 rfl rfl)
theorem dX2_init_2_55 : decode cX2_init_2 55 = .ok (.iconst 0, 1) := dk_3 (dk_at dksX2_init_2_2 8 rfl rfl)
theorem dX2_init_2_56 : decode cX2_init_2 56 = .ok (.putfield 42, 3) := dk_181 0 42 (dk_at dksX2_init_2_2 9 rfl rfl)
theorem dX2_init_2_59 : decode cX2_init_2 59 = .ok (.aload_n 0, 1) := dk_42 (dk_at dksX2_init_2_2 12 rfl rfl)
theorem dX2_init_2_60 : decode cX2_init_2 60 = .ok (.iconst 0, 1) := dk_3 (dk_at dksX2_init_2_2 13 rfl rfl)
theorem dX2_init_2_61 : decode cX2_init_2 61 = .ok (.putfield 46, 3) := dk_181 0 46 (dk_at dksX2_init_2_2 14 rfl rfl)
theorem dX2_init_2_64 : decode cX2_init_2 64 = .ok (.aload_n 0, 1) := dk_42 (dk_at dksX2_init_2_2 17 rfl rfl)
theorem dX2_init_2_65 : decode cX2_init_2 65 = .ok (.aload 4, 2) := dk_25 4 (dk_at dksX2_init_2_2 18 rfl rfl)
theorem dX2_init_2_67 : decode cX2_init_2 67 = .ok (.aload 5, 2) := dk_25 5 (dk_at dksX2_init_2_2 20 rfl rfl)
theorem dX2_init_2_69 : decode cX2_init_2 69 = .ok (.invokevirtual 49, 3) := dk_182 0 49 (dk_at dksX2_init_2_3 0 rfl rfl)
theorem dX2_init_2_72 : decode cX2_init_2 72 = .ok (.aload_n 0, 1) := dk_42 (dk_at dksX2_init_2_3 3 rfl rfl)
theorem dX2_init_2_73 : decode cX2_init_2 73 = .ok (.aload_n 0, 1) := dk_42 (dk_at dksX2_init_2_3 4 rfl rfl)
theorem dX2_init_2_74 : decode cX2_init_2 74 = .ok (.invokevirtual 53, 3) := dk_182 0 53 (dk_at dksX2_init_2_3 5 rfl rfl)
theorem dX2_init_2_77 : decode cX2_init_2 77 = .ok (.checkcast 8, 3) := dk_192 0 8 (dk_at dksX2_init_2_3 8 rfl rfl)
theorem dX2_init_2_80 : decode cX2_init_2 80 = .ok (.putfield 57, 3) := dk_181 0 57 (dk_at dksX2_init_2_3 11 rfl rfl)
theorem dX2_init_2_83 : decode cX2_init_2 83 = .ok (.return_, 1) := dk_177 (dk_at dksX2_init_2_3 14 rfl rfl)
abbrev cX2_setKeyAndIV : ByteArray := prog_8_method_21_code
def yX2_setKeyAndIV : MethodName := ⟨RX2, "setKeyAndIV", "([B[B)V"⟩
def dkwX2_setKeyAndIV_2 : List UInt8 := [182, 0, 139, 132, 3, 255, 167, 255, 231, 42, 182, 0, 133, 42, 182, 0, 136, 87, 42, 182, 0, 143, 177]
abbrev dktX2_setKeyAndIV_2 : List UInt8 := dkwX2_setKeyAndIV_2 ++ []
def dkwX2_setKeyAndIV_1 : List UInt8 := [16, 32, 62, 29, 158, 0, 27, 42, 182, 0, 133, 42, 182, 0, 136, 54, 4, 42, 21, 4, 4, 124]
abbrev dktX2_setKeyAndIV_1 : List UInt8 := dkwX2_setKeyAndIV_1 ++ dktX2_setKeyAndIV_2
def dkwX2_setKeyAndIV_0 : List UInt8 := [42, 42, 180, 0, 7, 43, 44, 182, 0, 130, 42, 180, 0, 13, 3, 3, 79, 42, 180, 0, 13, 4, 3, 79]
abbrev dktX2_setKeyAndIV_0 : List UInt8 := dkwX2_setKeyAndIV_0 ++ dktX2_setKeyAndIV_1
theorem dksX2_setKeyAndIV_0 : cX2_setKeyAndIV.data.toList.drop 0 = dktX2_setKeyAndIV_0 := by decide +kernel
theorem dksX2_setKeyAndIV_1 : cX2_setKeyAndIV.data.toList.drop 24 = dktX2_setKeyAndIV_1 := dk_seg dksX2_setKeyAndIV_0 24 rfl rfl
theorem dksX2_setKeyAndIV_2 : cX2_setKeyAndIV.data.toList.drop 46 = dktX2_setKeyAndIV_2 := dk_seg dksX2_setKeyAndIV_1 22 rfl rfl
theorem dX2_setKeyAndIV_0 : decode cX2_setKeyAndIV 0 = .ok (.aload_n 0, 1) := dk_42 (dk_at dksX2_setKeyAndIV_0 0 rfl rfl)
theorem dX2_setKeyAndIV_1 : decode cX2_setKeyAndIV 1 = .ok (.aload_n 0, 1) := dk_42 (dk_at dksX2_setKeyAndIV_0 1 rfl rfl)
theorem dX2_setKeyAndIV_2 : decode cX2_setKeyAndIV 2 = .ok (.getfield 7, 3) := dk_180 0 7 (dk_at dksX2_setKeyAndIV_0 2 rfl rfl)
theorem dX2_setKeyAndIV_5 : decode cX2_setKeyAndIV 5 = .ok (.aload_n 1, 1) := dk_43 (dk_at dksX2_setKeyAndIV_0 5 rfl rfl)
theorem dX2_setKeyAndIV_6 : decode cX2_setKeyAndIV 6 = .ok (.aload_n 2, 1) := dk_44 (dk_at dksX2_setKeyAndIV_0 6 rfl rfl)
theorem dX2_setKeyAndIV_7 : decode cX2_setKeyAndIV 7 = .ok (.invokevirtual 130, 3) := dk_182 0 130 (dk_at dksX2_setKeyAndIV_0 7 rfl rfl)
theorem dX2_setKeyAndIV_10 : decode cX2_setKeyAndIV 10 = .ok (.aload_n 0, 1) := dk_42 (dk_at dksX2_setKeyAndIV_0 10 rfl rfl)
theorem dX2_setKeyAndIV_11 : decode cX2_setKeyAndIV 11 = .ok (.getfield 13, 3) := dk_180 0 13 (dk_at dksX2_setKeyAndIV_0 11 rfl rfl)
theorem dX2_setKeyAndIV_14 : decode cX2_setKeyAndIV 14 = .ok (.iconst 0, 1) := dk_3 (dk_at dksX2_setKeyAndIV_0 14 rfl rfl)
theorem dX2_setKeyAndIV_15 : decode cX2_setKeyAndIV 15 = .ok (.iconst 0, 1) := dk_3 (dk_at dksX2_setKeyAndIV_0 15 rfl rfl)
theorem dX2_setKeyAndIV_16 : decode cX2_setKeyAndIV 16 = .ok (.iastore, 1) := dk_79 (dk_at dksX2_setKeyAndIV_0 16 rfl rfl)
theorem dX2_setKeyAndIV_17 : decode cX2_setKeyAndIV 17 = .ok (.aload_n 0, 1) := dk_42 (dk_at dksX2_setKeyAndIV_0 17 rfl rfl)
theorem dX2_setKeyAndIV_18 : decode cX2_setKeyAndIV 18 = .ok (.getfield 13, 3) := dk_180 0 13 (dk_at dksX2_setKeyAndIV_0 18 rfl rfl)
theorem dX2_setKeyAndIV_21 : decode cX2_setKeyAndIV 21 = .ok (.iconst 1, 1) := dk_4 (dk_at dksX2_setKeyAndIV_0 21 rfl rfl)
theorem dX2_setKeyAndIV_22 : decode cX2_setKeyAndIV 22 = .ok (.iconst 0, 1) := dk_3 (dk_at dksX2_setKeyAndIV_0 22 rfl rfl)
theorem dX2_setKeyAndIV_23 : decode cX2_setKeyAndIV 23 = .ok (.iastore, 1) := dk_79 (dk_at dksX2_setKeyAndIV_0 23 rfl rfl)
theorem dX2_setKeyAndIV_24 : decode cX2_setKeyAndIV 24 = .ok (.bipush 32, 2) := dk_16 32 (dk_at dksX2_setKeyAndIV_1 0 rfl rfl)
theorem dX2_setKeyAndIV_26 : decode cX2_setKeyAndIV 26 = .ok (.istore_n 3, 1) := dk_62 (dk_at dksX2_setKeyAndIV_1 2 rfl rfl)
theorem dX2_setKeyAndIV_27 : decode cX2_setKeyAndIV 27 = .ok (.iload_n 3, 1) := dk_29 (dk_at dksX2_setKeyAndIV_1 3 rfl rfl)
theorem dX2_setKeyAndIV_28 : decode cX2_setKeyAndIV 28 = .ok (.ifCond .le 27, 3) := dk_158 0 27 (dk_at dksX2_setKeyAndIV_1 4 rfl rfl)
theorem dX2_setKeyAndIV_31 : decode cX2_setKeyAndIV 31 = .ok (.aload_n 0, 1) := dk_42 (dk_at dksX2_setKeyAndIV_1 7 rfl rfl)
theorem dX2_setKeyAndIV_32 : decode cX2_setKeyAndIV 32 = .ok (.invokevirtual 133, 3) := dk_182 0 133 (dk_at dksX2_setKeyAndIV_1 8 rfl rfl)
theorem dX2_setKeyAndIV_35 : decode cX2_setKeyAndIV 35 = .ok (.aload_n 0, 1) := dk_42 (dk_at dksX2_setKeyAndIV_1 11 rfl rfl)
theorem dX2_setKeyAndIV_36 : decode cX2_setKeyAndIV 36 = .ok (.invokevirtual 136, 3) := dk_182 0 136 (dk_at dksX2_setKeyAndIV_1 12 rfl rfl)
theorem dX2_setKeyAndIV_39 : decode cX2_setKeyAndIV 39 = .ok (.istore 4, 2) := dk_54 4 (dk_at dksX2_setKeyAndIV_1 15 rfl rfl)
theorem dX2_setKeyAndIV_41 : decode cX2_setKeyAndIV 41 = .ok (.aload_n 0, 1) := dk_42 (dk_at dksX2_setKeyAndIV_1 17 rfl rfl)
theorem dX2_setKeyAndIV_42 : decode cX2_setKeyAndIV 42 = .ok (.iload 4, 2) := dk_21 4 (dk_at dksX2_setKeyAndIV_1 18 rfl rfl)
theorem dX2_setKeyAndIV_44 : decode cX2_setKeyAndIV 44 = .ok (.iconst 1, 1) := dk_4 (dk_at dksX2_setKeyAndIV_1 20 rfl rfl)
theorem dX2_setKeyAndIV_45 : decode cX2_setKeyAndIV 45 = .ok (.iushr, 1) := dk_124 (dk_at dksX2_setKeyAndIV_1 21 rfl rfl)
theorem dX2_setKeyAndIV_46 : decode cX2_setKeyAndIV 46 = .ok (.invokevirtual 139, 3) := dk_182 0 139 (dk_at dksX2_setKeyAndIV_2 0 rfl rfl)
theorem dX2_setKeyAndIV_49 : decode cX2_setKeyAndIV 49 = .ok (.iinc 3 (-1), 3) := dk_132 3 255 (dk_at dksX2_setKeyAndIV_2 3 rfl rfl)
theorem dX2_setKeyAndIV_52 : decode cX2_setKeyAndIV 52 = .ok (.goto (-25), 3) := dk_167 255 231 (dk_at dksX2_setKeyAndIV_2 6 rfl rfl)
theorem dX2_setKeyAndIV_55 : decode cX2_setKeyAndIV 55 = .ok (.aload_n 0, 1) := dk_42 (dk_at dksX2_setKeyAndIV_2 9 rfl rfl)
theorem dX2_setKeyAndIV_56 : decode cX2_setKeyAndIV 56 = .ok (.invokevirtual 133, 3) := dk_182 0 133 (dk_at dksX2_setKeyAndIV_2 10 rfl rfl)
theorem dX2_setKeyAndIV_59 : decode cX2_setKeyAndIV 59 = .ok (.aload_n 0, 1) := dk_42 (dk_at dksX2_setKeyAndIV_2 13 rfl rfl)
theorem dX2_setKeyAndIV_60 : decode cX2_setKeyAndIV 60 = .ok (.invokevirtual 136, 3) := dk_182 0 136 (dk_at dksX2_setKeyAndIV_2 14 rfl rfl)
theorem dX2_setKeyAndIV_63 : decode cX2_setKeyAndIV 63 = .ok (.pop, 1) := dk_87 (dk_at dksX2_setKeyAndIV_2 17 rfl rfl)
theorem dX2_setKeyAndIV_64 : decode cX2_setKeyAndIV 64 = .ok (.aload_n 0, 1) := dk_42 (dk_at dksX2_setKeyAndIV_2 18 rfl rfl)
theorem dX2_setKeyAndIV_65 : decode cX2_setKeyAndIV 65 = .ok (.invokevirtual 143, 3) := dk_182 0 143 (dk_at dksX2_setKeyAndIV_2 19 rfl rfl)
theorem dX2_setKeyAndIV_68 : decode cX2_setKeyAndIV 68 = .ok (.return_, 1) := dk_177 (dk_at dksX2_setKeyAndIV_2 22 rfl rfl)
abbrev cX2_setKeyAndIV_2 : ByteArray := prog_8_method_20_code
def yX2_setKeyAndIV_2 : MethodName := ⟨RX2, "setKeyAndIV", "([I[B[B)V"⟩
def dkwX2_setKeyAndIV_2_16 : List UInt8 := [16, 15, 44, 16, 15, 51, 178, 0, 122, 16, 15, 53, 45, 16, 15, 51, 184, 0, 126, 79, 177]
abbrev dktX2_setKeyAndIV_2_16 : List UInt8 := dkwX2_setKeyAndIV_2_16 ++ []
def dkwX2_setKeyAndIV_2_15 : List UInt8 := [16, 14, 44, 16, 14, 51, 178, 0, 122, 16, 14, 53, 45, 16, 14, 51, 184, 0, 126, 79, 42, 180, 0, 7]
abbrev dktX2_setKeyAndIV_2_15 : List UInt8 := dkwX2_setKeyAndIV_2_15 ++ dktX2_setKeyAndIV_2_16
def dkwX2_setKeyAndIV_2_14 : List UInt8 := [16, 13, 44, 16, 13, 51, 178, 0, 122, 16, 13, 53, 45, 16, 13, 51, 184, 0, 126, 79, 42, 180, 0, 7]
abbrev dktX2_setKeyAndIV_2_14 : List UInt8 := dkwX2_setKeyAndIV_2_14 ++ dktX2_setKeyAndIV_2_15
def dkwX2_setKeyAndIV_2_13 : List UInt8 := [16, 12, 44, 16, 12, 51, 178, 0, 122, 16, 12, 53, 45, 16, 12, 51, 184, 0, 126, 79, 42, 180, 0, 7]
abbrev dktX2_setKeyAndIV_2_13 : List UInt8 := dkwX2_setKeyAndIV_2_13 ++ dktX2_setKeyAndIV_2_14
def dkwX2_setKeyAndIV_2_12 : List UInt8 := [16, 11, 44, 16, 11, 51, 178, 0, 122, 16, 11, 53, 45, 16, 11, 51, 184, 0, 126, 79, 42, 180, 0, 7]
abbrev dktX2_setKeyAndIV_2_12 : List UInt8 := dkwX2_setKeyAndIV_2_12 ++ dktX2_setKeyAndIV_2_13
def dkwX2_setKeyAndIV_2_11 : List UInt8 := [16, 10, 44, 16, 10, 51, 178, 0, 122, 16, 10, 53, 45, 16, 10, 51, 184, 0, 126, 79, 42, 180, 0, 7]
abbrev dktX2_setKeyAndIV_2_11 : List UInt8 := dkwX2_setKeyAndIV_2_11 ++ dktX2_setKeyAndIV_2_12
def dkwX2_setKeyAndIV_2_10 : List UInt8 := [16, 9, 44, 16, 9, 51, 178, 0, 122, 16, 9, 53, 45, 16, 9, 51, 184, 0, 126, 79, 42, 180, 0, 7]
abbrev dktX2_setKeyAndIV_2_10 : List UInt8 := dkwX2_setKeyAndIV_2_10 ++ dktX2_setKeyAndIV_2_11
def dkwX2_setKeyAndIV_2_9 : List UInt8 := [16, 8, 44, 16, 8, 51, 178, 0, 122, 16, 8, 53, 45, 16, 8, 51, 184, 0, 126, 79, 42, 180, 0, 7]
abbrev dktX2_setKeyAndIV_2_9 : List UInt8 := dkwX2_setKeyAndIV_2_9 ++ dktX2_setKeyAndIV_2_10
def dkwX2_setKeyAndIV_2_8 : List UInt8 := [16, 7, 44, 16, 7, 51, 178, 0, 122, 16, 7, 53, 45, 16, 7, 51, 184, 0, 126, 79, 42, 180, 0, 7]
abbrev dktX2_setKeyAndIV_2_8 : List UInt8 := dkwX2_setKeyAndIV_2_8 ++ dktX2_setKeyAndIV_2_9
def dkwX2_setKeyAndIV_2_7 : List UInt8 := [16, 6, 44, 16, 6, 51, 178, 0, 122, 16, 6, 53, 45, 16, 6, 51, 184, 0, 126, 79, 42, 180, 0, 7]
abbrev dktX2_setKeyAndIV_2_7 : List UInt8 := dkwX2_setKeyAndIV_2_7 ++ dktX2_setKeyAndIV_2_8
def dkwX2_setKeyAndIV_2_6 : List UInt8 := [42, 180, 0, 7, 8, 44, 8, 51, 178, 0, 122, 8, 53, 45, 8, 51, 184, 0, 126, 79, 42, 180, 0, 7]
abbrev dktX2_setKeyAndIV_2_6 : List UInt8 := dkwX2_setKeyAndIV_2_6 ++ dktX2_setKeyAndIV_2_7
def dkwX2_setKeyAndIV_2_5 : List UInt8 := [184, 0, 126, 79, 42, 180, 0, 7, 7, 44, 7, 51, 178, 0, 122, 7, 53, 45, 7, 51, 184, 0, 126, 79]
abbrev dktX2_setKeyAndIV_2_5 : List UInt8 := dkwX2_setKeyAndIV_2_5 ++ dktX2_setKeyAndIV_2_6
def dkwX2_setKeyAndIV_2_4 : List UInt8 := [53, 45, 5, 51, 184, 0, 126, 79, 42, 180, 0, 7, 6, 44, 6, 51, 178, 0, 122, 6, 53, 45, 6, 51]
abbrev dktX2_setKeyAndIV_2_4 : List UInt8 := dkwX2_setKeyAndIV_2_4 ++ dktX2_setKeyAndIV_2_5
def dkwX2_setKeyAndIV_2_3 : List UInt8 := [178, 0, 122, 4, 53, 45, 4, 51, 184, 0, 126, 79, 42, 180, 0, 7, 5, 44, 5, 51, 178, 0, 122, 5]
abbrev dktX2_setKeyAndIV_2_3 : List UInt8 := dkwX2_setKeyAndIV_2_3 ++ dktX2_setKeyAndIV_2_4
def dkwX2_setKeyAndIV_2_2 : List UInt8 := [3, 44, 3, 51, 178, 0, 122, 3, 53, 45, 3, 51, 184, 0, 126, 79, 42, 180, 0, 7, 4, 44, 4, 51]
abbrev dktX2_setKeyAndIV_2_2 : List UInt8 := dkwX2_setKeyAndIV_2_2 ++ dktX2_setKeyAndIV_2_3
def dkwX2_setKeyAndIV_2_1 : List UInt8 := [198, 0, 10, 45, 190, 16, 16, 159, 0, 13, 187, 0, 115, 89, 18, 120, 183, 0, 119, 191, 42, 180, 0, 7]
abbrev dktX2_setKeyAndIV_2_1 : List UInt8 := dkwX2_setKeyAndIV_2_1 ++ dktX2_setKeyAndIV_2_2
def dkwX2_setKeyAndIV_2_0 : List UInt8 := [44, 198, 0, 10, 44, 190, 16, 16, 159, 0, 13, 187, 0, 115, 89, 18, 117, 183, 0, 119, 191, 45]
abbrev dktX2_setKeyAndIV_2_0 : List UInt8 := dkwX2_setKeyAndIV_2_0 ++ dktX2_setKeyAndIV_2_1
theorem dksX2_setKeyAndIV_2_0 : cX2_setKeyAndIV_2.data.toList.drop 0 = dktX2_setKeyAndIV_2_0 := by decide +kernel
theorem dksX2_setKeyAndIV_2_1 : cX2_setKeyAndIV_2.data.toList.drop 22 = dktX2_setKeyAndIV_2_1 := dk_seg dksX2_setKeyAndIV_2_0 22 rfl rfl
theorem dksX2_setKeyAndIV_2_2 : cX2_setKeyAndIV_2.data.toList.drop 46 = dktX2_setKeyAndIV_2_2 := dk_seg dksX2_setKeyAndIV_2_1 24 rfl rfl
theorem dksX2_setKeyAndIV_2_3 : cX2_setKeyAndIV_2.data.toList.drop 70 = dktX2_setKeyAndIV_2_3 := dk_seg dksX2_setKeyAndIV_2_2 24 rfl rfl
theorem dksX2_setKeyAndIV_2_4 : cX2_setKeyAndIV_2.data.toList.drop 94 = dktX2_setKeyAndIV_2_4 := dk_seg dksX2_setKeyAndIV_2_3 24 rfl rfl
theorem dksX2_setKeyAndIV_2_5 : cX2_setKeyAndIV_2.data.toList.drop 118 = dktX2_setKeyAndIV_2_5 := dk_seg dksX2_setKeyAndIV_2_4 24 rfl rfl
theorem dksX2_setKeyAndIV_2_6 : cX2_setKeyAndIV_2.data.toList.drop 142 = dktX2_setKeyAndIV_2_6 := dk_seg dksX2_setKeyAndIV_2_5 24 rfl rfl
theorem dksX2_setKeyAndIV_2_7 : cX2_setKeyAndIV_2.data.toList.drop 166 = dktX2_setKeyAndIV_2_7 := dk_seg dksX2_setKeyAndIV_2_6 24 rfl rfl
theorem dksX2_setKeyAndIV_2_8 : cX2_setKeyAndIV_2.data.toList.drop 190 = dktX2_setKeyAndIV_2_8 := dk_seg dksX2_setKeyAndIV_2_7 24 rfl rfl
theorem dksX2_setKeyAndIV_2_9 : cX2_setKeyAndIV_2.data.toList.drop 214 = dktX2_setKeyAndIV_2_9 := dk_seg dksX2_setKeyAndIV_2_8 24 rfl rfl
theorem dksX2_setKeyAndIV_2_10 : cX2_setKeyAndIV_2.data.toList.drop 238 = dktX2_setKeyAndIV_2_10 := dk_seg dksX2_setKeyAndIV_2_9 24 rfl rfl
theorem dksX2_setKeyAndIV_2_11 : cX2_setKeyAndIV_2.data.toList.drop 262 = dktX2_setKeyAndIV_2_11 := dk_seg dksX2_setKeyAndIV_2_10 24 rfl rfl
theorem dksX2_setKeyAndIV_2_12 : cX2_setKeyAndIV_2.data.toList.drop 286 = dktX2_setKeyAndIV_2_12 := dk_seg dksX2_setKeyAndIV_2_11 24 rfl rfl
theorem dksX2_setKeyAndIV_2_13 : cX2_setKeyAndIV_2.data.toList.drop 310 = dktX2_setKeyAndIV_2_13 := dk_seg dksX2_setKeyAndIV_2_12 24 rfl rfl
theorem dksX2_setKeyAndIV_2_14 : cX2_setKeyAndIV_2.data.toList.drop 334 = dktX2_setKeyAndIV_2_14 := dk_seg dksX2_setKeyAndIV_2_13 24 rfl rfl
theorem dksX2_setKeyAndIV_2_15 : cX2_setKeyAndIV_2.data.toList.drop 358 = dktX2_setKeyAndIV_2_15 := dk_seg dksX2_setKeyAndIV_2_14 24 rfl rfl
theorem dksX2_setKeyAndIV_2_16 : cX2_setKeyAndIV_2.data.toList.drop 382 = dktX2_setKeyAndIV_2_16 := dk_seg dksX2_setKeyAndIV_2_15 24 rfl rfl
theorem dX2_setKeyAndIV_2_0 : decode cX2_setKeyAndIV_2 0 = .ok (.aload_n 2, 1) := dk_44 (dk_at dksX2_setKeyAndIV_2_0 0 rfl rfl)
theorem dX2_setKeyAndIV_2_1 : decode cX2_setKeyAndIV_2 1 = .ok (.ifnull 10, 3) := dk_198 0 10 (dk_at dksX2_setKeyAndIV_2_0 1 rfl rfl)
theorem dX2_setKeyAndIV_2_4 : decode cX2_setKeyAndIV_2 4 = .ok (.aload_n 2, 1) := dk_44 (dk_at dksX2_setKeyAndIV_2_0 4 rfl rfl)
theorem dX2_setKeyAndIV_2_5 : decode cX2_setKeyAndIV_2 5 = .ok (.arraylength, 1) := dk_190 (dk_at dksX2_setKeyAndIV_2_0 5 rfl rfl)
theorem dX2_setKeyAndIV_2_6 : decode cX2_setKeyAndIV_2 6 = .ok (.bipush 16, 2) := dk_16 16 (dk_at dksX2_setKeyAndIV_2_0 6 rfl rfl)
theorem dX2_setKeyAndIV_2_8 : decode cX2_setKeyAndIV_2 8 = .ok (.if_icmp .eq 13, 3) := dk_159 0 13 (dk_at dksX2_setKeyAndIV_2_0 8 rfl rfl)
theorem dX2_setKeyAndIV_2_11 : decode cX2_setKeyAndIV_2 11 = .ok (.new 115, 3) := dk_187 0 115 (dk_at dksX2_setKeyAndIV_2_0 11 rfl rfl)
theorem dX2_setKeyAndIV_2_14 : decode cX2_setKeyAndIV_2 14 = .ok (.dup, 1) := dk_89 (dk_at dksX2_setKeyAndIV_2_0 14 rfl rfl)
theorem dX2_setKeyAndIV_2_15 : decode cX2_setKeyAndIV_2 15 = .ok (.ldc 117, 2) := dk_18 117 (dk_at dksX2_setKeyAndIV_2_0 15 rfl rfl)
theorem dX2_setKeyAndIV_2_17 : decode cX2_setKeyAndIV_2 17 = .ok (.invokespecial 119, 3) := dk_183 0 119 (dk_at dksX2_setKeyAndIV_2_0 17 rfl rfl)
theorem dX2_setKeyAndIV_2_20 : decode cX2_setKeyAndIV_2 20 = .ok (.athrow, 1) := dk_191 (dk_at dksX2_setKeyAndIV_2_0 20 rfl rfl)
theorem dX2_setKeyAndIV_2_21 : decode cX2_setKeyAndIV_2 21 = .ok (.aload_n 3, 1) := dk_45 (dk_at dksX2_setKeyAndIV_2_0 21 rfl rfl)
theorem dX2_setKeyAndIV_2_22 : decode cX2_setKeyAndIV_2 22 = .ok (.ifnull 10, 3) := dk_198 0 10 (dk_at dksX2_setKeyAndIV_2_1 0 rfl rfl)
theorem dX2_setKeyAndIV_2_25 : decode cX2_setKeyAndIV_2 25 = .ok (.aload_n 3, 1) := dk_45 (dk_at dksX2_setKeyAndIV_2_1 3 rfl rfl)
theorem dX2_setKeyAndIV_2_26 : decode cX2_setKeyAndIV_2 26 = .ok (.arraylength, 1) := dk_190 (dk_at dksX2_setKeyAndIV_2_1 4 rfl rfl)
theorem dX2_setKeyAndIV_2_27 : decode cX2_setKeyAndIV_2 27 = .ok (.bipush 16, 2) := dk_16 16 (dk_at dksX2_setKeyAndIV_2_1 5 rfl rfl)
theorem dX2_setKeyAndIV_2_29 : decode cX2_setKeyAndIV_2 29 = .ok (.if_icmp .eq 13, 3) := dk_159 0 13 (dk_at dksX2_setKeyAndIV_2_1 7 rfl rfl)
theorem dX2_setKeyAndIV_2_32 : decode cX2_setKeyAndIV_2 32 = .ok (.new 115, 3) := dk_187 0 115 (dk_at dksX2_setKeyAndIV_2_1 10 rfl rfl)
theorem dX2_setKeyAndIV_2_35 : decode cX2_setKeyAndIV_2 35 = .ok (.dup, 1) := dk_89 (dk_at dksX2_setKeyAndIV_2_1 13 rfl rfl)
theorem dX2_setKeyAndIV_2_36 : decode cX2_setKeyAndIV_2 36 = .ok (.ldc 120, 2) := dk_18 120 (dk_at dksX2_setKeyAndIV_2_1 14 rfl rfl)
theorem dX2_setKeyAndIV_2_38 : decode cX2_setKeyAndIV_2 38 = .ok (.invokespecial 119, 3) := dk_183 0 119 (dk_at dksX2_setKeyAndIV_2_1 16 rfl rfl)
theorem dX2_setKeyAndIV_2_41 : decode cX2_setKeyAndIV_2 41 = .ok (.athrow, 1) := dk_191 (dk_at dksX2_setKeyAndIV_2_1 19 rfl rfl)
theorem dX2_setKeyAndIV_2_42 : decode cX2_setKeyAndIV_2 42 = .ok (.aload_n 0, 1) := dk_42 (dk_at dksX2_setKeyAndIV_2_1 20 rfl rfl)
theorem dX2_setKeyAndIV_2_43 : decode cX2_setKeyAndIV_2 43 = .ok (.getfield 7, 3) := dk_180 0 7 (dk_at dksX2_setKeyAndIV_2_1 21 rfl rfl)
theorem dX2_setKeyAndIV_2_46 : decode cX2_setKeyAndIV_2 46 = .ok (.iconst 0, 1) := dk_3 (dk_at dksX2_setKeyAndIV_2_2 0 rfl rfl)
theorem dX2_setKeyAndIV_2_47 : decode cX2_setKeyAndIV_2 47 = .ok (.aload_n 2, 1) := dk_44 (dk_at dksX2_setKeyAndIV_2_2 1 rfl rfl)
theorem dX2_setKeyAndIV_2_48 : decode cX2_setKeyAndIV_2 48 = .ok (.iconst 0, 1) := dk_3 (dk_at dksX2_setKeyAndIV_2_2 2 rfl rfl)
theorem dX2_setKeyAndIV_2_49 : decode cX2_setKeyAndIV_2 49 = .ok (.baload, 1) := dk_51 (dk_at dksX2_setKeyAndIV_2_2 3 rfl rfl)
theorem dX2_setKeyAndIV_2_50 : decode cX2_setKeyAndIV_2 50 = .ok (.getstatic 122, 3) := dk_178 0 122 (dk_at dksX2_setKeyAndIV_2_2 4 rfl rfl)
theorem dX2_setKeyAndIV_2_53 : decode cX2_setKeyAndIV_2 53 = .ok (.iconst 0, 1) := dk_3 (dk_at dksX2_setKeyAndIV_2_2 7 rfl rfl)
theorem dX2_setKeyAndIV_2_54 : decode cX2_setKeyAndIV_2 54 = .ok (.saload, 1) := dk_53 (dk_at dksX2_setKeyAndIV_2_2 8 rfl rfl)
theorem dX2_setKeyAndIV_2_55 : decode cX2_setKeyAndIV_2 55 = .ok (.aload_n 3, 1) := dk_45 (dk_at dksX2_setKeyAndIV_2_2 9 rfl rfl)
theorem dX2_setKeyAndIV_2_56 : decode cX2_setKeyAndIV_2 56 = .ok (.iconst 0, 1) := dk_3 (dk_at dksX2_setKeyAndIV_2_2 10 rfl rfl)
theorem dX2_setKeyAndIV_2_57 : decode cX2_setKeyAndIV_2 57 = .ok (.baload, 1) := dk_51 (dk_at dksX2_setKeyAndIV_2_2 11 rfl rfl)
theorem dX2_setKeyAndIV_2_58 : decode cX2_setKeyAndIV_2 58 = .ok (.invokestatic 126, 3) := dk_184 0 126 (dk_at dksX2_setKeyAndIV_2_2 12 rfl rfl)
theorem dX2_setKeyAndIV_2_61 : decode cX2_setKeyAndIV_2 61 = .ok (.iastore, 1) := dk_79 (dk_at dksX2_setKeyAndIV_2_2 15 rfl rfl)
theorem dX2_setKeyAndIV_2_62 : decode cX2_setKeyAndIV_2 62 = .ok (.aload_n 0, 1) := dk_42 (dk_at dksX2_setKeyAndIV_2_2 16 rfl rfl)
theorem dX2_setKeyAndIV_2_63 : decode cX2_setKeyAndIV_2 63 = .ok (.getfield 7, 3) := dk_180 0 7 (dk_at dksX2_setKeyAndIV_2_2 17 rfl rfl)
theorem dX2_setKeyAndIV_2_66 : decode cX2_setKeyAndIV_2 66 = .ok (.iconst 1, 1) := dk_4 (dk_at dksX2_setKeyAndIV_2_2 20 rfl rfl)
theorem dX2_setKeyAndIV_2_67 : decode cX2_setKeyAndIV_2 67 = .ok (.aload_n 2, 1) := dk_44 (dk_at dksX2_setKeyAndIV_2_2 21 rfl rfl)
theorem dX2_setKeyAndIV_2_68 : decode cX2_setKeyAndIV_2 68 = .ok (.iconst 1, 1) := dk_4 (dk_at dksX2_setKeyAndIV_2_2 22 rfl rfl)
theorem dX2_setKeyAndIV_2_69 : decode cX2_setKeyAndIV_2 69 = .ok (.baload, 1) := dk_51 (dk_at dksX2_setKeyAndIV_2_2 23 rfl rfl)
theorem dX2_setKeyAndIV_2_70 : decode cX2_setKeyAndIV_2 70 = .ok (.getstatic 122, 3) := dk_178 0 122 (dk_at dksX2_setKeyAndIV_2_3 0 rfl rfl)
theorem dX2_setKeyAndIV_2_73 : decode cX2_setKeyAndIV_2 73 = .ok (.iconst 1, 1) := dk_4 (dk_at dksX2_setKeyAndIV_2_3 3 rfl rfl)
theorem dX2_setKeyAndIV_2_74 : decode cX2_setKeyAndIV_2 74 = .ok (.saload, 1) := dk_53 (dk_at dksX2_setKeyAndIV_2_3 4 rfl rfl)
theorem dX2_setKeyAndIV_2_75 : decode cX2_setKeyAndIV_2 75 = .ok (.aload_n 3, 1) := dk_45 (dk_at dksX2_setKeyAndIV_2_3 5 rfl rfl)
theorem dX2_setKeyAndIV_2_76 : decode cX2_setKeyAndIV_2 76 = .ok (.iconst 1, 1) := dk_4 (dk_at dksX2_setKeyAndIV_2_3 6 rfl rfl)
theorem dX2_setKeyAndIV_2_77 : decode cX2_setKeyAndIV_2 77 = .ok (.baload, 1) := dk_51 (dk_at dksX2_setKeyAndIV_2_3 7 rfl rfl)
theorem dX2_setKeyAndIV_2_78 : decode cX2_setKeyAndIV_2 78 = .ok (.invokestatic 126, 3) := dk_184 0 126 (dk_at dksX2_setKeyAndIV_2_3 8 rfl rfl)
theorem dX2_setKeyAndIV_2_81 : decode cX2_setKeyAndIV_2 81 = .ok (.iastore, 1) := dk_79 (dk_at dksX2_setKeyAndIV_2_3 11 rfl rfl)
theorem dX2_setKeyAndIV_2_82 : decode cX2_setKeyAndIV_2 82 = .ok (.aload_n 0, 1) := dk_42 (dk_at dksX2_setKeyAndIV_2_3 12 rfl rfl)
theorem dX2_setKeyAndIV_2_83 : decode cX2_setKeyAndIV_2 83 = .ok (.getfield 7, 3) := dk_180 0 7 (dk_at dksX2_setKeyAndIV_2_3 13 rfl rfl)
theorem dX2_setKeyAndIV_2_86 : decode cX2_setKeyAndIV_2 86 = .ok (.iconst 2, 1) := dk_5 (dk_at dksX2_setKeyAndIV_2_3 16 rfl rfl)
theorem dX2_setKeyAndIV_2_87 : decode cX2_setKeyAndIV_2 87 = .ok (.aload_n 2, 1) := dk_44 (dk_at dksX2_setKeyAndIV_2_3 17 rfl rfl)
theorem dX2_setKeyAndIV_2_88 : decode cX2_setKeyAndIV_2 88 = .ok (.iconst 2, 1) := dk_5 (dk_at dksX2_setKeyAndIV_2_3 18 rfl rfl)
theorem dX2_setKeyAndIV_2_89 : decode cX2_setKeyAndIV_2 89 = .ok (.baload, 1) := dk_51 (dk_at dksX2_setKeyAndIV_2_3 19 rfl rfl)
theorem dX2_setKeyAndIV_2_90 : decode cX2_setKeyAndIV_2 90 = .ok (.getstatic 122, 3) := dk_178 0 122 (dk_at dksX2_setKeyAndIV_2_3 20 rfl rfl)
theorem dX2_setKeyAndIV_2_93 : decode cX2_setKeyAndIV_2 93 = .ok (.iconst 2, 1) := dk_5 (dk_at dksX2_setKeyAndIV_2_3 23 rfl rfl)
theorem dX2_setKeyAndIV_2_94 : decode cX2_setKeyAndIV_2 94 = .ok (.saload, 1) := dk_53 (dk_at dksX2_setKeyAndIV_2_4 0 rfl rfl)
theorem dX2_setKeyAndIV_2_95 : decode cX2_setKeyAndIV_2 95 = .ok (.aload_n 3, 1) := dk_45 (dk_at dksX2_setKeyAndIV_2_4 1 rfl rfl)
theorem dX2_setKeyAndIV_2_96 : decode cX2_setKeyAndIV_2 96 = .ok (.iconst 2, 1) := dk_5 (dk_at dksX2_setKeyAndIV_2_4 2 rfl rfl)
theorem dX2_setKeyAndIV_2_97 : decode cX2_setKeyAndIV_2 97 = .ok (.baload, 1) := dk_51 (dk_at dksX2_setKeyAndIV_2_4 3 rfl rfl)
theorem dX2_setKeyAndIV_2_98 : decode cX2_setKeyAndIV_2 98 = .ok (.invokestatic 126, 3) := dk_184 0 126 (dk_at dksX2_setKeyAndIV_2_4 4 rfl rfl)
theorem dX2_setKeyAndIV_2_101 : decode cX2_setKeyAndIV_2 101 = .ok (.iastore, 1) := dk_79 (dk_at dksX2_setKeyAndIV_2_4 7 rfl rfl)
theorem dX2_setKeyAndIV_2_102 : decode cX2_setKeyAndIV_2 102 = .ok (.aload_n 0, 1) := dk_42 (dk_at dksX2_setKeyAndIV_2_4 8 rfl rfl)
theorem dX2_setKeyAndIV_2_103 : decode cX2_setKeyAndIV_2 103 = .ok (.getfield 7, 3) := dk_180 0 7 (dk_at dksX2_setKeyAndIV_2_4 9 rfl rfl)
theorem dX2_setKeyAndIV_2_106 : decode cX2_setKeyAndIV_2 106 = .ok (.iconst 3, 1) := dk_6 (dk_at dksX2_setKeyAndIV_2_4 12 rfl rfl)
theorem dX2_setKeyAndIV_2_107 : decode cX2_setKeyAndIV_2 107 = .ok (.aload_n 2, 1) := dk_44 (dk_at dksX2_setKeyAndIV_2_4 13 rfl rfl)
theorem dX2_setKeyAndIV_2_108 : decode cX2_setKeyAndIV_2 108 = .ok (.iconst 3, 1) := dk_6 (dk_at dksX2_setKeyAndIV_2_4 14 rfl rfl)
theorem dX2_setKeyAndIV_2_109 : decode cX2_setKeyAndIV_2 109 = .ok (.baload, 1) := dk_51 (dk_at dksX2_setKeyAndIV_2_4 15 rfl rfl)
theorem dX2_setKeyAndIV_2_110 : decode cX2_setKeyAndIV_2 110 = .ok (.getstatic 122, 3) := dk_178 0 122 (dk_at dksX2_setKeyAndIV_2_4 16 rfl rfl)
theorem dX2_setKeyAndIV_2_113 : decode cX2_setKeyAndIV_2 113 = .ok (.iconst 3, 1) := dk_6 (dk_at dksX2_setKeyAndIV_2_4 19 rfl rfl)
theorem dX2_setKeyAndIV_2_114 : decode cX2_setKeyAndIV_2 114 = .ok (.saload, 1) := dk_53 (dk_at dksX2_setKeyAndIV_2_4 20 rfl rfl)
theorem dX2_setKeyAndIV_2_115 : decode cX2_setKeyAndIV_2 115 = .ok (.aload_n 3, 1) := dk_45 (dk_at dksX2_setKeyAndIV_2_4 21 rfl rfl)
theorem dX2_setKeyAndIV_2_116 : decode cX2_setKeyAndIV_2 116 = .ok (.iconst 3, 1) := dk_6 (dk_at dksX2_setKeyAndIV_2_4 22 rfl rfl)
theorem dX2_setKeyAndIV_2_117 : decode cX2_setKeyAndIV_2 117 = .ok (.baload, 1) := dk_51 (dk_at dksX2_setKeyAndIV_2_4 23 rfl rfl)
theorem dX2_setKeyAndIV_2_118 : decode cX2_setKeyAndIV_2 118 = .ok (.invokestatic 126, 3) := dk_184 0 126 (dk_at dksX2_setKeyAndIV_2_5 0 rfl rfl)
theorem dX2_setKeyAndIV_2_121 : decode cX2_setKeyAndIV_2 121 = .ok (.iastore, 1) := dk_79 (dk_at dksX2_setKeyAndIV_2_5 3 rfl rfl)
theorem dX2_setKeyAndIV_2_122 : decode cX2_setKeyAndIV_2 122 = .ok (.aload_n 0, 1) := dk_42 (dk_at dksX2_setKeyAndIV_2_5 4 rfl rfl)
theorem dX2_setKeyAndIV_2_123 : decode cX2_setKeyAndIV_2 123 = .ok (.getfield 7, 3) := dk_180 0 7 (dk_at dksX2_setKeyAndIV_2_5 5 rfl rfl)
theorem dX2_setKeyAndIV_2_126 : decode cX2_setKeyAndIV_2 126 = .ok (.iconst 4, 1) := dk_7 (dk_at dksX2_setKeyAndIV_2_5 8 rfl rfl)
theorem dX2_setKeyAndIV_2_127 : decode cX2_setKeyAndIV_2 127 = .ok (.aload_n 2, 1) := dk_44 (dk_at dksX2_setKeyAndIV_2_5 9 rfl rfl)
theorem dX2_setKeyAndIV_2_128 : decode cX2_setKeyAndIV_2 128 = .ok (.iconst 4, 1) := dk_7 (dk_at dksX2_setKeyAndIV_2_5 10 rfl rfl)
theorem dX2_setKeyAndIV_2_129 : decode cX2_setKeyAndIV_2 129 = .ok (.baload, 1) := dk_51 (dk_at dksX2_setKeyAndIV_2_5 11 rfl rfl)
theorem dX2_setKeyAndIV_2_130 : decode cX2_setKeyAndIV_2 130 = .ok (.getstatic 122, 3) := dk_178 0 122 (dk_at dksX2_setKeyAndIV_2_5 12 rfl rfl)
theorem dX2_setKeyAndIV_2_133 : decode cX2_setKeyAndIV_2 133 = .ok (.iconst 4, 1) := dk_7 (dk_at dksX2_setKeyAndIV_2_5 15 rfl rfl)
theorem dX2_setKeyAndIV_2_134 : decode cX2_setKeyAndIV_2 134 = .ok (.saload, 1) := dk_53 (dk_at dksX2_setKeyAndIV_2_5 16 rfl rfl)
theorem dX2_setKeyAndIV_2_135 : decode cX2_setKeyAndIV_2 135 = .ok (.aload_n 3, 1) := dk_45 (dk_at dksX2_setKeyAndIV_2_5 17 rfl rfl)
theorem dX2_setKeyAndIV_2_136 : decode cX2_setKeyAndIV_2 136 = .ok (.iconst 4, 1) := dk_7 (dk_at dksX2_setKeyAndIV_2_5 18 rfl rfl)
theorem dX2_setKeyAndIV_2_137 : decode cX2_setKeyAndIV_2 137 = .ok (.baload, 1) := dk_51 (dk_at dksX2_setKeyAndIV_2_5 19 rfl rfl)
theorem dX2_setKeyAndIV_2_138 : decode cX2_setKeyAndIV_2 138 = .ok (.invokestatic 126, 3) := dk_184 0 126 (dk_at dksX2_setKeyAndIV_2_5 20 rfl rfl)
theorem dX2_setKeyAndIV_2_141 : decode cX2_setKeyAndIV_2 141 = .ok (.iastore, 1) := dk_79 (dk_at dksX2_setKeyAndIV_2_5 23 rfl rfl)
theorem dX2_setKeyAndIV_2_142 : decode cX2_setKeyAndIV_2 142 = .ok (.aload_n 0, 1) := dk_42 (dk_at dksX2_setKeyAndIV_2_6 0 rfl rfl)
theorem dX2_setKeyAndIV_2_143 : decode cX2_setKeyAndIV_2 143 = .ok (.getfield 7, 3) := dk_180 0 7 (dk_at dksX2_setKeyAndIV_2_6 1 rfl rfl)
theorem dX2_setKeyAndIV_2_146 : decode cX2_setKeyAndIV_2 146 = .ok (.iconst 5, 1) := dk_8 (dk_at dksX2_setKeyAndIV_2_6 4 rfl rfl)
theorem dX2_setKeyAndIV_2_147 : decode cX2_setKeyAndIV_2 147 = .ok (.aload_n 2, 1) := dk_44 (dk_at dksX2_setKeyAndIV_2_6 5 rfl rfl)
theorem dX2_setKeyAndIV_2_148 : decode cX2_setKeyAndIV_2 148 = .ok (.iconst 5, 1) := dk_8 (dk_at dksX2_setKeyAndIV_2_6 6 rfl rfl)
theorem dX2_setKeyAndIV_2_149 : decode cX2_setKeyAndIV_2 149 = .ok (.baload, 1) := dk_51 (dk_at dksX2_setKeyAndIV_2_6 7 rfl rfl)
theorem dX2_setKeyAndIV_2_150 : decode cX2_setKeyAndIV_2 150 = .ok (.getstatic 122, 3) := dk_178 0 122 (dk_at dksX2_setKeyAndIV_2_6 8 rfl rfl)
theorem dX2_setKeyAndIV_2_153 : decode cX2_setKeyAndIV_2 153 = .ok (.iconst 5, 1) := dk_8 (dk_at dksX2_setKeyAndIV_2_6 11 rfl rfl)
theorem dX2_setKeyAndIV_2_154 : decode cX2_setKeyAndIV_2 154 = .ok (.saload, 1) := dk_53 (dk_at dksX2_setKeyAndIV_2_6 12 rfl rfl)
theorem dX2_setKeyAndIV_2_155 : decode cX2_setKeyAndIV_2 155 = .ok (.aload_n 3, 1) := dk_45 (dk_at dksX2_setKeyAndIV_2_6 13 rfl rfl)
theorem dX2_setKeyAndIV_2_156 : decode cX2_setKeyAndIV_2 156 = .ok (.iconst 5, 1) := dk_8 (dk_at dksX2_setKeyAndIV_2_6 14 rfl rfl)
theorem dX2_setKeyAndIV_2_157 : decode cX2_setKeyAndIV_2 157 = .ok (.baload, 1) := dk_51 (dk_at dksX2_setKeyAndIV_2_6 15 rfl rfl)
theorem dX2_setKeyAndIV_2_158 : decode cX2_setKeyAndIV_2 158 = .ok (.invokestatic 126, 3) := dk_184 0 126 (dk_at dksX2_setKeyAndIV_2_6 16 rfl rfl)
theorem dX2_setKeyAndIV_2_161 : decode cX2_setKeyAndIV_2 161 = .ok (.iastore, 1) := dk_79 (dk_at dksX2_setKeyAndIV_2_6 19 rfl rfl)
theorem dX2_setKeyAndIV_2_162 : decode cX2_setKeyAndIV_2 162 = .ok (.aload_n 0, 1) := dk_42 (dk_at dksX2_setKeyAndIV_2_6 20 rfl rfl)
theorem dX2_setKeyAndIV_2_163 : decode cX2_setKeyAndIV_2 163 = .ok (.getfield 7, 3) := dk_180 0 7 (dk_at dksX2_setKeyAndIV_2_6 21 rfl rfl)
theorem dX2_setKeyAndIV_2_166 : decode cX2_setKeyAndIV_2 166 = .ok (.bipush 6, 2) := dk_16 6 (dk_at dksX2_setKeyAndIV_2_7 0 rfl rfl)
theorem dX2_setKeyAndIV_2_168 : decode cX2_setKeyAndIV_2 168 = .ok (.aload_n 2, 1) := dk_44 (dk_at dksX2_setKeyAndIV_2_7 2 rfl rfl)
theorem dX2_setKeyAndIV_2_169 : decode cX2_setKeyAndIV_2 169 = .ok (.bipush 6, 2) := dk_16 6 (dk_at dksX2_setKeyAndIV_2_7 3 rfl rfl)
theorem dX2_setKeyAndIV_2_171 : decode cX2_setKeyAndIV_2 171 = .ok (.baload, 1) := dk_51 (dk_at dksX2_setKeyAndIV_2_7 5 rfl rfl)
theorem dX2_setKeyAndIV_2_172 : decode cX2_setKeyAndIV_2 172 = .ok (.getstatic 122, 3) := dk_178 0 122 (dk_at dksX2_setKeyAndIV_2_7 6 rfl rfl)
theorem dX2_setKeyAndIV_2_175 : decode cX2_setKeyAndIV_2 175 = .ok (.bipush 6, 2) := dk_16 6 (dk_at dksX2_setKeyAndIV_2_7 9 rfl rfl)
theorem dX2_setKeyAndIV_2_177 : decode cX2_setKeyAndIV_2 177 = .ok (.saload, 1) := dk_53 (dk_at dksX2_setKeyAndIV_2_7 11 rfl rfl)
theorem dX2_setKeyAndIV_2_178 : decode cX2_setKeyAndIV_2 178 = .ok (.aload_n 3, 1) := dk_45 (dk_at dksX2_setKeyAndIV_2_7 12 rfl rfl)
theorem dX2_setKeyAndIV_2_179 : decode cX2_setKeyAndIV_2 179 = .ok (.bipush 6, 2) := dk_16 6 (dk_at dksX2_setKeyAndIV_2_7 13 rfl rfl)
theorem dX2_setKeyAndIV_2_181 : decode cX2_setKeyAndIV_2 181 = .ok (.baload, 1) := dk_51 (dk_at dksX2_setKeyAndIV_2_7 15 rfl rfl)
theorem dX2_setKeyAndIV_2_182 : decode cX2_setKeyAndIV_2 182 = .ok (.invokestatic 126, 3) := dk_184 0 126 (dk_at dksX2_setKeyAndIV_2_7 16 rfl rfl)
theorem dX2_setKeyAndIV_2_185 : decode cX2_setKeyAndIV_2 185 = .ok (.iastore, 1) := dk_79 (dk_at dksX2_setKeyAndIV_2_7 19 rfl rfl)
theorem dX2_setKeyAndIV_2_186 : decode cX2_setKeyAndIV_2 186 = .ok (.aload_n 0, 1) := dk_42 (dk_at dksX2_setKeyAndIV_2_7 20 rfl rfl)
theorem dX2_setKeyAndIV_2_187 : decode cX2_setKeyAndIV_2 187 = .ok (.getfield 7, 3) := dk_180 0 7 (dk_at dksX2_setKeyAndIV_2_7 21 rfl rfl)
theorem dX2_setKeyAndIV_2_190 : decode cX2_setKeyAndIV_2 190 = .ok (.bipush 7, 2) := dk_16 7 (dk_at dksX2_setKeyAndIV_2_8 0 rfl rfl)
theorem dX2_setKeyAndIV_2_192 : decode cX2_setKeyAndIV_2 192 = .ok (.aload_n 2, 1) := dk_44 (dk_at dksX2_setKeyAndIV_2_8 2 rfl rfl)
theorem dX2_setKeyAndIV_2_193 : decode cX2_setKeyAndIV_2 193 = .ok (.bipush 7, 2) := dk_16 7 (dk_at dksX2_setKeyAndIV_2_8 3 rfl rfl)
theorem dX2_setKeyAndIV_2_195 : decode cX2_setKeyAndIV_2 195 = .ok (.baload, 1) := dk_51 (dk_at dksX2_setKeyAndIV_2_8 5 rfl rfl)
theorem dX2_setKeyAndIV_2_196 : decode cX2_setKeyAndIV_2 196 = .ok (.getstatic 122, 3) := dk_178 0 122 (dk_at dksX2_setKeyAndIV_2_8 6 rfl rfl)
theorem dX2_setKeyAndIV_2_199 : decode cX2_setKeyAndIV_2 199 = .ok (.bipush 7, 2) := dk_16 7 (dk_at dksX2_setKeyAndIV_2_8 9 rfl rfl)
theorem dX2_setKeyAndIV_2_201 : decode cX2_setKeyAndIV_2 201 = .ok (.saload, 1) := dk_53 (dk_at dksX2_setKeyAndIV_2_8 11 rfl rfl)
theorem dX2_setKeyAndIV_2_202 : decode cX2_setKeyAndIV_2 202 = .ok (.aload_n 3, 1) := dk_45 (dk_at dksX2_setKeyAndIV_2_8 12 rfl rfl)
theorem dX2_setKeyAndIV_2_203 : decode cX2_setKeyAndIV_2 203 = .ok (.bipush 7, 2) := dk_16 7 (dk_at dksX2_setKeyAndIV_2_8 13 rfl rfl)
theorem dX2_setKeyAndIV_2_205 : decode cX2_setKeyAndIV_2 205 = .ok (.baload, 1) := dk_51 (dk_at dksX2_setKeyAndIV_2_8 15 rfl rfl)
theorem dX2_setKeyAndIV_2_206 : decode cX2_setKeyAndIV_2 206 = .ok (.invokestatic 126, 3) := dk_184 0 126 (dk_at dksX2_setKeyAndIV_2_8 16 rfl rfl)
theorem dX2_setKeyAndIV_2_209 : decode cX2_setKeyAndIV_2 209 = .ok (.iastore, 1) := dk_79 (dk_at dksX2_setKeyAndIV_2_8 19 rfl rfl)
theorem dX2_setKeyAndIV_2_210 : decode cX2_setKeyAndIV_2 210 = .ok (.aload_n 0, 1) := dk_42 (dk_at dksX2_setKeyAndIV_2_8 20 rfl rfl)
theorem dX2_setKeyAndIV_2_211 : decode cX2_setKeyAndIV_2 211 = .ok (.getfield 7, 3) := dk_180 0 7 (dk_at dksX2_setKeyAndIV_2_8 21 rfl rfl)
theorem dX2_setKeyAndIV_2_214 : decode cX2_setKeyAndIV_2 214 = .ok (.bipush 8, 2) := dk_16 8 (dk_at dksX2_setKeyAndIV_2_9 0 rfl rfl)
theorem dX2_setKeyAndIV_2_216 : decode cX2_setKeyAndIV_2 216 = .ok (.aload_n 2, 1) := dk_44 (dk_at dksX2_setKeyAndIV_2_9 2 rfl rfl)
theorem dX2_setKeyAndIV_2_217 : decode cX2_setKeyAndIV_2 217 = .ok (.bipush 8, 2) := dk_16 8 (dk_at dksX2_setKeyAndIV_2_9 3 rfl rfl)
theorem dX2_setKeyAndIV_2_219 : decode cX2_setKeyAndIV_2 219 = .ok (.baload, 1) := dk_51 (dk_at dksX2_setKeyAndIV_2_9 5 rfl rfl)
theorem dX2_setKeyAndIV_2_220 : decode cX2_setKeyAndIV_2 220 = .ok (.getstatic 122, 3) := dk_178 0 122 (dk_at dksX2_setKeyAndIV_2_9 6 rfl rfl)
theorem dX2_setKeyAndIV_2_223 : decode cX2_setKeyAndIV_2 223 = .ok (.bipush 8, 2) := dk_16 8 (dk_at dksX2_setKeyAndIV_2_9 9 rfl rfl)
theorem dX2_setKeyAndIV_2_225 : decode cX2_setKeyAndIV_2 225 = .ok (.saload, 1) := dk_53 (dk_at dksX2_setKeyAndIV_2_9 11 rfl rfl)
theorem dX2_setKeyAndIV_2_226 : decode cX2_setKeyAndIV_2 226 = .ok (.aload_n 3, 1) := dk_45 (dk_at dksX2_setKeyAndIV_2_9 12 rfl rfl)
theorem dX2_setKeyAndIV_2_227 : decode cX2_setKeyAndIV_2 227 = .ok (.bipush 8, 2) := dk_16 8 (dk_at dksX2_setKeyAndIV_2_9 13 rfl rfl)
theorem dX2_setKeyAndIV_2_229 : decode cX2_setKeyAndIV_2 229 = .ok (.baload, 1) := dk_51 (dk_at dksX2_setKeyAndIV_2_9 15 rfl rfl)
theorem dX2_setKeyAndIV_2_230 : decode cX2_setKeyAndIV_2 230 = .ok (.invokestatic 126, 3) := dk_184 0 126 (dk_at dksX2_setKeyAndIV_2_9 16 rfl rfl)
theorem dX2_setKeyAndIV_2_233 : decode cX2_setKeyAndIV_2 233 = .ok (.iastore, 1) := dk_79 (dk_at dksX2_setKeyAndIV_2_9 19 rfl rfl)
theorem dX2_setKeyAndIV_2_234 : decode cX2_setKeyAndIV_2 234 = .ok (.aload_n 0, 1) := dk_42 (dk_at dksX2_setKeyAndIV_2_9 20 rfl rfl)
theorem dX2_setKeyAndIV_2_235 : decode cX2_setKeyAndIV_2 235 = .ok (.getfield 7, 3) := dk_180 0 7 (dk_at dksX2_setKeyAndIV_2_9 21 rfl rfl)
theorem dX2_setKeyAndIV_2_238 : decode cX2_setKeyAndIV_2 238 = .ok (.bipush 9, 2) := dk_16 9 (dk_at dksX2_setKeyAndIV_2_10 0 rfl rfl)
theorem dX2_setKeyAndIV_2_240 : decode cX2_setKeyAndIV_2 240 = .ok (.aload_n 2, 1) := dk_44 (dk_at dksX2_setKeyAndIV_2_10 2 rfl rfl)
theorem dX2_setKeyAndIV_2_241 : decode cX2_setKeyAndIV_2 241 = .ok (.bipush 9, 2) := dk_16 9 (dk_at dksX2_setKeyAndIV_2_10 3 rfl rfl)
theorem dX2_setKeyAndIV_2_243 : decode cX2_setKeyAndIV_2 243 = .ok (.baload, 1) := dk_51 (dk_at dksX2_setKeyAndIV_2_10 5 rfl rfl)
theorem dX2_setKeyAndIV_2_244 : decode cX2_setKeyAndIV_2 244 = .ok (.getstatic 122, 3) := dk_178 0 122 (dk_at dksX2_setKeyAndIV_2_10 6 rfl rfl)
theorem dX2_setKeyAndIV_2_247 : decode cX2_setKeyAndIV_2 247 = .ok (.bipush 9, 2) := dk_16 9 (dk_at dksX2_setKeyAndIV_2_10 9 rfl rfl)
theorem dX2_setKeyAndIV_2_249 : decode cX2_setKeyAndIV_2 249 = .ok (.saload, 1) := dk_53 (dk_at dksX2_setKeyAndIV_2_10 11 rfl rfl)
theorem dX2_setKeyAndIV_2_250 : decode cX2_setKeyAndIV_2 250 = .ok (.aload_n 3, 1) := dk_45 (dk_at dksX2_setKeyAndIV_2_10 12 rfl rfl)
theorem dX2_setKeyAndIV_2_251 : decode cX2_setKeyAndIV_2 251 = .ok (.bipush 9, 2) := dk_16 9 (dk_at dksX2_setKeyAndIV_2_10 13 rfl rfl)
theorem dX2_setKeyAndIV_2_253 : decode cX2_setKeyAndIV_2 253 = .ok (.baload, 1) := dk_51 (dk_at dksX2_setKeyAndIV_2_10 15 rfl rfl)
theorem dX2_setKeyAndIV_2_254 : decode cX2_setKeyAndIV_2 254 = .ok (.invokestatic 126, 3) := dk_184 0 126 (dk_at dksX2_setKeyAndIV_2_10 16 rfl rfl)
theorem dX2_setKeyAndIV_2_257 : decode cX2_setKeyAndIV_2 257 = .ok (.iastore, 1) := dk_79 (dk_at dksX2_setKeyAndIV_2_10 19 rfl rfl)
theorem dX2_setKeyAndIV_2_258 : decode cX2_setKeyAndIV_2 258 = .ok (.aload_n 0, 1) := dk_42 (dk_at dksX2_setKeyAndIV_2_10 20 rfl rfl)
theorem dX2_setKeyAndIV_2_259 : decode cX2_setKeyAndIV_2 259 = .ok (.getfield 7, 3) := dk_180 0 7 (dk_at dksX2_setKeyAndIV_2_10 21 rfl rfl)
theorem dX2_setKeyAndIV_2_262 : decode cX2_setKeyAndIV_2 262 = .ok (.bipush 10, 2) := dk_16 10 (dk_at dksX2_setKeyAndIV_2_11 0 rfl rfl)
theorem dX2_setKeyAndIV_2_264 : decode cX2_setKeyAndIV_2 264 = .ok (.aload_n 2, 1) := dk_44 (dk_at dksX2_setKeyAndIV_2_11 2 rfl rfl)
theorem dX2_setKeyAndIV_2_265 : decode cX2_setKeyAndIV_2 265 = .ok (.bipush 10, 2) := dk_16 10 (dk_at dksX2_setKeyAndIV_2_11 3 rfl rfl)
theorem dX2_setKeyAndIV_2_267 : decode cX2_setKeyAndIV_2 267 = .ok (.baload, 1) := dk_51 (dk_at dksX2_setKeyAndIV_2_11 5 rfl rfl)
theorem dX2_setKeyAndIV_2_268 : decode cX2_setKeyAndIV_2 268 = .ok (.getstatic 122, 3) := dk_178 0 122 (dk_at dksX2_setKeyAndIV_2_11 6 rfl rfl)
theorem dX2_setKeyAndIV_2_271 : decode cX2_setKeyAndIV_2 271 = .ok (.bipush 10, 2) := dk_16 10 (dk_at dksX2_setKeyAndIV_2_11 9 rfl rfl)
theorem dX2_setKeyAndIV_2_273 : decode cX2_setKeyAndIV_2 273 = .ok (.saload, 1) := dk_53 (dk_at dksX2_setKeyAndIV_2_11 11 rfl rfl)
theorem dX2_setKeyAndIV_2_274 : decode cX2_setKeyAndIV_2 274 = .ok (.aload_n 3, 1) := dk_45 (dk_at dksX2_setKeyAndIV_2_11 12 rfl rfl)
theorem dX2_setKeyAndIV_2_275 : decode cX2_setKeyAndIV_2 275 = .ok (.bipush 10, 2) := dk_16 10 (dk_at dksX2_setKeyAndIV_2_11 13 rfl rfl)
theorem dX2_setKeyAndIV_2_277 : decode cX2_setKeyAndIV_2 277 = .ok (.baload, 1) := dk_51 (dk_at dksX2_setKeyAndIV_2_11 15 rfl rfl)
theorem dX2_setKeyAndIV_2_278 : decode cX2_setKeyAndIV_2 278 = .ok (.invokestatic 126, 3) := dk_184 0 126 (dk_at dksX2_setKeyAndIV_2_11 16 rfl rfl)
theorem dX2_setKeyAndIV_2_281 : decode cX2_setKeyAndIV_2 281 = .ok (.iastore, 1) := dk_79 (dk_at dksX2_setKeyAndIV_2_11 19 rfl rfl)
theorem dX2_setKeyAndIV_2_282 : decode cX2_setKeyAndIV_2 282 = .ok (.aload_n 0, 1) := dk_42 (dk_at dksX2_setKeyAndIV_2_11 20 rfl rfl)
theorem dX2_setKeyAndIV_2_283 : decode cX2_setKeyAndIV_2 283 = .ok (.getfield 7, 3) := dk_180 0 7 (dk_at dksX2_setKeyAndIV_2_11 21 rfl rfl)
theorem dX2_setKeyAndIV_2_286 : decode cX2_setKeyAndIV_2 286 = .ok (.bipush 11, 2) := dk_16 11 (dk_at dksX2_setKeyAndIV_2_12 0 rfl rfl)
theorem dX2_setKeyAndIV_2_288 : decode cX2_setKeyAndIV_2 288 = .ok (.aload_n 2, 1) := dk_44 (dk_at dksX2_setKeyAndIV_2_12 2 rfl rfl)
theorem dX2_setKeyAndIV_2_289 : decode cX2_setKeyAndIV_2 289 = .ok (.bipush 11, 2) := dk_16 11 (dk_at dksX2_setKeyAndIV_2_12 3 rfl rfl)
theorem dX2_setKeyAndIV_2_291 : decode cX2_setKeyAndIV_2 291 = .ok (.baload, 1) := dk_51 (dk_at dksX2_setKeyAndIV_2_12 5 rfl rfl)
theorem dX2_setKeyAndIV_2_292 : decode cX2_setKeyAndIV_2 292 = .ok (.getstatic 122, 3) := dk_178 0 122 (dk_at dksX2_setKeyAndIV_2_12 6 rfl rfl)
theorem dX2_setKeyAndIV_2_295 : decode cX2_setKeyAndIV_2 295 = .ok (.bipush 11, 2) := dk_16 11 (dk_at dksX2_setKeyAndIV_2_12 9 rfl rfl)
theorem dX2_setKeyAndIV_2_297 : decode cX2_setKeyAndIV_2 297 = .ok (.saload, 1) := dk_53 (dk_at dksX2_setKeyAndIV_2_12 11 rfl rfl)
theorem dX2_setKeyAndIV_2_298 : decode cX2_setKeyAndIV_2 298 = .ok (.aload_n 3, 1) := dk_45 (dk_at dksX2_setKeyAndIV_2_12 12 rfl rfl)
theorem dX2_setKeyAndIV_2_299 : decode cX2_setKeyAndIV_2 299 = .ok (.bipush 11, 2) := dk_16 11 (dk_at dksX2_setKeyAndIV_2_12 13 rfl rfl)
theorem dX2_setKeyAndIV_2_301 : decode cX2_setKeyAndIV_2 301 = .ok (.baload, 1) := dk_51 (dk_at dksX2_setKeyAndIV_2_12 15 rfl rfl)
theorem dX2_setKeyAndIV_2_302 : decode cX2_setKeyAndIV_2 302 = .ok (.invokestatic 126, 3) := dk_184 0 126 (dk_at dksX2_setKeyAndIV_2_12 16 rfl rfl)
theorem dX2_setKeyAndIV_2_305 : decode cX2_setKeyAndIV_2 305 = .ok (.iastore, 1) := dk_79 (dk_at dksX2_setKeyAndIV_2_12 19 rfl rfl)
theorem dX2_setKeyAndIV_2_306 : decode cX2_setKeyAndIV_2 306 = .ok (.aload_n 0, 1) := dk_42 (dk_at dksX2_setKeyAndIV_2_12 20 rfl rfl)
theorem dX2_setKeyAndIV_2_307 : decode cX2_setKeyAndIV_2 307 = .ok (.getfield 7, 3) := dk_180 0 7 (dk_at dksX2_setKeyAndIV_2_12 21 rfl rfl)
theorem dX2_setKeyAndIV_2_310 : decode cX2_setKeyAndIV_2 310 = .ok (.bipush 12, 2) := dk_16 12 (dk_at dksX2_setKeyAndIV_2_13 0 rfl rfl)
theorem dX2_setKeyAndIV_2_312 : decode cX2_setKeyAndIV_2 312 = .ok (.aload_n 2, 1) := dk_44 (dk_at dksX2_setKeyAndIV_2_13 2 rfl rfl)
theorem dX2_setKeyAndIV_2_313 : decode cX2_setKeyAndIV_2 313 = .ok (.bipush 12, 2) := dk_16 12 (dk_at dksX2_setKeyAndIV_2_13 3 rfl rfl)
theorem dX2_setKeyAndIV_2_315 : decode cX2_setKeyAndIV_2 315 = .ok (.baload, 1) := dk_51 (dk_at dksX2_setKeyAndIV_2_13 5 rfl rfl)
theorem dX2_setKeyAndIV_2_316 : decode cX2_setKeyAndIV_2 316 = .ok (.getstatic 122, 3) := dk_178 0 122 (dk_at dksX2_setKeyAndIV_2_13 6 rfl rfl)
theorem dX2_setKeyAndIV_2_319 : decode cX2_setKeyAndIV_2 319 = .ok (.bipush 12, 2) := dk_16 12 (dk_at dksX2_setKeyAndIV_2_13 9 rfl rfl)
theorem dX2_setKeyAndIV_2_321 : decode cX2_setKeyAndIV_2 321 = .ok (.saload, 1) := dk_53 (dk_at dksX2_setKeyAndIV_2_13 11 rfl rfl)
theorem dX2_setKeyAndIV_2_322 : decode cX2_setKeyAndIV_2 322 = .ok (.aload_n 3, 1) := dk_45 (dk_at dksX2_setKeyAndIV_2_13 12 rfl rfl)
theorem dX2_setKeyAndIV_2_323 : decode cX2_setKeyAndIV_2 323 = .ok (.bipush 12, 2) := dk_16 12 (dk_at dksX2_setKeyAndIV_2_13 13 rfl rfl)
theorem dX2_setKeyAndIV_2_325 : decode cX2_setKeyAndIV_2 325 = .ok (.baload, 1) := dk_51 (dk_at dksX2_setKeyAndIV_2_13 15 rfl rfl)
theorem dX2_setKeyAndIV_2_326 : decode cX2_setKeyAndIV_2 326 = .ok (.invokestatic 126, 3) := dk_184 0 126 (dk_at dksX2_setKeyAndIV_2_13 16 rfl rfl)
theorem dX2_setKeyAndIV_2_329 : decode cX2_setKeyAndIV_2 329 = .ok (.iastore, 1) := dk_79 (dk_at dksX2_setKeyAndIV_2_13 19 rfl rfl)
theorem dX2_setKeyAndIV_2_330 : decode cX2_setKeyAndIV_2 330 = .ok (.aload_n 0, 1) := dk_42 (dk_at dksX2_setKeyAndIV_2_13 20 rfl rfl)
theorem dX2_setKeyAndIV_2_331 : decode cX2_setKeyAndIV_2 331 = .ok (.getfield 7, 3) := dk_180 0 7 (dk_at dksX2_setKeyAndIV_2_13 21 rfl rfl)
theorem dX2_setKeyAndIV_2_334 : decode cX2_setKeyAndIV_2 334 = .ok (.bipush 13, 2) := dk_16 13 (dk_at dksX2_setKeyAndIV_2_14 0 rfl rfl)
theorem dX2_setKeyAndIV_2_336 : decode cX2_setKeyAndIV_2 336 = .ok (.aload_n 2, 1) := dk_44 (dk_at dksX2_setKeyAndIV_2_14 2 rfl rfl)
theorem dX2_setKeyAndIV_2_337 : decode cX2_setKeyAndIV_2 337 = .ok (.bipush 13, 2) := dk_16 13 (dk_at dksX2_setKeyAndIV_2_14 3 rfl rfl)
theorem dX2_setKeyAndIV_2_339 : decode cX2_setKeyAndIV_2 339 = .ok (.baload, 1) := dk_51 (dk_at dksX2_setKeyAndIV_2_14 5 rfl rfl)
theorem dX2_setKeyAndIV_2_340 : decode cX2_setKeyAndIV_2 340 = .ok (.getstatic 122, 3) := dk_178 0 122 (dk_at dksX2_setKeyAndIV_2_14 6 rfl rfl)
theorem dX2_setKeyAndIV_2_343 : decode cX2_setKeyAndIV_2 343 = .ok (.bipush 13, 2) := dk_16 13 (dk_at dksX2_setKeyAndIV_2_14 9 rfl rfl)
theorem dX2_setKeyAndIV_2_345 : decode cX2_setKeyAndIV_2 345 = .ok (.saload, 1) := dk_53 (dk_at dksX2_setKeyAndIV_2_14 11 rfl rfl)
theorem dX2_setKeyAndIV_2_346 : decode cX2_setKeyAndIV_2 346 = .ok (.aload_n 3, 1) := dk_45 (dk_at dksX2_setKeyAndIV_2_14 12 rfl rfl)
theorem dX2_setKeyAndIV_2_347 : decode cX2_setKeyAndIV_2 347 = .ok (.bipush 13, 2) := dk_16 13 (dk_at dksX2_setKeyAndIV_2_14 13 rfl rfl)
theorem dX2_setKeyAndIV_2_349 : decode cX2_setKeyAndIV_2 349 = .ok (.baload, 1) := dk_51 (dk_at dksX2_setKeyAndIV_2_14 15 rfl rfl)
theorem dX2_setKeyAndIV_2_350 : decode cX2_setKeyAndIV_2 350 = .ok (.invokestatic 126, 3) := dk_184 0 126 (dk_at dksX2_setKeyAndIV_2_14 16 rfl rfl)
theorem dX2_setKeyAndIV_2_353 : decode cX2_setKeyAndIV_2 353 = .ok (.iastore, 1) := dk_79 (dk_at dksX2_setKeyAndIV_2_14 19 rfl rfl)
theorem dX2_setKeyAndIV_2_354 : decode cX2_setKeyAndIV_2 354 = .ok (.aload_n 0, 1) := dk_42 (dk_at dksX2_setKeyAndIV_2_14 20 rfl rfl)
theorem dX2_setKeyAndIV_2_355 : decode cX2_setKeyAndIV_2 355 = .ok (.getfield 7, 3) := dk_180 0 7 (dk_at dksX2_setKeyAndIV_2_14 21 rfl rfl)
theorem dX2_setKeyAndIV_2_358 : decode cX2_setKeyAndIV_2 358 = .ok (.bipush 14, 2) := dk_16 14 (dk_at dksX2_setKeyAndIV_2_15 0 rfl rfl)
theorem dX2_setKeyAndIV_2_360 : decode cX2_setKeyAndIV_2 360 = .ok (.aload_n 2, 1) := dk_44 (dk_at dksX2_setKeyAndIV_2_15 2 rfl rfl)
theorem dX2_setKeyAndIV_2_361 : decode cX2_setKeyAndIV_2 361 = .ok (.bipush 14, 2) := dk_16 14 (dk_at dksX2_setKeyAndIV_2_15 3 rfl rfl)
theorem dX2_setKeyAndIV_2_363 : decode cX2_setKeyAndIV_2 363 = .ok (.baload, 1) := dk_51 (dk_at dksX2_setKeyAndIV_2_15 5 rfl rfl)
theorem dX2_setKeyAndIV_2_364 : decode cX2_setKeyAndIV_2 364 = .ok (.getstatic 122, 3) := dk_178 0 122 (dk_at dksX2_setKeyAndIV_2_15 6 rfl rfl)
theorem dX2_setKeyAndIV_2_367 : decode cX2_setKeyAndIV_2 367 = .ok (.bipush 14, 2) := dk_16 14 (dk_at dksX2_setKeyAndIV_2_15 9 rfl rfl)
theorem dX2_setKeyAndIV_2_369 : decode cX2_setKeyAndIV_2 369 = .ok (.saload, 1) := dk_53 (dk_at dksX2_setKeyAndIV_2_15 11 rfl rfl)
theorem dX2_setKeyAndIV_2_370 : decode cX2_setKeyAndIV_2 370 = .ok (.aload_n 3, 1) := dk_45 (dk_at dksX2_setKeyAndIV_2_15 12 rfl rfl)
theorem dX2_setKeyAndIV_2_371 : decode cX2_setKeyAndIV_2 371 = .ok (.bipush 14, 2) := dk_16 14 (dk_at dksX2_setKeyAndIV_2_15 13 rfl rfl)
theorem dX2_setKeyAndIV_2_373 : decode cX2_setKeyAndIV_2 373 = .ok (.baload, 1) := dk_51 (dk_at dksX2_setKeyAndIV_2_15 15 rfl rfl)
theorem dX2_setKeyAndIV_2_374 : decode cX2_setKeyAndIV_2 374 = .ok (.invokestatic 126, 3) := dk_184 0 126 (dk_at dksX2_setKeyAndIV_2_15 16 rfl rfl)
theorem dX2_setKeyAndIV_2_377 : decode cX2_setKeyAndIV_2 377 = .ok (.iastore, 1) := dk_79 (dk_at dksX2_setKeyAndIV_2_15 19 rfl rfl)
theorem dX2_setKeyAndIV_2_378 : decode cX2_setKeyAndIV_2 378 = .ok (.aload_n 0, 1) := dk_42 (dk_at dksX2_setKeyAndIV_2_15 20 rfl rfl)
theorem dX2_setKeyAndIV_2_379 : decode cX2_setKeyAndIV_2 379 = .ok (.getfield 7, 3) := dk_180 0 7 (dk_at dksX2_setKeyAndIV_2_15 21 rfl rfl)
theorem dX2_setKeyAndIV_2_382 : decode cX2_setKeyAndIV_2 382 = .ok (.bipush 15, 2) := dk_16 15 (dk_at dksX2_setKeyAndIV_2_16 0 rfl rfl)
theorem dX2_setKeyAndIV_2_384 : decode cX2_setKeyAndIV_2 384 = .ok (.aload_n 2, 1) := dk_44 (dk_at dksX2_setKeyAndIV_2_16 2 rfl rfl)
theorem dX2_setKeyAndIV_2_385 : decode cX2_setKeyAndIV_2 385 = .ok (.bipush 15, 2) := dk_16 15 (dk_at dksX2_setKeyAndIV_2_16 3 rfl rfl)
theorem dX2_setKeyAndIV_2_387 : decode cX2_setKeyAndIV_2 387 = .ok (.baload, 1) := dk_51 (dk_at dksX2_setKeyAndIV_2_16 5 rfl rfl)
theorem dX2_setKeyAndIV_2_388 : decode cX2_setKeyAndIV_2 388 = .ok (.getstatic 122, 3) := dk_178 0 122 (dk_at dksX2_setKeyAndIV_2_16 6 rfl rfl)
theorem dX2_setKeyAndIV_2_391 : decode cX2_setKeyAndIV_2 391 = .ok (.bipush 15, 2) := dk_16 15 (dk_at dksX2_setKeyAndIV_2_16 9 rfl rfl)
theorem dX2_setKeyAndIV_2_393 : decode cX2_setKeyAndIV_2 393 = .ok (.saload, 1) := dk_53 (dk_at dksX2_setKeyAndIV_2_16 11 rfl rfl)
theorem dX2_setKeyAndIV_2_394 : decode cX2_setKeyAndIV_2 394 = .ok (.aload_n 3, 1) := dk_45 (dk_at dksX2_setKeyAndIV_2_16 12 rfl rfl)
theorem dX2_setKeyAndIV_2_395 : decode cX2_setKeyAndIV_2 395 = .ok (.bipush 15, 2) := dk_16 15 (dk_at dksX2_setKeyAndIV_2_16 13 rfl rfl)
theorem dX2_setKeyAndIV_2_397 : decode cX2_setKeyAndIV_2 397 = .ok (.baload, 1) := dk_51 (dk_at dksX2_setKeyAndIV_2_16 15 rfl rfl)
theorem dX2_setKeyAndIV_2_398 : decode cX2_setKeyAndIV_2 398 = .ok (.invokestatic 126, 3) := dk_184 0 126 (dk_at dksX2_setKeyAndIV_2_16 16 rfl rfl)
theorem dX2_setKeyAndIV_2_401 : decode cX2_setKeyAndIV_2 401 = .ok (.iastore, 1) := dk_79 (dk_at dksX2_setKeyAndIV_2_16 19 rfl rfl)
theorem dX2_setKeyAndIV_2_402 : decode cX2_setKeyAndIV_2 402 = .ok (.return_, 1) := dk_177 (dk_at dksX2_setKeyAndIV_2_16 20 rfl rfl)
abbrev cX2_MAKEU31 : ByteArray := prog_8_method_19_code
def yX2_MAKEU31 : MethodName := ⟨RX2, "MAKEU31", "(BSB)I"⟩
def dkwX2_MAKEU31_0 : List UInt8 := [26, 17, 0, 255, 126, 16, 23, 120, 27, 18, 94, 126, 16, 8, 120, 128, 28, 17, 0, 255, 126, 128, 172]
abbrev dktX2_MAKEU31_0 : List UInt8 := dkwX2_MAKEU31_0 ++ []
theorem dksX2_MAKEU31_0 : cX2_MAKEU31.data.toList.drop 0 = dktX2_MAKEU31_0 := by decide +kernel
theorem dX2_MAKEU31_0 : decode cX2_MAKEU31 0 = .ok (.iload_n 0, 1) := dk_26 (dk_at dksX2_MAKEU31_0 0 rfl rfl)
theorem dX2_MAKEU31_1 : decode cX2_MAKEU31 1 = .ok (.sipush 255, 3) := dk_17 0 255 (dk_at dksX2_MAKEU31_0 1 rfl rfl)
theorem dX2_MAKEU31_4 : decode cX2_MAKEU31 4 = .ok (.iand, 1) := dk_126 (dk_at dksX2_MAKEU31_0 4 rfl rfl)
theorem dX2_MAKEU31_5 : decode cX2_MAKEU31 5 = .ok (.bipush 23, 2) := dk_16 23 (dk_at dksX2_MAKEU31_0 5 rfl rfl)
theorem dX2_MAKEU31_7 : decode cX2_MAKEU31 7 = .ok (.ishl, 1) := dk_120 (dk_at dksX2_MAKEU31_0 7 rfl rfl)
theorem dX2_MAKEU31_8 : decode cX2_MAKEU31 8 = .ok (.iload_n 1, 1) := dk_27 (dk_at dksX2_MAKEU31_0 8 rfl rfl)
theorem dX2_MAKEU31_9 : decode cX2_MAKEU31 9 = .ok (.ldc 94, 2) := dk_18 94 (dk_at dksX2_MAKEU31_0 9 rfl rfl)
theorem dX2_MAKEU31_11 : decode cX2_MAKEU31 11 = .ok (.iand, 1) := dk_126 (dk_at dksX2_MAKEU31_0 11 rfl rfl)
theorem dX2_MAKEU31_12 : decode cX2_MAKEU31 12 = .ok (.bipush 8, 2) := dk_16 8 (dk_at dksX2_MAKEU31_0 12 rfl rfl)
theorem dX2_MAKEU31_14 : decode cX2_MAKEU31 14 = .ok (.ishl, 1) := dk_120 (dk_at dksX2_MAKEU31_0 14 rfl rfl)
theorem dX2_MAKEU31_15 : decode cX2_MAKEU31 15 = .ok (.ior, 1) := dk_128 (dk_at dksX2_MAKEU31_0 15 rfl rfl)
theorem dX2_MAKEU31_16 : decode cX2_MAKEU31 16 = .ok (.iload_n 2, 1) := dk_28 (dk_at dksX2_MAKEU31_0 16 rfl rfl)
theorem dX2_MAKEU31_17 : decode cX2_MAKEU31 17 = .ok (.sipush 255, 3) := dk_17 0 255 (dk_at dksX2_MAKEU31_0 17 rfl rfl)
theorem dX2_MAKEU31_20 : decode cX2_MAKEU31 20 = .ok (.iand, 1) := dk_126 (dk_at dksX2_MAKEU31_0 20 rfl rfl)
theorem dX2_MAKEU31_21 : decode cX2_MAKEU31 21 = .ok (.ior, 1) := dk_128 (dk_at dksX2_MAKEU31_0 21 rfl rfl)
theorem dX2_MAKEU31_22 : decode cX2_MAKEU31 22 = .ok (.ireturn, 1) := dk_172 (dk_at dksX2_MAKEU31_0 22 rfl rfl)
abbrev cX2_LFSRWithInitialisationMode : ByteArray := prog_8_method_11_code
def yX2_LFSRWithInitialisationMode : MethodName := ⟨RX2, "LFSRWithInitialisationMode", "(I)V"⟩
def dkwX2_LFSRWithInitialisationMode_13 : List UInt8 := [42, 180, 0, 7, 16, 15, 46, 79, 42, 180, 0, 7, 16, 15, 28, 79, 177]
abbrev dktX2_LFSRWithInitialisationMode_13 : List UInt8 := dkwX2_LFSRWithInitialisationMode_13 ++ []
def dkwX2_LFSRWithInitialisationMode_12 : List UInt8 := [16, 13, 46, 79, 42, 180, 0, 7, 16, 13, 42, 180, 0, 7, 16, 14, 46, 79, 42, 180, 0, 7, 16, 14]
abbrev dktX2_LFSRWithInitialisationMode_12 : List UInt8 := dkwX2_LFSRWithInitialisationMode_12 ++ dktX2_LFSRWithInitialisationMode_13
def dkwX2_LFSRWithInitialisationMode_11 : List UInt8 := [180, 0, 7, 16, 11, 42, 180, 0, 7, 16, 12, 46, 79, 42, 180, 0, 7, 16, 12, 42, 180, 0, 7]
abbrev dktX2_LFSRWithInitialisationMode_11 : List UInt8 := dkwX2_LFSRWithInitialisationMode_11 ++ dktX2_LFSRWithInitialisationMode_12
def dkwX2_LFSRWithInitialisationMode_10 : List UInt8 := [42, 180, 0, 7, 16, 10, 46, 79, 42, 180, 0, 7, 16, 10, 42, 180, 0, 7, 16, 11, 46, 79, 42]
abbrev dktX2_LFSRWithInitialisationMode_10 : List UInt8 := dkwX2_LFSRWithInitialisationMode_10 ++ dktX2_LFSRWithInitialisationMode_11
def dkwX2_LFSRWithInitialisationMode_9 : List UInt8 := [16, 8, 46, 79, 42, 180, 0, 7, 16, 8, 42, 180, 0, 7, 16, 9, 46, 79, 42, 180, 0, 7, 16, 9]
abbrev dktX2_LFSRWithInitialisationMode_9 : List UInt8 := dkwX2_LFSRWithInitialisationMode_9 ++ dktX2_LFSRWithInitialisationMode_10
def dkwX2_LFSRWithInitialisationMode_8 : List UInt8 := [180, 0, 7, 16, 6, 42, 180, 0, 7, 16, 7, 46, 79, 42, 180, 0, 7, 16, 7, 42, 180, 0, 7]
abbrev dktX2_LFSRWithInitialisationMode_8 : List UInt8 := dkwX2_LFSRWithInitialisationMode_8 ++ dktX2_LFSRWithInitialisationMode_9
def dkwX2_LFSRWithInitialisationMode_7 : List UInt8 := [7, 42, 180, 0, 7, 8, 46, 79, 42, 180, 0, 7, 8, 42, 180, 0, 7, 16, 6, 46, 79, 42]
abbrev dktX2_LFSRWithInitialisationMode_7 : List UInt8 := dkwX2_LFSRWithInitialisationMode_7 ++ dktX2_LFSRWithInitialisationMode_8
def dkwX2_LFSRWithInitialisationMode_6 : List UInt8 := [5, 42, 180, 0, 7, 6, 46, 79, 42, 180, 0, 7, 6, 42, 180, 0, 7, 7, 46, 79, 42, 180, 0, 7]
abbrev dktX2_LFSRWithInitialisationMode_6 : List UInt8 := dkwX2_LFSRWithInitialisationMode_6 ++ dktX2_LFSRWithInitialisationMode_7
def dkwX2_LFSRWithInitialisationMode_5 : List UInt8 := [3, 42, 180, 0, 7, 4, 46, 79, 42, 180, 0, 7, 4, 42, 180, 0, 7, 5, 46, 79, 42, 180, 0, 7]
abbrev dktX2_LFSRWithInitialisationMode_5 : List UInt8 := dkwX2_LFSRWithInitialisationMode_5 ++ dktX2_LFSRWithInitialisationMode_6
def dkwX2_LFSRWithInitialisationMode_4 : List UInt8 := [16, 15, 184, 0, 86, 62, 42, 28, 29, 182, 0, 90, 61, 42, 28, 27, 182, 0, 90, 61, 42, 180, 0, 7]
abbrev dktX2_LFSRWithInitialisationMode_4 : List UInt8 := dkwX2_LFSRWithInitialisationMode_4 ++ dktX2_LFSRWithInitialisationMode_5
def dkwX2_LFSRWithInitialisationMode_3 : List UInt8 := [16, 13, 46, 16, 17, 184, 0, 86, 62, 42, 28, 29, 182, 0, 90, 61, 42, 180, 0, 7, 16, 15, 46]
abbrev dktX2_LFSRWithInitialisationMode_3 : List UInt8 := dkwX2_LFSRWithInitialisationMode_3 ++ dktX2_LFSRWithInitialisationMode_4
def dkwX2_LFSRWithInitialisationMode_2 : List UInt8 := [180, 0, 7, 16, 10, 46, 16, 21, 184, 0, 86, 62, 42, 28, 29, 182, 0, 90, 61, 42, 180, 0, 7]
abbrev dktX2_LFSRWithInitialisationMode_2 : List UInt8 := dkwX2_LFSRWithInitialisationMode_2 ++ dktX2_LFSRWithInitialisationMode_3
def dkwX2_LFSRWithInitialisationMode_1 : List UInt8 := [182, 0, 90, 61, 42, 180, 0, 7, 7, 46, 16, 20, 184, 0, 86, 62, 42, 28, 29, 182, 0, 90, 61, 42]
abbrev dktX2_LFSRWithInitialisationMode_1 : List UInt8 := dkwX2_LFSRWithInitialisationMode_1 ++ dktX2_LFSRWithInitialisationMode_2
def dkwX2_LFSRWithInitialisationMode_0 : List UInt8 := [42, 180, 0, 7, 3, 46, 61, 42, 180, 0, 7, 3, 46, 16, 8, 184, 0, 86, 62, 42, 28, 29]
abbrev dktX2_LFSRWithInitialisationMode_0 : List UInt8 := dkwX2_LFSRWithInitialisationMode_0 ++ dktX2_LFSRWithInitialisationMode_1
theorem dksX2_LFSRWithInitialisationMode_0 : cX2_LFSRWithInitialisationMode.data.toList.drop 0 = dktX2_LFSRWithInitialisationMode_0 := by decide +kernel
theorem dksX2_LFSRWithInitialisationMode_1 : cX2_LFSRWithInitialisationMode.data.toList.drop 22 = dktX2_LFSRWithInitialisationMode_1 := dk_seg dksX2_LFSRWithInitialisationMode_0 22 rfl rfl
theorem dksX2_LFSRWithInitialisationMode_2 : cX2_LFSRWithInitialisationMode.data.toList.drop 46 = dktX2_LFSRWithInitialisationMode_2 := dk_seg dksX2_LFSRWithInitialisationMode_1 24 rfl rfl
theorem dksX2_LFSRWithInitialisationMode_3 : cX2_LFSRWithInitialisationMode.data.toList.drop 69 = dktX2_LFSRWithInitialisationMode_3 := dk_seg dksX2_LFSRWithInitialisationMode_2 23 rfl rfl
theorem dksX2_LFSRWithInitialisationMode_4 : cX2_LFSRWithInitialisationMode.data.toList.drop 92 = dktX2_LFSRWithInitialisationMode_4 := dk_seg dksX2_LFSRWithInitialisationMode_3 23 rfl rfl
theorem dksX2_LFSRWithInitialisationMode_5 : cX2_LFSRWithInitialisationMode.data.toList.drop 116 = dktX2_LFSRWithInitialisationMode_5 := dk_seg dksX2_LFSRWithInitialisationMode_4 24 rfl rfl
theorem dksX2_LFSRWithInitialisationMode_6 : cX2_LFSRWithInitialisationMode.data.toList.drop 140 = dktX2_LFSRWithInitialisationMode_6 := dk_seg dksX2_LFSRWithInitialisationMode_5 24 rfl rfl
theorem dksX2_LFSRWithInitialisationMode_7 : cX2_LFSRWithInitialisationMode.data.toList.drop 164 = dktX2_LFSRWithInitialisationMode_7 := dk_seg dksX2_LFSRWithInitialisationMode_6 24 rfl rfl
theorem dksX2_LFSRWithInitialisationMode_8 : cX2_LFSRWithInitialisationMode.data.toList.drop 186 = dktX2_LFSRWithInitialisationMode_8 := dk_seg dksX2_LFSRWithInitialisationMode_7 22 rfl rfl
theorem dksX2_LFSRWithInitialisationMode_9 : cX2_LFSRWithInitialisationMode.data.toList.drop 209 = dktX2_LFSRWithInitialisationMode_9 := dk_seg dksX2_LFSRWithInitialisationMode_8 23 rfl rfl
theorem dksX2_LFSRWithInitialisationMode_10 : cX2_LFSRWithInitialisationMode.data.toList.drop 233 = dktX2_LFSRWithInitialisationMode_10 := dk_seg dksX2_LFSRWithInitialisationMode_9 24 rfl rfl
theorem dksX2_LFSRWithInitialisationMode_11 : cX2_LFSRWithInitialisationMode.data.toList.drop 256 = dktX2_LFSRWithInitialisationMode_11 := dk_seg dksX2_LFSRWithInitialisationMode_10 23 rfl rfl
theorem dksX2_LFSRWithInitialisationMode_12 : cX2_LFSRWithInitialisationMode.data.toList.drop 279 = dktX2_LFSRWithInitialisationMode_12 := dk_seg dksX2_LFSRWithInitialisationMode_11 23 rfl rfl
theorem dksX2_LFSRWithInitialisationMode_13 : cX2_LFSRWithInitialisationMode.data.toList.drop 303 = dktX2_LFSRWithInitialisationMode_13 := dk_seg dksX2_LFSRWithInitialisationMode_12 24 rfl rfl
theorem dX2_LFSRWithInitialisationMode_0 : decode cX2_LFSRWithInitialisationMode 0 = .ok (.aload_n 0, 1) := dk_42 (dk_at dksX2_LFSRWithInitialisationMode_0 0 rfl rfl)
theorem dX2_LFSRWithInitialisationMode_1 : decode cX2_LFSRWithInitialisationMode 1 = .ok (.getfield 7, 3) := dk_180 0 7 (dk_at dksX2_LFSRWithInitialisationMode_0 1 rfl rfl)
theorem dX2_LFSRWithInitialisationMode_4 : decode cX2_LFSRWithInitialisationMode 4 = .ok (.iconst 0, 1) := dk_3 (dk_at dksX2_LFSRWithInitialisationMode_0 4 rfl rfl)
theorem dX2_LFSRWithInitialisationMode_5 : decode cX2_LFSRWithInitialisationMode 5 = .ok (.iaload, 1) := dk_46 (dk_at dksX2_LFSRWithInitialisationMode_0 5 rfl rfl)
theorem dX2_LFSRWithInitialisationMode_6 : decode cX2_LFSRWithInitialisationMode 6 = .ok (.istore_n 2, 1) := dk_61 (dk_at dksX2_LFSRWithInitialisationMode_0 6 rfl rfl)
theorem dX2_LFSRWithInitialisationMode_7 : decode cX2_LFSRWithInitialisationMode 7 = .ok (.aload_n 0, 1) := dk_42 (dk_at dksX2_LFSRWithInitialisationMode_0 7 rfl rfl)
theorem dX2_LFSRWithInitialisationMode_8 : decode cX2_LFSRWithInitialisationMode 8 = .ok (.getfield 7, 3) := dk_180 0 7 (dk_at dksX2_LFSRWithInitialisationMode_0 8 rfl rfl)
theorem dX2_LFSRWithInitialisationMode_11 : decode cX2_LFSRWithInitialisationMode 11 = .ok (.iconst 0, 1) := dk_3 (dk_at dksX2_LFSRWithInitialisationMode_0 11 rfl rfl)
theorem dX2_LFSRWithInitialisationMode_12 : decode cX2_LFSRWithInitialisationMode 12 = .ok (.iaload, 1) := dk_46 (dk_at dksX2_LFSRWithInitialisationMode_0 12 rfl rfl)
theorem dX2_LFSRWithInitialisationMode_13 : decode cX2_LFSRWithInitialisationMode 13 = .ok (.bipush 8, 2) := dk_16 8 (dk_at dksX2_LFSRWithInitialisationMode_0 13 rfl rfl)
theorem dX2_LFSRWithInitialisationMode_15 : decode cX2_LFSRWithInitialisationMode 15 = .ok (.invokestatic 86, 3) := dk_184 0 86 (dk_at dksX2_LFSRWithInitialisationMode_0 15 rfl rfl)
theorem dX2_LFSRWithInitialisationMode_18 : decode cX2_LFSRWithInitialisationMode 18 = .ok (.istore_n 3, 1) := dk_62 (dk_at dksX2_LFSRWithInitialisationMode_0 18 rfl rfl)
theorem dX2_LFSRWithInitialisationMode_19 : decode cX2_LFSRWithInitialisationMode 19 = .ok (.aload_n 0, 1) := dk_42 (dk_at dksX2_LFSRWithInitialisationMode_0 19 rfl rfl)
theorem dX2_LFSRWithInitialisationMode_20 : decode cX2_LFSRWithInitialisationMode 20 = .ok (.iload_n 2, 1) := dk_28 (dk_at dksX2_LFSRWithInitialisationMode_0 20 rfl rfl)
theorem dX2_LFSRWithInitialisationMode_21 : decode cX2_LFSRWithInitialisationMode 21 = .ok (.iload_n 3, 1) := dk_29 (dk_at dksX2_LFSRWithInitialisationMode_0 21 rfl rfl)
theorem dX2_LFSRWithInitialisationMode_22 : decode cX2_LFSRWithInitialisationMode 22 = .ok (.invokevirtual 90, 3) := dk_182 0 90 (dk_at dksX2_LFSRWithInitialisationMode_1 0 rfl rfl)
theorem dX2_LFSRWithInitialisationMode_25 : decode cX2_LFSRWithInitialisationMode 25 = .ok (.istore_n 2, 1) := dk_61 (dk_at dksX2_LFSRWithInitialisationMode_1 3 rfl rfl)
theorem dX2_LFSRWithInitialisationMode_26 : decode cX2_LFSRWithInitialisationMode 26 = .ok (.aload_n 0, 1) := dk_42 (dk_at dksX2_LFSRWithInitialisationMode_1 4 rfl rfl)
theorem dX2_LFSRWithInitialisationMode_27 : decode cX2_LFSRWithInitialisationMode 27 = .ok (.getfield 7, 3) := dk_180 0 7 (dk_at dksX2_LFSRWithInitialisationMode_1 5 rfl rfl)
theorem dX2_LFSRWithInitialisationMode_30 : decode cX2_LFSRWithInitialisationMode 30 = .ok (.iconst 4, 1) := dk_7 (dk_at dksX2_LFSRWithInitialisationMode_1 8 rfl rfl)
theorem dX2_LFSRWithInitialisationMode_31 : decode cX2_LFSRWithInitialisationMode 31 = .ok (.iaload, 1) := dk_46 (dk_at dksX2_LFSRWithInitialisationMode_1 9 rfl rfl)
theorem dX2_LFSRWithInitialisationMode_32 : decode cX2_LFSRWithInitialisationMode 32 = .ok (.bipush 20, 2) := dk_16 20 (dk_at dksX2_LFSRWithInitialisationMode_1 10 rfl rfl)
theorem dX2_LFSRWithInitialisationMode_34 : decode cX2_LFSRWithInitialisationMode 34 = .ok (.invokestatic 86, 3) := dk_184 0 86 (dk_at dksX2_LFSRWithInitialisationMode_1 12 rfl rfl)
theorem dX2_LFSRWithInitialisationMode_37 : decode cX2_LFSRWithInitialisationMode 37 = .ok (.istore_n 3, 1) := dk_62 (dk_at dksX2_LFSRWithInitialisationMode_1 15 rfl rfl)
theorem dX2_LFSRWithInitialisationMode_38 : decode cX2_LFSRWithInitialisationMode 38 = .ok (.aload_n 0, 1) := dk_42 (dk_at dksX2_LFSRWithInitialisationMode_1 16 rfl rfl)
theorem dX2_LFSRWithInitialisationMode_39 : decode cX2_LFSRWithInitialisationMode 39 = .ok (.iload_n 2, 1) := dk_28 (dk_at dksX2_LFSRWithInitialisationMode_1 17 rfl rfl)
theorem dX2_LFSRWithInitialisationMode_40 : decode cX2_LFSRWithInitialisationMode 40 = .ok (.iload_n 3, 1) := dk_29 (dk_at dksX2_LFSRWithInitialisationMode_1 18 rfl rfl)
theorem dX2_LFSRWithInitialisationMode_41 : decode cX2_LFSRWithInitialisationMode 41 = .ok (.invokevirtual 90, 3) := dk_182 0 90 (dk_at dksX2_LFSRWithInitialisationMode_1 19 rfl rfl)
theorem dX2_LFSRWithInitialisationMode_44 : decode cX2_LFSRWithInitialisationMode 44 = .ok (.istore_n 2, 1) := dk_61 (dk_at dksX2_LFSRWithInitialisationMode_1 22 rfl rfl)
theorem dX2_LFSRWithInitialisationMode_45 : decode cX2_LFSRWithInitialisationMode 45 = .ok (.aload_n 0, 1) := dk_42 (dk_at dksX2_LFSRWithInitialisationMode_1 23 rfl rfl)
theorem dX2_LFSRWithInitialisationMode_46 : decode cX2_LFSRWithInitialisationMode 46 = .ok (.getfield 7, 3) := dk_180 0 7 (dk_at dksX2_LFSRWithInitialisationMode_2 0 rfl rfl)
theorem dX2_LFSRWithInitialisationMode_49 : decode cX2_LFSRWithInitialisationMode 49 = .ok (.bipush 10, 2) := dk_16 10 (dk_at dksX2_LFSRWithInitialisationMode_2 3 rfl rfl)
theorem dX2_LFSRWithInitialisationMode_51 : decode cX2_LFSRWithInitialisationMode 51 = .ok (.iaload, 1) := dk_46 (dk_at dksX2_LFSRWithInitialisationMode_2 5 rfl rfl)
theorem dX2_LFSRWithInitialisationMode_52 : decode cX2_LFSRWithInitialisationMode 52 = .ok (.bipush 21, 2) := dk_16 21 (dk_at dksX2_LFSRWithInitialisationMode_2 6 rfl rfl)
theorem dX2_LFSRWithInitialisationMode_54 : decode cX2_LFSRWithInitialisationMode 54 = .ok (.invokestatic 86, 3) := dk_184 0 86 (dk_at dksX2_LFSRWithInitialisationMode_2 8 rfl rfl)
theorem dX2_LFSRWithInitialisationMode_57 : decode cX2_LFSRWithInitialisationMode 57 = .ok (.istore_n 3, 1) := dk_62 (dk_at dksX2_LFSRWithInitialisationMode_2 11 rfl rfl)
theorem dX2_LFSRWithInitialisationMode_58 : decode cX2_LFSRWithInitialisationMode 58 = .ok (.aload_n 0, 1) := dk_42 (dk_at dksX2_LFSRWithInitialisationMode_2 12 rfl rfl)
theorem dX2_LFSRWithInitialisationMode_59 : decode cX2_LFSRWithInitialisationMode 59 = .ok (.iload_n 2, 1) := dk_28 (dk_at dksX2_LFSRWithInitialisationMode_2 13 rfl rfl)
theorem dX2_LFSRWithInitialisationMode_60 : decode cX2_LFSRWithInitialisationMode 60 = .ok (.iload_n 3, 1) := dk_29 (dk_at dksX2_LFSRWithInitialisationMode_2 14 rfl rfl)
theorem dX2_LFSRWithInitialisationMode_61 : decode cX2_LFSRWithInitialisationMode 61 = .ok (.invokevirtual 90, 3) := dk_182 0 90 (dk_at dksX2_LFSRWithInitialisationMode_2 15 rfl rfl)
theorem dX2_LFSRWithInitialisationMode_64 : decode cX2_LFSRWithInitialisationMode 64 = .ok (.istore_n 2, 1) := dk_61 (dk_at dksX2_LFSRWithInitialisationMode_2 18 rfl rfl)
theorem dX2_LFSRWithInitialisationMode_65 : decode cX2_LFSRWithInitialisationMode 65 = .ok (.aload_n 0, 1) := dk_42 (dk_at dksX2_LFSRWithInitialisationMode_2 19 rfl rfl)
theorem dX2_LFSRWithInitialisationMode_66 : decode cX2_LFSRWithInitialisationMode 66 = .ok (.getfield 7, 3) := dk_180 0 7 (dk_at dksX2_LFSRWithInitialisationMode_2 20 rfl rfl)
theorem dX2_LFSRWithInitialisationMode_69 : decode cX2_LFSRWithInitialisationMode 69 = .ok (.bipush 13, 2) := dk_16 13 (dk_at dksX2_LFSRWithInitialisationMode_3 0 rfl rfl)
theorem dX2_LFSRWithInitialisationMode_71 : decode cX2_LFSRWithInitialisationMode 71 = .ok (.iaload, 1) := dk_46 (dk_at dksX2_LFSRWithInitialisationMode_3 2 rfl rfl)
theorem dX2_LFSRWithInitialisationMode_72 : decode cX2_LFSRWithInitialisationMode 72 = .ok (.bipush 17, 2) := dk_16 17 (dk_at dksX2_LFSRWithInitialisationMode_3 3 rfl rfl)
theorem dX2_LFSRWithInitialisationMode_74 : decode cX2_LFSRWithInitialisationMode 74 = .ok (.invokestatic 86, 3) := dk_184 0 86 (dk_at dksX2_LFSRWithInitialisationMode_3 5 rfl rfl)
theorem dX2_LFSRWithInitialisationMode_77 : decode cX2_LFSRWithInitialisationMode 77 = .ok (.istore_n 3, 1) := dk_62 (dk_at dksX2_LFSRWithInitialisationMode_3 8 rfl rfl)
theorem dX2_LFSRWithInitialisationMode_78 : decode cX2_LFSRWithInitialisationMode 78 = .ok (.aload_n 0, 1) := dk_42 (dk_at dksX2_LFSRWithInitialisationMode_3 9 rfl rfl)
theorem dX2_LFSRWithInitialisationMode_79 : decode cX2_LFSRWithInitialisationMode 79 = .ok (.iload_n 2, 1) := dk_28 (dk_at dksX2_LFSRWithInitialisationMode_3 10 rfl rfl)
theorem dX2_LFSRWithInitialisationMode_80 : decode cX2_LFSRWithInitialisationMode 80 = .ok (.iload_n 3, 1) := dk_29 (dk_at dksX2_LFSRWithInitialisationMode_3 11 rfl rfl)
theorem dX2_LFSRWithInitialisationMode_81 : decode cX2_LFSRWithInitialisationMode 81 = .ok (.invokevirtual 90, 3) := dk_182 0 90 (dk_at dksX2_LFSRWithInitialisationMode_3 12 rfl rfl)
theorem dX2_LFSRWithInitialisationMode_84 : decode cX2_LFSRWithInitialisationMode 84 = .ok (.istore_n 2, 1) := dk_61 (dk_at dksX2_LFSRWithInitialisationMode_3 15 rfl rfl)
theorem dX2_LFSRWithInitialisationMode_85 : decode cX2_LFSRWithInitialisationMode 85 = .ok (.aload_n 0, 1) := dk_42 (dk_at dksX2_LFSRWithInitialisationMode_3 16 rfl rfl)
theorem dX2_LFSRWithInitialisationMode_86 : decode cX2_LFSRWithInitialisationMode 86 = .ok (.getfield 7, 3) := dk_180 0 7 (dk_at dksX2_LFSRWithInitialisationMode_3 17 rfl rfl)
theorem dX2_LFSRWithInitialisationMode_89 : decode cX2_LFSRWithInitialisationMode 89 = .ok (.bipush 15, 2) := dk_16 15 (dk_at dksX2_LFSRWithInitialisationMode_3 20 rfl rfl)
theorem dX2_LFSRWithInitialisationMode_91 : decode cX2_LFSRWithInitialisationMode 91 = .ok (.iaload, 1) := dk_46 (dk_at dksX2_LFSRWithInitialisationMode_3 22 rfl rfl)
theorem dX2_LFSRWithInitialisationMode_92 : decode cX2_LFSRWithInitialisationMode 92 = .ok (.bipush 15, 2) := dk_16 15 (dk_at dksX2_LFSRWithInitialisationMode_4 0 rfl rfl)
theorem dX2_LFSRWithInitialisationMode_94 : decode cX2_LFSRWithInitialisationMode 94 = .ok (.invokestatic 86, 3) := dk_184 0 86 (dk_at dksX2_LFSRWithInitialisationMode_4 2 rfl rfl)
theorem dX2_LFSRWithInitialisationMode_97 : decode cX2_LFSRWithInitialisationMode 97 = .ok (.istore_n 3, 1) := dk_62 (dk_at dksX2_LFSRWithInitialisationMode_4 5 rfl rfl)
theorem dX2_LFSRWithInitialisationMode_98 : decode cX2_LFSRWithInitialisationMode 98 = .ok (.aload_n 0, 1) := dk_42 (dk_at dksX2_LFSRWithInitialisationMode_4 6 rfl rfl)
theorem dX2_LFSRWithInitialisationMode_99 : decode cX2_LFSRWithInitialisationMode 99 = .ok (.iload_n 2, 1) := dk_28 (dk_at dksX2_LFSRWithInitialisationMode_4 7 rfl rfl)
theorem dX2_LFSRWithInitialisationMode_100 : decode cX2_LFSRWithInitialisationMode 100 = .ok (.iload_n 3, 1) := dk_29 (dk_at dksX2_LFSRWithInitialisationMode_4 8 rfl rfl)
theorem dX2_LFSRWithInitialisationMode_101 : decode cX2_LFSRWithInitialisationMode 101 = .ok (.invokevirtual 90, 3) := dk_182 0 90 (dk_at dksX2_LFSRWithInitialisationMode_4 9 rfl rfl)
theorem dX2_LFSRWithInitialisationMode_104 : decode cX2_LFSRWithInitialisationMode 104 = .ok (.istore_n 2, 1) := dk_61 (dk_at dksX2_LFSRWithInitialisationMode_4 12 rfl rfl)
theorem dX2_LFSRWithInitialisationMode_105 : decode cX2_LFSRWithInitialisationMode 105 = .ok (.aload_n 0, 1) := dk_42 (dk_at dksX2_LFSRWithInitialisationMode_4 13 rfl rfl)
theorem dX2_LFSRWithInitialisationMode_106 : decode cX2_LFSRWithInitialisationMode 106 = .ok (.iload_n 2, 1) := dk_28 (dk_at dksX2_LFSRWithInitialisationMode_4 14 rfl rfl)
theorem dX2_LFSRWithInitialisationMode_107 : decode cX2_LFSRWithInitialisationMode 107 = .ok (.iload_n 1, 1) := dk_27 (dk_at dksX2_LFSRWithInitialisationMode_4 15 rfl rfl)
theorem dX2_LFSRWithInitialisationMode_108 : decode cX2_LFSRWithInitialisationMode 108 = .ok (.invokevirtual 90, 3) := dk_182 0 90 (dk_at dksX2_LFSRWithInitialisationMode_4 16 rfl rfl)
theorem dX2_LFSRWithInitialisationMode_111 : decode cX2_LFSRWithInitialisationMode 111 = .ok (.istore_n 2, 1) := dk_61 (dk_at dksX2_LFSRWithInitialisationMode_4 19 rfl rfl)
theorem dX2_LFSRWithInitialisationMode_112 : decode cX2_LFSRWithInitialisationMode 112 = .ok (.aload_n 0, 1) := dk_42 (dk_at dksX2_LFSRWithInitialisationMode_4 20 rfl rfl)
theorem dX2_LFSRWithInitialisationMode_113 : decode cX2_LFSRWithInitialisationMode 113 = .ok (.getfield 7, 3) := dk_180 0 7 (dk_at dksX2_LFSRWithInitialisationMode_4 21 rfl rfl)
theorem dX2_LFSRWithInitialisationMode_116 : decode cX2_LFSRWithInitialisationMode 116 = .ok (.iconst 0, 1) := dk_3 (dk_at dksX2_LFSRWithInitialisationMode_5 0 rfl rfl)
theorem dX2_LFSRWithInitialisationMode_117 : decode cX2_LFSRWithInitialisationMode 117 = .ok (.aload_n 0, 1) := dk_42 (dk_at dksX2_LFSRWithInitialisationMode_5 1 rfl rfl)
theorem dX2_LFSRWithInitialisationMode_118 : decode cX2_LFSRWithInitialisationMode 118 = .ok (.getfield 7, 3) := dk_180 0 7 (dk_at dksX2_LFSRWithInitialisationMode_5 2 rfl rfl)
theorem dX2_LFSRWithInitialisationMode_121 : decode cX2_LFSRWithInitialisationMode 121 = .ok (.iconst 1, 1) := dk_4 (dk_at dksX2_LFSRWithInitialisationMode_5 5 rfl rfl)
theorem dX2_LFSRWithInitialisationMode_122 : decode cX2_LFSRWithInitialisationMode 122 = .ok (.iaload, 1) := dk_46 (dk_at dksX2_LFSRWithInitialisationMode_5 6 rfl rfl)
theorem dX2_LFSRWithInitialisationMode_123 : decode cX2_LFSRWithInitialisationMode 123 = .ok (.iastore, 1) := dk_79 (dk_at dksX2_LFSRWithInitialisationMode_5 7 rfl rfl)
theorem dX2_LFSRWithInitialisationMode_124 : decode cX2_LFSRWithInitialisationMode 124 = .ok (.aload_n 0, 1) := dk_42 (dk_at dksX2_LFSRWithInitialisationMode_5 8 rfl rfl)
theorem dX2_LFSRWithInitialisationMode_125 : decode cX2_LFSRWithInitialisationMode 125 = .ok (.getfield 7, 3) := dk_180 0 7 (dk_at dksX2_LFSRWithInitialisationMode_5 9 rfl rfl)
theorem dX2_LFSRWithInitialisationMode_128 : decode cX2_LFSRWithInitialisationMode 128 = .ok (.iconst 1, 1) := dk_4 (dk_at dksX2_LFSRWithInitialisationMode_5 12 rfl rfl)
theorem dX2_LFSRWithInitialisationMode_129 : decode cX2_LFSRWithInitialisationMode 129 = .ok (.aload_n 0, 1) := dk_42 (dk_at dksX2_LFSRWithInitialisationMode_5 13 rfl rfl)
theorem dX2_LFSRWithInitialisationMode_130 : decode cX2_LFSRWithInitialisationMode 130 = .ok (.getfield 7, 3) := dk_180 0 7 (dk_at dksX2_LFSRWithInitialisationMode_5 14 rfl rfl)
theorem dX2_LFSRWithInitialisationMode_133 : decode cX2_LFSRWithInitialisationMode 133 = .ok (.iconst 2, 1) := dk_5 (dk_at dksX2_LFSRWithInitialisationMode_5 17 rfl rfl)
theorem dX2_LFSRWithInitialisationMode_134 : decode cX2_LFSRWithInitialisationMode 134 = .ok (.iaload, 1) := dk_46 (dk_at dksX2_LFSRWithInitialisationMode_5 18 rfl rfl)
theorem dX2_LFSRWithInitialisationMode_135 : decode cX2_LFSRWithInitialisationMode 135 = .ok (.iastore, 1) := dk_79 (dk_at dksX2_LFSRWithInitialisationMode_5 19 rfl rfl)
theorem dX2_LFSRWithInitialisationMode_136 : decode cX2_LFSRWithInitialisationMode 136 = .ok (.aload_n 0, 1) := dk_42 (dk_at dksX2_LFSRWithInitialisationMode_5 20 rfl rfl)
theorem dX2_LFSRWithInitialisationMode_137 : decode cX2_LFSRWithInitialisationMode 137 = .ok (.getfield 7, 3) := dk_180 0 7 (dk_at dksX2_LFSRWithInitialisationMode_5 21 rfl rfl)
theorem dX2_LFSRWithInitialisationMode_140 : decode cX2_LFSRWithInitialisationMode 140 = .ok (.iconst 2, 1) := dk_5 (dk_at dksX2_LFSRWithInitialisationMode_6 0 rfl rfl)
theorem dX2_LFSRWithInitialisationMode_141 : decode cX2_LFSRWithInitialisationMode 141 = .ok (.aload_n 0, 1) := dk_42 (dk_at dksX2_LFSRWithInitialisationMode_6 1 rfl rfl)
theorem dX2_LFSRWithInitialisationMode_142 : decode cX2_LFSRWithInitialisationMode 142 = .ok (.getfield 7, 3) := dk_180 0 7 (dk_at dksX2_LFSRWithInitialisationMode_6 2 rfl rfl)
theorem dX2_LFSRWithInitialisationMode_145 : decode cX2_LFSRWithInitialisationMode 145 = .ok (.iconst 3, 1) := dk_6 (dk_at dksX2_LFSRWithInitialisationMode_6 5 rfl rfl)
theorem dX2_LFSRWithInitialisationMode_146 : decode cX2_LFSRWithInitialisationMode 146 = .ok (.iaload, 1) := dk_46 (dk_at dksX2_LFSRWithInitialisationMode_6 6 rfl rfl)
theorem dX2_LFSRWithInitialisationMode_147 : decode cX2_LFSRWithInitialisationMode 147 = .ok (.iastore, 1) := dk_79 (dk_at dksX2_LFSRWithInitialisationMode_6 7 rfl rfl)
theorem dX2_LFSRWithInitialisationMode_148 : decode cX2_LFSRWithInitialisationMode 148 = .ok (.aload_n 0, 1) := dk_42 (dk_at dksX2_LFSRWithInitialisationMode_6 8 rfl rfl)
theorem dX2_LFSRWithInitialisationMode_149 : decode cX2_LFSRWithInitialisationMode 149 = .ok (.getfield 7, 3) := dk_180 0 7 (dk_at dksX2_LFSRWithInitialisationMode_6 9 rfl rfl)
theorem dX2_LFSRWithInitialisationMode_152 : decode cX2_LFSRWithInitialisationMode 152 = .ok (.iconst 3, 1) := dk_6 (dk_at dksX2_LFSRWithInitialisationMode_6 12 rfl rfl)
theorem dX2_LFSRWithInitialisationMode_153 : decode cX2_LFSRWithInitialisationMode 153 = .ok (.aload_n 0, 1) := dk_42 (dk_at dksX2_LFSRWithInitialisationMode_6 13 rfl rfl)
theorem dX2_LFSRWithInitialisationMode_154 : decode cX2_LFSRWithInitialisationMode 154 = .ok (.getfield 7, 3) := dk_180 0 7 (dk_at dksX2_LFSRWithInitialisationMode_6 14 rfl rfl)
theorem dX2_LFSRWithInitialisationMode_157 : decode cX2_LFSRWithInitialisationMode 157 = .ok (.iconst 4, 1) := dk_7 (dk_at dksX2_LFSRWithInitialisationMode_6 17 rfl rfl)
theorem dX2_LFSRWithInitialisationMode_158 : decode cX2_LFSRWithInitialisationMode 158 = .ok (.iaload, 1) := dk_46 (dk_at dksX2_LFSRWithInitialisationMode_6 18 rfl rfl)
theorem dX2_LFSRWithInitialisationMode_159 : decode cX2_LFSRWithInitialisationMode 159 = .ok (.iastore, 1) := dk_79 (dk_at dksX2_LFSRWithInitialisationMode_6 19 rfl rfl)
theorem dX2_LFSRWithInitialisationMode_160 : decode cX2_LFSRWithInitialisationMode 160 = .ok (.aload_n 0, 1) := dk_42 (dk_at dksX2_LFSRWithInitialisationMode_6 20 rfl rfl)
theorem dX2_LFSRWithInitialisationMode_161 : decode cX2_LFSRWithInitialisationMode 161 = .ok (.getfield 7, 3) := dk_180 0 7 (dk_at dksX2_LFSRWithInitialisationMode_6 21 rfl rfl)
theorem dX2_LFSRWithInitialisationMode_164 : decode cX2_LFSRWithInitialisationMode 164 = .ok (.iconst 4, 1) := dk_7 (dk_at dksX2_LFSRWithInitialisationMode_7 0 rfl rfl)
theorem dX2_LFSRWithInitialisationMode_165 : decode cX2_LFSRWithInitialisationMode 165 = .ok (.aload_n 0, 1) := dk_42 (dk_at dksX2_LFSRWithInitialisationMode_7 1 rfl rfl)
theorem dX2_LFSRWithInitialisationMode_166 : decode cX2_LFSRWithInitialisationMode 166 = .ok (.getfield 7, 3) := dk_180 0 7 (dk_at dksX2_LFSRWithInitialisationMode_7 2 rfl rfl)
theorem dX2_LFSRWithInitialisationMode_169 : decode cX2_LFSRWithInitialisationMode 169 = .ok (.iconst 5, 1) := dk_8 (dk_at dksX2_LFSRWithInitialisationMode_7 5 rfl rfl)
theorem dX2_LFSRWithInitialisationMode_170 : decode cX2_LFSRWithInitialisationMode 170 = .ok (.iaload, 1) := dk_46 (dk_at dksX2_LFSRWithInitialisationMode_7 6 rfl rfl)
theorem dX2_LFSRWithInitialisationMode_171 : decode cX2_LFSRWithInitialisationMode 171 = .ok (.iastore, 1) := dk_79 (dk_at dksX2_LFSRWithInitialisationMode_7 7 rfl rfl)
theorem dX2_LFSRWithInitialisationMode_172 : decode cX2_LFSRWithInitialisationMode 172 = .ok (.aload_n 0, 1) := dk_42 (dk_at dksX2_LFSRWithInitialisationMode_7 8 rfl rfl)
theorem dX2_LFSRWithInitialisationMode_173 : decode cX2_LFSRWithInitialisationMode 173 = .ok (.getfield 7, 3) := dk_180 0 7 (dk_at dksX2_LFSRWithInitialisationMode_7 9 rfl rfl)
theorem dX2_LFSRWithInitialisationMode_176 : decode cX2_LFSRWithInitialisationMode 176 = .ok (.iconst 5, 1) := dk_8 (dk_at dksX2_LFSRWithInitialisationMode_7 12 rfl rfl)
theorem dX2_LFSRWithInitialisationMode_177 : decode cX2_LFSRWithInitialisationMode 177 = .ok (.aload_n 0, 1) := dk_42 (dk_at dksX2_LFSRWithInitialisationMode_7 13 rfl rfl)
theorem dX2_LFSRWithInitialisationMode_178 : decode cX2_LFSRWithInitialisationMode 178 = .ok (.getfield 7, 3) := dk_180 0 7 (dk_at dksX2_LFSRWithInitialisationMode_7 14 rfl rfl)
theorem dX2_LFSRWithInitialisationMode_181 : decode cX2_LFSRWithInitialisationMode 181 = .ok (.bipush 6, 2) := dk_16 6 (dk_at dksX2_LFSRWithInitialisationMode_7 17 rfl rfl)
theorem dX2_LFSRWithInitialisationMode_183 : decode cX2_LFSRWithInitialisationMode 183 = .ok (.iaload, 1) := dk_46 (dk_at dksX2_LFSRWithInitialisationMode_7 19 rfl rfl)
theorem dX2_LFSRWithInitialisationMode_184 : decode cX2_LFSRWithInitialisationMode 184 = .ok (.iastore, 1) := dk_79 (dk_at dksX2_LFSRWithInitialisationMode_7 20 rfl rfl)
theorem dX2_LFSRWithInitialisationMode_185 : decode cX2_LFSRWithInitialisationMode 185 = .ok (.aload_n 0, 1) := dk_42 (dk_at dksX2_LFSRWithInitialisationMode_7 21 rfl rfl)
theorem dX2_LFSRWithInitialisationMode_186 : decode cX2_LFSRWithInitialisationMode 186 = .ok (.getfield 7, 3) := dk_180 0 7 (dk_at dksX2_LFSRWithInitialisationMode_8 0 rfl rfl)
theorem dX2_LFSRWithInitialisationMode_189 : decode cX2_LFSRWithInitialisationMode 189 = .ok (.bipush 6, 2) := dk_16 6 (dk_at dksX2_LFSRWithInitialisationMode_8 3 rfl rfl)
theorem dX2_LFSRWithInitialisationMode_191 : decode cX2_LFSRWithInitialisationMode 191 = .ok (.aload_n 0, 1) := dk_42 (dk_at dksX2_LFSRWithInitialisationMode_8 5 rfl rfl)
theorem dX2_LFSRWithInitialisationMode_192 : decode cX2_LFSRWithInitialisationMode 192 = .ok (.getfield 7, 3) := dk_180 0 7 (dk_at dksX2_LFSRWithInitialisationMode_8 6 rfl rfl)
theorem dX2_LFSRWithInitialisationMode_195 : decode cX2_LFSRWithInitialisationMode 195 = .ok (.bipush 7, 2) := dk_16 7 (dk_at dksX2_LFSRWithInitialisationMode_8 9 rfl rfl)
theorem dX2_LFSRWithInitialisationMode_197 : decode cX2_LFSRWithInitialisationMode 197 = .ok (.iaload, 1) := dk_46 (dk_at dksX2_LFSRWithInitialisationMode_8 11 rfl rfl)
theorem dX2_LFSRWithInitialisationMode_198 : decode cX2_LFSRWithInitialisationMode 198 = .ok (.iastore, 1) := dk_79 (dk_at dksX2_LFSRWithInitialisationMode_8 12 rfl rfl)
theorem dX2_LFSRWithInitialisationMode_199 : decode cX2_LFSRWithInitialisationMode 199 = .ok (.aload_n 0, 1) := dk_42 (dk_at dksX2_LFSRWithInitialisationMode_8 13 rfl rfl)
theorem dX2_LFSRWithInitialisationMode_200 : decode cX2_LFSRWithInitialisationMode 200 = .ok (.getfield 7, 3) := dk_180 0 7 (dk_at dksX2_LFSRWithInitialisationMode_8 14 rfl rfl)
theorem dX2_LFSRWithInitialisationMode_203 : decode cX2_LFSRWithInitialisationMode 203 = .ok (.bipush 7, 2) := dk_16 7 (dk_at dksX2_LFSRWithInitialisationMode_8 17 rfl rfl)
theorem dX2_LFSRWithInitialisationMode_205 : decode cX2_LFSRWithInitialisationMode 205 = .ok (.aload_n 0, 1) := dk_42 (dk_at dksX2_LFSRWithInitialisationMode_8 19 rfl rfl)
theorem dX2_LFSRWithInitialisationMode_206 : decode cX2_LFSRWithInitialisationMode 206 = .ok (.getfield 7, 3) := dk_180 0 7 (dk_at dksX2_LFSRWithInitialisationMode_8 20 rfl rfl)
theorem dX2_LFSRWithInitialisationMode_209 : decode cX2_LFSRWithInitialisationMode 209 = .ok (.bipush 8, 2) := dk_16 8 (dk_at dksX2_LFSRWithInitialisationMode_9 0 rfl rfl)
theorem dX2_LFSRWithInitialisationMode_211 : decode cX2_LFSRWithInitialisationMode 211 = .ok (.iaload, 1) := dk_46 (dk_at dksX2_LFSRWithInitialisationMode_9 2 rfl rfl)
theorem dX2_LFSRWithInitialisationMode_212 : decode cX2_LFSRWithInitialisationMode 212 = .ok (.iastore, 1) := dk_79 (dk_at dksX2_LFSRWithInitialisationMode_9 3 rfl rfl)
theorem dX2_LFSRWithInitialisationMode_213 : decode cX2_LFSRWithInitialisationMode 213 = .ok (.aload_n 0, 1) := dk_42 (dk_at dksX2_LFSRWithInitialisationMode_9 4 rfl rfl)
theorem dX2_LFSRWithInitialisationMode_214 : decode cX2_LFSRWithInitialisationMode 214 = .ok (.getfield 7, 3) := dk_180 0 7 (dk_at dksX2_LFSRWithInitialisationMode_9 5 rfl rfl)
theorem dX2_LFSRWithInitialisationMode_217 : decode cX2_LFSRWithInitialisationMode 217 = .ok (.bipush 8, 2) := dk_16 8 (dk_at dksX2_LFSRWithInitialisationMode_9 8 rfl rfl)
theorem dX2_LFSRWithInitialisationMode_219 : decode cX2_LFSRWithInitialisationMode 219 = .ok (.aload_n 0, 1) := dk_42 (dk_at dksX2_LFSRWithInitialisationMode_9 10 rfl rfl)
theorem dX2_LFSRWithInitialisationMode_220 : decode cX2_LFSRWithInitialisationMode 220 = .ok (.getfield 7, 3) := dk_180 0 7 (dk_at dksX2_LFSRWithInitialisationMode_9 11 rfl rfl)
theorem dX2_LFSRWithInitialisationMode_223 : decode cX2_LFSRWithInitialisationMode 223 = .ok (.bipush 9, 2) := dk_16 9 (dk_at dksX2_LFSRWithInitialisationMode_9 14 rfl rfl)
theorem dX2_LFSRWithInitialisationMode_225 : decode cX2_LFSRWithInitialisationMode 225 = .ok (.iaload, 1) := dk_46 (dk_at dksX2_LFSRWithInitialisationMode_9 16 rfl rfl)
theorem dX2_LFSRWithInitialisationMode_226 : decode cX2_LFSRWithInitialisationMode 226 = .ok (.iastore, 1) := dk_79 (dk_at dksX2_LFSRWithInitialisationMode_9 17 rfl rfl)
theorem dX2_LFSRWithInitialisationMode_227 : decode cX2_LFSRWithInitialisationMode 227 = .ok (.aload_n 0, 1) := dk_42 (dk_at dksX2_LFSRWithInitialisationMode_9 18 rfl rfl)
theorem dX2_LFSRWithInitialisationMode_228 : decode cX2_LFSRWithInitialisationMode 228 = .ok (.getfield 7, 3) := dk_180 0 7 (dk_at dksX2_LFSRWithInitialisationMode_9 19 rfl rfl)
theorem dX2_LFSRWithInitialisationMode_231 : decode cX2_LFSRWithInitialisationMode 231 = .ok (.bipush 9, 2) := dk_16 9 (dk_at dksX2_LFSRWithInitialisationMode_9 22 rfl rfl)
theorem dX2_LFSRWithInitialisationMode_233 : decode cX2_LFSRWithInitialisationMode 233 = .ok (.aload_n 0, 1) := dk_42 (dk_at dksX2_LFSRWithInitialisationMode_10 0 rfl rfl)
theorem dX2_LFSRWithInitialisationMode_234 : decode cX2_LFSRWithInitialisationMode 234 = .ok (.getfield 7, 3) := dk_180 0 7 (dk_at dksX2_LFSRWithInitialisationMode_10 1 rfl rfl)
theorem dX2_LFSRWithInitialisationMode_237 : decode cX2_LFSRWithInitialisationMode 237 = .ok (.bipush 10, 2) := dk_16 10 (dk_at dksX2_LFSRWithInitialisationMode_10 4 rfl rfl)
theorem dX2_LFSRWithInitialisationMode_239 : decode cX2_LFSRWithInitialisationMode 239 = .ok (.iaload, 1) := dk_46 (dk_at dksX2_LFSRWithInitialisationMode_10 6 rfl rfl)
theorem dX2_LFSRWithInitialisationMode_240 : decode cX2_LFSRWithInitialisationMode 240 = .ok (.iastore, 1) := dk_79 (dk_at dksX2_LFSRWithInitialisationMode_10 7 rfl rfl)
theorem dX2_LFSRWithInitialisationMode_241 : decode cX2_LFSRWithInitialisationMode 241 = .ok (.aload_n 0, 1) := dk_42 (dk_at dksX2_LFSRWithInitialisationMode_10 8 rfl rfl)
theorem dX2_LFSRWithInitialisationMode_242 : decode cX2_LFSRWithInitialisationMode 242 = .ok (.getfield 7, 3) := dk_180 0 7 (dk_at dksX2_LFSRWithInitialisationMode_10 9 rfl rfl)
theorem dX2_LFSRWithInitialisationMode_245 : decode cX2_LFSRWithInitialisationMode 245 = .ok (.bipush 10, 2) := dk_16 10 (dk_at dksX2_LFSRWithInitialisationMode_10 12 rfl rfl)
theorem dX2_LFSRWithInitialisationMode_247 : decode cX2_LFSRWithInitialisationMode 247 = .ok (.aload_n 0, 1) := dk_42 (dk_at dksX2_LFSRWithInitialisationMode_10 14 rfl rfl)
theorem dX2_LFSRWithInitialisationMode_248 : decode cX2_LFSRWithInitialisationMode 248 = .ok (.getfield 7, 3) := dk_180 0 7 (dk_at dksX2_LFSRWithInitialisationMode_10 15 rfl rfl)
theorem dX2_LFSRWithInitialisationMode_251 : decode cX2_LFSRWithInitialisationMode 251 = .ok (.bipush 11, 2) := dk_16 11 (dk_at dksX2_LFSRWithInitialisationMode_10 18 rfl rfl)
theorem dX2_LFSRWithInitialisationMode_253 : decode cX2_LFSRWithInitialisationMode 253 = .ok (.iaload, 1) := dk_46 (dk_at dksX2_LFSRWithInitialisationMode_10 20 rfl rfl)
theorem dX2_LFSRWithInitialisationMode_254 : decode cX2_LFSRWithInitialisationMode 254 = .ok (.iastore, 1) := dk_79 (dk_at dksX2_LFSRWithInitialisationMode_10 21 rfl rfl)
theorem dX2_LFSRWithInitialisationMode_255 : decode cX2_LFSRWithInitialisationMode 255 = .ok (.aload_n 0, 1) := dk_42 (dk_at dksX2_LFSRWithInitialisationMode_10 22 rfl rfl)
theorem dX2_LFSRWithInitialisationMode_256 : decode cX2_LFSRWithInitialisationMode 256 = .ok (.getfield 7, 3) := dk_180 0 7 (dk_at dksX2_LFSRWithInitialisationMode_11 0 rfl rfl)
theorem dX2_LFSRWithInitialisationMode_259 : decode cX2_LFSRWithInitialisationMode 259 = .ok (.bipush 11, 2) := dk_16 11 (dk_at dksX2_LFSRWithInitialisationMode_11 3 rfl rfl)
theorem dX2_LFSRWithInitialisationMode_261 : decode cX2_LFSRWithInitialisationMode 261 = .ok (.aload_n 0, 1) := dk_42 (dk_at dksX2_LFSRWithInitialisationMode_11 5 rfl rfl)
theorem dX2_LFSRWithInitialisationMode_262 : decode cX2_LFSRWithInitialisationMode 262 = .ok (.getfield 7, 3) := dk_180 0 7 (dk_at dksX2_LFSRWithInitialisationMode_11 6 rfl rfl)
theorem dX2_LFSRWithInitialisationMode_265 : decode cX2_LFSRWithInitialisationMode 265 = .ok (.bipush 12, 2) := dk_16 12 (dk_at dksX2_LFSRWithInitialisationMode_11 9 rfl rfl)
theorem dX2_LFSRWithInitialisationMode_267 : decode cX2_LFSRWithInitialisationMode 267 = .ok (.iaload, 1) := dk_46 (dk_at dksX2_LFSRWithInitialisationMode_11 11 rfl rfl)
theorem dX2_LFSRWithInitialisationMode_268 : decode cX2_LFSRWithInitialisationMode 268 = .ok (.iastore, 1) := dk_79 (dk_at dksX2_LFSRWithInitialisationMode_11 12 rfl rfl)
theorem dX2_LFSRWithInitialisationMode_269 : decode cX2_LFSRWithInitialisationMode 269 = .ok (.aload_n 0, 1) := dk_42 (dk_at dksX2_LFSRWithInitialisationMode_11 13 rfl rfl)
theorem dX2_LFSRWithInitialisationMode_270 : decode cX2_LFSRWithInitialisationMode 270 = .ok (.getfield 7, 3) := dk_180 0 7 (dk_at dksX2_LFSRWithInitialisationMode_11 14 rfl rfl)
theorem dX2_LFSRWithInitialisationMode_273 : decode cX2_LFSRWithInitialisationMode 273 = .ok (.bipush 12, 2) := dk_16 12 (dk_at dksX2_LFSRWithInitialisationMode_11 17 rfl rfl)
theorem dX2_LFSRWithInitialisationMode_275 : decode cX2_LFSRWithInitialisationMode 275 = .ok (.aload_n 0, 1) := dk_42 (dk_at dksX2_LFSRWithInitialisationMode_11 19 rfl rfl)
theorem dX2_LFSRWithInitialisationMode_276 : decode cX2_LFSRWithInitialisationMode 276 = .ok (.getfield 7, 3) := dk_180 0 7 (dk_at dksX2_LFSRWithInitialisationMode_11 20 rfl rfl)
theorem dX2_LFSRWithInitialisationMode_279 : decode cX2_LFSRWithInitialisationMode 279 = .ok (.bipush 13, 2) := dk_16 13 (dk_at dksX2_LFSRWithInitialisationMode_12 0 rfl rfl)
theorem dX2_LFSRWithInitialisationMode_281 : decode cX2_LFSRWithInitialisationMode 281 = .ok (.iaload, 1) := dk_46 (dk_at dksX2_LFSRWithInitialisationMode_12 2 rfl rfl)
theorem dX2_LFSRWithInitialisationMode_282 : decode cX2_LFSRWithInitialisationMode 282 = .ok (.iastore, 1) := dk_79 (dk_at dksX2_LFSRWithInitialisationMode_12 3 rfl rfl)
theorem dX2_LFSRWithInitialisationMode_283 : decode cX2_LFSRWithInitialisationMode 283 = .ok (.aload_n 0, 1) := dk_42 (dk_at dksX2_LFSRWithInitialisationMode_12 4 rfl rfl)
theorem dX2_LFSRWithInitialisationMode_284 : decode cX2_LFSRWithInitialisationMode 284 = .ok (.getfield 7, 3) := dk_180 0 7 (dk_at dksX2_LFSRWithInitialisationMode_12 5 rfl rfl)
theorem dX2_LFSRWithInitialisationMode_287 : decode cX2_LFSRWithInitialisationMode 287 = .ok (.bipush 13, 2) := dk_16 13 (dk_at dksX2_LFSRWithInitialisationMode_12 8 rfl rfl)
theorem dX2_LFSRWithInitialisationMode_289 : decode cX2_LFSRWithInitialisationMode 289 = .ok (.aload_n 0, 1) := dk_42 (dk_at dksX2_LFSRWithInitialisationMode_12 10 rfl rfl)
theorem dX2_LFSRWithInitialisationMode_290 : decode cX2_LFSRWithInitialisationMode 290 = .ok (.getfield 7, 3) := dk_180 0 7 (dk_at dksX2_LFSRWithInitialisationMode_12 11 rfl rfl)
theorem dX2_LFSRWithInitialisationMode_293 : decode cX2_LFSRWithInitialisationMode 293 = .ok (.bipush 14, 2) := dk_16 14 (dk_at dksX2_LFSRWithInitialisationMode_12 14 rfl rfl)
theorem dX2_LFSRWithInitialisationMode_295 : decode cX2_LFSRWithInitialisationMode 295 = .ok (.iaload, 1) := dk_46 (dk_at dksX2_LFSRWithInitialisationMode_12 16 rfl rfl)
theorem dX2_LFSRWithInitialisationMode_296 : decode cX2_LFSRWithInitialisationMode 296 = .ok (.iastore, 1) := dk_79 (dk_at dksX2_LFSRWithInitialisationMode_12 17 rfl rfl)
theorem dX2_LFSRWithInitialisationMode_297 : decode cX2_LFSRWithInitialisationMode 297 = .ok (.aload_n 0, 1) := dk_42 (dk_at dksX2_LFSRWithInitialisationMode_12 18 rfl rfl)
theorem dX2_LFSRWithInitialisationMode_298 : decode cX2_LFSRWithInitialisationMode 298 = .ok (.getfield 7, 3) := dk_180 0 7 (dk_at dksX2_LFSRWithInitialisationMode_12 19 rfl rfl)
theorem dX2_LFSRWithInitialisationMode_301 : decode cX2_LFSRWithInitialisationMode 301 = .ok (.bipush 14, 2) := dk_16 14 (dk_at dksX2_LFSRWithInitialisationMode_12 22 rfl rfl)
theorem dX2_LFSRWithInitialisationMode_303 : decode cX2_LFSRWithInitialisationMode 303 = .ok (.aload_n 0, 1) := dk_42 (dk_at dksX2_LFSRWithInitialisationMode_13 0 rfl rfl)
theorem dX2_LFSRWithInitialisationMode_304 : decode cX2_LFSRWithInitialisationMode 304 = .ok (.getfield 7, 3) := dk_180 0 7 (dk_at dksX2_LFSRWithInitialisationMode_13 1 rfl rfl)
theorem dX2_LFSRWithInitialisationMode_307 : decode cX2_LFSRWithInitialisationMode 307 = .ok (.bipush 15, 2) := dk_16 15 (dk_at dksX2_LFSRWithInitialisationMode_13 4 rfl rfl)
theorem dX2_LFSRWithInitialisationMode_309 : decode cX2_LFSRWithInitialisationMode 309 = .ok (.iaload, 1) := dk_46 (dk_at dksX2_LFSRWithInitialisationMode_13 6 rfl rfl)
theorem dX2_LFSRWithInitialisationMode_310 : decode cX2_LFSRWithInitialisationMode 310 = .ok (.iastore, 1) := dk_79 (dk_at dksX2_LFSRWithInitialisationMode_13 7 rfl rfl)
theorem dX2_LFSRWithInitialisationMode_311 : decode cX2_LFSRWithInitialisationMode 311 = .ok (.aload_n 0, 1) := dk_42 (dk_at dksX2_LFSRWithInitialisationMode_13 8 rfl rfl)
theorem dX2_LFSRWithInitialisationMode_312 : decode cX2_LFSRWithInitialisationMode 312 = .ok (.getfield 7, 3) := dk_180 0 7 (dk_at dksX2_LFSRWithInitialisationMode_13 9 rfl rfl)
theorem dX2_LFSRWithInitialisationMode_315 : decode cX2_LFSRWithInitialisationMode 315 = .ok (.bipush 15, 2) := dk_16 15 (dk_at dksX2_LFSRWithInitialisationMode_13 12 rfl rfl)
theorem dX2_LFSRWithInitialisationMode_317 : decode cX2_LFSRWithInitialisationMode 317 = .ok (.iload_n 2, 1) := dk_28 (dk_at dksX2_LFSRWithInitialisationMode_13 14 rfl rfl)
theorem dX2_LFSRWithInitialisationMode_318 : decode cX2_LFSRWithInitialisationMode 318 = .ok (.iastore, 1) := dk_79 (dk_at dksX2_LFSRWithInitialisationMode_13 15 rfl rfl)
theorem dX2_LFSRWithInitialisationMode_319 : decode cX2_LFSRWithInitialisationMode 319 = .ok (.return_, 1) := dk_177 (dk_at dksX2_LFSRWithInitialisationMode_13 16 rfl rfl)
abbrev cX2_init_3 : ByteArray := prog_8_method_2_code
def yX2_init_3 : MethodName := ⟨RX2, "<init>", "(LZuc128CoreEngine;)V"⟩
def dkwX2_init_3_1 : List UInt8 := [181, 0, 16, 42, 7, 188, 8, 181, 0, 19, 42, 43, 182, 0, 23, 177]
abbrev dktX2_init_3_1 : List UInt8 := dkwX2_init_3_1 ++ []
def dkwX2_init_3_0 : List UInt8 := [42, 183, 0, 1, 42, 16, 16, 188, 10, 181, 0, 7, 42, 5, 188, 10, 181, 0, 13, 42, 7, 188, 10]
abbrev dktX2_init_3_0 : List UInt8 := dkwX2_init_3_0 ++ dktX2_init_3_1
theorem dksX2_init_3_0 : cX2_init_3.data.toList.drop 0 = dktX2_init_3_0 := by decide +kernel
theorem dksX2_init_3_1 : cX2_init_3.data.toList.drop 23 = dktX2_init_3_1 := dk_seg dksX2_init_3_0 23 rfl rfl
theorem dX2_init_3_0 : decode cX2_init_3 0 = .ok (.aload_n 0, 1) := dk_42 (dk_at dksX2_init_3_0 0 rfl rfl)
theorem dX2_init_3_1 : decode cX2_init_3 1 = .ok (.invokespecial 1, 3) := dk_183 0 1 (dk_at dksX2_init_3_0 1 rfl rfl)
theorem dX2_init_3_4 : decode cX2_init_3 4 = .ok (.aload_n 0, 1) := dk_42 (dk_at dksX2_init_3_0 4 rfl rfl)
theorem dX2_init_3_5 : decode cX2_init_3 5 = .ok (.bipush 16, 2) := dk_16 16 (dk_at dksX2_init_3_0 5 rfl rfl)
theorem dX2_init_3_7 : decode cX2_init_3 7 = .ok (.newarray .int, 2) := dk_188_10 (dk_at dksX2_init_3_0 7 rfl rfl)
theorem dX2_init_3_9 : decode cX2_init_3 9 = .ok (.putfield 7, 3) := dk_181 0 7 (dk_at dksX2_init_3_0 9 rfl rfl)
theorem dX2_init_3_12 : decode cX2_init_3 12 = .ok (.aload_n 0, 1) := dk_42 (dk_at dksX2_init_3_0 12 rfl rfl)
theorem dX2_init_3_13 : decode cX2_init_3 13 = .ok (.iconst 2, 1) := dk_5 (dk_at dksX2_init_3_0 13 rfl rfl)
theorem dX2_init_3_14 : decode cX2_init_3 14 = .ok (.newarray .int, 2) := dk_188_10 (dk_at dksX2_init_3_0 14 rfl rfl)
theorem dX2_init_3_16 : decode cX2_init_3 16 = .ok (.putfield 13, 3) := dk_181 0 13 (dk_at dksX2_init_3_0 16 rfl rfl)
theorem dX2_init_3_19 : decode cX2_init_3 19 = .ok (.aload_n 0, 1) := dk_42 (dk_at dksX2_init_3_0 19 rfl rfl)
theorem dX2_init_3_20 : decode cX2_init_3 20 = .ok (.iconst 4, 1) := dk_7 (dk_at dksX2_init_3_0 20 rfl rfl)
theorem dX2_init_3_21 : decode cX2_init_3 21 = .ok (.newarray .int, 2) := dk_188_10 (dk_at dksX2_init_3_0 21 rfl rfl)
theorem dX2_init_3_23 : decode cX2_init_3 23 = .ok (.putfield 16, 3) := dk_181 0 16 (dk_at dksX2_init_3_1 0 rfl rfl)
theorem dX2_init_3_26 : decode cX2_init_3 26 = .ok (.aload_n 0, 1) := dk_42 (dk_at dksX2_init_3_1 3 rfl rfl)
theorem dX2_init_3_27 : decode cX2_init_3 27 = .ok (.iconst 4, 1) := dk_7 (dk_at dksX2_init_3_1 4 rfl rfl)
theorem dX2_init_3_28 : decode cX2_init_3 28 = .ok (.newarray .byte, 2) := dk_188_8 (dk_at dksX2_init_3_1 5 rfl rfl)
theorem dX2_init_3_30 : decode cX2_init_3 30 = .ok (.putfield 19, 3) := dk_181 0 19 (dk_at dksX2_init_3_1 7 rfl rfl)
theorem dX2_init_3_33 : decode cX2_init_3 33 = .ok (.aload_n 0, 1) := dk_42 (dk_at dksX2_init_3_1 10 rfl rfl)
theorem dX2_init_3_34 : decode cX2_init_3 34 = .ok (.aload_n 1, 1) := dk_43 (dk_at dksX2_init_3_1 11 rfl rfl)
theorem dX2_init_3_35 : decode cX2_init_3 35 = .ok (.invokevirtual 23, 3) := dk_182 0 23 (dk_at dksX2_init_3_1 12 rfl rfl)
theorem dX2_init_3_38 : decode cX2_init_3 38 = .ok (.return_, 1) := dk_177 (dk_at dksX2_init_3_1 15 rfl rfl)
abbrev cX2_copy : ByteArray := prog_8_method_24_code
def yX2_copy : MethodName := ⟨RX2, "copy", "()LMemoable;"⟩
def dkwX2_copy_0 : List UInt8 := [187, 0, 8, 89, 42, 183, 0, 158, 176]
abbrev dktX2_copy_0 : List UInt8 := dkwX2_copy_0 ++ []
theorem dksX2_copy_0 : cX2_copy.data.toList.drop 0 = dktX2_copy_0 := by decide +kernel
theorem dX2_copy_0 : decode cX2_copy 0 = .ok (.new 8, 3) := dk_187 0 8 (dk_at dksX2_copy_0 0 rfl rfl)
theorem dX2_copy_3 : decode cX2_copy 3 = .ok (.dup, 1) := dk_89 (dk_at dksX2_copy_0 3 rfl rfl)
theorem dX2_copy_4 : decode cX2_copy 4 = .ok (.aload_n 0, 1) := dk_42 (dk_at dksX2_copy_0 4 rfl rfl)
theorem dX2_copy_5 : decode cX2_copy 5 = .ok (.invokespecial 158, 3) := dk_183 0 158 (dk_at dksX2_copy_0 5 rfl rfl)
theorem dX2_copy_8 : decode cX2_copy 8 = .ok (.areturn, 1) := dk_176 (dk_at dksX2_copy_0 8 rfl rfl)
theorem q11 : (Jvm.Cond.initialized "Zuc128CoreEngine") ∈ lw_all := lw_g (lw_at lw_m1 2 rfl) rfl
theorem q40 : (Jvm.Cond.declares ({ cls := "Zuc128CoreEngine", name := "processBytes", desc := "([BII[BI)I" } : Jvm.MethodName)) ∈ lw_tbl := lw_at lw_m1 31 rfl
theorem q42 : (Jvm.Cond.instanceMethod ({ cls := "Zuc128CoreEngine", name := "processBytes", desc := "([BII[BI)I" } : Jvm.MethodName)) ∈ lw_all := lw_g (lw_at lw_m1 33 rfl) rfl
theorem q43 : (Jvm.Cond.code ({ cls := "Zuc128CoreEngine", name := "processBytes", desc := "([BII[BI)I" } : Jvm.MethodName) prog_8_method_5_code (7 : Nat) (Option.some Jvm.ClassFile.FieldType.int)) ∈ lw_all := lw_g (lw_at lw_m1 34 rfl) rfl
theorem q44 : (Jvm.Cond.classLink "Zuc128CoreEngine" (61 : Nat) "java/lang/IllegalStateException") ∈ lw_all := lw_g (lw_at lw_m1 35 rfl) rfl
theorem q88 : (Jvm.Cond.stringRef "Zuc128CoreEngine" (63 : Nat) "left out") ∈ lw_tbl := lw_at lw_m1 79 rfl
theorem q89 : (Jvm.Cond.methodLink "Zuc128CoreEngine" (65 : Nat) ({ cls := "java/lang/IllegalStateException", name := "<init>", desc := "(Ljava/lang/String;)V" } : Jvm.MethodName)) ∈ lw_all := lw_g (lw_at lw_m1 80 rfl) rfl
theorem q115 : (Jvm.Cond.classLink "Zuc128CoreEngine" (68 : Nat) "DataLengthException") ∈ lw_all := lw_g (lw_at lw_m1 106 rfl) rfl
theorem q125 : (Jvm.Cond.stringRef "Zuc128CoreEngine" (70 : Nat) "input buffer too short") ∈ lw_tbl := lw_at lw_m1 116 rfl
theorem q126 : (Jvm.Cond.methodLink "Zuc128CoreEngine" (72 : Nat) ({ cls := "DataLengthException", name := "<init>", desc := "(Ljava/lang/String;)V" } : Jvm.MethodName)) ∈ lw_all := lw_g (lw_at lw_m1 117 rfl) rfl
theorem q135 : (Jvm.Cond.classLink "Zuc128CoreEngine" (73 : Nat) "OutputLengthException") ∈ lw_all := lw_g (lw_at lw_m1 126 rfl) rfl
theorem q145 : (Jvm.Cond.stringRef "Zuc128CoreEngine" (75 : Nat) "output buffer too short") ∈ lw_tbl := lw_at lw_m1 136 rfl
theorem q146 : (Jvm.Cond.methodLink "Zuc128CoreEngine" (77 : Nat) ({ cls := "OutputLengthException", name := "<init>", desc := "(Ljava/lang/String;)V" } : Jvm.MethodName)) ∈ lw_all := lw_g (lw_at lw_m1 137 rfl) rfl
theorem q152 : (Jvm.Cond.methodLink "Zuc128CoreEngine" (78 : Nat) ({ cls := "Zuc128CoreEngine", name := "returnByte", desc := "(B)B" } : Jvm.MethodName)) ∈ lw_all := lw_g (lw_at lw_m1 143 rfl) rfl
theorem q153 : (Jvm.Cond.instanceMethod ({ cls := "Zuc128CoreEngine", name := "returnByte", desc := "(B)B" } : Jvm.MethodName)) ∈ lw_all := lw_g (lw_at lw_m1 144 rfl) rfl
theorem q154 : (Jvm.Cond.selects "Zuc128CoreEngine" ({ cls := "Zuc128CoreEngine", name := "returnByte", desc := "(B)B" } : Jvm.MethodName) ({ cls := "Zuc128CoreEngine", name := "returnByte", desc := "(B)B" } : Jvm.MethodName)) ∈ lw_all := lw_g (lw_at lw_m1 145 rfl) rfl
theorem q155 : (Jvm.Cond.sameMethod "Zuc128CoreEngine" "Zuc128CoreEngine" "returnByte" "(B)B") ∈ lw_all := lw_g (lw_at lw_m1 146 rfl) rfl
theorem q157 : (Jvm.Cond.code ({ cls := "Zuc128CoreEngine", name := "returnByte", desc := "(B)B" } : Jvm.MethodName) prog_8_method_7_code (3 : Nat) (Option.some Jvm.ClassFile.FieldType.byte)) ∈ lw_all := lw_g (lw_at lw_m1 148 rfl) rfl
theorem q158 : (Jvm.Cond.methodLink "Zuc128CoreEngine" (82 : Nat) ({ cls := "Zuc128CoreEngine", name := "makeKeyStream", desc := "()V" } : Jvm.MethodName)) ∈ lw_all := lw_g (lw_at lw_m1 149 rfl) rfl
theorem q159 : (Jvm.Cond.privateMethod ({ cls := "Zuc128CoreEngine", name := "makeKeyStream", desc := "()V" } : Jvm.MethodName)) ∈ lw_tbl := lw_at lw_m1 150 rfl
theorem q160 : (Jvm.Cond.instanceMethod ({ cls := "Zuc128CoreEngine", name := "makeKeyStream", desc := "()V" } : Jvm.MethodName)) ∈ lw_all := lw_g (lw_at lw_m1 151 rfl) rfl
theorem q161 : (Jvm.Cond.instantiable "Zuc128CoreEngine" (7 : Nat)) ∈ lw_all := lw_g (lw_at lw_m1 152 rfl) rfl
theorem q162 : (Jvm.Cond.code ({ cls := "Zuc128CoreEngine", name := "makeKeyStream", desc := "()V" } : Jvm.MethodName) prog_8_method_22_code (1 : Nat) (Option.none : Option Jvm.ClassFile.FieldType)) ∈ lw_all := lw_g (lw_at lw_m1 153 rfl) rfl
theorem q163 : (Jvm.Cond.methodLink "Zuc128CoreEngine" (146 : Nat) ({ cls := "Zuc128CoreEngine", name := "makeKeyStreamWord", desc := "()I" } : Jvm.MethodName)) ∈ lw_all := lw_g (lw_at lw_m1 154 rfl) rfl
theorem q164 : (Jvm.Cond.instanceMethod ({ cls := "Zuc128CoreEngine", name := "makeKeyStreamWord", desc := "()I" } : Jvm.MethodName)) ∈ lw_all := lw_g (lw_at lw_m1 155 rfl) rfl
theorem q165 : (Jvm.Cond.selects "Zuc128CoreEngine" ({ cls := "Zuc128CoreEngine", name := "makeKeyStreamWord", desc := "()I" } : Jvm.MethodName) ({ cls := "Zuc128CoreEngine", name := "makeKeyStreamWord", desc := "()I" } : Jvm.MethodName)) ∈ lw_all := lw_g (lw_at lw_m1 156 rfl) rfl
theorem q166 : (Jvm.Cond.sameMethod "Zuc128CoreEngine" "Zuc128CoreEngine" "makeKeyStreamWord" "()I") ∈ lw_all := lw_g (lw_at lw_m1 157 rfl) rfl
theorem q168 : (Jvm.Cond.code ({ cls := "Zuc128CoreEngine", name := "makeKeyStreamWord", desc := "()I" } : Jvm.MethodName) prog_8_method_23_code (2 : Nat) (Option.some Jvm.ClassFile.FieldType.int)) ∈ lw_all := lw_g (lw_at lw_m1 159 rfl) rfl
theorem q169 : (Jvm.Cond.methodLink "Zuc128CoreEngine" (153 : Nat) ({ cls := "Zuc128CoreEngine", name := "getMaxIterations", desc := "()I" } : Jvm.MethodName)) ∈ lw_all := lw_g (lw_at lw_m1 160 rfl) rfl
theorem q170 : (Jvm.Cond.instanceMethod ({ cls := "Zuc128CoreEngine", name := "getMaxIterations", desc := "()I" } : Jvm.MethodName)) ∈ lw_all := lw_g (lw_at lw_m1 161 rfl) rfl
theorem q171 : (Jvm.Cond.selects "Zuc128CoreEngine" ({ cls := "Zuc128CoreEngine", name := "getMaxIterations", desc := "()I" } : Jvm.MethodName) ({ cls := "Zuc128CoreEngine", name := "getMaxIterations", desc := "()I" } : Jvm.MethodName)) ∈ lw_all := lw_g (lw_at lw_m1 162 rfl) rfl
theorem q172 : (Jvm.Cond.sameMethod "Zuc128CoreEngine" "Zuc128CoreEngine" "getMaxIterations" "()I") ∈ lw_all := lw_g (lw_at lw_m1 163 rfl) rfl
theorem q174 : (Jvm.Cond.code ({ cls := "Zuc128CoreEngine", name := "getMaxIterations", desc := "()I" } : Jvm.MethodName) prog_8_method_4_code (1 : Nat) (Option.some Jvm.ClassFile.FieldType.int)) ∈ lw_all := lw_g (lw_at lw_m1 165 rfl) rfl
theorem q175 : (Jvm.Cond.stringRef "Zuc128CoreEngine" (156 : Nat) "Too much data processed by singleKey/IV") ∈ lw_tbl := lw_at lw_m1 166 rfl
theorem q176 : (Jvm.Cond.methodLink "Zuc128CoreEngine" (133 : Nat) ({ cls := "Zuc128CoreEngine", name := "BitReorganization", desc := "()V" } : Jvm.MethodName)) ∈ lw_all := lw_g (lw_at lw_m1 167 rfl) rfl
theorem q177 : (Jvm.Cond.privateMethod ({ cls := "Zuc128CoreEngine", name := "BitReorganization", desc := "()V" } : Jvm.MethodName)) ∈ lw_tbl := lw_at lw_m1 168 rfl
theorem q178 : (Jvm.Cond.instanceMethod ({ cls := "Zuc128CoreEngine", name := "BitReorganization", desc := "()V" } : Jvm.MethodName)) ∈ lw_all := lw_g (lw_at lw_m1 169 rfl) rfl
theorem q179 : (Jvm.Cond.code ({ cls := "Zuc128CoreEngine", name := "BitReorganization", desc := "()V" } : Jvm.MethodName) prog_8_method_13_code (1 : Nat) (Option.none : Option Jvm.ClassFile.FieldType)) ∈ lw_all := lw_g (lw_at lw_m1 170 rfl) rfl
theorem q180 : (Jvm.Cond.constant "Zuc128CoreEngine" (93 : Nat) (2147450880 : Int32)) ∈ lw_all := lw_g (lw_at lw_m1 171 rfl) rfl
theorem q181 : (Jvm.Cond.constant "Zuc128CoreEngine" (94 : Nat) (65535 : Int32)) ∈ lw_all := lw_g (lw_at lw_m1 172 rfl) rfl
theorem q182 : (Jvm.Cond.methodLink "Zuc128CoreEngine" (136 : Nat) ({ cls := "Zuc128CoreEngine", name := "F", desc := "()I" } : Jvm.MethodName)) ∈ lw_all := lw_g (lw_at lw_m1 173 rfl) rfl
theorem q183 : (Jvm.Cond.instanceMethod ({ cls := "Zuc128CoreEngine", name := "F", desc := "()I" } : Jvm.MethodName)) ∈ lw_all := lw_g (lw_at lw_m1 174 rfl) rfl
theorem q184 : (Jvm.Cond.selects "Zuc128CoreEngine" ({ cls := "Zuc128CoreEngine", name := "F", desc := "()I" } : Jvm.MethodName) ({ cls := "Zuc128CoreEngine", name := "F", desc := "()I" } : Jvm.MethodName)) ∈ lw_all := lw_g (lw_at lw_m1 175 rfl) rfl
theorem q185 : (Jvm.Cond.sameMethod "Zuc128CoreEngine" "Zuc128CoreEngine" "F" "()I") ∈ lw_all := lw_g (lw_at lw_m1 176 rfl) rfl
theorem q187 : (Jvm.Cond.code ({ cls := "Zuc128CoreEngine", name := "F", desc := "()I" } : Jvm.MethodName) prog_8_method_18_code (6 : Nat) (Option.some Jvm.ClassFile.FieldType.int)) ∈ lw_all := lw_g (lw_at lw_m1 178 rfl) rfl
theorem q188 : (Jvm.Cond.methodLink "Zuc128CoreEngine" (98 : Nat) ({ cls := "Zuc128CoreEngine", name := "L1", desc := "(I)I" } : Jvm.MethodName)) ∈ lw_all := lw_g (lw_at lw_m1 179 rfl) rfl
theorem q189 : (Jvm.Cond.static ({ cls := "Zuc128CoreEngine", name := "L1", desc := "(I)I" } : Jvm.MethodName)) ∈ lw_all := lw_g (lw_at lw_m1 180 rfl) rfl
theorem q190 : (Jvm.Cond.code ({ cls := "Zuc128CoreEngine", name := "L1", desc := "(I)I" } : Jvm.MethodName) prog_8_method_15_code (1 : Nat) (Option.some Jvm.ClassFile.FieldType.int)) ∈ lw_all := lw_g (lw_at lw_m1 181 rfl) rfl
theorem q191 : (Jvm.Cond.methodLink "Zuc128CoreEngine" (95 : Nat) ({ cls := "Zuc128CoreEngine", name := "ROT", desc := "(II)I" } : Jvm.MethodName)) ∈ lw_all := lw_g (lw_at lw_m1 182 rfl) rfl
theorem q192 : (Jvm.Cond.static ({ cls := "Zuc128CoreEngine", name := "ROT", desc := "(II)I" } : Jvm.MethodName)) ∈ lw_all := lw_g (lw_at lw_m1 183 rfl) rfl
theorem q193 : (Jvm.Cond.code ({ cls := "Zuc128CoreEngine", name := "ROT", desc := "(II)I" } : Jvm.MethodName) prog_8_method_14_code (2 : Nat) (Option.some Jvm.ClassFile.FieldType.int)) ∈ lw_all := lw_g (lw_at lw_m1 184 rfl) rfl
theorem q194 : (Jvm.Cond.methodLink "Zuc128CoreEngine" (102 : Nat) ({ cls := "Zuc128CoreEngine", name := "L2", desc := "(I)I" } : Jvm.MethodName)) ∈ lw_all := lw_g (lw_at lw_m1 185 rfl) rfl
theorem q195 : (Jvm.Cond.static ({ cls := "Zuc128CoreEngine", name := "L2", desc := "(I)I" } : Jvm.MethodName)) ∈ lw_all := lw_g (lw_at lw_m1 186 rfl) rfl
theorem q196 : (Jvm.Cond.code ({ cls := "Zuc128CoreEngine", name := "L2", desc := "(I)I" } : Jvm.MethodName) prog_8_method_16_code (1 : Nat) (Option.some Jvm.ClassFile.FieldType.int)) ∈ lw_all := lw_g (lw_at lw_m1 187 rfl) rfl
theorem q197 : (Jvm.Cond.fieldLink "Zuc128CoreEngine" (105 : Nat) "Zuc128CoreEngine" "S0" "[B") ∈ lw_all := lw_g (lw_at lw_m1 188 rfl) rfl
theorem q198 : (Jvm.Cond.laysStatic "Zuc128CoreEngine" "S0" "[B") ∈ lw_tbl := lw_at lw_m1 189 rfl
theorem q199 : (Jvm.Cond.fieldLink "Zuc128CoreEngine" (108 : Nat) "Zuc128CoreEngine" "S1" "[B") ∈ lw_all := lw_g (lw_at lw_m1 190 rfl) rfl
theorem q200 : (Jvm.Cond.laysStatic "Zuc128CoreEngine" "S1" "[B") ∈ lw_tbl := lw_at lw_m1 191 rfl
theorem q201 : (Jvm.Cond.methodLink "Zuc128CoreEngine" (111 : Nat) ({ cls := "Zuc128CoreEngine", name := "MAKEU32", desc := "(BBBB)I" } : Jvm.MethodName)) ∈ lw_all := lw_g (lw_at lw_m1 192 rfl) rfl
theorem q202 : (Jvm.Cond.static ({ cls := "Zuc128CoreEngine", name := "MAKEU32", desc := "(BBBB)I" } : Jvm.MethodName)) ∈ lw_all := lw_g (lw_at lw_m1 193 rfl) rfl
theorem q203 : (Jvm.Cond.code ({ cls := "Zuc128CoreEngine", name := "MAKEU32", desc := "(BBBB)I" } : Jvm.MethodName) prog_8_method_17_code (4 : Nat) (Option.some Jvm.ClassFile.FieldType.int)) ∈ lw_all := lw_g (lw_at lw_m1 194 rfl) rfl
theorem q204 : (Jvm.Cond.methodLink "Zuc128CoreEngine" (143 : Nat) ({ cls := "Zuc128CoreEngine", name := "LFSRWithWorkMode", desc := "()V" } : Jvm.MethodName)) ∈ lw_all := lw_g (lw_at lw_m1 195 rfl) rfl
theorem q205 : (Jvm.Cond.privateMethod ({ cls := "Zuc128CoreEngine", name := "LFSRWithWorkMode", desc := "()V" } : Jvm.MethodName)) ∈ lw_tbl := lw_at lw_m1 196 rfl
theorem q206 : (Jvm.Cond.instanceMethod ({ cls := "Zuc128CoreEngine", name := "LFSRWithWorkMode", desc := "()V" } : Jvm.MethodName)) ∈ lw_all := lw_g (lw_at lw_m1 197 rfl) rfl
theorem q207 : (Jvm.Cond.code ({ cls := "Zuc128CoreEngine", name := "LFSRWithWorkMode", desc := "()V" } : Jvm.MethodName) prog_8_method_12_code (3 : Nat) (Option.none : Option Jvm.ClassFile.FieldType)) ∈ lw_all := lw_g (lw_at lw_m1 198 rfl) rfl
theorem q208 : (Jvm.Cond.methodLink "Zuc128CoreEngine" (86 : Nat) ({ cls := "Zuc128CoreEngine", name := "MulByPow2", desc := "(II)I" } : Jvm.MethodName)) ∈ lw_all := lw_g (lw_at lw_m1 199 rfl) rfl
theorem q209 : (Jvm.Cond.static ({ cls := "Zuc128CoreEngine", name := "MulByPow2", desc := "(II)I" } : Jvm.MethodName)) ∈ lw_all := lw_g (lw_at lw_m1 200 rfl) rfl
theorem q210 : (Jvm.Cond.code ({ cls := "Zuc128CoreEngine", name := "MulByPow2", desc := "(II)I" } : Jvm.MethodName) prog_8_method_10_code (2 : Nat) (Option.some Jvm.ClassFile.FieldType.int)) ∈ lw_all := lw_g (lw_at lw_m1 201 rfl) rfl
theorem q211 : (Jvm.Cond.constant "Zuc128CoreEngine" (85 : Nat) (2147483647 : Int32)) ∈ lw_all := lw_g (lw_at lw_m1 202 rfl) rfl
theorem q212 : (Jvm.Cond.methodLink "Zuc128CoreEngine" (90 : Nat) ({ cls := "Zuc128CoreEngine", name := "AddM", desc := "(II)I" } : Jvm.MethodName)) ∈ lw_all := lw_g (lw_at lw_m1 203 rfl) rfl
theorem q213 : (Jvm.Cond.privateMethod ({ cls := "Zuc128CoreEngine", name := "AddM", desc := "(II)I" } : Jvm.MethodName)) ∈ lw_tbl := lw_at lw_m1 204 rfl
theorem q214 : (Jvm.Cond.instanceMethod ({ cls := "Zuc128CoreEngine", name := "AddM", desc := "(II)I" } : Jvm.MethodName)) ∈ lw_all := lw_g (lw_at lw_m1 205 rfl) rfl
theorem q215 : (Jvm.Cond.code ({ cls := "Zuc128CoreEngine", name := "AddM", desc := "(II)I" } : Jvm.MethodName) prog_8_method_9_code (4 : Nat) (Option.some Jvm.ClassFile.FieldType.int)) ∈ lw_all := lw_g (lw_at lw_m1 206 rfl) rfl
theorem q216 : (Jvm.Cond.methodLink "Zuc128CoreEngine" (149 : Nat) ({ cls := "Zuc128CoreEngine", name := "encode32be", desc := "(I[BI)V" } : Jvm.MethodName)) ∈ lw_all := lw_g (lw_at lw_m1 207 rfl) rfl
theorem q217 : (Jvm.Cond.static ({ cls := "Zuc128CoreEngine", name := "encode32be", desc := "(I[BI)V" } : Jvm.MethodName)) ∈ lw_all := lw_g (lw_at lw_m1 208 rfl) rfl
theorem q218 : (Jvm.Cond.code ({ cls := "Zuc128CoreEngine", name := "encode32be", desc := "(I[BI)V" } : Jvm.MethodName) prog_8_method_8_code (3 : Nat) (Option.none : Option Jvm.ClassFile.FieldType)) ∈ lw_all := lw_g (lw_at lw_m1 209 rfl) rfl
theorem q225 : (Jvm.Cond.declares ({ cls := "Zuc128CoreEngine", name := "returnByte", desc := "(B)B" } : Jvm.MethodName)) ∈ lw_tbl := lw_at lw_m1 216 rfl
theorem q233 : (Jvm.Cond.declares ({ cls := "Zuc128CoreEngine", name := "reset", desc := "()V" } : Jvm.MethodName)) ∈ lw_tbl := lw_at lw_m1 224 rfl
theorem q235 : (Jvm.Cond.instanceMethod ({ cls := "Zuc128CoreEngine", name := "reset", desc := "()V" } : Jvm.MethodName)) ∈ lw_all := lw_g (lw_at lw_m1 226 rfl) rfl
theorem q236 : (Jvm.Cond.code ({ cls := "Zuc128CoreEngine", name := "reset", desc := "()V" } : Jvm.MethodName) prog_8_method_6_code (1 : Nat) (Option.none : Option Jvm.ClassFile.FieldType)) ∈ lw_all := lw_g (lw_at lw_m1 227 rfl) rfl
theorem q237 : (Jvm.Cond.methodLink "Zuc128CoreEngine" (23 : Nat) ({ cls := "Zuc128CoreEngine", name := "reset", desc := "(LMemoable;)V" } : Jvm.MethodName)) ∈ lw_all := lw_g (lw_at lw_m1 228 rfl) rfl
theorem q238 : (Jvm.Cond.instanceMethod ({ cls := "Zuc128CoreEngine", name := "reset", desc := "(LMemoable;)V" } : Jvm.MethodName)) ∈ lw_all := lw_g (lw_at lw_m1 229 rfl) rfl
theorem q239 : (Jvm.Cond.selects "Zuc128CoreEngine" ({ cls := "Zuc128CoreEngine", name := "reset", desc := "(LMemoable;)V" } : Jvm.MethodName) ({ cls := "Zuc128CoreEngine", name := "reset", desc := "(LMemoable;)V" } : Jvm.MethodName)) ∈ lw_all := lw_g (lw_at lw_m1 230 rfl) rfl
theorem q240 : (Jvm.Cond.sameMethod "Zuc128CoreEngine" "Zuc128CoreEngine" "reset" "(LMemoable;)V") ∈ lw_all := lw_g (lw_at lw_m1 231 rfl) rfl
theorem q242 : (Jvm.Cond.code ({ cls := "Zuc128CoreEngine", name := "reset", desc := "(LMemoable;)V" } : Jvm.MethodName) prog_8_method_25_code (3 : Nat) (Option.none : Option Jvm.ClassFile.FieldType)) ∈ lw_all := lw_g (lw_at lw_m1 233 rfl) rfl
theorem q243 : (Jvm.Cond.classLink "Zuc128CoreEngine" (8 : Nat) "Zuc128CoreEngine") ∈ lw_all := lw_g (lw_at lw_m1 234 rfl) rfl
theorem q244 : (Jvm.Cond.methodLink "Zuc128CoreEngine" (161 : Nat) ({ cls := "java/lang/System", name := "arraycopy", desc := "(Ljava/lang/Object;ILjava/lang/Object;II)V" } : Jvm.MethodName)) ∈ lw_all := lw_g (lw_at lw_m1 235 rfl) rfl
theorem q268 : (Jvm.Cond.instanceMethod ({ cls := "Zuc128CoreEngine", name := "<init>", desc := "()V" } : Jvm.MethodName)) ∈ lw_all := lw_g (lw_at lw_m2 19 rfl) rfl
theorem q269 : (Jvm.Cond.code ({ cls := "Zuc128CoreEngine", name := "<init>", desc := "()V" } : Jvm.MethodName) prog_8_method_1_code (1 : Nat) (Option.none : Option Jvm.ClassFile.FieldType)) ∈ lw_all := lw_g (lw_at lw_m2 20 rfl) rfl
theorem q270 : (Jvm.Cond.methodLink "Zuc128CoreEngine" (1 : Nat) ({ cls := "java/lang/Object", name := "<init>", desc := "()V" } : Jvm.MethodName)) ∈ lw_all := lw_g (lw_at lw_m2 21 rfl) rfl
theorem q271 : (Jvm.Cond.fieldLink "Zuc128CoreEngine" (7 : Nat) "Zuc128CoreEngine" "LFSR" "[I") ∈ lw_all := lw_g (lw_at lw_m2 22 rfl) rfl
theorem q272 : (Jvm.Cond.fieldLink "Zuc128CoreEngine" (13 : Nat) "Zuc128CoreEngine" "F" "[I") ∈ lw_all := lw_g (lw_at lw_m2 23 rfl) rfl
theorem q273 : (Jvm.Cond.fieldLink "Zuc128CoreEngine" (16 : Nat) "Zuc128CoreEngine" "BRC" "[I") ∈ lw_all := lw_g (lw_at lw_m2 24 rfl) rfl
theorem q274 : (Jvm.Cond.fieldLink "Zuc128CoreEngine" (42 : Nat) "Zuc128CoreEngine" "theIndex" "I") ∈ lw_all := lw_g (lw_at lw_m2 25 rfl) rfl
theorem q275 : (Jvm.Cond.fieldLink "Zuc128CoreEngine" (19 : Nat) "Zuc128CoreEngine" "keyStream" "[B") ∈ lw_all := lw_g (lw_at lw_m2 26 rfl) rfl
theorem q276 : (Jvm.Cond.fieldLink "Zuc128CoreEngine" (46 : Nat) "Zuc128CoreEngine" "theIterations" "I") ∈ lw_all := lw_g (lw_at lw_m2 27 rfl) rfl
theorem q277 : (Jvm.Cond.fieldLink "Zuc128CoreEngine" (57 : Nat) "Zuc128CoreEngine" "theResetState" "LZuc128CoreEngine;") ∈ lw_all := lw_g (lw_at lw_m2 28 rfl) rfl
theorem q279 : (Jvm.Cond.soleField "Zuc128CoreEngine" "LFSR") ∈ lw_all := lw_g (lw_at lw_m2 30 rfl) rfl
theorem q281 : (Jvm.Cond.soleField "Zuc128CoreEngine" "F") ∈ lw_all := lw_g (lw_at lw_m2 32 rfl) rfl
theorem q283 : (Jvm.Cond.soleField "Zuc128CoreEngine" "BRC") ∈ lw_all := lw_g (lw_at lw_m2 34 rfl) rfl
theorem q285 : (Jvm.Cond.soleField "Zuc128CoreEngine" "theIndex") ∈ lw_all := lw_g (lw_at lw_m2 36 rfl) rfl
theorem q287 : (Jvm.Cond.soleField "Zuc128CoreEngine" "keyStream") ∈ lw_all := lw_g (lw_at lw_m2 38 rfl) rfl
theorem q289 : (Jvm.Cond.soleField "Zuc128CoreEngine" "theIterations") ∈ lw_all := lw_g (lw_at lw_m2 40 rfl) rfl
theorem q291 : (Jvm.Cond.soleField "Zuc128CoreEngine" "theResetState") ∈ lw_all := lw_g (lw_at lw_m2 42 rfl) rfl
theorem q378 : (Jvm.Cond.declares ({ cls := "Zuc128CoreEngine", name := "init", desc := "(ZLCipherParameters;)V" } : Jvm.MethodName)) ∈ lw_tbl := lw_at lw_m2 129 rfl
theorem q380 : (Jvm.Cond.instanceMethod ({ cls := "Zuc128CoreEngine", name := "init", desc := "(ZLCipherParameters;)V" } : Jvm.MethodName)) ∈ lw_all := lw_g (lw_at lw_m2 131 rfl) rfl
theorem q381 : (Jvm.Cond.code ({ cls := "Zuc128CoreEngine", name := "init", desc := "(ZLCipherParameters;)V" } : Jvm.MethodName) prog_8_method_3_code (7 : Nat) (Option.none : Option Jvm.ClassFile.FieldType)) ∈ lw_all := lw_g (lw_at lw_m2 132 rfl) rfl
theorem q382 : (Jvm.Cond.classLink "Zuc128CoreEngine" (27 : Nat) "ParametersWithIV") ∈ lw_all := lw_g (lw_at lw_m2 133 rfl) rfl
theorem q383 : (Jvm.Cond.methodLink "Zuc128CoreEngine" (29 : Nat) ({ cls := "ParametersWithIV", name := "getIV", desc := "()[B" } : Jvm.MethodName)) ∈ lw_all := lw_g (lw_at lw_m2 134 rfl) rfl
theorem q387 : (Jvm.Cond.methodLink "Zuc128CoreEngine" (33 : Nat) ({ cls := "ParametersWithIV", name := "getParameters", desc := "()LCipherParameters;" } : Jvm.MethodName)) ∈ lw_all := lw_g (lw_at lw_m2 138 rfl) rfl
theorem q391 : (Jvm.Cond.classLink "Zuc128CoreEngine" (37 : Nat) "KeyParameter") ∈ lw_all := lw_g (lw_at lw_m2 142 rfl) rfl
theorem q392 : (Jvm.Cond.methodLink "Zuc128CoreEngine" (39 : Nat) ({ cls := "KeyParameter", name := "getKey", desc := "()[B" } : Jvm.MethodName)) ∈ lw_all := lw_g (lw_at lw_m2 143 rfl) rfl
theorem q396 : (Jvm.Cond.methodLink "Zuc128CoreEngine" (49 : Nat) ({ cls := "Zuc128CoreEngine", name := "setKeyAndIV", desc := "([B[B)V" } : Jvm.MethodName)) ∈ lw_all := lw_g (lw_at lw_m2 147 rfl) rfl
theorem q397 : (Jvm.Cond.privateMethod ({ cls := "Zuc128CoreEngine", name := "setKeyAndIV", desc := "([B[B)V" } : Jvm.MethodName)) ∈ lw_tbl := lw_at lw_m2 148 rfl
theorem q398 : (Jvm.Cond.instanceMethod ({ cls := "Zuc128CoreEngine", name := "setKeyAndIV", desc := "([B[B)V" } : Jvm.MethodName)) ∈ lw_all := lw_g (lw_at lw_m2 149 rfl) rfl
theorem q399 : (Jvm.Cond.code ({ cls := "Zuc128CoreEngine", name := "setKeyAndIV", desc := "([B[B)V" } : Jvm.MethodName) prog_8_method_21_code (5 : Nat) (Option.none : Option Jvm.ClassFile.FieldType)) ∈ lw_all := lw_g (lw_at lw_m2 150 rfl) rfl
theorem q400 : (Jvm.Cond.methodLink "Zuc128CoreEngine" (130 : Nat) ({ cls := "Zuc128CoreEngine", name := "setKeyAndIV", desc := "([I[B[B)V" } : Jvm.MethodName)) ∈ lw_all := lw_g (lw_at lw_m2 151 rfl) rfl
theorem q401 : (Jvm.Cond.instanceMethod ({ cls := "Zuc128CoreEngine", name := "setKeyAndIV", desc := "([I[B[B)V" } : Jvm.MethodName)) ∈ lw_all := lw_g (lw_at lw_m2 152 rfl) rfl
theorem q402 : (Jvm.Cond.selects "Zuc128CoreEngine" ({ cls := "Zuc128CoreEngine", name := "setKeyAndIV", desc := "([I[B[B)V" } : Jvm.MethodName) ({ cls := "Zuc128CoreEngine", name := "setKeyAndIV", desc := "([I[B[B)V" } : Jvm.MethodName)) ∈ lw_all := lw_g (lw_at lw_m2 153 rfl) rfl
theorem q403 : (Jvm.Cond.sameMethod "Zuc128CoreEngine" "Zuc128CoreEngine" "setKeyAndIV" "([I[B[B)V") ∈ lw_all := lw_g (lw_at lw_m2 154 rfl) rfl
theorem q405 : (Jvm.Cond.code ({ cls := "Zuc128CoreEngine", name := "setKeyAndIV", desc := "([I[B[B)V" } : Jvm.MethodName) prog_8_method_20_code (4 : Nat) (Option.none : Option Jvm.ClassFile.FieldType)) ∈ lw_all := lw_g (lw_at lw_m2 156 rfl) rfl
theorem q406 : (Jvm.Cond.classLink "Zuc128CoreEngine" (115 : Nat) "java/lang/IllegalArgumentException") ∈ lw_all := lw_g (lw_at lw_m2 157 rfl) rfl
theorem q415 : (Jvm.Cond.stringRef "Zuc128CoreEngine" (117 : Nat) "A key of 16 bytes is needed") ∈ lw_tbl := lw_at lw_m2 166 rfl
theorem q416 : (Jvm.Cond.methodLink "Zuc128CoreEngine" (119 : Nat) ({ cls := "java/lang/IllegalArgumentException", name := "<init>", desc := "(Ljava/lang/String;)V" } : Jvm.MethodName)) ∈ lw_all := lw_g (lw_at lw_m2 167 rfl) rfl
theorem q422 : (Jvm.Cond.stringRef "Zuc128CoreEngine" (120 : Nat) "An IV of 16 bytes is needed") ∈ lw_tbl := lw_at lw_m2 173 rfl
theorem q423 : (Jvm.Cond.fieldLink "Zuc128CoreEngine" (122 : Nat) "Zuc128CoreEngine" "EK_d" "[S") ∈ lw_all := lw_g (lw_at lw_m2 174 rfl) rfl
theorem q424 : (Jvm.Cond.laysStatic "Zuc128CoreEngine" "EK_d" "[S") ∈ lw_tbl := lw_at lw_m2 175 rfl
theorem q425 : (Jvm.Cond.methodLink "Zuc128CoreEngine" (126 : Nat) ({ cls := "Zuc128CoreEngine", name := "MAKEU31", desc := "(BSB)I" } : Jvm.MethodName)) ∈ lw_all := lw_g (lw_at lw_m2 176 rfl) rfl
theorem q426 : (Jvm.Cond.static ({ cls := "Zuc128CoreEngine", name := "MAKEU31", desc := "(BSB)I" } : Jvm.MethodName)) ∈ lw_all := lw_g (lw_at lw_m2 177 rfl) rfl
theorem q427 : (Jvm.Cond.code ({ cls := "Zuc128CoreEngine", name := "MAKEU31", desc := "(BSB)I" } : Jvm.MethodName) prog_8_method_19_code (3 : Nat) (Option.some Jvm.ClassFile.FieldType.int)) ∈ lw_all := lw_g (lw_at lw_m2 178 rfl) rfl
theorem q428 : (Jvm.Cond.methodLink "Zuc128CoreEngine" (139 : Nat) ({ cls := "Zuc128CoreEngine", name := "LFSRWithInitialisationMode", desc := "(I)V" } : Jvm.MethodName)) ∈ lw_all := lw_g (lw_at lw_m2 179 rfl) rfl
theorem q429 : (Jvm.Cond.privateMethod ({ cls := "Zuc128CoreEngine", name := "LFSRWithInitialisationMode", desc := "(I)V" } : Jvm.MethodName)) ∈ lw_tbl := lw_at lw_m2 180 rfl
theorem q430 : (Jvm.Cond.instanceMethod ({ cls := "Zuc128CoreEngine", name := "LFSRWithInitialisationMode", desc := "(I)V" } : Jvm.MethodName)) ∈ lw_all := lw_g (lw_at lw_m2 181 rfl) rfl
theorem q431 : (Jvm.Cond.code ({ cls := "Zuc128CoreEngine", name := "LFSRWithInitialisationMode", desc := "(I)V" } : Jvm.MethodName) prog_8_method_11_code (4 : Nat) (Option.none : Option Jvm.ClassFile.FieldType)) ∈ lw_all := lw_g (lw_at lw_m2 182 rfl) rfl
theorem q432 : (Jvm.Cond.methodLink "Zuc128CoreEngine" (53 : Nat) ({ cls := "Zuc128CoreEngine", name := "copy", desc := "()LMemoable;" } : Jvm.MethodName)) ∈ lw_all := lw_g (lw_at lw_m2 183 rfl) rfl
theorem q433 : (Jvm.Cond.instanceMethod ({ cls := "Zuc128CoreEngine", name := "copy", desc := "()LMemoable;" } : Jvm.MethodName)) ∈ lw_all := lw_g (lw_at lw_m2 184 rfl) rfl
theorem q434 : (Jvm.Cond.selects "Zuc128CoreEngine" ({ cls := "Zuc128CoreEngine", name := "copy", desc := "()LMemoable;" } : Jvm.MethodName) ({ cls := "Zuc128CoreEngine", name := "copy", desc := "()LMemoable;" } : Jvm.MethodName)) ∈ lw_all := lw_g (lw_at lw_m2 185 rfl) rfl
theorem q435 : (Jvm.Cond.sameMethod "Zuc128CoreEngine" "Zuc128CoreEngine" "copy" "()LMemoable;") ∈ lw_all := lw_g (lw_at lw_m2 186 rfl) rfl
theorem q444 : (Jvm.Cond.instanceMethod ({ cls := "Zuc128CoreEngine", name := "<init>", desc := "(LZuc128CoreEngine;)V" } : Jvm.MethodName)) ∈ lw_all := lw_g (lw_at lw_m2 195 rfl) rfl
theorem q445 : (Jvm.Cond.code ({ cls := "Zuc128CoreEngine", name := "<init>", desc := "(LZuc128CoreEngine;)V" } : Jvm.MethodName) prog_8_method_2_code (2 : Nat) (Option.none : Option Jvm.ClassFile.FieldType)) ∈ lw_all := lw_g (lw_at lw_m2 196 rfl) rfl
theorem q446 : (Jvm.Cond.code ({ cls := "Zuc128CoreEngine", name := "copy", desc := "()LMemoable;" } : Jvm.MethodName) prog_8_method_24_code (1 : Nat) (Option.some (Jvm.ClassFile.FieldType.object "Memoable"))) ∈ lw_all := lw_g (lw_at lw_m2 197 rfl) rfl
theorem q447 : (Jvm.Cond.methodLink "Zuc128CoreEngine" (158 : Nat) ({ cls := "Zuc128CoreEngine", name := "<init>", desc := "(LZuc128CoreEngine;)V" } : Jvm.MethodName)) ∈ lw_all := lw_g (lw_at lw_m2 198 rfl) rfl
theorem q448 : (Jvm.Cond.laysFinal "Zuc128CoreEngine" "Zuc128CoreEngine" "LFSR" "[I") ∈ lw_all := lw_g (lw_at lw_m2 199 rfl) rfl
theorem q449 : (Jvm.Cond.laysFinal "Zuc128CoreEngine" "Zuc128CoreEngine" "F" "[I") ∈ lw_all := lw_g (lw_at lw_m2 200 rfl) rfl
theorem q450 : (Jvm.Cond.laysFinal "Zuc128CoreEngine" "Zuc128CoreEngine" "BRC" "[I") ∈ lw_all := lw_g (lw_at lw_m2 201 rfl) rfl
theorem q451 : (Jvm.Cond.lays "Zuc128CoreEngine" "Zuc128CoreEngine" "theIndex" "I") ∈ lw_all := lw_g (lw_at lw_m2 202 rfl) rfl
theorem q452 : (Jvm.Cond.laysFinal "Zuc128CoreEngine" "Zuc128CoreEngine" "keyStream" "[B") ∈ lw_all := lw_g (lw_at lw_m2 203 rfl) rfl
theorem q453 : (Jvm.Cond.lays "Zuc128CoreEngine" "Zuc128CoreEngine" "theIterations" "I") ∈ lw_all := lw_g (lw_at lw_m2 204 rfl) rfl
theorem q454 : (Jvm.Cond.lays "Zuc128CoreEngine" "Zuc128CoreEngine" "theResetState" "LZuc128CoreEngine;") ∈ lw_all := lw_g (lw_at lw_m2 205 rfl) rfl
theorem q455 : (Jvm.Cond.superclass "Zuc128CoreEngine" "java/lang/Object") ∈ lw_all := lw_g (lw_at lw_m2 206 rfl) rfl
theorem q461 : (Jvm.Cond.sameMethod "Zuc128CoreEngine" "Zuc128CoreEngine" "makeKeyStream" "()V") ∈ lw_all := lw_g (lw_at lw_m2 212 rfl) rfl
theorem q462 : (Jvm.Cond.sameMethod "Zuc128CoreEngine" "Zuc128CoreEngine" "BitReorganization" "()V") ∈ lw_all := lw_g (lw_at lw_m2 213 rfl) rfl
theorem q463 : (Jvm.Cond.sameMethod "Zuc128CoreEngine" "Zuc128CoreEngine" "LFSRWithWorkMode" "()V") ∈ lw_all := lw_g (lw_at lw_m2 214 rfl) rfl
theorem q464 : (Jvm.Cond.sameMethod "Zuc128CoreEngine" "Zuc128CoreEngine" "AddM" "(II)I") ∈ lw_all := lw_g (lw_at lw_m2 215 rfl) rfl
theorem q465 : (Jvm.Cond.sameMethod "Zuc128CoreEngine" "Zuc128CoreEngine" "setKeyAndIV" "([B[B)V") ∈ lw_all := lw_g (lw_at lw_m2 216 rfl) rfl
theorem q466 : (Jvm.Cond.sameMethod "Zuc128CoreEngine" "Zuc128CoreEngine" "LFSRWithInitialisationMode" "(I)V") ∈ lw_all := lw_g (lw_at lw_m2 217 rfl) rfl
theorem in_X2 : ∀ w ∈ wsX20, w ∈ lw_all := lw_in wsX20 [448, 449, 450, 451, 452, 453, 454] (by decide +kernel) (by decide +kernel)
end
section
/-! ZUC: THE FRAME OF ALL WALKS (printed by gen/frame.py): the classes, the tables of the statics, the world as data in the goal (ZW), a contract's two ends (zPre, zB), a row an instruction, a row a call -/
set_option maxRecDepth 100000
abbrev zA : Type := Nat → Int32
def zCl : List vw_C := [(RX5, TX5, 1), (RX4, TX4, 2), (RX3, TX3, 7), (RX1, TX1, 8)]
/-- kinds of cells (va_G), int[] and byte[], the cells of S0, S1, EK_d, the law's script: its cell, its length, its ints -/
abbrev zG : Type := va_G × ClassId × ClassId × Nat × Nat × Nat × Nat × Nat × zA
abbrev zgD (G : zG) : va_G := G.1
abbrev zgI (G : zG) : ClassId := G.2.1
abbrev zgB (G : zG) : ClassId := G.2.2.1
abbrev zg0 (G : zG) : Nat := G.2.2.2.1
abbrev zg1 (G : zG) : Nat := G.2.2.2.2.1
abbrev zg2 (G : zG) : Nat := G.2.2.2.2.2.1
abbrev zgb (G : zG) : Nat := G.2.2.2.2.2.2.1
abbrev zgL (G : zG) : Nat := G.2.2.2.2.2.2.2.1
abbrev zgx (G : zG) : zA := G.2.2.2.2.2.2.2.2
abbrev zi (G : zG) (n : Nat) (f : zA) : va_E := .inl (zgI G, n, .inl f)
abbrev zb (G : zG) (n : Nat) (f : zA) : va_E := .inl (zgB G, n, .inl f)
abbrev zo (k : Nat) (fs : List Value) : va_E := .inr (k, fs)
abbrev zTy (G : zG) : List (ClassId × FieldType) := [(zgI G, .int), (zgB G, .byte)]
def zS0l : List Int32 := [62, 114, 91, 71, (-54), (-32), 0, 51, 4, (-47), 84, (-104), 9, (-71), 109, (-53), 123, 27, (-7), 50, (-81), (-99), 106, (-91), (-72), 45, (-4), 29, 8, 83, 3, (-112), 77, 78, (-124), (-103), (-28), (-50), (-39), (-111), (-35), (-74), (-123), 72, (-117), 41, 110, (-84), (-51), (-63), (-8), 30, 115, 67, 105, (-58), (-75), (-67), (-3), 57, 99, 32, (-44), 56, 118, 125, (-78), (-89), (-49), (-19), 87, (-59), (-13), 44, (-69), 20, 33, 6, 85, (-101), (-29), (-17), 94, 49, 79, 127, 90, (-92), 13, (-126), 81, 73, 95, (-70), 88, 28, 74, 22, (-43), 23, (-88), (-110), 36, 31, (-116), (-1), (-40), (-82), 46, 1, (-45), (-83), 59, 75, (-38), 70, (-21), (-55), (-34), (-102), (-113), (-121), (-41), 58, (-128), 111, 47, (-56), (-79), (-76), 55, (-9), 10, 34, 19, 40, 124, (-52), 60, (-119), (-57), (-61), (-106), 86, 7, (-65), 126, (-16), 11, 43, (-105), 82, 53, 65, 121, 97, (-90), 76, 16, (-2), (-68), 38, (-107), (-120), (-118), (-80), (-93), (-5), (-64), 24, (-108), (-14), (-31), (-27), (-23), 93, (-48), (-36), 17, 102, 100, 92, (-20), 89, 66, 117, 18, (-11), 116, (-100), (-86), 35, 14, (-122), (-85), (-66), 42, 2, (-25), 103, (-26), 68, (-94), 108, (-62), (-109), (-97), (-15), (-10), (-6), 54, (-46), 80, 104, (-98), 98, 113, 21, 61, (-42), 64, (-60), (-30), 15, (-114), (-125), 119, 107, 37, 5, 63, 12, 48, (-22), 112, (-73), (-95), (-24), (-87), 101, (-115), 39, 26, (-37), (-127), (-77), (-96), (-12), 69, 122, 25, (-33), (-18), 120, 52, 96]
def zS1l : List Int32 := [85, (-62), 99, 113, 59, (-56), 71, (-122), (-97), 60, (-38), 91, 41, (-86), (-3), 119, (-116), (-59), (-108), 12, (-90), 26, 19, 0, (-29), (-88), 22, 114, 64, (-7), (-8), 66, 68, 38, 104, (-106), (-127), (-39), 69, 62, 16, 118, (-58), (-89), (-117), 57, 67, (-31), 58, (-75), 86, 42, (-64), 109, (-77), 5, 34, 102, (-65), (-36), 11, (-6), 98, 72, (-35), 32, 17, 6, 54, (-55), (-63), (-49), (-10), 39, 82, (-69), 105, (-11), (-44), (-121), 127, (-124), 76, (-46), (-100), 87, (-92), (-68), 79, (-102), (-33), (-2), (-42), (-115), 122, (-21), 43, 83, (-40), 92, (-95), 20, 23, (-5), 35, (-43), 125, 48, 103, 115, 8, 9, (-18), (-73), 112, 63, 97, (-78), 25, (-114), 78, (-27), 75, (-109), (-113), 93, (-37), (-87), (-83), (-15), (-82), 46, (-53), 13, (-4), (-12), 45, 70, 110, 29, (-105), (-24), (-47), (-23), 77, 55, (-91), 117, 94, (-125), (-98), (-85), (-126), (-99), (-71), 28, (-32), (-51), 73, (-119), 1, (-74), (-67), 88, 36, (-94), 95, 56, 120, (-103), 21, (-112), 80, (-72), (-107), (-28), (-48), (-111), (-57), (-50), (-19), 15, (-76), 111, (-96), (-52), (-16), 2, 74, 121, (-61), (-34), (-93), (-17), (-22), 81, (-26), 107, 24, (-20), 27, 44, (-128), (-9), 116, (-25), (-1), 33, 90, 106, 84, 30, 65, 49, (-110), 53, (-60), 51, 7, 10, (-70), 126, 14, 52, (-120), (-79), (-104), 124, (-13), 61, 96, 108, 123, (-54), (-45), 31, 50, 101, 4, 40, 100, (-66), (-123), (-101), 47, 89, (-118), (-41), (-80), 37, (-84), (-81), 18, 3, (-30), (-14)]
def zEKl : List Int32 := [17623, 9916, 25195, 4958, 22409, 13794, 28981, 2479, 19832, 12051, 27588, 6897, 24102, 15437, 30874, 18348]
def zS0 : zA := fun j => zS0l.getD j 0
def zS1 : zA := fun j => zS1l.getD j 0
def zEK : zA := fun j => zEKl.getD j 0
/-- what every method may read and none writes: the statics' tables, the script; and the one castable word -/
def zE (G : zG) (A : Nat → Prop) (U : State) (H : Heap) : Prop :=
  (va_Z "Zuc128CoreEngine" "S0" "[B" (.ref (zg0 G)) A U H ∧ va_T .byte (zg0 G) 256 (fun j => .int (zS0 j)) A U H) ∧
  (va_Z "Zuc128CoreEngine" "S1" "[B" (.ref (zg1 G)) A U H ∧ va_T .byte (zg1 G) 256 (fun j => .int (zS1 j)) A U H) ∧
  (va_Z "Zuc128CoreEngine" "EK_d" "[S" (.ref (zg2 G)) A U H ∧ va_T .short (zg2 G) 16 (fun j => .int (zEK j)) A U H) ∧
  va_Nw (.castable "Zuc128Engine" "Zuc128CoreEngine") U ∧
  (va_X (zgb G) (zgL G) (zgx G) U H ∧ zgb G < H.size ∧ ¬ A (zgb G)) ∧ zgL G ≤ 60
theorem zE.kept {G : zG} {A : Nat → Prop} {U : State} {H H1 : Heap} (h : zE G A U H) (hz : H.size ≤ H1.size) (hq : ∀ a : Nat, a < H.size → ¬ A a → H1[a]? = H[a]?) : zE G A U H1 := by
  obtain ⟨⟨a1, a2⟩, ⟨b1, b2⟩, ⟨c1, c2⟩, d, ⟨e1, e2, e3⟩, f⟩ := h
  exact ⟨⟨a1.kept hq, a2.kept hq⟩, ⟨b1.kept hq, b2.kept hq⟩, ⟨c1.kept hq, c2.kept hq⟩, d, ⟨e1.kept (hq _ e2 e3), Nat.lt_of_lt_of_le e2 hz, e3⟩, f⟩
theorem zE.narrow {G : zG} {A B : Nat → Prop} {U : State} {H : Heap} (h : zE G A U H) (hAB : ∀ q, B q → A q) : zE G B U H := by
  obtain ⟨⟨a1, a2⟩, ⟨b1, b2⟩, ⟨c1, c2⟩, d, ⟨e1, e2, e3⟩, f⟩ := h
  exact ⟨⟨a1.narrow hAB, a2.narrow hAB⟩, ⟨b1.narrow hAB, b2.narrow hAB⟩, ⟨c1.narrow hAB, c2.narrow hAB⟩, d, ⟨e1, e2, fun z => e3 (hAB _ z)⟩, f⟩
theorem zE.moved {G : zG} {A : Nat → Prop} {u U : State} {H : Heap} (hvm : u.vm.Alike U.vm) (h : zE G A u H) : zE G A U H := by
  obtain ⟨⟨a1, a2⟩, ⟨b1, b2⟩, ⟨c1, c2⟩, d, ⟨e1, e2, e3⟩, f⟩ := h
  exact ⟨⟨a1.moved hvm, a2.moved hvm⟩, ⟨b1.moved hvm, b2.moved hvm⟩, ⟨c1.moved hvm, c2.moved hvm⟩, va_tabs rfl (rfl : (u.setVm U.vm).vm = U.vm) (by rw [Cond.castable_setVm hvm]; exact d), ⟨va_X.moved hvm e1, e2, e3⟩, f⟩
/-- a contract's start: the cells wc, apart, in a heap of sz cells -/
def zPre (G : zG) (wc : va_W) (sz : Nat) (U : State) : Prop := U.heap.size = sz ∧ va_P (zgD G) zCl wc U.heap ∧ va_K (zgD G) zCl (zTy G) U ∧ va_D (fun _ => True) wc ∧ zE G (va_A wc sz) U U.heap
/-- a contract's end: the cells w1, apart, among the old ones and new ones -/
def zB (G : zG) (wc : va_W) (sz : Nat) (w1 : va_W) (t : State) : Prop := va_P (zgD G) zCl w1 t.heap ∧ va_D (va_A wc sz) w1
theorem z_blind {G : zG} {wc : va_W} {sz : Nat} {av : List Value} : FrameBlind (va_Pc av (zPre G wc sz)) := by
  intro a U g mk q
  obtain ⟨q0, q1, qP, qK, qD, qE⟩ := q
  exact ⟨q0, q1, qP, va_K.moved (u := U) (U := U.calling g mk a) (Vm.Alike.refl U.vm) qK, qD, zE.moved (u := U) (U := U.calling g mk a) (Vm.Alike.refl U.vm) qE⟩
/-- contracts: void, a number, a reference; the answer and the world behind it are said by post -/
abbrev ZMv (l : Launch) (G : zG) (y : MethodName) (bs : ByteArray) (mL : Nat) (rm : Room) (av : List Value) (wc : va_W) (post : va_W → Prop) : Prop := ∀ sz : Nat, Met l y (ws_ y bs mL none) rm (va_Pc av (zPre G wc sz)) (va_Qv post (zB G wc sz) (va_A wc sz)) rm.cells rm.slots (va_A wc sz)
abbrev ZMi (l : Launch) (G : zG) (y : MethodName) (bs : ByteArray) (mL : Nat) (ty : FieldType) (rm : Room) (av : List Value) (wc : va_W) (post : Int32 → va_W → Prop) : Prop := ∀ sz : Nat, Met l y (ws_ y bs mL (some ty)) rm (va_Pc av (zPre G wc sz)) (va_Qi post (zB G wc sz) (va_A wc sz)) rm.cells rm.slots (va_A wc sz)
abbrev ZMr (l : Launch) (G : zG) (y : MethodName) (bs : ByteArray) (mL : Nat) (ty : FieldType) (rm : Room) (av : List Value) (wc : va_W) (post : Nat → va_W → Prop) : Prop := ∀ sz : Nat, Met l y (ws_ y bs mL (some ty)) rm (va_Pc av (zPre G wc sz)) (va_Qr (fun _ : va_W => True) (fun w1 a t => post a w1 ∧ zB G wc sz w1 t) (va_A wc sz)) rm.cells rm.slots (va_A wc sz)
abbrev zrm (k c s : Nat) : Room := { frames := k, cells := c, slots := s, locals := 30 * k }
/-- all that is fixed in a walk -/
def zFix (p : Program) (s : State) (m : MethodId) (args : Array Value) (meth : Method) (c : Code) (cc : ByteArray) (nL : Nat) (own nm : String) (ret : Option FieldType) (G : zG) (A : Nat → Prop) : Prop :=
  p.tables.exec = Jvm.exec ∧ c.code = cc ∧ c.maxLocals = nL ∧ s.vm.findClass own = some m.cls ∧ (∀ w ∈ lw_all, w.before args s = true) ∧ va_K (zgD G) zCl (zTy G) s ∧ (∀ q : Nat, s.heap.size ≤ q → A q) ∧ zE G A s s.heap ∧ meth.locks = false ∧ meth.name = nm ∧ meth.sig.returnType = ret
/-- the machine at pc, with the world ws, the locals lv, the stack st -/
def ZW (p : Program) (l : Launch) (e : Env) (R : Room) (s : State) (m : MethodId) (args : Array Value) (below : List Frame) (meth : Method) (c : Code) (nL : Nat) (G : zG) (A : Nat → Prop) (Q : State → Prop) (cells slots : Nat) (ws : va_W) (pc : Nat) (lv : List (Nat × Value)) (st : List Value) : Prop :=
  ∀ (H : Heap) (locs : List Loc) (ls : Array Slot), va_P (zgD G) zCl ws H → va_D A ws → va_S A s.heap H locs → lv_has ls nL lv → W p l e R s m args below meth c H locs cells slots Q (F0 m pc ls st)
def zush (x k : Int32) : Int32 := (x.toUInt32 >>> (k.toUInt32 &&& Int32.toUInt32 31)).toInt32
def zb8 (x : Int32) : Int32 := x.toInt8.toInt32
theorem z_in {i : Int32} {n : Nat} (h : (decide (i < 0) || decide (n ≤ i.toNatClampNeg)) = false) : vp_in i n := by
  intro q
  simp only [Bool.or_eq_false_iff, decide_eq_false_iff_not] at h
  rcases q with q | q
  · exact h.1 q
  · exact h.2 q
theorem z_fm {ws w2 : va_W} : ∀ {is : List Nat}, is.map (fun i => ws[i]?) = w2.map some → is.filterMap (fun i => ws[i]?) = w2 := by
  intro is h
  have h2 := congrArg (List.filterMap id) h
  simpa [List.filterMap_map, Function.comp_def] using h2
theorem z_join {A0 : Nat → Prop} {D : va_G} {cl : List vw_C} {wc wr w1 : va_W} {H H1 : Heap} (hP : va_P D cl (wc ++ wr) H) (hD : va_D A0 (wc ++ wr))
    (hk : ∀ q : Nat, q < H.size → ¬ va_A wc H.size q → H1[q]? = H[q]?) (hF : ∀ q, va_A wc H.size q → A0 q) (hP1 : va_P D cl w1 H1) (hD1 : va_D (va_A wc H.size) w1) : va_P D cl (w1 ++ wr) H1 ∧ va_D A0 (w1 ++ wr) := by
  have atr : ∀ (k : Nat) (q : Nat × va_E), wr[k]? = some q → (wc ++ wr)[wc.length + k]? = some q := fun k q hq => by
    rw [List.getElem?_append_right (Nat.le_add_right _ _), Nat.add_sub_cancel_left]; exact hq
  have atc : ∀ (k : Nat) (q : Nat × va_E), wc[k]? = some q → (wc ++ wr)[k]? = some q ∧ k < wc.length := fun k q hq => by
    have hl := (List.getElem?_eq_some_iff.mp hq).1
    exact ⟨by rw [List.getElem?_append_left hl]; exact hq, hl⟩
  have apart : ∀ (k : Nat) (q : Nat × va_E), wr[k]? = some q → q.1 < H.size ∧ ¬ va_A wc H.size q.1 := by
    intro k q hq
    have hl := (hP _ q (atr k q hq)).lt
    refine ⟨hl, fun h => ?_⟩
    rcases h with ⟨k2, e, h⟩ | h
    · obtain ⟨h4, h5⟩ := atc k2 (q.1, e) h
      have hij := hD.1 _ _ q (q.1, e) (atr k q hq) h4 rfl
      omega
    · omega
  refine ⟨va_P.app hP1 (fun k q hq => ?_), va_D.app (hD1.weaken (fun k q _ h => hF q.1 h)) ⟨fun i j x y hx hy hxy => ?_, fun k q hq => hD.2 _ q (atr k q hq)⟩ (fun i j x y hx hy hxy => ?_)⟩
  · obtain ⟨g1, g2⟩ := apart k q hq
    exact (hP _ q (atr k q hq)).kept (hk q.1 g1 g2)
  · have := hD.1 _ _ x y (atr i x hx) (atr j y hy) hxy
    omega
  · exact (apart j y hy).2 (by rw [← hxy]; exact hD1.2 i x hx)
section ZR
variable {p : Program} {l : Launch} {e : Env} {R : Room} {s : State} {m : MethodId} {args : Array Value} {below : List Frame} {meth : Method} {c : Code} {cc : ByteArray} {nL : Nat} {own nm : String} {ret : Option FieldType} {G : zG} {A : Nat → Prop} {Q : State → Prop} {cells slots cells2 slots2 pc n : Nat} {ws ws2 : va_W} {lv : List (Nat × Value)} {rest st : List Value}
theorem zFix.hx (F : zFix p s m args meth c cc nL own nm ret G A) : p.tables.exec = Jvm.exec := F.1
theorem zFix.hb (F : zFix p s m args meth c cc nL own nm ret G A) : c.code = cc := F.2.1
theorem zFix.hml (F : zFix p s m args meth c cc nL own nm ret G A) : c.maxLocals = nL := F.2.2.1
theorem zFix.hown (F : zFix p s m args meth c cc nL own nm ret G A) : s.vm.findClass own = some m.cls := F.2.2.2.1
theorem zFix.hts (F : zFix p s m args meth c cc nL own nm ret G A) : ∀ w ∈ lw_all, w.before args s = true := F.2.2.2.2.1
theorem zFix.hK (F : zFix p s m args meth c cc nL own nm ret G A) : va_K (zgD G) zCl (zTy G) s := F.2.2.2.2.2.1
theorem zFix.hA (F : zFix p s m args meth c cc nL own nm ret G A) : ∀ q : Nat, s.heap.size ≤ q → A q := F.2.2.2.2.2.2.1
theorem zFix.hE (F : zFix p s m args meth c cc nL own nm ret G A) : zE G A s s.heap := F.2.2.2.2.2.2.2.1
theorem zFix.hlk (F : zFix p s m args meth c cc nL own nm ret G A) : meth.locks = false := F.2.2.2.2.2.2.2.2.1
theorem zFix.hnm (F : zFix p s m args meth c cc nL own nm ret G A) : meth.name = nm := F.2.2.2.2.2.2.2.2.2.1
theorem zFix.hret (F : zFix p s m args meth c cc nL own nm ret G A) : meth.sig.returnType = ret := F.2.2.2.2.2.2.2.2.2.2
theorem z_w (h : ws = ws2) (k : ZW p l e R s m args below meth c nL G A Q cells slots ws2 pc lv st) : ZW p l e R s m args below meth c nL G A Q cells slots ws pc lv st := h ▸ k
theorem z_s {st2 : List Value} (h : st = st2) (k : ZW p l e R s m args below meth c nL G A Q cells slots ws pc lv st2) : ZW p l e R s m args below meth c nL G A Q cells slots ws pc lv st := h ▸ k
theorem z_l {lv2 : List (Nat × Value)} (h : lv = lv2) (k : ZW p l e R s m args below meth c nL G A Q cells slots ws pc lv2 st) : ZW p l e R s m args below meth c nL G A Q cells slots ws pc lv st := h ▸ k
theorem z_lsub {lv2 : List (Nat × Value)} (ks : List Nat) (h : lv_pick lv ks = lv2) (k : ZW p l e R s m args below meth c nL G A Q cells slots ws pc lv2 st) : ZW p l e R s m args below meth c nL G A Q cells slots ws pc lv st :=
  fun H locs ls hP hD hS hl => k H locs ls hP hD hS (lv_sub hl ks h)
theorem z_wide (h1 : cells ≤ cells2) (h2 : slots ≤ slots2) (k : ZW p l e R s m args below meth c nL G A Q cells2 slots2 ws pc lv st) : ZW p l e R s m args below meth c nL G A Q cells slots ws pc lv st :=
  fun H locs ls hP hD hS hl => W.widen h1 h2 (k H locs ls hP hD hS hl)
theorem z_pick (is : List Nat) (h : is.map (fun i => ws[i]?) = ws2.map some) (hn : va_nd is = true) (k : ZW p l e R s m args below meth c nL G A Q cells slots ws2 pc lv st) : ZW p l e R s m args below meth c nL G A Q cells slots ws pc lv st :=
  fun H locs ls hP hD hS hl => k H locs ls (hP.sub is (z_fm h)) (hD.sub is hn h) hS hl
theorem z_perm (h : ws.Perm ws2) (k : ZW p l e R s m args below meth c nL G A Q cells slots ws2 pc lv st) : ZW p l e R s m args below meth c nL G A Q cells slots ws pc lv st := by
  intro H locs ls hP hD hS hl
  have hnd : (ws.map Prod.fst).Nodup := by
    rw [List.Nodup, List.pairwise_iff_getElem]
    intro i j hi hj hij heq
    simp only [List.getElem_map, List.length_map] at hi hj heq
    exact absurd (hD.1 i j _ _ (List.getElem?_eq_getElem hi) (List.getElem?_eq_getElem hj) heq) (Nat.ne_of_lt hij)
  have hnd2 : (ws2.map Prod.fst).Nodup := ((h.map Prod.fst).nodup_iff).mp hnd
  refine k H locs ls (fun k2 q hq => ?_) ⟨fun i j x y hx hy hxy => ?_, fun k2 q hq => ?_⟩ hS hl
  · obtain ⟨i, hi⟩ := List.getElem?_of_mem (h.mem_iff.mpr (List.mem_of_getElem? hq))
    exact hP i q hi
  · rw [List.Nodup, List.pairwise_iff_getElem] at hnd2
    obtain ⟨hi, ex⟩ := List.getElem?_eq_some_iff.mp hx
    obtain ⟨hj, ey⟩ := List.getElem?_eq_some_iff.mp hy
    rcases Nat.lt_trichotomy i j with hlt | heq | hlt
    · have hne := hnd2 i j (by simpa using hi) (by simpa using hj) hlt
      simp only [List.getElem_map] at hne
      rw [ex, ey] at hne
      exact absurd hxy hne
    · exact heq
    · have hne := hnd2 j i (by simpa using hj) (by simpa using hi) hlt
      simp only [List.getElem_map] at hne
      rw [ex, ey] at hne
      exact absurd hxy.symm hne
  · obtain ⟨i, hi⟩ := List.getElem?_of_mem (h.mem_iff.mpr (List.mem_of_getElem? hq))
    exact hD.2 i q hi
/-- an array's content may be said by any function that agrees on its places -/
theorem z_ext (q0 : Nat) {a : Nat} {cA : ClassId} {N : Nat} {f : zA} (g : zA) (he : ws[q0]? = some (a, .inl (cA, N, .inl f))) (hfg : ∀ j : Nat, j < N → f j = g j) (hw : ws.set q0 (a, .inl (cA, N, .inl g)) = ws2)
    (k : ZW p l e R s m args below meth c nL G A Q cells slots ws2 pc lv st) : ZW p l e R s m args below meth c nL G A Q cells slots ws pc lv st := by
  subst hw
  intro H locs ls hP hD hS hl
  have e1 : vp_cell cA (N, .inl f) = vp_cell cA (N, .inl g) := by
    show arrV cA N (fun j => .int (f j)) = arrV cA N (fun j => .int (g j))
    unfold arrV
    congr 1
    apply Array.ext
    · simp
    · intro i h1 h2
      simp only [Array.getElem_ofFn]
      rw [hfg i (by simpa using h1)]
  refine k H locs ls (fun k2 q hq => ?_) (hD.set (e := .inl (cA, N, .inl g)) he) hS hl
  by_cases hk : k2 = q0
  · subst hk
    have hlt : k2 < ws.length := (List.getElem?_eq_some_iff.mp he).1
    rw [List.getElem?_set_self hlt] at hq
    cases hq
    have h0 : H[a]? = some (vp_cell cA (N, .inl f)) := hP k2 _ he
    show H[a]? = some (vp_cell cA (N, .inl g))
    rw [← e1]; exact h0
  · rw [List.getElem?_set_ne (Ne.symm hk)] at hq
    exact hP k2 q hq
theorem z_topi {x : Int32} (k : ∀ y : Int32, y = x → ZW p l e R s m args below meth c nL G A Q cells slots ws pc lv (.int y :: rest)) : ZW p l e R s m args below meth c nL G A Q cells slots ws pc lv (.int x :: rest) := k x rfl
theorem z_re {x y : Int32} (h : x = y) (k : ZW p l e R s m args below meth c nL G A Q cells slots ws pc lv (.int y :: rest)) : ZW p l e R s m args below meth c nL G A Q cells slots ws pc lv (.int x :: rest) := h ▸ k
theorem z_iconst (F : zFix p s m args meth c cc nL own nm ret G A) {j : Int} (v : Int32) (hdg : decode cc pc = .ok (.iconst j, 1)) (hv : Int32.ofInt j = v) (hn : pc + 1 = n) (k : ZW p l e R s m args below meth c nL G A Q cells slots ws n lv (.int v :: rest)) : ZW p l e R s m args below meth c nL G A Q cells slots ws pc lv (rest) := by
  subst hn; intro H locs ls hP hD hS hl; exact lv_iconst F.hx F.hb hdg hv (k H locs ls hP hD hS hl)
theorem z_bipush (F : zFix p s m args meth c cc nL own nm ret G A) {j : Int} (v : Int32) (hdg : decode cc pc = .ok (.bipush j, 2)) (hv : (Int8.ofInt j).toInt32 = v) (hn : pc + 2 = n) (k : ZW p l e R s m args below meth c nL G A Q cells slots ws n lv (.int v :: rest)) : ZW p l e R s m args below meth c nL G A Q cells slots ws pc lv (rest) := by
  subst hn; intro H locs ls hP hD hS hl; exact lv_bipush F.hx F.hb hdg hv (k H locs ls hP hD hS hl)
theorem z_sipush (F : zFix p s m args meth c cc nL own nm ret G A) {j : Int} (v : Int32) (hdg : decode cc pc = .ok (.sipush j, 3)) (hv : (Int16.ofInt j).toInt32 = v) (hn : pc + 3 = n) (k : ZW p l e R s m args below meth c nL G A Q cells slots ws n lv (.int v :: rest)) : ZW p l e R s m args below meth c nL G A Q cells slots ws pc lv (rest) := by
  subst hn; intro H locs ls hP hD hS hl; exact lv_sipush F.hx F.hb hdg hv (k H locs ls hP hD hS hl)
theorem z_ldc (F : zFix p s m args meth c cc nL own nm ret G A) {index : Nat} {v : Int32} (hc : Jvm.Cond.constant own index v ∈ lw_all) (hdg : decode cc pc = .ok (.ldc index, 2)) (hn : pc + 2 = n) (k : ZW p l e R s m args below meth c nL G A Q cells slots ws n lv (.int v :: rest)) : ZW p l e R s m args below meth c nL G A Q cells slots ws pc lv (rest) := by
  subst hn; intro H locs ls hP hD hS hl; exact lv_ldc F.hx F.hb F.hown (F.hts _ hc) hdg (k H locs ls hP hD hS hl)
theorem z_null (F : zFix p s m args meth c cc nL own nm ret G A) (hdg : decode cc pc = .ok (.aconst_null, 1)) (hn : pc + 1 = n) (k : ZW p l e R s m args below meth c nL G A Q cells slots ws n lv (.null :: rest)) : ZW p l e R s m args below meth c nL G A Q cells slots ws pc lv (rest) := by
  subst hn; intro H locs ls hP hD hS hl; exact lv_null F.hx F.hb hdg (k H locs ls hP hD hS hl)
theorem z_iload_n (F : zFix p s m args meth c cc nL own nm ret G A) (q : Nat) {j : Fin 4} {i : Nat} {x : Int32} (hdg : decode cc pc = .ok (.iload_n j, 1)) (hi : (j : Nat) = i) (hq : lv[q]? = some (i, .int x)) (hn : pc + 1 = n) (k : ZW p l e R s m args below meth c nL G A Q cells slots ws n lv (.int x :: rest)) : ZW p l e R s m args below meth c nL G A Q cells slots ws pc lv (rest) := by
  subst hn; intro H locs ls hP hD hS hl; exact lv_iload_n F.hx F.hb hdg hi (lv_at hl q hq) (k H locs ls hP hD hS hl)
theorem z_iload (F : zFix p s m args meth c cc nL own nm ret G A) (q : Nat) {i : Nat} {x : Int32} (hdg : decode cc pc = .ok (.iload i, 2)) (hq : lv[q]? = some (i, .int x)) (hn : pc + 2 = n) (k : ZW p l e R s m args below meth c nL G A Q cells slots ws n lv (.int x :: rest)) : ZW p l e R s m args below meth c nL G A Q cells slots ws pc lv (rest) := by
  subst hn; intro H locs ls hP hD hS hl; exact lv_iload F.hx F.hb hdg (lv_at hl q hq) (k H locs ls hP hD hS hl)
theorem z_aload_n (F : zFix p s m args meth c cc nL own nm ret G A) (q : Nat) {j : Fin 4} {i : Nat} {x : Nat} (hdg : decode cc pc = .ok (.aload_n j, 1)) (hi : (j : Nat) = i) (hq : lv[q]? = some (i, .ref x)) (hn : pc + 1 = n) (k : ZW p l e R s m args below meth c nL G A Q cells slots ws n lv (.ref x :: rest)) : ZW p l e R s m args below meth c nL G A Q cells slots ws pc lv (rest) := by
  subst hn; intro H locs ls hP hD hS hl; exact lv_aload_n F.hx F.hb hdg hi (lv_at hl q hq) (k H locs ls hP hD hS hl)
theorem z_aload (F : zFix p s m args meth c cc nL own nm ret G A) (q : Nat) {i : Nat} {x : Nat} (hdg : decode cc pc = .ok (.aload i, 2)) (hq : lv[q]? = some (i, .ref x)) (hn : pc + 2 = n) (k : ZW p l e R s m args below meth c nL G A Q cells slots ws n lv (.ref x :: rest)) : ZW p l e R s m args below meth c nL G A Q cells slots ws pc lv (rest) := by
  subst hn; intro H locs ls hP hD hS hl; exact lv_aload F.hx F.hb hdg (lv_at hl q hq) (k H locs ls hP hD hS hl)
theorem z_istore_n (F : zFix p s m args meth c cc nL own nm ret G A) {j : Fin 4} {i : Nat} {x : Int32} (lv2 : List (Nat × Value)) (hdg : decode cc pc = .ok (.istore_n j, 1)) (hi : (j : Nat) = i) (hin : i < nL) (hl2 : (i, Value.int x) :: lv.filter (fun q => !(q.1 == i) && !(q.1 + 1 == i && q.2.category == 2)) = lv2) (hn : pc + 1 = n) (k : ZW p l e R s m args below meth c nL G A Q cells slots ws n lv2 (rest)) : ZW p l e R s m args below meth c nL G A Q cells slots ws pc lv (Value.int x :: rest) := by
  subst hn; intro H locs ls hP hD hS hl; exact lv_istore_n F.hx F.hb hdg hi hl hin hl2 (fun ls2 h2 => k H locs ls2 hP hD hS h2)
theorem z_istore (F : zFix p s m args meth c cc nL own nm ret G A) {i : Nat} {x : Int32} (lv2 : List (Nat × Value)) (hdg : decode cc pc = .ok (.istore i, 2)) (hin : i < nL) (hl2 : (i, Value.int x) :: lv.filter (fun q => !(q.1 == i) && !(q.1 + 1 == i && q.2.category == 2)) = lv2) (hn : pc + 2 = n) (k : ZW p l e R s m args below meth c nL G A Q cells slots ws n lv2 (rest)) : ZW p l e R s m args below meth c nL G A Q cells slots ws pc lv (Value.int x :: rest) := by
  subst hn; intro H locs ls hP hD hS hl; exact lv_istore F.hx F.hb hdg hl hin hl2 (fun ls2 h2 => k H locs ls2 hP hD hS h2)
theorem z_astore_n (F : zFix p s m args meth c cc nL own nm ret G A) {j : Fin 4} {i : Nat} {x : Nat} (lv2 : List (Nat × Value)) (hdg : decode cc pc = .ok (.astore_n j, 1)) (hi : (j : Nat) = i) (hin : i < nL) (hl2 : (i, Value.ref x) :: lv.filter (fun q => !(q.1 == i) && !(q.1 + 1 == i && q.2.category == 2)) = lv2) (hn : pc + 1 = n) (k : ZW p l e R s m args below meth c nL G A Q cells slots ws n lv2 (rest)) : ZW p l e R s m args below meth c nL G A Q cells slots ws pc lv (Value.ref x :: rest) := by
  subst hn; intro H locs ls hP hD hS hl; exact lv_astore_n F.hx F.hb hdg hi hl hin hl2 (fun ls2 h2 => k H locs ls2 hP hD hS h2)
theorem z_astore (F : zFix p s m args meth c cc nL own nm ret G A) {i : Nat} {x : Nat} (lv2 : List (Nat × Value)) (hdg : decode cc pc = .ok (.astore i, 2)) (hin : i < nL) (hl2 : (i, Value.ref x) :: lv.filter (fun q => !(q.1 == i) && !(q.1 + 1 == i && q.2.category == 2)) = lv2) (hn : pc + 2 = n) (k : ZW p l e R s m args below meth c nL G A Q cells slots ws n lv2 (rest)) : ZW p l e R s m args below meth c nL G A Q cells slots ws pc lv (Value.ref x :: rest) := by
  subst hn; intro H locs ls hP hD hS hl; exact lv_astore F.hx F.hb hdg hl hin hl2 (fun ls2 h2 => k H locs ls2 hP hD hS h2)
theorem z_astore_nN (F : zFix p s m args meth c cc nL own nm ret G A) {j : Fin 4} {i : Nat} (lv2 : List (Nat × Value)) (hdg : decode cc pc = .ok (.astore_n j, 1)) (hi : (j : Nat) = i) (hin : i < nL) (hl2 : (i, Value.null) :: lv.filter (fun q => !(q.1 == i) && !(q.1 + 1 == i && q.2.category == 2)) = lv2) (hn : pc + 1 = n) (k : ZW p l e R s m args below meth c nL G A Q cells slots ws n lv2 (rest)) : ZW p l e R s m args below meth c nL G A Q cells slots ws pc lv (Value.null :: rest) := by
  subst hn; intro H locs ls hP hD hS hl; exact lv_astore_nN F.hx F.hb hdg hi hl hin hl2 (fun ls2 h2 => k H locs ls2 hP hD hS h2)
theorem z_astoreN (F : zFix p s m args meth c cc nL own nm ret G A) {i : Nat} (lv2 : List (Nat × Value)) (hdg : decode cc pc = .ok (.astore i, 2)) (hin : i < nL) (hl2 : (i, Value.null) :: lv.filter (fun q => !(q.1 == i) && !(q.1 + 1 == i && q.2.category == 2)) = lv2) (hn : pc + 2 = n) (k : ZW p l e R s m args below meth c nL G A Q cells slots ws n lv2 (rest)) : ZW p l e R s m args below meth c nL G A Q cells slots ws pc lv (Value.null :: rest) := by
  subst hn; intro H locs ls hP hD hS hl; exact lv_astoreN F.hx F.hb hdg hl hin hl2 (fun ls2 h2 => k H locs ls2 hP hD hS h2)
theorem z_iinc (F : zFix p s m args meth c cc nL own nm ret G A) (q : Nat) {i : Nat} {j : Int} {x : Int32} (v : Int32) (lv2 : List (Nat × Value)) (hdg : decode cc pc = .ok (.iinc i j, 3)) (hq : lv[q]? = some (i, .int x)) (hv : x + Int32.ofInt j = v) (hin : i < nL) (hl2 : (i, Value.int v) :: lv.filter (fun q => !(q.1 == i) && !(q.1 + 1 == i && q.2.category == 2)) = lv2) (hn : pc + 3 = n) (k : ZW p l e R s m args below meth c nL G A Q cells slots ws n lv2 (rest)) : ZW p l e R s m args below meth c nL G A Q cells slots ws pc lv (rest) := by
  subst hn; intro H locs ls hP hD hS hl; exact lv_iinc F.hx F.hb hdg hl hq hv hin hl2 (fun ls2 h2 => k H locs ls2 hP hD hS h2)
theorem z_iadd (F : zFix p s m args meth c cc nL own nm ret G A) {x y : Int32} (hdg : decode cc pc = .ok (.iadd, 1)) (hn : pc + 1 = n) (k : ZW p l e R s m args below meth c nL G A Q cells slots ws n lv (.int (x + y) :: rest)) : ZW p l e R s m args below meth c nL G A Q cells slots ws pc lv (.int y :: .int x :: rest) := by
  subst hn; intro H locs ls hP hD hS hl; exact lv_iadd F.hx F.hb hdg (k H locs ls hP hD hS hl)
theorem z_isub (F : zFix p s m args meth c cc nL own nm ret G A) {x y : Int32} (hdg : decode cc pc = .ok (.isub, 1)) (hn : pc + 1 = n) (k : ZW p l e R s m args below meth c nL G A Q cells slots ws n lv (.int (x - y) :: rest)) : ZW p l e R s m args below meth c nL G A Q cells slots ws pc lv (.int y :: .int x :: rest) := by
  subst hn; intro H locs ls hP hD hS hl; exact lv_isub F.hx F.hb hdg (k H locs ls hP hD hS hl)
theorem z_imul (F : zFix p s m args meth c cc nL own nm ret G A) {x y : Int32} (hdg : decode cc pc = .ok (.imul, 1)) (hn : pc + 1 = n) (k : ZW p l e R s m args below meth c nL G A Q cells slots ws n lv (.int (x * y) :: rest)) : ZW p l e R s m args below meth c nL G A Q cells slots ws pc lv (.int y :: .int x :: rest) := by
  subst hn; intro H locs ls hP hD hS hl; exact lv_imul F.hx F.hb hdg (k H locs ls hP hD hS hl)
theorem z_iand (F : zFix p s m args meth c cc nL own nm ret G A) {x y : Int32} (hdg : decode cc pc = .ok (.iand, 1)) (hn : pc + 1 = n) (k : ZW p l e R s m args below meth c nL G A Q cells slots ws n lv (.int (x &&& y) :: rest)) : ZW p l e R s m args below meth c nL G A Q cells slots ws pc lv (.int y :: .int x :: rest) := by
  subst hn; intro H locs ls hP hD hS hl; exact lv_iand F.hx F.hb hdg (k H locs ls hP hD hS hl)
theorem z_ior (F : zFix p s m args meth c cc nL own nm ret G A) {x y : Int32} (hdg : decode cc pc = .ok (.ior, 1)) (hn : pc + 1 = n) (k : ZW p l e R s m args below meth c nL G A Q cells slots ws n lv (.int (x ||| y) :: rest)) : ZW p l e R s m args below meth c nL G A Q cells slots ws pc lv (.int y :: .int x :: rest) := by
  subst hn; intro H locs ls hP hD hS hl; exact lv_ior F.hx F.hb hdg (k H locs ls hP hD hS hl)
theorem z_ixor (F : zFix p s m args meth c cc nL own nm ret G A) {x y : Int32} (hdg : decode cc pc = .ok (.ixor, 1)) (hn : pc + 1 = n) (k : ZW p l e R s m args below meth c nL G A Q cells slots ws n lv (.int (x ^^^ y) :: rest)) : ZW p l e R s m args below meth c nL G A Q cells slots ws pc lv (.int y :: .int x :: rest) := by
  subst hn; intro H locs ls hP hD hS hl; exact lv_ixor F.hx F.hb hdg (k H locs ls hP hD hS hl)
theorem z_ishl (F : zFix p s m args meth c cc nL own nm ret G A) {x y : Int32} (hdg : decode cc pc = .ok (.ishl, 1)) (hn : pc + 1 = n) (k : ZW p l e R s m args below meth c nL G A Q cells slots ws n lv (.int (x <<< (y &&& 31)) :: rest)) : ZW p l e R s m args below meth c nL G A Q cells slots ws pc lv (.int y :: .int x :: rest) := by
  subst hn; intro H locs ls hP hD hS hl; exact lv_ishl F.hx F.hb hdg (k H locs ls hP hD hS hl)
theorem z_ishr (F : zFix p s m args meth c cc nL own nm ret G A) {x y : Int32} (hdg : decode cc pc = .ok (.ishr, 1)) (hn : pc + 1 = n) (k : ZW p l e R s m args below meth c nL G A Q cells slots ws n lv (.int (x >>> (y &&& 31)) :: rest)) : ZW p l e R s m args below meth c nL G A Q cells slots ws pc lv (.int y :: .int x :: rest) := by
  subst hn; intro H locs ls hP hD hS hl; exact lv_ishr F.hx F.hb hdg (k H locs ls hP hD hS hl)
theorem z_iushr (F : zFix p s m args meth c cc nL own nm ret G A) {x y : Int32} (hdg : decode cc pc = .ok (.iushr, 1)) (hn : pc + 1 = n) (k : ZW p l e R s m args below meth c nL G A Q cells slots ws n lv (.int (zush x y) :: rest)) : ZW p l e R s m args below meth c nL G A Q cells slots ws pc lv (.int y :: .int x :: rest) := by
  subst hn; intro H locs ls hP hD hS hl; exact lv_iushr F.hx F.hb hdg rfl (k H locs ls hP hD hS hl)
theorem z_idiv (F : zFix p s m args meth c cc nL own nm ret G A) {x y : Int32} (hdg : decode cc pc = .ok (.idiv, 1)) (hne : ¬ y = 0) (hn : pc + 1 = n) (k : ZW p l e R s m args below meth c nL G A Q cells slots ws n lv (.int (x / y) :: rest)) : ZW p l e R s m args below meth c nL G A Q cells slots ws pc lv (.int y :: .int x :: rest) := by
  subst hn; intro H locs ls hP hD hS hl; exact lv_idiv F.hx F.hb hdg hne (k H locs ls hP hD hS hl)
theorem z_irem (F : zFix p s m args meth c cc nL own nm ret G A) {x y : Int32} (hdg : decode cc pc = .ok (.irem, 1)) (hne : ¬ y = 0) (hn : pc + 1 = n) (k : ZW p l e R s m args below meth c nL G A Q cells slots ws n lv (.int (x - x / y * y) :: rest)) : ZW p l e R s m args below meth c nL G A Q cells slots ws pc lv (.int y :: .int x :: rest) := by
  subst hn; intro H locs ls hP hD hS hl; exact lv_irem F.hx F.hb hdg hne (k H locs ls hP hD hS hl)
theorem z_i2b (F : zFix p s m args meth c cc nL own nm ret G A) {x : Int32} (hdg : decode cc pc = .ok (.i2b, 1)) (hn : pc + 1 = n) (k : ZW p l e R s m args below meth c nL G A Q cells slots ws n lv (.int (zb8 x) :: rest)) : ZW p l e R s m args below meth c nL G A Q cells slots ws pc lv (.int x :: rest) := by
  subst hn; intro H locs ls hP hD hS hl; exact lv_i2b F.hx F.hb hdg rfl (k H locs ls hP hD hS hl)
theorem z_dup (F : zFix p s m args meth c cc nL own nm ret G A) {va : Value} (hdg : decode cc pc = .ok (.dup, 1)) (hva : va.category = 1) (hn : pc + 1 = n) (k : ZW p l e R s m args below meth c nL G A Q cells slots ws n lv (va :: va :: rest)) : ZW p l e R s m args below meth c nL G A Q cells slots ws pc lv (va :: rest) := by
  subst hn; intro H locs ls hP hD hS hl; exact lv_dup F.hx F.hb hdg hva (k H locs ls hP hD hS hl)
theorem z_pop (F : zFix p s m args meth c cc nL own nm ret G A) {va : Value} (hdg : decode cc pc = .ok (.pop, 1)) (hva : va.category = 1) (hn : pc + 1 = n) (k : ZW p l e R s m args below meth c nL G A Q cells slots ws n lv (rest)) : ZW p l e R s m args below meth c nL G A Q cells slots ws pc lv (va :: rest) := by
  subst hn; intro H locs ls hP hD hS hl; exact lv_pop F.hx F.hb hdg hva (k H locs ls hP hD hS hl)
theorem z_dup_x1 (F : zFix p s m args meth c cc nL own nm ret G A) {va vb : Value} (hdg : decode cc pc = .ok (.dup_x1, 1)) (hva : va.category = 1) (hvb : vb.category = 1) (hn : pc + 1 = n) (k : ZW p l e R s m args below meth c nL G A Q cells slots ws n lv (va :: vb :: va :: rest)) : ZW p l e R s m args below meth c nL G A Q cells slots ws pc lv (va :: vb :: rest) := by
  subst hn; intro H locs ls hP hD hS hl; exact lv_dup_x1 F.hx F.hb hdg hva hvb (k H locs ls hP hD hS hl)
theorem z_if_eq (F : zFix p s m args meth c cc nL own nm ret G A) {x : Int32} {off : Int} {tgt : Nat} (hdg : decode cc pc = .ok (.ifCond .eq off, 3)) (ht : (pc : Int) + off = (tgt : Int)) (hn : pc + 3 = n) (kt : x = 0 → ZW p l e R s m args below meth c nL G A Q cells slots ws tgt lv (rest)) (kf : ¬ x = 0 → ZW p l e R s m args below meth c nL G A Q cells slots ws n lv (rest)) : ZW p l e R s m args below meth c nL G A Q cells slots ws pc lv (.int x :: rest) := by
  subst hn; intro H locs ls hP hD hS hl; exact lv_if_eq F.hx F.hb hdg ht (fun q => kt q H locs ls hP hD hS hl) (fun q => kf q H locs ls hP hD hS hl)
theorem z_if_eq_t (F : zFix p s m args meth c cc nL own nm ret G A) {x : Int32} {off : Int} {tgt : Nat} (hdg : decode cc pc = .ok (.ifCond .eq off, 3)) (ht : (pc : Int) + off = (tgt : Int)) (hc : x = 0) (k : ZW p l e R s m args below meth c nL G A Q cells slots ws tgt lv (rest)) : ZW p l e R s m args below meth c nL G A Q cells slots ws pc lv (.int x :: rest) := z_if_eq F hdg ht rfl (fun _ => k) (fun q => absurd hc q)
theorem z_if_eq_f (F : zFix p s m args meth c cc nL own nm ret G A) {x : Int32} {off : Int} {tgt : Nat} (hdg : decode cc pc = .ok (.ifCond .eq off, 3)) (ht : (pc : Int) + off = (tgt : Int)) (hc : ¬ x = 0) (hn : pc + 3 = n) (k : ZW p l e R s m args below meth c nL G A Q cells slots ws n lv (rest)) : ZW p l e R s m args below meth c nL G A Q cells slots ws pc lv (.int x :: rest) := z_if_eq F hdg ht hn (fun q => absurd q hc) (fun _ => k)
theorem z_if_ne (F : zFix p s m args meth c cc nL own nm ret G A) {x : Int32} {off : Int} {tgt : Nat} (hdg : decode cc pc = .ok (.ifCond .ne off, 3)) (ht : (pc : Int) + off = (tgt : Int)) (hn : pc + 3 = n) (kt : ¬ x = 0 → ZW p l e R s m args below meth c nL G A Q cells slots ws tgt lv (rest)) (kf : x = 0 → ZW p l e R s m args below meth c nL G A Q cells slots ws n lv (rest)) : ZW p l e R s m args below meth c nL G A Q cells slots ws pc lv (.int x :: rest) := by
  subst hn; intro H locs ls hP hD hS hl; exact lv_if_ne F.hx F.hb hdg ht (fun q => kt q H locs ls hP hD hS hl) (fun q => kf q H locs ls hP hD hS hl)
theorem z_if_ne_t (F : zFix p s m args meth c cc nL own nm ret G A) {x : Int32} {off : Int} {tgt : Nat} (hdg : decode cc pc = .ok (.ifCond .ne off, 3)) (ht : (pc : Int) + off = (tgt : Int)) (hc : ¬ x = 0) (k : ZW p l e R s m args below meth c nL G A Q cells slots ws tgt lv (rest)) : ZW p l e R s m args below meth c nL G A Q cells slots ws pc lv (.int x :: rest) := z_if_ne F hdg ht rfl (fun _ => k) (fun q => absurd q hc)
theorem z_if_ne_f (F : zFix p s m args meth c cc nL own nm ret G A) {x : Int32} {off : Int} {tgt : Nat} (hdg : decode cc pc = .ok (.ifCond .ne off, 3)) (ht : (pc : Int) + off = (tgt : Int)) (hc : x = 0) (hn : pc + 3 = n) (k : ZW p l e R s m args below meth c nL G A Q cells slots ws n lv (rest)) : ZW p l e R s m args below meth c nL G A Q cells slots ws pc lv (.int x :: rest) := z_if_ne F hdg ht hn (fun q => absurd hc q) (fun _ => k)
theorem z_if_lt (F : zFix p s m args meth c cc nL own nm ret G A) {x : Int32} {off : Int} {tgt : Nat} (hdg : decode cc pc = .ok (.ifCond .lt off, 3)) (ht : (pc : Int) + off = (tgt : Int)) (hn : pc + 3 = n) (kt : x < 0 → ZW p l e R s m args below meth c nL G A Q cells slots ws tgt lv (rest)) (kf : ¬ x < 0 → ZW p l e R s m args below meth c nL G A Q cells slots ws n lv (rest)) : ZW p l e R s m args below meth c nL G A Q cells slots ws pc lv (.int x :: rest) := by
  subst hn; intro H locs ls hP hD hS hl; exact lv_if_lt F.hx F.hb hdg ht (fun q => kt q H locs ls hP hD hS hl) (fun q => kf q H locs ls hP hD hS hl)
theorem z_if_lt_t (F : zFix p s m args meth c cc nL own nm ret G A) {x : Int32} {off : Int} {tgt : Nat} (hdg : decode cc pc = .ok (.ifCond .lt off, 3)) (ht : (pc : Int) + off = (tgt : Int)) (hc : x < 0) (k : ZW p l e R s m args below meth c nL G A Q cells slots ws tgt lv (rest)) : ZW p l e R s m args below meth c nL G A Q cells slots ws pc lv (.int x :: rest) := z_if_lt F hdg ht rfl (fun _ => k) (fun q => absurd hc q)
theorem z_if_lt_f (F : zFix p s m args meth c cc nL own nm ret G A) {x : Int32} {off : Int} {tgt : Nat} (hdg : decode cc pc = .ok (.ifCond .lt off, 3)) (ht : (pc : Int) + off = (tgt : Int)) (hc : ¬ x < 0) (hn : pc + 3 = n) (k : ZW p l e R s m args below meth c nL G A Q cells slots ws n lv (rest)) : ZW p l e R s m args below meth c nL G A Q cells slots ws pc lv (.int x :: rest) := z_if_lt F hdg ht hn (fun q => absurd q hc) (fun _ => k)
theorem z_if_ge (F : zFix p s m args meth c cc nL own nm ret G A) {x : Int32} {off : Int} {tgt : Nat} (hdg : decode cc pc = .ok (.ifCond .ge off, 3)) (ht : (pc : Int) + off = (tgt : Int)) (hn : pc + 3 = n) (kt : 0 ≤ x → ZW p l e R s m args below meth c nL G A Q cells slots ws tgt lv (rest)) (kf : ¬ 0 ≤ x → ZW p l e R s m args below meth c nL G A Q cells slots ws n lv (rest)) : ZW p l e R s m args below meth c nL G A Q cells slots ws pc lv (.int x :: rest) := by
  subst hn; intro H locs ls hP hD hS hl; exact lv_if_ge F.hx F.hb hdg ht (fun q => kt q H locs ls hP hD hS hl) (fun q => kf q H locs ls hP hD hS hl)
theorem z_if_ge_t (F : zFix p s m args meth c cc nL own nm ret G A) {x : Int32} {off : Int} {tgt : Nat} (hdg : decode cc pc = .ok (.ifCond .ge off, 3)) (ht : (pc : Int) + off = (tgt : Int)) (hc : 0 ≤ x) (k : ZW p l e R s m args below meth c nL G A Q cells slots ws tgt lv (rest)) : ZW p l e R s m args below meth c nL G A Q cells slots ws pc lv (.int x :: rest) := z_if_ge F hdg ht rfl (fun _ => k) (fun q => absurd hc q)
theorem z_if_ge_f (F : zFix p s m args meth c cc nL own nm ret G A) {x : Int32} {off : Int} {tgt : Nat} (hdg : decode cc pc = .ok (.ifCond .ge off, 3)) (ht : (pc : Int) + off = (tgt : Int)) (hc : ¬ 0 ≤ x) (hn : pc + 3 = n) (k : ZW p l e R s m args below meth c nL G A Q cells slots ws n lv (rest)) : ZW p l e R s m args below meth c nL G A Q cells slots ws pc lv (.int x :: rest) := z_if_ge F hdg ht hn (fun q => absurd q hc) (fun _ => k)
theorem z_if_gt (F : zFix p s m args meth c cc nL own nm ret G A) {x : Int32} {off : Int} {tgt : Nat} (hdg : decode cc pc = .ok (.ifCond .gt off, 3)) (ht : (pc : Int) + off = (tgt : Int)) (hn : pc + 3 = n) (kt : 0 < x → ZW p l e R s m args below meth c nL G A Q cells slots ws tgt lv (rest)) (kf : ¬ 0 < x → ZW p l e R s m args below meth c nL G A Q cells slots ws n lv (rest)) : ZW p l e R s m args below meth c nL G A Q cells slots ws pc lv (.int x :: rest) := by
  subst hn; intro H locs ls hP hD hS hl; exact lv_if_gt F.hx F.hb hdg ht (fun q => kt q H locs ls hP hD hS hl) (fun q => kf q H locs ls hP hD hS hl)
theorem z_if_gt_t (F : zFix p s m args meth c cc nL own nm ret G A) {x : Int32} {off : Int} {tgt : Nat} (hdg : decode cc pc = .ok (.ifCond .gt off, 3)) (ht : (pc : Int) + off = (tgt : Int)) (hc : 0 < x) (k : ZW p l e R s m args below meth c nL G A Q cells slots ws tgt lv (rest)) : ZW p l e R s m args below meth c nL G A Q cells slots ws pc lv (.int x :: rest) := z_if_gt F hdg ht rfl (fun _ => k) (fun q => absurd hc q)
theorem z_if_gt_f (F : zFix p s m args meth c cc nL own nm ret G A) {x : Int32} {off : Int} {tgt : Nat} (hdg : decode cc pc = .ok (.ifCond .gt off, 3)) (ht : (pc : Int) + off = (tgt : Int)) (hc : ¬ 0 < x) (hn : pc + 3 = n) (k : ZW p l e R s m args below meth c nL G A Q cells slots ws n lv (rest)) : ZW p l e R s m args below meth c nL G A Q cells slots ws pc lv (.int x :: rest) := z_if_gt F hdg ht hn (fun q => absurd q hc) (fun _ => k)
theorem z_if_le (F : zFix p s m args meth c cc nL own nm ret G A) {x : Int32} {off : Int} {tgt : Nat} (hdg : decode cc pc = .ok (.ifCond .le off, 3)) (ht : (pc : Int) + off = (tgt : Int)) (hn : pc + 3 = n) (kt : x ≤ 0 → ZW p l e R s m args below meth c nL G A Q cells slots ws tgt lv (rest)) (kf : ¬ x ≤ 0 → ZW p l e R s m args below meth c nL G A Q cells slots ws n lv (rest)) : ZW p l e R s m args below meth c nL G A Q cells slots ws pc lv (.int x :: rest) := by
  subst hn; intro H locs ls hP hD hS hl; exact lv_if_le F.hx F.hb hdg ht (fun q => kt q H locs ls hP hD hS hl) (fun q => kf q H locs ls hP hD hS hl)
theorem z_if_le_t (F : zFix p s m args meth c cc nL own nm ret G A) {x : Int32} {off : Int} {tgt : Nat} (hdg : decode cc pc = .ok (.ifCond .le off, 3)) (ht : (pc : Int) + off = (tgt : Int)) (hc : x ≤ 0) (k : ZW p l e R s m args below meth c nL G A Q cells slots ws tgt lv (rest)) : ZW p l e R s m args below meth c nL G A Q cells slots ws pc lv (.int x :: rest) := z_if_le F hdg ht rfl (fun _ => k) (fun q => absurd hc q)
theorem z_if_le_f (F : zFix p s m args meth c cc nL own nm ret G A) {x : Int32} {off : Int} {tgt : Nat} (hdg : decode cc pc = .ok (.ifCond .le off, 3)) (ht : (pc : Int) + off = (tgt : Int)) (hc : ¬ x ≤ 0) (hn : pc + 3 = n) (k : ZW p l e R s m args below meth c nL G A Q cells slots ws n lv (rest)) : ZW p l e R s m args below meth c nL G A Q cells slots ws pc lv (.int x :: rest) := z_if_le F hdg ht hn (fun q => absurd q hc) (fun _ => k)
theorem z_icmp_eq (F : zFix p s m args meth c cc nL own nm ret G A) {x y : Int32} {off : Int} {tgt : Nat} (hdg : decode cc pc = .ok (.if_icmp .eq off, 3)) (ht : (pc : Int) + off = (tgt : Int)) (hn : pc + 3 = n) (kt : x = y → ZW p l e R s m args below meth c nL G A Q cells slots ws tgt lv (rest)) (kf : ¬ x = y → ZW p l e R s m args below meth c nL G A Q cells slots ws n lv (rest)) : ZW p l e R s m args below meth c nL G A Q cells slots ws pc lv (.int y :: .int x :: rest) := by
  subst hn; intro H locs ls hP hD hS hl; exact lv_icmp_eq F.hx F.hb hdg ht (fun q => kt q H locs ls hP hD hS hl) (fun q => kf q H locs ls hP hD hS hl)
theorem z_icmp_eq_t (F : zFix p s m args meth c cc nL own nm ret G A) {x y : Int32} {off : Int} {tgt : Nat} (hdg : decode cc pc = .ok (.if_icmp .eq off, 3)) (ht : (pc : Int) + off = (tgt : Int)) (hc : x = y) (k : ZW p l e R s m args below meth c nL G A Q cells slots ws tgt lv (rest)) : ZW p l e R s m args below meth c nL G A Q cells slots ws pc lv (.int y :: .int x :: rest) := z_icmp_eq F hdg ht rfl (fun _ => k) (fun q => absurd hc q)
theorem z_icmp_eq_f (F : zFix p s m args meth c cc nL own nm ret G A) {x y : Int32} {off : Int} {tgt : Nat} (hdg : decode cc pc = .ok (.if_icmp .eq off, 3)) (ht : (pc : Int) + off = (tgt : Int)) (hc : ¬ x = y) (hn : pc + 3 = n) (k : ZW p l e R s m args below meth c nL G A Q cells slots ws n lv (rest)) : ZW p l e R s m args below meth c nL G A Q cells slots ws pc lv (.int y :: .int x :: rest) := z_icmp_eq F hdg ht hn (fun q => absurd q hc) (fun _ => k)
theorem z_icmp_ne (F : zFix p s m args meth c cc nL own nm ret G A) {x y : Int32} {off : Int} {tgt : Nat} (hdg : decode cc pc = .ok (.if_icmp .ne off, 3)) (ht : (pc : Int) + off = (tgt : Int)) (hn : pc + 3 = n) (kt : ¬ x = y → ZW p l e R s m args below meth c nL G A Q cells slots ws tgt lv (rest)) (kf : x = y → ZW p l e R s m args below meth c nL G A Q cells slots ws n lv (rest)) : ZW p l e R s m args below meth c nL G A Q cells slots ws pc lv (.int y :: .int x :: rest) := by
  subst hn; intro H locs ls hP hD hS hl; exact lv_icmp_ne F.hx F.hb hdg ht (fun q => kt q H locs ls hP hD hS hl) (fun q => kf q H locs ls hP hD hS hl)
theorem z_icmp_ne_t (F : zFix p s m args meth c cc nL own nm ret G A) {x y : Int32} {off : Int} {tgt : Nat} (hdg : decode cc pc = .ok (.if_icmp .ne off, 3)) (ht : (pc : Int) + off = (tgt : Int)) (hc : ¬ x = y) (k : ZW p l e R s m args below meth c nL G A Q cells slots ws tgt lv (rest)) : ZW p l e R s m args below meth c nL G A Q cells slots ws pc lv (.int y :: .int x :: rest) := z_icmp_ne F hdg ht rfl (fun _ => k) (fun q => absurd q hc)
theorem z_icmp_ne_f (F : zFix p s m args meth c cc nL own nm ret G A) {x y : Int32} {off : Int} {tgt : Nat} (hdg : decode cc pc = .ok (.if_icmp .ne off, 3)) (ht : (pc : Int) + off = (tgt : Int)) (hc : x = y) (hn : pc + 3 = n) (k : ZW p l e R s m args below meth c nL G A Q cells slots ws n lv (rest)) : ZW p l e R s m args below meth c nL G A Q cells slots ws pc lv (.int y :: .int x :: rest) := z_icmp_ne F hdg ht hn (fun q => absurd hc q) (fun _ => k)
theorem z_icmp_lt (F : zFix p s m args meth c cc nL own nm ret G A) {x y : Int32} {off : Int} {tgt : Nat} (hdg : decode cc pc = .ok (.if_icmp .lt off, 3)) (ht : (pc : Int) + off = (tgt : Int)) (hn : pc + 3 = n) (kt : x < y → ZW p l e R s m args below meth c nL G A Q cells slots ws tgt lv (rest)) (kf : ¬ x < y → ZW p l e R s m args below meth c nL G A Q cells slots ws n lv (rest)) : ZW p l e R s m args below meth c nL G A Q cells slots ws pc lv (.int y :: .int x :: rest) := by
  subst hn; intro H locs ls hP hD hS hl; exact lv_icmp_lt F.hx F.hb hdg ht (fun q => kt q H locs ls hP hD hS hl) (fun q => kf q H locs ls hP hD hS hl)
theorem z_icmp_lt_t (F : zFix p s m args meth c cc nL own nm ret G A) {x y : Int32} {off : Int} {tgt : Nat} (hdg : decode cc pc = .ok (.if_icmp .lt off, 3)) (ht : (pc : Int) + off = (tgt : Int)) (hc : x < y) (k : ZW p l e R s m args below meth c nL G A Q cells slots ws tgt lv (rest)) : ZW p l e R s m args below meth c nL G A Q cells slots ws pc lv (.int y :: .int x :: rest) := z_icmp_lt F hdg ht rfl (fun _ => k) (fun q => absurd hc q)
theorem z_icmp_lt_f (F : zFix p s m args meth c cc nL own nm ret G A) {x y : Int32} {off : Int} {tgt : Nat} (hdg : decode cc pc = .ok (.if_icmp .lt off, 3)) (ht : (pc : Int) + off = (tgt : Int)) (hc : ¬ x < y) (hn : pc + 3 = n) (k : ZW p l e R s m args below meth c nL G A Q cells slots ws n lv (rest)) : ZW p l e R s m args below meth c nL G A Q cells slots ws pc lv (.int y :: .int x :: rest) := z_icmp_lt F hdg ht hn (fun q => absurd q hc) (fun _ => k)
theorem z_icmp_ge (F : zFix p s m args meth c cc nL own nm ret G A) {x y : Int32} {off : Int} {tgt : Nat} (hdg : decode cc pc = .ok (.if_icmp .ge off, 3)) (ht : (pc : Int) + off = (tgt : Int)) (hn : pc + 3 = n) (kt : y ≤ x → ZW p l e R s m args below meth c nL G A Q cells slots ws tgt lv (rest)) (kf : ¬ y ≤ x → ZW p l e R s m args below meth c nL G A Q cells slots ws n lv (rest)) : ZW p l e R s m args below meth c nL G A Q cells slots ws pc lv (.int y :: .int x :: rest) := by
  subst hn; intro H locs ls hP hD hS hl; exact lv_icmp_ge F.hx F.hb hdg ht (fun q => kt q H locs ls hP hD hS hl) (fun q => kf q H locs ls hP hD hS hl)
theorem z_icmp_ge_t (F : zFix p s m args meth c cc nL own nm ret G A) {x y : Int32} {off : Int} {tgt : Nat} (hdg : decode cc pc = .ok (.if_icmp .ge off, 3)) (ht : (pc : Int) + off = (tgt : Int)) (hc : y ≤ x) (k : ZW p l e R s m args below meth c nL G A Q cells slots ws tgt lv (rest)) : ZW p l e R s m args below meth c nL G A Q cells slots ws pc lv (.int y :: .int x :: rest) := z_icmp_ge F hdg ht rfl (fun _ => k) (fun q => absurd hc q)
theorem z_icmp_ge_f (F : zFix p s m args meth c cc nL own nm ret G A) {x y : Int32} {off : Int} {tgt : Nat} (hdg : decode cc pc = .ok (.if_icmp .ge off, 3)) (ht : (pc : Int) + off = (tgt : Int)) (hc : ¬ y ≤ x) (hn : pc + 3 = n) (k : ZW p l e R s m args below meth c nL G A Q cells slots ws n lv (rest)) : ZW p l e R s m args below meth c nL G A Q cells slots ws pc lv (.int y :: .int x :: rest) := z_icmp_ge F hdg ht hn (fun q => absurd q hc) (fun _ => k)
theorem z_icmp_gt (F : zFix p s m args meth c cc nL own nm ret G A) {x y : Int32} {off : Int} {tgt : Nat} (hdg : decode cc pc = .ok (.if_icmp .gt off, 3)) (ht : (pc : Int) + off = (tgt : Int)) (hn : pc + 3 = n) (kt : y < x → ZW p l e R s m args below meth c nL G A Q cells slots ws tgt lv (rest)) (kf : ¬ y < x → ZW p l e R s m args below meth c nL G A Q cells slots ws n lv (rest)) : ZW p l e R s m args below meth c nL G A Q cells slots ws pc lv (.int y :: .int x :: rest) := by
  subst hn; intro H locs ls hP hD hS hl; exact lv_icmp_gt F.hx F.hb hdg ht (fun q => kt q H locs ls hP hD hS hl) (fun q => kf q H locs ls hP hD hS hl)
theorem z_icmp_gt_t (F : zFix p s m args meth c cc nL own nm ret G A) {x y : Int32} {off : Int} {tgt : Nat} (hdg : decode cc pc = .ok (.if_icmp .gt off, 3)) (ht : (pc : Int) + off = (tgt : Int)) (hc : y < x) (k : ZW p l e R s m args below meth c nL G A Q cells slots ws tgt lv (rest)) : ZW p l e R s m args below meth c nL G A Q cells slots ws pc lv (.int y :: .int x :: rest) := z_icmp_gt F hdg ht rfl (fun _ => k) (fun q => absurd hc q)
theorem z_icmp_gt_f (F : zFix p s m args meth c cc nL own nm ret G A) {x y : Int32} {off : Int} {tgt : Nat} (hdg : decode cc pc = .ok (.if_icmp .gt off, 3)) (ht : (pc : Int) + off = (tgt : Int)) (hc : ¬ y < x) (hn : pc + 3 = n) (k : ZW p l e R s m args below meth c nL G A Q cells slots ws n lv (rest)) : ZW p l e R s m args below meth c nL G A Q cells slots ws pc lv (.int y :: .int x :: rest) := z_icmp_gt F hdg ht hn (fun q => absurd q hc) (fun _ => k)
theorem z_icmp_le (F : zFix p s m args meth c cc nL own nm ret G A) {x y : Int32} {off : Int} {tgt : Nat} (hdg : decode cc pc = .ok (.if_icmp .le off, 3)) (ht : (pc : Int) + off = (tgt : Int)) (hn : pc + 3 = n) (kt : x ≤ y → ZW p l e R s m args below meth c nL G A Q cells slots ws tgt lv (rest)) (kf : ¬ x ≤ y → ZW p l e R s m args below meth c nL G A Q cells slots ws n lv (rest)) : ZW p l e R s m args below meth c nL G A Q cells slots ws pc lv (.int y :: .int x :: rest) := by
  subst hn; intro H locs ls hP hD hS hl; exact lv_icmp_le F.hx F.hb hdg ht (fun q => kt q H locs ls hP hD hS hl) (fun q => kf q H locs ls hP hD hS hl)
theorem z_icmp_le_t (F : zFix p s m args meth c cc nL own nm ret G A) {x y : Int32} {off : Int} {tgt : Nat} (hdg : decode cc pc = .ok (.if_icmp .le off, 3)) (ht : (pc : Int) + off = (tgt : Int)) (hc : x ≤ y) (k : ZW p l e R s m args below meth c nL G A Q cells slots ws tgt lv (rest)) : ZW p l e R s m args below meth c nL G A Q cells slots ws pc lv (.int y :: .int x :: rest) := z_icmp_le F hdg ht rfl (fun _ => k) (fun q => absurd hc q)
theorem z_icmp_le_f (F : zFix p s m args meth c cc nL own nm ret G A) {x y : Int32} {off : Int} {tgt : Nat} (hdg : decode cc pc = .ok (.if_icmp .le off, 3)) (ht : (pc : Int) + off = (tgt : Int)) (hc : ¬ x ≤ y) (hn : pc + 3 = n) (k : ZW p l e R s m args below meth c nL G A Q cells slots ws n lv (rest)) : ZW p l e R s m args below meth c nL G A Q cells slots ws pc lv (.int y :: .int x :: rest) := z_icmp_le F hdg ht hn (fun q => absurd q hc) (fun _ => k)
theorem z_goto (F : zFix p s m args meth c cc nL own nm ret G A) {off : Int} {tgt : Nat} (hdg : decode cc pc = .ok (.goto off, 3)) (ht : (pc : Int) + off = (tgt : Int)) (k : ZW p l e R s m args below meth c nL G A Q cells slots ws tgt lv (rest)) : ZW p l e R s m args below meth c nL G A Q cells slots ws pc lv (rest) := by
  intro H locs ls hP hD hS hl; exact lv_goto F.hx F.hb hdg ht (k H locs ls hP hD hS hl)
theorem z_ifnonnull (F : zFix p s m args meth c cc nL own nm ret G A) {x : Nat} {off : Int} {tgt : Nat} (hdg : decode cc pc = .ok (.ifnonnull off, 3)) (ht : (pc : Int) + off = (tgt : Int)) (k : ZW p l e R s m args below meth c nL G A Q cells slots ws tgt lv (rest)) : ZW p l e R s m args below meth c nL G A Q cells slots ws pc lv (.ref x :: rest) := by
  intro H locs ls hP hD hS hl; exact lv_ifnonnull F.hx F.hb hdg ht (k H locs ls hP hD hS hl)
theorem z_ifnull (F : zFix p s m args meth c cc nL own nm ret G A) {x : Nat} {off : Int} (hdg : decode cc pc = .ok (.ifnull off, 3)) (hn : pc + 3 = n) (k : ZW p l e R s m args below meth c nL G A Q cells slots ws n lv (rest)) : ZW p l e R s m args below meth c nL G A Q cells slots ws pc lv (.ref x :: rest) := by
  subst hn; intro H locs ls hP hD hS hl; exact lv_ifnull F.hx F.hb hdg (k H locs ls hP hD hS hl)
theorem z_get (F : zFix p s m args meth c cc nL own nm ret G A) (q0 k : Nat) {C ref : String} {T : u_T} {N ci index a : Nat} {fs : List Value} {v : Value} (hin : ∀ w ∈ u_ws C T N, w ∈ lw_all) (he : ws[q0]? = some (a, zo ci fs)) (hc : zCl[ci]? = some (C, T, N)) (hk : k < N) (hlink : Cond.fieldLink own index ref (T k).2.1 (T k).2.2.1 ∈ lw_all) (href : (T k).1 = ref) (hv : fs[k]? = some v) (hdg : decode cc pc = .ok (.getfield index, 3)) (hn : pc + 3 = n) (kk : ZW p l e R s m args below meth c nL G A Q cells slots ws n lv (v :: rest)) : ZW p l e R s m args below meth c nL G A Q cells slots ws pc lv (.ref a :: rest) := by
  subst hn; subst href; intro H locs ls hP hD hS hl
  exact va_get F.hx F.hb F.hts hin F.hown F.hK hP q0 he hc k hk (F.hts _ hlink) (fun _ h => h) hv hdg (kk H locs ls hP hD hS hl)
theorem z_put (F : zFix p s m args meth c cc nL own nm ret G A) (q0 k : Nat) {C ref : String} {T : u_T} {N ci index a : Nat} {fs : List Value} {v : Value} {ty : FieldType} (ty0 : Nat → FieldType) (hin : ∀ w ∈ u_ws C T N, w ∈ lw_all) (hty : ∀ k, k < N → parseFieldDescriptor (T k).2.2.1 = some (ty0 k)) (hnm : ∀ a, a < N → ∀ b, b < N → a ≠ b → (T a).2.1 ≠ (T b).2.1) (he : ws[q0]? = some (a, zo ci fs)) (hc : zCl[ci]? = some (C, T, N)) (hk : k < N) (hlink : Cond.fieldLink own index ref (T k).2.1 (T k).2.2.1 ∈ lw_all) (href : (T k).1 = ref) (hfin : (T k).2.2.2 = false) (ht0 : ty0 k = ty) (hnr : narrow ty v = v) (hfit : fits ty v = true) (hlt : k < fs.length) (hdg : decode cc pc = .ok (.putfield index, 3)) (hn : pc + 3 = n) (hw : ws.set q0 (a, zo ci (fs.set k v)) = ws2) (kk : ZW p l e R s m args below meth c nL G A Q cells slots ws2 n lv (rest)) : ZW p l e R s m args below meth c nL G A Q cells slots ws pc lv (v :: .ref a :: rest) := by
  subst hn; subst href; subst hw; subst ht0; intro H locs ls hP hD hS hl
  exact va_put F.hx F.hb F.hts hin ty0 hty hnm F.hown F.hK hP hD hS q0 he hc k hk (F.hts _ hlink) (fun _ h => h) hfin (hty k hk) hnr hfit hlt hdg (fun H1 locs1 hP hD hS => kk H1 locs1 ls hP hD hS hl)
theorem z_putF (F : zFix p s m args meth c cc nL own nm ret G A) (q0 k : Nat) {C ref : String} {T : u_T} {N ci index a : Nat} {fs : List Value} {v : Value} {ty : FieldType} (ty0 : Nat → FieldType) (hin : ∀ w ∈ u_ws C T N, w ∈ lw_all) (hty : ∀ k, k < N → parseFieldDescriptor (T k).2.2.1 = some (ty0 k)) (hnm : ∀ a, a < N → ∀ b, b < N → a ≠ b → (T a).2.1 ≠ (T b).2.1) (he : ws[q0]? = some (a, zo ci fs)) (hc : zCl[ci]? = some (C, T, N)) (hk : k < N) (hlink : Cond.fieldLink own index ref (T k).2.1 (T k).2.2.1 ∈ lw_all) (href : (T k).1 = ref) (hfin : (T k).2.2.2 = true) (hini : nm = "<init>") (hdecl : (T k).1 = own) (ht0 : ty0 k = ty) (hnr : narrow ty v = v) (hfit : fits ty v = true) (hlt : k < fs.length) (hdg : decode cc pc = .ok (.putfield index, 3)) (hn : pc + 3 = n) (hw : ws.set q0 (a, zo ci (fs.set k v)) = ws2) (kk : ZW p l e R s m args below meth c nL G A Q cells slots ws2 n lv (rest)) : ZW p l e R s m args below meth c nL G A Q cells slots ws pc lv (v :: .ref a :: rest) := by
  subst hn; subst href; subst hw; subst ht0; intro H locs ls hP hD hS hl
  exact va_putF F.hx F.hb F.hts hin ty0 hty hnm F.hown F.hK hP hD hS q0 he hc k hk (F.hts _ hlink) (fun _ h => h) hfin (F.hnm.trans hini) hdecl (hty k hk) hnr hfit hlt hdg (fun H1 locs1 hP hD hS => kk H1 locs1 ls hP hD hS hl)
theorem z_iald (F : zFix p s m args meth c cc nL own nm ret G A) (q0 : Nat) {a N : Nat} {f : zA} {i : Int32} (v : Int32) (he : ws[q0]? = some (a, zi G N f)) (hin : vp_in i N) (hv : f i.toNatClampNeg = v) (hdg : decode cc pc = .ok (.iaload, 1)) (hn : pc + 1 = n) (kk : ZW p l e R s m args below meth c nL G A Q cells slots ws n lv (.int v :: rest)) : ZW p l e R s m args below meth c nL G A Q cells slots ws pc lv (.int i :: .ref a :: rest) := by
  subst hn; subst hv; intro H locs ls hP hD hS hl
  exact va_iald F.hx F.hb F.hK hP q0 0 he rfl hin hdg (kk H locs ls hP hD hS hl)
theorem z_bald (F : zFix p s m args meth c cc nL own nm ret G A) (q0 : Nat) {a N : Nat} {f : zA} {i : Int32} (v : Int32) (he : ws[q0]? = some (a, zb G N f)) (hin : vp_in i N) (hv : f i.toNatClampNeg = v) (hdg : decode cc pc = .ok (.baload, 1)) (hn : pc + 1 = n) (kk : ZW p l e R s m args below meth c nL G A Q cells slots ws n lv (.int v :: rest)) : ZW p l e R s m args below meth c nL G A Q cells slots ws pc lv (.int i :: .ref a :: rest) := by
  subst hn; subst hv; intro H locs ls hP hD hS hl
  exact va_bald F.hx F.hb F.hK hP q0 1 he rfl hin hdg (kk H locs ls hP hD hS hl)
theorem z_iast (F : zFix p s m args meth c cc nL own nm ret G A) (q0 : Nat) {a N : Nat} {f : zA} {i x : Int32} (f2 : zA) (he : ws[q0]? = some (a, zi G N f)) (hin : vp_in i N) (hf : upd f i.toNatClampNeg x = f2) (hdg : decode cc pc = .ok (.iastore, 1)) (hn : pc + 1 = n) (hw : ws.set q0 (a, zi G N f2) = ws2) (kk : ZW p l e R s m args below meth c nL G A Q cells slots ws2 n lv (rest)) : ZW p l e R s m args below meth c nL G A Q cells slots ws pc lv (.int x :: .int i :: .ref a :: rest) := by
  subst hn; subst hf; subst hw; intro H locs ls hP hD hS hl
  exact va_iast F.hx F.hb F.hK hP hD hS q0 0 he rfl hin hdg (fun H1 locs1 hP hD hS => kk H1 locs1 ls hP hD hS hl)
theorem z_bast (F : zFix p s m args meth c cc nL own nm ret G A) (q0 : Nat) {a N : Nat} {f : zA} {i x : Int32} (f2 : zA) (he : ws[q0]? = some (a, zb G N f)) (hin : vp_in i N) (hf : upd f i.toNatClampNeg (zb8 x) = f2) (hdg : decode cc pc = .ok (.bastore, 1)) (hn : pc + 1 = n) (hw : ws.set q0 (a, zb G N f2) = ws2) (kk : ZW p l e R s m args below meth c nL G A Q cells slots ws2 n lv (rest)) : ZW p l e R s m args below meth c nL G A Q cells slots ws pc lv (.int x :: .int i :: .ref a :: rest) := by
  subst hn; subst hf; subst hw; intro H locs ls hP hD hS hl
  have e0 : vp_nar .byte x = zb8 x := vp_nar_byte x
  refine va_bast F.hx F.hb F.hK hP hD hS q0 1 he rfl hin hdg (fun H1 locs1 hP hD hS => ?_)
  rw [e0] at hP hD
  exact kk H1 locs1 ls hP hD hS hl
theorem z_alenI (F : zFix p s m args meth c cc nL own nm ret G A) (q0 : Nat) {a N : Nat} {f : zA} (v : Int32) (he : ws[q0]? = some (a, zi G N f)) (hv : Int32.ofNat N = v) (hdg : decode cc pc = .ok (.arraylength, 1)) (hn : pc + 1 = n) (kk : ZW p l e R s m args below meth c nL G A Q cells slots ws n lv (.int v :: rest)) : ZW p l e R s m args below meth c nL G A Q cells slots ws pc lv (.ref a :: rest) := by
  subst hn; intro H locs ls hP hD hS hl
  exact va_alen F.hx F.hb F.hK hP q0 0 he rfl hv hdg (kk H locs ls hP hD hS hl)
theorem z_alenB (F : zFix p s m args meth c cc nL own nm ret G A) (q0 : Nat) {a N : Nat} {f : zA} (v : Int32) (he : ws[q0]? = some (a, zb G N f)) (hv : Int32.ofNat N = v) (hdg : decode cc pc = .ok (.arraylength, 1)) (hn : pc + 1 = n) (kk : ZW p l e R s m args below meth c nL G A Q cells slots ws n lv (.int v :: rest)) : ZW p l e R s m args below meth c nL G A Q cells slots ws pc lv (.ref a :: rest) := by
  subst hn; intro H locs ls hP hD hS hl
  exact va_alen F.hx F.hb F.hK hP q0 1 he rfl hv hdg (kk H locs ls hP hD hS hl)
theorem z_newB (F : zFix p s m args meth c cc nL own nm ret G A) (N : Nat) {x : Int32} (hneg : ¬ x < 0) (hN : x.toNatClampNeg = N) (hby : N ≤ 536870912) (hc : cells + 1 ≤ R.cells) (hs : slots + N ≤ R.slots) (hdg : decode cc pc = .ok (.newarray .byte, 2)) (hn : pc + 2 = n) (hcc : cells + 1 = cells2) (hss : slots + N = slots2) (kk : ∀ q : Nat, ZW p l e R s m args below meth c nL G A Q cells2 slots2 (ws ++ [(q, zb G N (fun _ => 0))]) n lv (.ref q :: rest)) : ZW p l e R s m args below meth c nL G A Q cells slots ws pc lv (.int x :: rest) := by
  subst hn; subst hcc; subst hss; intro H locs ls hP hD hS hl
  refine va_newa (atype := .byte) (ty := .byte) (a0 := (N, .inl (fun _ => 0))) F.hx F.hb (F.hts _ q114) rfl F.hK hP hD hS F.hA (fun _ => rfl) hneg hN (by simpa [componentBytes] using hby) hc hs hdg (fun q cA H1 hK1 hP1 hD1 hS1 => ?_)
  have e1 : s.vm.findClass ("[" ++ (FieldType.byte).toString) = some cA := (hK1.2 2 _ rfl).2
  have e2 : s.vm.findClass ("[" ++ (FieldType.byte).toString) = some (zgB G) := (F.hK.2 1 _ rfl).2
  cases e1.symm.trans e2
  exact kk q H1 locs ls hP1 hD1 hS1 hl
theorem z_newI (F : zFix p s m args meth c cc nL own nm ret G A) (N : Nat) {x : Int32} (hneg : ¬ x < 0) (hN : x.toNatClampNeg = N) (hby : N * 4 ≤ 536870912) (hc : cells + 1 ≤ R.cells) (hs : slots + N ≤ R.slots) (hdg : decode cc pc = .ok (.newarray .int, 2)) (hn : pc + 2 = n) (hcc : cells + 1 = cells2) (hss : slots + N = slots2) (kk : ∀ q : Nat, ZW p l e R s m args below meth c nL G A Q cells2 slots2 (ws ++ [(q, zi G N (fun _ => 0))]) n lv (.ref q :: rest)) : ZW p l e R s m args below meth c nL G A Q cells slots ws pc lv (.int x :: rest) := by
  subst hn; subst hcc; subst hss; intro H locs ls hP hD hS hl
  refine va_newa (atype := .int) (ty := .int) (a0 := (N, .inl (fun _ => 0))) F.hx F.hb (F.hts _ q293) rfl F.hK hP hD hS F.hA (fun _ => rfl) hneg hN (by simpa [componentBytes] using hby) hc hs hdg (fun q cA H1 hK1 hP1 hD1 hS1 => ?_)
  have e1 : s.vm.findClass ("[" ++ (FieldType.int).toString) = some cA := (hK1.2 2 _ rfl).2
  have e2 : s.vm.findClass ("[" ++ (FieldType.int).toString) = some (zgI G) := (F.hK.2 0 _ rfl).2
  cases e1.symm.trans e2
  exact kk q H1 locs ls hP1 hD1 hS1 hl
theorem z_new (F : zFix p s m args meth c cc nL own nm ret G A) (ci : Nat) (fs : List Value) {C : String} {T : u_T} {N index : Nat} (ty0 : Nat → FieldType) (hin : ∀ w ∈ u_ws C T N, w ∈ lw_all) (hty : ∀ k, k < N → parseFieldDescriptor (T k).2.2.1 = some (ty0 k)) (hcl : Cond.classLink own index C ∈ lw_all) (hinst : Cond.instantiable C N ∈ lw_all) (hini : Cond.initialized C ∈ lw_all) (hc0 : zCl[ci]? = some (C, T, N)) (hfs : ∀ j, j < N → defaultValue (ty0 j) = vp_V fs j) (hc : cells + 1 ≤ R.cells) (hs : slots + N ≤ R.slots) (hdg : decode cc pc = .ok (.new index, 3)) (hn : pc + 3 = n) (hcc : cells + 1 = cells2) (hss : slots + N = slots2) (kk : ∀ q : Nat, ZW p l e R s m args below meth c nL G A Q cells2 slots2 (ws ++ [(q, zo ci fs)]) n lv (.ref q :: rest)) : ZW p l e R s m args below meth c nL G A Q cells slots ws pc lv (rest) := by
  subst hn; subst hcc; subst hss; intro H locs ls hP hD hS hl
  exact va_new F.hx F.hb F.hts hin ty0 hty F.hown (F.hts _ hcl) (F.hts _ hinst) (F.hts _ hini) F.hK hP hD hS F.hA hc0 hfs hc hs hdg (fun q H1 hP hD hS => kk q H1 locs ls hP hD hS hl)
theorem z_objI (F : zFix p s m args meth c cc nL own nm ret G A) {index a : Nat} (hlink : Cond.methodLink own index Lib.objectInit ∈ lw_all) (hfr : 1 ≤ R.frames) (hlo : (rest.map fun v => v.category).sum + 12 ≤ R.locals) (hdg : decode cc pc = .ok (.invokespecial index, 3)) (hn : pc + 3 = n) (kk : ZW p l e R s m args below meth c nL G A Q cells slots ws n lv (rest)) : ZW p l e R s m args below meth c nL G A Q cells slots ws pc lv (.ref a :: rest) := by
  subst hn; intro H locs ls hP hD hS hl
  refine W.objInit F.hx F.hb F.hown (F.hts _ hlink) (F.hts _ q70) (F.hts _ q71) rfl (hl.1.trans F.hml.symm) rfl hdg hfr ?_ (kk H locs ls hP hD hS hl)
  have h0 : (F0 m pc ls (.ref a :: rest)).monitorRoom = 0 := rfl
  rw [h0]
  omega
theorem z_getsS0 (F : zFix p s m args meth c cc nL own nm ret G A) {index : Nat} (hlink : Cond.fieldLink own index "Zuc128CoreEngine" "S0" "[B" ∈ lw_all) (hdg : decode cc pc = .ok (.getstatic index, 3)) (hn : pc + 3 = n) (kk : ZW p l e R s m args below meth c nL G A Q cells slots ws n lv (.ref (zg0 G) :: rest)) : ZW p l e R s m args below meth c nL G A Q cells slots ws pc lv (rest) := by
  subst hn; intro H locs ls hP hD hS hl
  exact va_gets F.hx F.hb F.hE.1.1 hS F.hown (F.hts _ hlink) (fun _ h => h) hdg (kk H locs ls hP hD hS hl)
theorem z_getsS1 (F : zFix p s m args meth c cc nL own nm ret G A) {index : Nat} (hlink : Cond.fieldLink own index "Zuc128CoreEngine" "S1" "[B" ∈ lw_all) (hdg : decode cc pc = .ok (.getstatic index, 3)) (hn : pc + 3 = n) (kk : ZW p l e R s m args below meth c nL G A Q cells slots ws n lv (.ref (zg1 G) :: rest)) : ZW p l e R s m args below meth c nL G A Q cells slots ws pc lv (rest) := by
  subst hn; intro H locs ls hP hD hS hl
  exact va_gets F.hx F.hb F.hE.2.1.1 hS F.hown (F.hts _ hlink) (fun _ h => h) hdg (kk H locs ls hP hD hS hl)
theorem z_getsEK (F : zFix p s m args meth c cc nL own nm ret G A) {index : Nat} (hlink : Cond.fieldLink own index "Zuc128CoreEngine" "EK_d" "[S" ∈ lw_all) (hdg : decode cc pc = .ok (.getstatic index, 3)) (hn : pc + 3 = n) (kk : ZW p l e R s m args below meth c nL G A Q cells slots ws n lv (.ref (zg2 G) :: rest)) : ZW p l e R s m args below meth c nL G A Q cells slots ws pc lv (rest) := by
  subst hn; intro H locs ls hP hD hS hl
  exact va_gets F.hx F.hb F.hE.2.2.1.1 hS F.hown (F.hts _ hlink) (fun _ h => h) hdg (kk H locs ls hP hD hS hl)
theorem z_tS0 (F : zFix p s m args meth c cc nL own nm ret G A) {i : Int32} (v : Int32) (hin : vp_in i 256) (hv : zS0 i.toNatClampNeg = v) (hdg : decode cc pc = .ok (.baload, 1)) (hn : pc + 1 = n) (kk : ZW p l e R s m args below meth c nL G A Q cells slots ws n lv (.int v :: rest)) : ZW p l e R s m args below meth c nL G A Q cells slots ws pc lv (.int i :: .ref (zg0 G) :: rest) := by
  subst hn; intro H locs ls hP hD hS hl
  exact va_tb F.hx F.hb F.hE.1.2 hS hin (congrArg Value.int hv) hdg (kk H locs ls hP hD hS hl)
theorem z_tS1 (F : zFix p s m args meth c cc nL own nm ret G A) {i : Int32} (v : Int32) (hin : vp_in i 256) (hv : zS1 i.toNatClampNeg = v) (hdg : decode cc pc = .ok (.baload, 1)) (hn : pc + 1 = n) (kk : ZW p l e R s m args below meth c nL G A Q cells slots ws n lv (.int v :: rest)) : ZW p l e R s m args below meth c nL G A Q cells slots ws pc lv (.int i :: .ref (zg1 G) :: rest) := by
  subst hn; intro H locs ls hP hD hS hl
  exact va_tb F.hx F.hb F.hE.2.1.2 hS hin (congrArg Value.int hv) hdg (kk H locs ls hP hD hS hl)
theorem z_tEK (F : zFix p s m args meth c cc nL own nm ret G A) {i : Int32} (v : Int32) (hin : vp_in i 16) (hv : zEK i.toNatClampNeg = v) (hdg : decode cc pc = .ok (.saload, 1)) (hn : pc + 1 = n) (kk : ZW p l e R s m args below meth c nL G A Q cells slots ws n lv (.int v :: rest)) : ZW p l e R s m args below meth c nL G A Q cells slots ws pc lv (.int i :: .ref (zg2 G) :: rest) := by
  subst hn; intro H locs ls hP hD hS hl
  exact va_ts F.hx F.hb F.hE.2.2.1.2 hS hin (congrArg Value.int hv) hdg (kk H locs ls hP hD hS hl)
theorem z_slen (F : zFix p s m args meth c cc nL own nm ret G A) (hdg : decode cc pc = .ok (.arraylength, 1)) (hn : pc + 1 = n) (kk : ZW p l e R s m args below meth c nL G A Q cells slots ws n lv (.int (nI (zgL G)) :: rest)) : ZW p l e R s m args below meth c nL G A Q cells slots ws pc lv (.ref (zgb G) :: rest) := by
  subst hn; intro H locs ls hP hD hS hl
  exact va_slen F.hx F.hb F.hE.2.2.2.2.1.1 F.hE.2.2.2.2.1.2.1 F.hE.2.2.2.2.1.2.2 hS hdg (kk H locs ls hP hD hS hl)
theorem z_sld (F : zFix p s m args meth c cc nL own nm ret G A) {i : Int32} (v : Int32) (hin : vp_in i (zgL G)) (hv : zgx G i.toNatClampNeg = v) (hdg : decode cc pc = .ok (.iaload, 1)) (hn : pc + 1 = n) (kk : ZW p l e R s m args below meth c nL G A Q cells slots ws n lv (.int v :: rest)) : ZW p l e R s m args below meth c nL G A Q cells slots ws pc lv (.int i :: .ref (zgb G) :: rest) := by
  subst hn; subst hv; intro H locs ls hP hD hS hl
  exact va_sld F.hx F.hb F.hE.2.2.2.2.1.1 F.hE.2.2.2.2.1.2.1 F.hE.2.2.2.2.1.2.2 hS hin hdg (kk H locs ls hP hD hS hl)
/-- System.arraycopy(f, 0, g, 0, n): both of N places, n = N: the second holds f -/
theorem z_copy0I (F : zFix p s m args meth c cc nL own nm ret G A) (q0 q1 : Nat) {a0 a1 N index : Nat} {f g : zA} (hlink : Cond.methodLink own index arraycopyName ∈ lw_all) (hN : N < 2 ^ 31) (h0 : ws[q0]? = some (a0, zi G N f)) (h1 : ws[q1]? = some (a1, zi G N g)) {sp dp x : Int32} (hsp : sp = 0) (hdp : dp = 0) (hx : x = nI N) (hfr : 1 ≤ R.frames) (hlo : (rest.map fun v => v.category).sum + (nativeFrameWords "java/lang/System" "arraycopy" 5 + 11) ≤ R.locals) (hdg : decode cc pc = .ok (.invokestatic index, 3)) (hn : pc + 3 = n) (hw : ws.set q1 (a1, zi G N f) = ws2) (kk : ZW p l e R s m args below meth c nL G A Q cells slots ws2 n lv (rest)) : ZW p l e R s m args below meth c nL G A Q cells slots ws pc lv (.int x :: .int dp :: .ref a1 :: .int sp :: .ref a0 :: rest) := by
  subst hsp; subst hdp; subst hx
  have hz : (0 : Int32).toNatClampNeg = 0 := rfl
  have hc : (nI N).toNatClampNeg = N := nI_clamp hN
  subst hn; intro H locs ls hP hD hS hl
  have h1' : ws[q1]? = some (a1, .inl (zgI G, N, .inl g)) := h1
  have hlt : q1 < ws.length := (List.getElem?_eq_some_iff.mp h1').1
  refine va_copyi F.hx F.hb (F.hml.trans hl.1.symm) F.hown (F.hts _ hlink) (F.hts _ q246) (F.hts _ q245) (F.hts _ q15) F.hK hP hD hS q0 q1 0 0 h0 h1 rfl rfl rfl (sp := 0) (dp := 0) (n := nI N) (by decide) (by decide) (nI_pos hN) (by rw [hz, hc]; omega) (by rw [hz, hc]; omega) (fun i _ => rfl) hfr hlo hdg (fun H1 locs1 hP1 hD1 hS1 => ?_)
  refine z_ext (p := p) (l := l) (e := e) (R := R) (s := s) (m := m) (args := args) (below := below) (meth := meth) (c := c) (nL := nL) (G := G) (A := A) (Q := Q) (cells := cells) (slots := slots) (ws2 := ws2) q1 f (List.getElem?_set_self hlt) (fun j hj => ?_) (by rw [List.set_set]; exact hw) kk H1 locs1 ls hP1 hD1 hS1 hl
  rw [hz, hc]
  simp [va_cpy, hj]
theorem z_copy0B (F : zFix p s m args meth c cc nL own nm ret G A) (q0 q1 : Nat) {a0 a1 N index : Nat} {f g : zA} (hlink : Cond.methodLink own index arraycopyName ∈ lw_all) (hN : N < 2 ^ 31) (h0 : ws[q0]? = some (a0, zb G N f)) (h1 : ws[q1]? = some (a1, zb G N g)) (hfit : ∀ i, fits .byte (.int (f i)) = true) {sp dp x : Int32} (hsp : sp = 0) (hdp : dp = 0) (hx : x = nI N) (hfr : 1 ≤ R.frames) (hlo : (rest.map fun v => v.category).sum + (nativeFrameWords "java/lang/System" "arraycopy" 5 + 11) ≤ R.locals) (hdg : decode cc pc = .ok (.invokestatic index, 3)) (hn : pc + 3 = n) (hw : ws.set q1 (a1, zb G N f) = ws2) (kk : ZW p l e R s m args below meth c nL G A Q cells slots ws2 n lv (rest)) : ZW p l e R s m args below meth c nL G A Q cells slots ws pc lv (.int x :: .int dp :: .ref a1 :: .int sp :: .ref a0 :: rest) := by
  subst hsp; subst hdp; subst hx
  have hz : (0 : Int32).toNatClampNeg = 0 := rfl
  have hc : (nI N).toNatClampNeg = N := nI_clamp hN
  subst hn; intro H locs ls hP hD hS hl
  have h1' : ws[q1]? = some (a1, .inl (zgB G, N, .inl g)) := h1
  have hlt : q1 < ws.length := (List.getElem?_eq_some_iff.mp h1').1
  refine va_copyi F.hx F.hb (F.hml.trans hl.1.symm) F.hown (F.hts _ hlink) (F.hts _ q246) (F.hts _ q245) (F.hts _ q15) F.hK hP hD hS q0 q1 1 1 h0 h1 rfl rfl rfl (sp := 0) (dp := 0) (n := nI N) (by decide) (by decide) (nI_pos hN) (by rw [hz, hc]; omega) (by rw [hz, hc]; omega) (fun i _ => hfit _) hfr hlo hdg (fun H1 locs1 hP1 hD1 hS1 => ?_)
  refine z_ext (p := p) (l := l) (e := e) (R := R) (s := s) (m := m) (args := args) (below := below) (meth := meth) (c := c) (nL := nL) (G := G) (A := A) (Q := Q) (cells := cells) (slots := slots) (ws2 := ws2) q1 f (List.getElem?_set_self hlt) (fun j hj => ?_) (by rw [List.set_set]; exact hw) kk H1 locs1 ls hP1 hD1 hS1 hl
  rw [hz, hc]
  simp [va_cpy, hj]
theorem z_recv (F : zFix p s m args meth c cc nL own nm ret G A) {H : Heap} (hP : va_P (zgD G) zCl ws H) (q0 : Nat) {a ci : Nat} {fs : List Value} {C : String} {T : u_T} {N : Nat} (he : ws[q0]? = some (a, zo ci fs)) (hc : zCl[ci]? = some (C, T, N)) : ∃ cell : Cell, H[a]? = some cell ∧ cell.vm.isStatics = false ∧ s.vm.findClass C = some cell.cls := va_recv F.hK hP hc he
/-- instanceof, checkcast of an object of just that class -/
theorem z_instS (F : zFix p s m args meth c cc nL own nm ret G A) (q0 : Nat) {a ci index : Nat} {fs : List Value} {C : String} {T : u_T} {N : Nat} (he : ws[q0]? = some (a, zo ci fs)) (hc : zCl[ci]? = some (C, T, N)) (hlink : Cond.classLink own index C ∈ lw_all) (hdg : decode cc pc = .ok (.instanceof index, 3)) (hn : pc + 3 = n) (kk : ZW p l e R s m args below meth c nL G A Q cells slots ws n lv (.int 1 :: rest)) : ZW p l e R s m args below meth c nL G A Q cells slots ws pc lv (.ref a :: rest) := by
  subst hn; intro H locs ls hP hD hS hl
  exact va_instS F.hx F.hb F.hown (F.hts _ hlink) (F.hK.1 ci _ hc).2 (z_recv F hP q0 he hc) hdg (kk H locs ls hP hD hS hl)
theorem z_castS (F : zFix p s m args meth c cc nL own nm ret G A) (q0 : Nat) {a ci index : Nat} {fs : List Value} {C : String} {T : u_T} {N : Nat} (he : ws[q0]? = some (a, zo ci fs)) (hc : zCl[ci]? = some (C, T, N)) (hlink : Cond.classLink own index C ∈ lw_all) (hdg : decode cc pc = .ok (.checkcast index, 3)) (hn : pc + 3 = n) (kk : ZW p l e R s m args below meth c nL G A Q cells slots ws n lv (.ref a :: rest)) : ZW p l e R s m args below meth c nL G A Q cells slots ws pc lv (.ref a :: rest) := by
  subst hn; intro H locs ls hP hD hS hl
  exact va_castS F.hx F.hb F.hown (F.hts _ hlink) (F.hK.1 ci _ hc).2 (z_recv F hP q0 he hc) hdg (kk H locs ls hP hD hS hl)
/-- checkcast Zuc128CoreEngine of a Zuc128Engine -/
theorem z_castE (F : zFix p s m args meth c cc nL own nm ret G A) (q0 : Nat) {a index : Nat} {fs : List Value} (he : ws[q0]? = some (a, zo 2 fs)) (hlink : Cond.classLink own index "Zuc128CoreEngine" ∈ lw_all) (hdg : decode cc pc = .ok (.checkcast index, 3)) (hn : pc + 3 = n) (kk : ZW p l e R s m args below meth c nL G A Q cells slots ws n lv (.ref a :: rest)) : ZW p l e R s m args below meth c nL G A Q cells slots ws pc lv (.ref a :: rest) := by
  subst hn; intro H locs ls hP hD hS hl
  exact va_castY F.hx F.hb F.hown (F.hts _ hlink) F.hE.2.2.2.1 (z_recv F hP q0 he (C := "Zuc128Engine") rfl) hdg (kk H locs ls hP hD hS hl)
theorem z_cv (F : zFix p s m args meth c cc nL own nm ret G A) {post : va_W → Prop} {wc wr : va_W} {mc ms : Nat} {av : Array Value}
    (run : ∀ (H : Heap) (locs : List Loc) (ls : Array Slot), lv_has ls nL lv → va_P (zgD G) zCl wc H → va_D (fun _ => True) wc → zE G (va_A wc H.size) s H → va_Run p l e R s m args below meth c H locs cells slots mc ms (F0 m pc ls st) rest (va_Qv post (zB G wc H.size) (va_A wc H.size) av) (va_A wc H.size))
    (hn : pc + 3 = n) (hcc : cells + mc = cells2) (hss : slots + ms = slots2) (kk : ∀ (w1 : va_W) (_ : post w1), ZW p l e R s m args below meth c nL G A Q cells2 slots2 (w1 ++ wr) n lv (rest)) : ZW p l e R s m args below meth c nL G A Q cells slots (wc ++ wr) pc lv (st) := by
  subst hn; subst hcc; subst hss; intro H locs ls hP hD hS hl
  have hPc : va_P (zgD G) zCl wc H := fun j q hq => hP j q (by rw [List.getElem?_append_left (List.getElem?_eq_some_iff.mp hq).1]; exact hq)
  have hDc : va_D A wc := ⟨fun i j x y hx hy hxy => hD.1 i j x y (by rw [List.getElem?_append_left (List.getElem?_eq_some_iff.mp hx).1]; exact hx) (by rw [List.getElem?_append_left (List.getElem?_eq_some_iff.mp hy).1]; exact hy) hxy, fun j q hq => hD.2 j q (by rw [List.getElem?_append_left (List.getElem?_eq_some_iff.mp hq).1]; exact hq)⟩
  have hFc : ∀ q, va_A wc H.size q → A q := by
    intro q h
    rcases h with ⟨j, x, h⟩ | h
    · exact hDc.2 j (q, x) h
    · exact F.hA q (Nat.le_trans hS.1 h)
  have hE := (F.hE.kept hS.1 hS.2.1).narrow hFc
  refine va_callv (run H locs ls hl hPc (hDc.weaken (fun _ _ _ _ => trivial)) hE) hS (fun q _ h => hFc q h) hFc (fun u t H1 locs1 ht hvm hw hB hz1 hk1 hS1 => ?_)
  obtain ⟨hP1, hD1⟩ := hB
  rw [ht] at hP1
  have hj := z_join hP hD hk1 hFc hP1 hD1
  exact kk u hw H1 locs1 ls hj.1 hj.2 hS1 hl
theorem z_ci (F : zFix p s m args meth c cc nL own nm ret G A) {post : Int32 → va_W → Prop} {wc wr : va_W} {mc ms : Nat} {av : Array Value}
    (run : ∀ (H : Heap) (locs : List Loc) (ls : Array Slot), lv_has ls nL lv → va_P (zgD G) zCl wc H → va_D (fun _ => True) wc → zE G (va_A wc H.size) s H → va_Run p l e R s m args below meth c H locs cells slots mc ms (F0 m pc ls st) rest (va_Qi post (zB G wc H.size) (va_A wc H.size) av) (va_A wc H.size))
    (hn : pc + 3 = n) (hcc : cells + mc = cells2) (hss : slots + ms = slots2) (kk : ∀ (r : Int32) (w1 : va_W) (_ : post r w1), ZW p l e R s m args below meth c nL G A Q cells2 slots2 (w1 ++ wr) n lv (.int r :: rest)) : ZW p l e R s m args below meth c nL G A Q cells slots (wc ++ wr) pc lv (st) := by
  subst hn; subst hcc; subst hss; intro H locs ls hP hD hS hl
  have hPc : va_P (zgD G) zCl wc H := fun j q hq => hP j q (by rw [List.getElem?_append_left (List.getElem?_eq_some_iff.mp hq).1]; exact hq)
  have hDc : va_D A wc := ⟨fun i j x y hx hy hxy => hD.1 i j x y (by rw [List.getElem?_append_left (List.getElem?_eq_some_iff.mp hx).1]; exact hx) (by rw [List.getElem?_append_left (List.getElem?_eq_some_iff.mp hy).1]; exact hy) hxy, fun j q hq => hD.2 j q (by rw [List.getElem?_append_left (List.getElem?_eq_some_iff.mp hq).1]; exact hq)⟩
  have hFc : ∀ q, va_A wc H.size q → A q := by
    intro q h
    rcases h with ⟨j, x, h⟩ | h
    · exact hDc.2 j (q, x) h
    · exact F.hA q (Nat.le_trans hS.1 h)
  have hE := (F.hE.kept hS.1 hS.2.1).narrow hFc
  refine va_calli (run H locs ls hl hPc (hDc.weaken (fun _ _ _ _ => trivial)) hE) hS (fun q _ h => hFc q h) hFc (fun r u t H1 locs1 ht hvm hw hB hz1 hk1 hS1 => ?_)
  obtain ⟨hP1, hD1⟩ := hB
  rw [ht] at hP1
  have hj := z_join hP hD hk1 hFc hP1 hD1
  exact kk r u hw H1 locs1 ls hj.1 hj.2 hS1 hl
theorem z_cr (F : zFix p s m args meth c cc nL own nm ret G A) {post : Nat → va_W → Prop} {wc wr : va_W} {mc ms : Nat} {av : Array Value}
    (run : ∀ (H : Heap) (locs : List Loc) (ls : Array Slot), lv_has ls nL lv → va_P (zgD G) zCl wc H → va_D (fun _ => True) wc → zE G (va_A wc H.size) s H → va_Run p l e R s m args below meth c H locs cells slots mc ms (F0 m pc ls st) rest (va_Qr (fun _ : va_W => True) (fun w1 a t => post a w1 ∧ zB G wc H.size w1 t) (va_A wc H.size) av) (va_A wc H.size))
    (hn : pc + 3 = n) (hcc : cells + mc = cells2) (hss : slots + ms = slots2) (kk : ∀ (r : Nat) (w1 : va_W) (_ : post r w1), ZW p l e R s m args below meth c nL G A Q cells2 slots2 (w1 ++ wr) n lv (.ref r :: rest)) : ZW p l e R s m args below meth c nL G A Q cells slots (wc ++ wr) pc lv (st) := by
  subst hn; subst hcc; subst hss; intro H locs ls hP hD hS hl
  have hPc : va_P (zgD G) zCl wc H := fun j q hq => hP j q (by rw [List.getElem?_append_left (List.getElem?_eq_some_iff.mp hq).1]; exact hq)
  have hDc : va_D A wc := ⟨fun i j x y hx hy hxy => hD.1 i j x y (by rw [List.getElem?_append_left (List.getElem?_eq_some_iff.mp hx).1]; exact hx) (by rw [List.getElem?_append_left (List.getElem?_eq_some_iff.mp hy).1]; exact hy) hxy, fun j q hq => hD.2 j q (by rw [List.getElem?_append_left (List.getElem?_eq_some_iff.mp hq).1]; exact hq)⟩
  have hFc : ∀ q, va_A wc H.size q → A q := by
    intro q h
    rcases h with ⟨j, x, h⟩ | h
    · exact hDc.2 j (q, x) h
    · exact F.hA q (Nat.le_trans hS.1 h)
  have hE := (F.hE.kept hS.1 hS.2.1).narrow hFc
  refine va_callr (run H locs ls hl hPc (hDc.weaken (fun _ _ _ _ => trivial)) hE) hS (fun q _ h => hFc q h) hFc (fun u r t H1 locs1 ht hvm _ hB hz1 hk1 hS1 => ?_)
  obtain ⟨hw, hP1, hD1⟩ := hB
  rw [ht] at hP1
  have hj := z_join hP hD hk1 hFc hP1 hD1
  exact kk r u hw H1 locs1 ls hj.1 hj.2 hS1 hl
theorem z_at0 (F : zFix p s m args meth c cc nL own nm ret G A) {wc : va_W} {av : List Value} {H : Heap} (hP : va_P (zgD G) zCl wc H) (hD : va_D (fun _ => True) wc) (hE : zE G (va_A wc H.size) s H) : ∀ U : State, U.heap = H → s.WarmedH U.vm → va_Pc av (zPre G wc H.size) av.toArray U :=
  fun U hU hW => ⟨rfl, by rw [hU], by rw [hU]; exact hP, va_K.moved hW.alike F.hK, hD, by rw [hU]; exact zE.moved hW.alike hE⟩
theorem z_rV (F : zFix p s m args meth c cc nL own nm ret G A) {y : MethodName} {mL mc ms j index : Nat} {bs : ByteArray} {rt : Option FieldType} {wl : List Cond} {rm : Room} {As : List Value} {wc : va_W} {Qc : Nat → Array Value → State → Outcome → State → Prop} {b : Nat} {C : String} {T : u_T} {N ci : Nat} {fs : List Value} (hM : ∀ sz : Nat, Met l y wl rm (va_Pc (.ref b :: As) (zPre G wc sz)) (Qc sz) mc ms (va_A wc sz)) (cw : CallW R s args own C index y bs mL rt wl rm mc ms j) (q0 : Nat) (he : wc[q0]? = some (b, zo ci fs)) (hc : zCl[ci]? = some (C, T, N)) (hst : st = As.reverse ++ .ref b :: rest) (hk : As.length = j) (hW : (rest.map fun v => v.category).sum ≤ 8) (hdg : decode cc pc = .ok (.invokevirtual index, 3)) (hf : cells + mc ≤ R.cells ∧ slots + ms ≤ R.slots) :
    ∀ (H : Heap) (locs : List Loc) (ls : Array Slot), lv_has ls nL lv → va_P (zgD G) zCl wc H → va_D (fun _ => True) wc → zE G (va_A wc H.size) s H → va_Run p l e R s m args below meth c H locs cells slots mc ms (F0 m pc ls st) rest (Qc H.size ((.ref b :: As) : List Value).toArray) (va_A wc H.size) :=
  fun H locs ls hl hP hD hE => va_runV ⟨F.hx, F.hb, F.hml, F.hown, F.hts⟩ (hM H.size) cw ⟨z_blind, va_recv F.hK hP hc he, z_at0 F hP hD hE⟩ rfl hk hl.1 hst (lv_room hW) hdg hf
theorem z_rU (F : zFix p s m args meth c cc nL own nm ret G A) {y : MethodName} {mL mc ms j index : Nat} {bs : ByteArray} {rt : Option FieldType} {wl : List Cond} {rm : Room} {As : List Value} {wc : va_W} {Qc : Nat → Array Value → State → Outcome → State → Prop} {b : Nat} {C : String} {T : u_T} {N ci : Nat} {fs : List Value} {x : MethodName} {owner : String} (hM : ∀ sz : Nat, Met l y wl rm (va_Pc (.ref b :: As) (zPre G wc sz)) (Qc sz) mc ms (va_A wc sz)) (cw : va_CU R s args own C owner index x y bs mL rt wl rm mc ms j) (q0 : Nat) (he : wc[q0]? = some (b, zo ci fs)) (hc : zCl[ci]? = some (C, T, N)) (hst : st = As.reverse ++ .ref b :: rest) (hk : As.length = j) (hW : (rest.map fun v => v.category).sum ≤ 8) (hdg : decode cc pc = .ok (.invokevirtual index, 3)) (hf : cells + mc ≤ R.cells ∧ slots + ms ≤ R.slots) :
    ∀ (H : Heap) (locs : List Loc) (ls : Array Slot), lv_has ls nL lv → va_P (zgD G) zCl wc H → va_D (fun _ => True) wc → zE G (va_A wc H.size) s H → va_Run p l e R s m args below meth c H locs cells slots mc ms (F0 m pc ls st) rest (Qc H.size ((.ref b :: As) : List Value).toArray) (va_A wc H.size) :=
  fun H locs ls hl hP hD hE => va_runU ⟨F.hx, F.hb, F.hml, F.hown, F.hts⟩ (hM H.size) cw ⟨z_blind, va_recv F.hK hP hc he, z_at0 F hP hD hE⟩ rfl hk hl.1 hst (lv_room hW) hdg hf
theorem z_rS (F : zFix p s m args meth c cc nL own nm ret G A) {y : MethodName} {mL mc ms j index : Nat} {bs : ByteArray} {rt : Option FieldType} {wl : List Cond} {rm : Room} {As : List Value} {wc : va_W} {Qc : Nat → Array Value → State → Outcome → State → Prop}  (hM : ∀ sz : Nat, Met l y wl rm (va_Pc As (zPre G wc sz)) (Qc sz) mc ms (va_A wc sz)) (cw : CallB R s args own index y bs mL rt wl rm mc ms j ∧ (Cond.static y).before args s = true) (hst : st = As.reverse ++ rest) (hk : As.length = j) (hW : (rest.map fun v => v.category).sum ≤ 8) (hdg : decode cc pc = .ok (.invokestatic index, 3)) (hf : cells + mc ≤ R.cells ∧ slots + ms ≤ R.slots) :
    ∀ (H : Heap) (locs : List Loc) (ls : Array Slot), lv_has ls nL lv → va_P (zgD G) zCl wc H → va_D (fun _ => True) wc → zE G (va_A wc H.size) s H → va_Run p l e R s m args below meth c H locs cells slots mc ms (F0 m pc ls st) rest (Qc H.size (As : List Value).toArray) (va_A wc H.size) :=
  fun H locs ls hl hP hD hE => va_runS ⟨F.hx, F.hb, F.hml, F.hown, F.hts⟩ (hM H.size) cw ⟨z_blind, z_at0 F hP hD hE⟩ rfl hk hl.1 hst (lv_room hW) hdg hf
theorem z_rI (F : zFix p s m args meth c cc nL own nm ret G A) {y : MethodName} {mL mc ms j index : Nat} {bs : ByteArray} {wl : List Cond} {rm : Room} {As : List Value} {wc : va_W} {Qc : Nat → Array Value → State → Outcome → State → Prop} {b : Nat}  (hM : ∀ sz : Nat, Met l y wl rm (va_Pc (.ref b :: As) (zPre G wc sz)) (Qc sz) mc ms (va_A wc sz)) (cw : CallB R s args own index y bs mL none wl rm mc ms j ∧ y.name = "<init>" ∧ (Cond.instanceMethod y).before args s = true) (hst : st = As.reverse ++ .ref b :: rest) (hk : As.length = j) (hW : (rest.map fun v => v.category).sum ≤ 8) (hdg : decode cc pc = .ok (.invokespecial index, 3)) (hf : cells + mc ≤ R.cells ∧ slots + ms ≤ R.slots) :
    ∀ (H : Heap) (locs : List Loc) (ls : Array Slot), lv_has ls nL lv → va_P (zgD G) zCl wc H → va_D (fun _ => True) wc → zE G (va_A wc H.size) s H → va_Run p l e R s m args below meth c H locs cells slots mc ms (F0 m pc ls st) rest (Qc H.size ((.ref b :: As) : List Value).toArray) (va_A wc H.size) :=
  fun H locs ls hl hP hD hE => va_runI ⟨F.hx, F.hb, F.hml, F.hown, F.hts⟩ (hM H.size) cw ⟨z_blind, z_at0 F hP hD hE⟩ rfl hk hl.1 hst (lv_room hW) hdg hf
theorem z_vret {wc : va_W} (F : zFix p s m args meth c cc nL own nm none G (va_A wc s.heap.size)) {post : va_W → Prop} {mc ms : Nat} (hpost : post ws) (hc : cells ≤ mc) (hs : slots ≤ ms) (hdg : decode cc pc = .ok (.return_, 1)) : ZW p l e R s m args below meth c nL G (va_A wc s.heap.size) (MQ below (va_Qv post (zB G wc s.heap.size) (va_A wc s.heap.size)) args s mc ms (va_A wc s.heap.size)) cells slots ws pc lv ([]) := by
  intro H locs ls hP hD hS hl
  refine W.widen hc hs ?_
  exact W.vret F.hx F.hb F.hret (fun t ht hW => ⟨⟨ws, rfl, hpost, by rw [ht]; exact hP, hD⟩, hS.F ht⟩) hS.2.2 hdg F.hlk
theorem z_iret {wc : va_W} {ty : FieldType} {v : Int32} (F : zFix p s m args meth c cc nL own nm (some ty) G (va_A wc s.heap.size)) {post : Int32 → va_W → Prop} {mc ms : Nat} (hnr : narrow ty (.int v) = .int v) (hpost : post v ws) (hc : cells ≤ mc) (hs : slots ≤ ms) (hdg : decode cc pc = .ok (.ireturn, 1)) : ZW p l e R s m args below meth c nL G (va_A wc s.heap.size) (MQ below (va_Qi post (zB G wc s.heap.size) (va_A wc s.heap.size)) args s mc ms (va_A wc s.heap.size)) cells slots ws pc lv ([.int v]) := by
  intro H locs ls hP hD hS hl
  refine W.widen hc hs ?_
  exact W.zret (v := v) F.hx F.hb F.hret hnr (fun t ht hW => ⟨⟨v, ws, rfl, hpost, by rw [ht]; exact hP, hD⟩, hS.F ht⟩) hS.2.2 hdg F.hlk
theorem z_aret {wc : va_W} {ty : FieldType} {v : Nat} (F : zFix p s m args meth c cc nL own nm (some ty) G (va_A wc s.heap.size)) {post : Nat → va_W → Prop} {mc ms : Nat} (hrt : (∃ k, ty = .object k) ∨ ∃ t, ty = .array t) (hpost : post v ws) (hc : cells ≤ mc) (hs : slots ≤ ms) (hdg : decode cc pc = .ok (.areturn, 1)) : ZW p l e R s m args below meth c nL G (va_A wc s.heap.size) (MQ below (va_Qr (fun _ : va_W => True) (fun w1 a t => post a w1 ∧ zB G wc s.heap.size w1 t) (va_A wc s.heap.size)) args s mc ms (va_A wc s.heap.size)) cells slots ws pc lv ([.ref v]) := by
  intro H locs ls hP hD hS hl
  refine W.widen hc hs ?_
  exact W.aret (v := .ref v) F.hx F.hb F.hret hrt (Or.inr ⟨v, rfl⟩) (fun t ht hW => ⟨⟨ws, v, rfl, trivial, hpost, by rw [ht]; exact hP, hD⟩, hS.F ht⟩) hS.2.2 hdg F.hlk
end ZR
/-- a contract's proof: from the entry, with the cells wc -/
theorem z_enter {l : Launch} {y : MethodName} {cc : ByteArray} {nL : Nat} {ret : Option FieldType} {rm : Room} {G : zG} {av : List Value} {wc : va_W} {Qc : Nat → Array Value → State → Outcome → State → Prop} (own nm : String) (lv : List (Nat × Value)) (hy : plainName y.cls = true) (ho : y.cls = own) (hnm : y.name = nm) (hlv : lv_args 0 av = lv) (hav : (lg_sl av).length ≤ nL)
    (body : ∀ (p : Program) (e : Env) (s : State) (m : MethodId) (args : Array Value) (below : List Frame) (meth : Method) (c : Code), zFix p s m args meth c cc nL own nm ret G (va_A wc s.heap.size) → ZW p l e rm s m args below meth c nL G (va_A wc s.heap.size) (MQ below (Qc s.heap.size) args s rm.cells rm.slots (va_A wc s.heap.size)) 0 0 wc 0 lv []) :
    ∀ sz : Nat, Met l y (ws_ y cc nL ret) rm (va_Pc av (zPre G wc sz)) (Qc sz) rm.cells rm.slots (va_A wc sz) := by
  intro sz
  refine Met.ofW (cc := cc) (maxL := nL) (ret := ret) hy rfl ?_
  intro p e s m args below meth c s₁ B hml hv
  obtain ⟨rfl, hsz, hP, hK, hD0, hE⟩ := hv
  subst hsz
  have hts := atoms_spec (ws := ws_ y cc nL ret) B.pre
  have hts : ∀ w ∈ lw_all, w.before av.toArray s = true := fun w h => hts w (List.mem_cons_of_mem _ h)
  have hown : s.vm.findClass own = some m.cls := by rw [← ho]; exact findClass_of_methodNamed B.named
  have hin : meth.name = nm := by rw [← hnm]; exact (name_of_methodNamed B.named B.method).1
  have F : zFix p s m av.toArray meth c cc nL own nm ret G (va_A wc s.heap.size) := ⟨B.exec, B.bytes, hml, hown, hts, hK, fun q h => Or.inr h, hE, B.notSynchronized, hin, B.returns⟩
  have hl := lv_entry av (n := nL) hav
  rw [hlv] at hl
  rw [lg_entry_eq]
  exact body p e s m av.toArray below meth c F s.heap [] _ hP (hD0.self) va_S.rf hl
end
section
/-! ZUC: what the bytecode computes, in plain functions -/
set_option maxRecDepth 100000
def z00 : zA := fun _ => 0
def zMul (x k : Int32) : Int32 := ((x <<< (k &&& 31)) ||| zush x (31 - k)) &&& 2147483647
def zAddM (a b : Int32) : Int32 := ((a + b) &&& 2147483647) + zush (a + b) 31
def zROT (a k : Int32) : Int32 := (a <<< (k &&& 31)) ||| zush a (32 - k)
def zL1 (x : Int32) : Int32 := x ^^^ zROT x 2 ^^^ zROT x 10 ^^^ zROT x 18 ^^^ zROT x 24
def zL2 (x : Int32) : Int32 := x ^^^ zROT x 8 ^^^ zROT x 14 ^^^ zROT x 22 ^^^ zROT x 30
def zMK32 (a b c d : Int32) : Int32 := ((((a &&& 255) <<< ((24 : Int32) &&& 31)) ||| ((b &&& 255) <<< ((16 : Int32) &&& 31))) ||| ((c &&& 255) <<< ((8 : Int32) &&& 31))) ||| (d &&& 255)
def zMK31 (a b c : Int32) : Int32 := (((a &&& 255) <<< ((23 : Int32) &&& 31)) ||| ((b &&& 65535) <<< ((8 : Int32) &&& 31))) ||| (c &&& 255)
def zFbk (L : zA) : Int32 := zAddM (zAddM (zAddM (zAddM (zAddM (L 0) (zMul (L 0) 8)) (zMul (L 4) 20)) (zMul (L 10) 21)) (zMul (L 13) 17)) (zMul (L 15) 15)
/-- the register, its first k places moved on by one -/
def zSk (L : zA) (k : Nat) : zA := fun j => if j < k then L (j + 1) else L j
theorem zSk_0 (L : zA) : L = zSk L 0 := by funext j; simp [zSk]
theorem zSk_at (L : zA) (k : Nat) : zSk L k (k + 1) = L (k + 1) := by simp [zSk]; omega
theorem zSk_up (L : zA) (k : Nat) : upd (zSk L k) k (L (k + 1)) = zSk L (k + 1) := by
  funext j
  simp only [upd, zSk]
  by_cases h : j = k
  · subst h; simp
  · rw [if_neg h]
    by_cases h2 : j < k
    · rw [if_pos h2, if_pos (by omega)]
    · rw [if_neg h2, if_neg (by omega)]
def zSh (L : zA) (f : Int32) : zA := upd (zSk L 15) 15 f
def zWork (L : zA) : zA := zSh L (zFbk L)
def zIni (L : zA) (u : Int32) : zA := zSh L (zAddM (zFbk L) u)
def zB0 (L : zA) : Int32 := ((L 15 &&& 2147450880) <<< ((1 : Int32) &&& 31)) ||| (L 14 &&& 65535)
def zBx (a b : Int32) : Int32 := ((a &&& 65535) <<< ((16 : Int32) &&& 31)) ||| zush b 15
def zBit (L B : zA) : zA := upd (upd (upd (upd B 0 (zB0 L)) 1 (zBx (L 11) (L 9))) 2 (zBx (L 7) (L 5))) 3 (zBx (L 2) (L 0))
def zWf (B F : zA) : Int32 := (B 0 ^^^ F 0) + F 1
def zW1 (B F : zA) : Int32 := F 0 + B 1
def zW2 (B F : zA) : Int32 := F 1 ^^^ B 2
def zUf (B F : zA) : Int32 := zL1 ((zW1 B F <<< ((16 : Int32) &&& 31)) ||| zush (zW2 B F) 16)
def zVf (B F : zA) : Int32 := zL2 ((zW2 B F <<< ((16 : Int32) &&& 31)) ||| zush (zW1 B F) 16)
def zSS (x : Int32) : Int32 := zMK32 (zS0 (zush x 24).toNatClampNeg) (zS1 (zush x 16 &&& 255).toNatClampNeg) (zS0 (zush x 8 &&& 255).toNatClampNeg) (zS1 (x &&& 255).toNatClampNeg)
def zFn (B F : zA) : zA := upd (upd F 0 (zSS (zUf B F))) 1 (zSS (zVf B F))
def zEnc (K : zA) (v : Int32) : zA := upd (upd (upd (upd K 0 (zb8 (v >>> ((24 : Int32) &&& 31)))) 1 (zb8 (v >>> ((16 : Int32) &&& 31)))) 2 (zb8 (v >>> ((8 : Int32) &&& 31)))) 3 (zb8 v)
def zWd (f : zA) (j : Nat) (w : Int32) : zA := upd (upd (upd (upd f j (zb8 (w >>> ((24 : Int32) &&& 31)))) (j + 1) (zb8 (w >>> ((16 : Int32) &&& 31)))) (j + 2) (zb8 (w >>> ((8 : Int32) &&& 31)))) (j + 3) (zb8 w)
theorem zb8_b (x : Int32) : zb8 (zb8 x) = zb8 x := (vp_nar_byte (zb8 x)).symm.trans (pk_vb x)
theorem zb8_fit (x : Int32) : fits .byte (.int (zb8 x)) = true := pk_fb x
theorem zb8_nar (x : Int32) : narrow .byte (.int (zb8 x)) = .int (zb8 x) := pk_nb x
/-- an array of bytes -/
def zBy (f : zA) : Prop := ∀ j : Nat, fits .byte (.int (f j)) = true
theorem zBy_00 : zBy z00 := fun _ => rfl
theorem zBy_upd {f : zA} (h : zBy f) (k : Nat) (x : Int32) : zBy (upd f k (zb8 x)) := by
  intro j
  unfold upd
  by_cases e : j = k
  · rw [if_pos e]; exact zb8_fit x
  · rw [if_neg e]; exact h j
theorem zBy_enc {f : zA} (h : zBy f) (v : Int32) : zBy (zEnc f v) := zBy_upd (zBy_upd (zBy_upd (zBy_upd h _ _) _ _) _ _) _ _
theorem zBy_wd {f : zA} (h : zBy f) (j : Nat) (w : Int32) : zBy (zWd f j w) := zBy_upd (zBy_upd (zBy_upd (zBy_upd h _ _) _ _) _ _) _ _
-- the key's loading
def zLs (L k iv : zA) (t : Nat) : zA := fun j => if j < t then zMK31 (k j) (zEK j) (iv j) else L j
theorem zLs_0 (L k iv : zA) : L = zLs L k iv 0 := by funext j; simp [zLs]
theorem zLs_up (L k iv : zA) (t : Nat) : upd (zLs L k iv t) t (zMK31 (k t) (zEK t) (iv t)) = zLs L k iv (t + 1) := by
  funext j
  simp only [upd, zLs]
  by_cases h : j = t
  · subst h; simp
  · rw [if_neg h]
    by_cases h2 : j < t
    · rw [if_pos h2, if_pos (by omega)]
    · rw [if_neg h2, if_neg (by omega)]
def zLd (k iv : zA) : zA := fun j => if j < 16 then zMK31 (k j) (zEK j) (iv j) else 0
theorem zLs_16 (L k iv : zA) : ∀ j : Nat, j < 16 → zLs L k iv 16 j = zLd k iv j := fun j h => by simp [zLs, zLd, h]
/-- register, the two cells of F, the four of BRC -/
abbrev zT3 : Type := zA × zA × zA
def zRd (t : zT3) : zT3 := (zIni t.1 (zush (zWf (zBit t.1 t.2.2) t.2.1) 1), zFn (zBit t.1 t.2.2) t.2.1, zBit t.1 t.2.2)
def zRds (t : zT3) : Nat → zT3
  | 0 => t
  | n + 1 => zRd (zRds t n)
def zWk (t : zT3) : zT3 := (zWork t.1, zFn (zBit t.1 t.2.2) t.2.1, zBit t.1 t.2.2)
def zSet (t : zT3) : zT3 := zWk (zRds t 32)
/-- an engine's state: register, F, BRC, theIndex, keyStream, theIterations -/
abbrev zS : Type := zA × zA × zA × Int32 × zA × Int32
abbrev zSx (σ : zS) : Int32 := σ.2.2.2.1
abbrev zSK (σ : zS) : zA := σ.2.2.2.2.1
abbrev zSn (σ : zS) : Int32 := σ.2.2.2.2.2
/-- the word of the key stream that comes next -/
def zNw (L F B : zA) : Int32 := zWf (zBit L B) F ^^^ zBit L B 3
def zGen (σ : zS) : zS := (zWork σ.1, zFn (zBit σ.1 σ.2.2.1) σ.2.1, zBit σ.1 σ.2.2.1, zSx σ, zEnc (zSK σ) (zNw σ.1 σ.2.1 σ.2.2.1), zSn σ + 1)
def zPrep (σ : zS) : zS := if zSx σ = 0 then zGen σ else σ
def zKey (σ : zS) : Int32 := zSK (zPrep σ) (zSx σ).toNatClampNeg
def zInc (x : Int32) : Int32 := (x + 1) - (x + 1) / 4 * 4
def zAdv (σ : zS) : zS := ((zPrep σ).1, (zPrep σ).2.1, (zPrep σ).2.2.1, zInc (zSx σ), zSK (zPrep σ), zSn (zPrep σ))
def zAt (σ : zS) : Nat → zS
  | 0 => σ
  | n + 1 => zAdv (zAt σ n)
theorem zAt_add (σ : zS) (a b : Nat) : zAt (zAt σ a) b = zAt σ (a + b) := by
  induction b with
  | zero => rfl
  | succ b ih => show zAdv (zAt (zAt σ a) b) = zAdv (zAt σ (a + b)); rw [ih]
/-- what holds of a state that has given n bytes -/
def zInv (n : Nat) (σ : zS) : Prop := zSx σ = nI (n % 4) ∧ zSn σ = nI ((n + 3) / 4) ∧ zBy (zSK σ)
theorem zInc_nI {r : Nat} (h : r < 1000) : zInc (nI r) = nI ((r + 1) % 4) := by
  unfold zInc
  rw [nI_1]
  exact pk_rem (a := r + 1) (d := 4) (by omega) (by omega) (by omega)
theorem zSx_gen (σ : zS) : zSx (zGen σ) = zSx σ := rfl
theorem zAdv_inv {n : Nat} {σ : zS} (h : zInv n σ) (hn : n < 1000000) : zInv (n + 1) (zAdv σ) := by
  obtain ⟨h1, h2, h3⟩ := h
  by_cases hz : n % 4 = 0
  · have h0 : zSx σ = 0 := by rw [h1, hz]; rfl
    have hp : zPrep σ = zGen σ := by unfold zPrep; rw [if_pos h0]
    refine ⟨?_, ?_, ?_⟩
    · show zInc (zSx σ) = _
      rw [h1, zInc_nI (by omega)]
      congr 1
      omega
    · show zSn (zPrep σ) = _
      rw [hp]
      show zSn σ + 1 = _
      rw [h2, nI_1]
      congr 1
      omega
    · show zBy (zSK (zPrep σ))
      rw [hp]
      exact zBy_enc h3 _
  · have h0 : ¬ zSx σ = 0 := by rw [h1]; exact nI_ne0 (by omega) (by omega)
    have hp : zPrep σ = σ := by unfold zPrep; rw [if_neg h0]
    refine ⟨?_, ?_, ?_⟩
    · show zInc (zSx σ) = _
      rw [h1, zInc_nI (by omega)]
      congr 1
      omega
    · show zSn (zPrep σ) = _
      rw [hp, h2]
      congr 1
      omega
    · show zBy (zSK (zPrep σ))
      rw [hp]
      exact h3
theorem zAt_inv {σ : zS} (h : zInv 0 σ) : ∀ n : Nat, n < 1000000 → zInv n (zAt σ n)
  | 0, _ => h
  | n + 1, hn => zAdv_inv (zAt_inv h n (by omega)) (by omega)
/-- an engine set up with a key and an IV -/
def zSig (k iv : zA) : zS := ((zSet (zLd k iv, z00, z00)).1, (zSet (zLd k iv, z00, z00)).2.1, (zSet (zLd k iv, z00, z00)).2.2, 0, z00, 0)
theorem zSig_inv (k iv : zA) : zInv 0 (zSig k iv) := ⟨rfl, rfl, zBy_00⟩
/-- the byte that comes out for the byte b -/
def zOut (σ : zS) (b : Int32) : Int32 := zb8 (zKey σ ^^^ b)
end
section
/-! small helps for the walks -/
set_option maxRecDepth 100000
theorem z_gU {own : String} {idx : Nat} {C owner : String} {x y : MethodName} {b : ByteArray} {L : Nat} {r : Option FieldType} (h1 : Cond.methodLink own idx x ∈ lw_all) (h2 : Cond.sameMethod x.cls owner x.name x.desc ∈ lw_all) (h3 : Cond.selects C x y ∈ lw_all) (h4 : Cond.instanceMethod y ∈ lw_all) (h5 : Cond.initialized y.cls ∈ lw_all) (h6 : Cond.code y b L r ∈ lw_all) : GoodIn lw_all (va_wsU own idx C owner x y (ws_ y b L r)) := by
  refine lw_app ?_ (lw_meth h6)
  intro w hw
  simp only [List.mem_cons, List.not_mem_nil, or_false] at hw
  rcases hw with e | e | e | e | e
  · rw [e]; exact h1
  · rw [e]; exact h2
  · rw [e]; exact h3
  · rw [e]; exact h4
  · rw [e]; exact h5
theorem z_gO {own : String} {idx : Nat} {C owner : String} {x y : MethodName} {b : ByteArray} {L : Nat} {r : Option FieldType} (h1 : Cond.methodLink own idx x ∈ lw_all) (h2 : Cond.sameMethod x.cls owner x.name x.desc ∈ lw_all) (h0 : Cond.instanceMethod ⟨owner, x.name, x.desc⟩ ∈ lw_all) (h3 : Cond.selects C x y ∈ lw_all) (h4 : Cond.instanceMethod y ∈ lw_all) (h5 : Cond.initialized y.cls ∈ lw_all) (h6 : Cond.code y b L r ∈ lw_all) : GoodIn lw_all (va_wsO own idx C owner x y (ws_ y b L r)) := by
  refine lw_app ?_ (lw_meth h6)
  intro w hw
  simp only [List.mem_cons, List.not_mem_nil, or_false] at hw
  rcases hw with e | e | e | e | e | e
  · rw [e]; exact h1
  · rw [e]; exact h2
  · rw [e]; exact h0
  · rw [e]; exact h3
  · rw [e]; exact h4
  · rw [e]; exact h5
theorem zd0 : ∀ j, j < 1 → defaultValue (tyX5 j) = vp_V [.null] j := fun j hj => by rcases (show j = 0 by omega) with rfl; rfl
theorem zd1 : ∀ j, j < 2 → defaultValue (tyX4 j) = vp_V [.null, .null] j := fun j hj => by rcases (show j = 0 ∨ j = 1 by omega) with rfl | rfl <;> rfl
theorem zd2 : ∀ j, j < 7 → defaultValue (tyX3 j) = vp_V [.null, .null, .null, .int 0, .null, .int 0, .null] j := fun j hj => by rcases (show j = 0 ∨ j = 1 ∨ j = 2 ∨ j = 3 ∨ j = 4 ∨ j = 5 ∨ j = 6 by omega) with rfl | rfl | rfl | rfl | rfl | rfl | rfl <;> rfl
theorem zd3 : ∀ j, j < 8 → defaultValue (tyX1 j) = vp_V [.null, .int 0, .int 0, .null, .null, .null, .int 0, .null] j := fun j hj => by rcases (show j = 0 ∨ j = 1 ∨ j = 2 ∨ j = 3 ∨ j = 4 ∨ j = 5 ∨ j = 6 ∨ j = 7 by omega) with rfl | rfl | rfl | rfl | rfl | rfl | rfl | rfl <;> rfl
theorem zSk_up0 (L : zA) : upd L 0 (L 1) = zSk L 1 := by
  have h := zSk_up L 0
  rw [← zSk_0] at h
  exact h
theorem zLs_up0 (L k iv : zA) : upd L 0 (zMK31 (k 0) (zEK 0) (iv 0)) = zLs L k iv 1 := by
  have h := zLs_up L k iv 0
  rw [← zLs_0] at h
  exact h
theorem zin_255 (x : Int32) : vp_in (x &&& 255) 256 := pk_andIn x 8 rfl (by decide)
theorem zush_nat (x : Int32) : (zush x 24).toBitVec.toNat = x.toBitVec.toNat / 2 ^ 24 := pk_ushr x 24 24 rfl
theorem zin_24 (x : Int32) : vp_in (zush x 24) 256 := by
  have h1 := zush_nat x
  have h2 : x.toBitVec.toNat < 2 ^ 32 := x.toBitVec.isLt
  have h3 : zush x 24 = nI (x.toBitVec.toNat / 2 ^ 24) := by
    apply Int32.toBitVec_inj.mp
    apply BitVec.eq_of_toNat_eq
    rw [h1]
    exact (pk_tn (by omega)).symm
  rw [h3]
  exact vp_in_nI (by omega) (by omega)
theorem zn2_0 : vp_in 0 2 := z_in (by decide)
theorem zn2_1 : vp_in 1 2 := z_in (by decide)
theorem zn4_0 : vp_in 0 4 := z_in (by decide)
theorem zn4_1 : vp_in 1 4 := z_in (by decide)
theorem zn4_2 : vp_in 2 4 := z_in (by decide)
theorem zn4_3 : vp_in 3 4 := z_in (by decide)
theorem zn16_0 : vp_in 0 16 := z_in (by decide)
theorem zn16_1 : vp_in 1 16 := z_in (by decide)
theorem zn16_2 : vp_in 2 16 := z_in (by decide)
theorem zn16_3 : vp_in 3 16 := z_in (by decide)
theorem zn16_4 : vp_in 4 16 := z_in (by decide)
theorem zn16_5 : vp_in 5 16 := z_in (by decide)
theorem zn16_6 : vp_in 6 16 := z_in (by decide)
theorem zn16_7 : vp_in 7 16 := z_in (by decide)
theorem zn16_8 : vp_in 8 16 := z_in (by decide)
theorem zn16_9 : vp_in 9 16 := z_in (by decide)
theorem zn16_10 : vp_in 10 16 := z_in (by decide)
theorem zn16_11 : vp_in 11 16 := z_in (by decide)
theorem zn16_12 : vp_in 12 16 := z_in (by decide)
theorem zn16_13 : vp_in 13 16 := z_in (by decide)
theorem zn16_14 : vp_in 14 16 := z_in (by decide)
theorem zn16_15 : vp_in 15 16 := z_in (by decide)
theorem zn8_0 : vp_in 0 8 := z_in (by decide)
theorem zn8_1 : vp_in 1 8 := z_in (by decide)
theorem zn8_2 : vp_in 2 8 := z_in (by decide)
theorem zn8_3 : vp_in 3 8 := z_in (by decide)
theorem zn8_4 : vp_in 4 8 := z_in (by decide)
theorem zn8_5 : vp_in 5 8 := z_in (by decide)
theorem zn8_6 : vp_in 6 8 := z_in (by decide)
theorem zn8_7 : vp_in 7 8 := z_in (by decide)
end
section
/-! ZUC: contracts of the arithmetic (printed by gen/core.py) -/
set_option maxRecDepth 100000
set_option maxHeartbeats 4000000 in
theorem metX2_ROT (l : Launch) (G : zG) (x : Int32) (k : Int32) : ZMi l G yX2_ROT cX2_ROT 2 .int (zrm 0 0 0) [.int x, .int k] [] (fun r w => r = zROT x k ∧ w = []) := by
  refine z_enter "Zuc128CoreEngine" "ROT" [(0, .int x), (1, .int k)] (by decide) rfl rfl rfl (Nat.le_of_ble_eq_true rfl) ?_
  intro p e s m args below meth c F
  refine z_iload_n (n := 1) F 0 dX2_ROT_0 rfl rfl rfl ?_
  refine z_iload_n (n := 2) F 1 dX2_ROT_1 rfl rfl rfl ?_
  refine z_ishl (n := 3) F dX2_ROT_2 rfl ?_
  refine z_iload_n (n := 4) F 0 dX2_ROT_3 rfl rfl rfl ?_
  refine z_bipush (n := 6) F 32 dX2_ROT_4 (by decide) rfl ?_
  refine z_iload_n (n := 7) F 1 dX2_ROT_6 rfl rfl rfl ?_
  refine z_isub (n := 8) F dX2_ROT_7 rfl ?_
  refine z_iushr (n := 9) F dX2_ROT_8 rfl ?_
  refine z_ior (n := 10) F dX2_ROT_9 rfl ?_
  exact z_iret F rfl ⟨rfl, rfl⟩ (Nat.le_of_ble_eq_true rfl) (Nat.le_of_ble_eq_true rfl) dX2_ROT_10
set_option maxHeartbeats 4000000 in
theorem metX2_MulByPow2 (l : Launch) (G : zG) (x : Int32) (k : Int32) : ZMi l G yX2_MulByPow2 cX2_MulByPow2 2 .int (zrm 0 0 0) [.int x, .int k] [] (fun r w => r = zMul x k ∧ w = []) := by
  refine z_enter "Zuc128CoreEngine" "MulByPow2" [(0, .int x), (1, .int k)] (by decide) rfl rfl rfl (Nat.le_of_ble_eq_true rfl) ?_
  intro p e s m args below meth c F
  refine z_iload_n (n := 1) F 0 dX2_MulByPow2_0 rfl rfl rfl ?_
  refine z_iload_n (n := 2) F 1 dX2_MulByPow2_1 rfl rfl rfl ?_
  refine z_ishl (n := 3) F dX2_MulByPow2_2 rfl ?_
  refine z_iload_n (n := 4) F 0 dX2_MulByPow2_3 rfl rfl rfl ?_
  refine z_bipush (n := 6) F 31 dX2_MulByPow2_4 (by decide) rfl ?_
  refine z_iload_n (n := 7) F 1 dX2_MulByPow2_6 rfl rfl rfl ?_
  refine z_isub (n := 8) F dX2_MulByPow2_7 rfl ?_
  refine z_iushr (n := 9) F dX2_MulByPow2_8 rfl ?_
  refine z_ior (n := 10) F dX2_MulByPow2_9 rfl ?_
  refine z_ldc (n := 12) F q211 dX2_MulByPow2_10 rfl ?_
  refine z_iand (n := 13) F dX2_MulByPow2_12 rfl ?_
  exact z_iret F rfl ⟨rfl, rfl⟩ (Nat.le_of_ble_eq_true rfl) (Nat.le_of_ble_eq_true rfl) dX2_MulByPow2_13
set_option maxHeartbeats 4000000 in
theorem metX2_AddM (l : Launch) (G : zG) (a0 : Nat) (fs : List Value) (x : Int32) (y : Int32) : ZMi l G yX2_AddM cX2_AddM 4 .int (zrm 0 0 0) [.ref a0, .int x, .int y] [(a0, zo 2 fs)] (fun r w => r = zAddM x y ∧ w = [(a0, zo 2 fs)]) := by
  refine z_enter "Zuc128CoreEngine" "AddM" [(0, .ref a0), (1, .int x), (2, .int y)] (by decide) rfl rfl rfl (Nat.le_of_ble_eq_true rfl) ?_
  intro p e s m args below meth c F
  refine z_iload_n (n := 1) F 1 dX2_AddM_0 rfl rfl rfl ?_
  refine z_iload_n (n := 2) F 2 dX2_AddM_1 rfl rfl rfl ?_
  refine z_iadd (n := 3) F dX2_AddM_2 rfl ?_
  refine z_istore_n (n := 4) F [(3, .int (x + y)), (0, .ref a0), (1, .int x), (2, .int y)] dX2_AddM_3 rfl (by decide) rfl rfl ?_
  refine z_iload_n (n := 5) F 0 dX2_AddM_4 rfl rfl rfl ?_
  refine z_ldc (n := 7) F q211 dX2_AddM_5 rfl ?_
  refine z_iand (n := 8) F dX2_AddM_7 rfl ?_
  refine z_iload_n (n := 9) F 0 dX2_AddM_8 rfl rfl rfl ?_
  refine z_bipush (n := 11) F 31 dX2_AddM_9 (by decide) rfl ?_
  refine z_iushr (n := 12) F dX2_AddM_11 rfl ?_
  refine z_iadd (n := 13) F dX2_AddM_12 rfl ?_
  exact z_iret F rfl ⟨rfl, rfl⟩ (Nat.le_of_ble_eq_true rfl) (Nat.le_of_ble_eq_true rfl) dX2_AddM_13
set_option maxHeartbeats 4000000 in
theorem metX2_MAKEU32 (l : Launch) (G : zG) (x : Int32) (y : Int32) (z : Int32) (u : Int32) : ZMi l G yX2_MAKEU32 cX2_MAKEU32 4 .int (zrm 0 0 0) [.int x, .int y, .int z, .int u] [] (fun r w => r = zMK32 x y z u ∧ w = []) := by
  refine z_enter "Zuc128CoreEngine" "MAKEU32" [(0, .int x), (1, .int y), (2, .int z), (3, .int u)] (by decide) rfl rfl rfl (Nat.le_of_ble_eq_true rfl) ?_
  intro p e s m args below meth c F
  refine z_iload_n (n := 1) F 0 dX2_MAKEU32_0 rfl rfl rfl ?_
  refine z_sipush (n := 4) F 255 dX2_MAKEU32_1 (by decide) rfl ?_
  refine z_iand (n := 5) F dX2_MAKEU32_4 rfl ?_
  refine z_bipush (n := 7) F 24 dX2_MAKEU32_5 (by decide) rfl ?_
  refine z_ishl (n := 8) F dX2_MAKEU32_7 rfl ?_
  refine z_iload_n (n := 9) F 1 dX2_MAKEU32_8 rfl rfl rfl ?_
  refine z_sipush (n := 12) F 255 dX2_MAKEU32_9 (by decide) rfl ?_
  refine z_iand (n := 13) F dX2_MAKEU32_12 rfl ?_
  refine z_bipush (n := 15) F 16 dX2_MAKEU32_13 (by decide) rfl ?_
  refine z_ishl (n := 16) F dX2_MAKEU32_15 rfl ?_
  refine z_ior (n := 17) F dX2_MAKEU32_16 rfl ?_
  refine z_iload_n (n := 18) F 2 dX2_MAKEU32_17 rfl rfl rfl ?_
  refine z_sipush (n := 21) F 255 dX2_MAKEU32_18 (by decide) rfl ?_
  refine z_iand (n := 22) F dX2_MAKEU32_21 rfl ?_
  refine z_bipush (n := 24) F 8 dX2_MAKEU32_22 (by decide) rfl ?_
  refine z_ishl (n := 25) F dX2_MAKEU32_24 rfl ?_
  refine z_ior (n := 26) F dX2_MAKEU32_25 rfl ?_
  refine z_iload_n (n := 27) F 3 dX2_MAKEU32_26 rfl rfl rfl ?_
  refine z_sipush (n := 30) F 255 dX2_MAKEU32_27 (by decide) rfl ?_
  refine z_iand (n := 31) F dX2_MAKEU32_30 rfl ?_
  refine z_ior (n := 32) F dX2_MAKEU32_31 rfl ?_
  exact z_iret F rfl ⟨rfl, rfl⟩ (Nat.le_of_ble_eq_true rfl) (Nat.le_of_ble_eq_true rfl) dX2_MAKEU32_32
set_option maxHeartbeats 4000000 in
theorem metX2_MAKEU31 (l : Launch) (G : zG) (x : Int32) (y : Int32) (z : Int32) : ZMi l G yX2_MAKEU31 cX2_MAKEU31 3 .int (zrm 0 0 0) [.int x, .int y, .int z] [] (fun r w => r = zMK31 x y z ∧ w = []) := by
  refine z_enter "Zuc128CoreEngine" "MAKEU31" [(0, .int x), (1, .int y), (2, .int z)] (by decide) rfl rfl rfl (Nat.le_of_ble_eq_true rfl) ?_
  intro p e s m args below meth c F
  refine z_iload_n (n := 1) F 0 dX2_MAKEU31_0 rfl rfl rfl ?_
  refine z_sipush (n := 4) F 255 dX2_MAKEU31_1 (by decide) rfl ?_
  refine z_iand (n := 5) F dX2_MAKEU31_4 rfl ?_
  refine z_bipush (n := 7) F 23 dX2_MAKEU31_5 (by decide) rfl ?_
  refine z_ishl (n := 8) F dX2_MAKEU31_7 rfl ?_
  refine z_iload_n (n := 9) F 1 dX2_MAKEU31_8 rfl rfl rfl ?_
  refine z_ldc (n := 11) F q181 dX2_MAKEU31_9 rfl ?_
  refine z_iand (n := 12) F dX2_MAKEU31_11 rfl ?_
  refine z_bipush (n := 14) F 8 dX2_MAKEU31_12 (by decide) rfl ?_
  refine z_ishl (n := 15) F dX2_MAKEU31_14 rfl ?_
  refine z_ior (n := 16) F dX2_MAKEU31_15 rfl ?_
  refine z_iload_n (n := 17) F 2 dX2_MAKEU31_16 rfl rfl rfl ?_
  refine z_sipush (n := 20) F 255 dX2_MAKEU31_17 (by decide) rfl ?_
  refine z_iand (n := 21) F dX2_MAKEU31_20 rfl ?_
  refine z_ior (n := 22) F dX2_MAKEU31_21 rfl ?_
  exact z_iret F rfl ⟨rfl, rfl⟩ (Nat.le_of_ble_eq_true rfl) (Nat.le_of_ble_eq_true rfl) dX2_MAKEU31_22
set_option maxHeartbeats 4000000 in
theorem metX2_L1 (l : Launch) (G : zG) (x : Int32) : ZMi l G yX2_L1 cX2_L1 1 .int (zrm 1 0 0) [.int x] [] (fun r w => r = zL1 x ∧ w = []) := by
  refine z_enter "Zuc128CoreEngine" "L1" [(0, .int x)] (by decide) rfl rfl rfl (Nat.le_of_ble_eq_true rfl) ?_
  intro p e s m args below meth c F
  refine z_iload_n (n := 1) F 0 dX2_L1_0 rfl rfl rfl ?_
  refine z_iload_n (n := 2) F 0 dX2_L1_1 rfl rfl rfl ?_
  refine z_iconst (n := 3) F 2 dX2_L1_2 (by decide) rfl ?_
  refine z_pick (ws2 := [] ++ []) [] rfl (by decide) ?_
  refine z_ci (n := 6) (cells2 := 0) (slots2 := 0) (wc := []) (wr := []) F (z_rS F (metX2_ROT l G x 2) (va_cwS 2 F.hts (lw_S q191 q192 q11 q193) rfl rfl rfl (by decide +kernel) ⟨Nat.le_of_ble_eq_true rfl, Nat.le_of_ble_eq_true rfl⟩) rfl rfl (Nat.le_of_ble_eq_true rfl) dX2_L1_3 ⟨Nat.le_of_ble_eq_true rfl, Nat.le_of_ble_eq_true rfl⟩) rfl rfl rfl (fun r1 w1 h1 => ?_)
  obtain ⟨rfl, rfl⟩ := h1
  refine z_w (ws2 := []) rfl ?_
  refine z_ixor (n := 7) F dX2_L1_6 rfl ?_
  refine z_iload_n (n := 8) F 0 dX2_L1_7 rfl rfl rfl ?_
  refine z_bipush (n := 10) F 10 dX2_L1_8 (by decide) rfl ?_
  refine z_pick (ws2 := [] ++ []) [] rfl (by decide) ?_
  refine z_ci (n := 13) (cells2 := 0) (slots2 := 0) (wc := []) (wr := []) F (z_rS F (metX2_ROT l G x 10) (va_cwS 2 F.hts (lw_S q191 q192 q11 q193) rfl rfl rfl (by decide +kernel) ⟨Nat.le_of_ble_eq_true rfl, Nat.le_of_ble_eq_true rfl⟩) rfl rfl (Nat.le_of_ble_eq_true rfl) dX2_L1_10 ⟨Nat.le_of_ble_eq_true rfl, Nat.le_of_ble_eq_true rfl⟩) rfl rfl rfl (fun r2 w2 h2 => ?_)
  obtain ⟨rfl, rfl⟩ := h2
  refine z_w (ws2 := []) rfl ?_
  refine z_ixor (n := 14) F dX2_L1_13 rfl ?_
  refine z_iload_n (n := 15) F 0 dX2_L1_14 rfl rfl rfl ?_
  refine z_bipush (n := 17) F 18 dX2_L1_15 (by decide) rfl ?_
  refine z_pick (ws2 := [] ++ []) [] rfl (by decide) ?_
  refine z_ci (n := 20) (cells2 := 0) (slots2 := 0) (wc := []) (wr := []) F (z_rS F (metX2_ROT l G x 18) (va_cwS 2 F.hts (lw_S q191 q192 q11 q193) rfl rfl rfl (by decide +kernel) ⟨Nat.le_of_ble_eq_true rfl, Nat.le_of_ble_eq_true rfl⟩) rfl rfl (Nat.le_of_ble_eq_true rfl) dX2_L1_17 ⟨Nat.le_of_ble_eq_true rfl, Nat.le_of_ble_eq_true rfl⟩) rfl rfl rfl (fun r3 w3 h3 => ?_)
  obtain ⟨rfl, rfl⟩ := h3
  refine z_w (ws2 := []) rfl ?_
  refine z_ixor (n := 21) F dX2_L1_20 rfl ?_
  refine z_iload_n (n := 22) F 0 dX2_L1_21 rfl rfl rfl ?_
  refine z_bipush (n := 24) F 24 dX2_L1_22 (by decide) rfl ?_
  refine z_pick (ws2 := [] ++ []) [] rfl (by decide) ?_
  refine z_ci (n := 27) (cells2 := 0) (slots2 := 0) (wc := []) (wr := []) F (z_rS F (metX2_ROT l G x 24) (va_cwS 2 F.hts (lw_S q191 q192 q11 q193) rfl rfl rfl (by decide +kernel) ⟨Nat.le_of_ble_eq_true rfl, Nat.le_of_ble_eq_true rfl⟩) rfl rfl (Nat.le_of_ble_eq_true rfl) dX2_L1_24 ⟨Nat.le_of_ble_eq_true rfl, Nat.le_of_ble_eq_true rfl⟩) rfl rfl rfl (fun r4 w4 h4 => ?_)
  obtain ⟨rfl, rfl⟩ := h4
  refine z_w (ws2 := []) rfl ?_
  refine z_ixor (n := 28) F dX2_L1_27 rfl ?_
  exact z_iret F rfl ⟨rfl, rfl⟩ (Nat.le_of_ble_eq_true rfl) (Nat.le_of_ble_eq_true rfl) dX2_L1_28
set_option maxHeartbeats 4000000 in
theorem metX2_L2 (l : Launch) (G : zG) (x : Int32) : ZMi l G yX2_L2 cX2_L2 1 .int (zrm 1 0 0) [.int x] [] (fun r w => r = zL2 x ∧ w = []) := by
  refine z_enter "Zuc128CoreEngine" "L2" [(0, .int x)] (by decide) rfl rfl rfl (Nat.le_of_ble_eq_true rfl) ?_
  intro p e s m args below meth c F
  refine z_iload_n (n := 1) F 0 dX2_L2_0 rfl rfl rfl ?_
  refine z_iload_n (n := 2) F 0 dX2_L2_1 rfl rfl rfl ?_
  refine z_bipush (n := 4) F 8 dX2_L2_2 (by decide) rfl ?_
  refine z_pick (ws2 := [] ++ []) [] rfl (by decide) ?_
  refine z_ci (n := 7) (cells2 := 0) (slots2 := 0) (wc := []) (wr := []) F (z_rS F (metX2_ROT l G x 8) (va_cwS 2 F.hts (lw_S q191 q192 q11 q193) rfl rfl rfl (by decide +kernel) ⟨Nat.le_of_ble_eq_true rfl, Nat.le_of_ble_eq_true rfl⟩) rfl rfl (Nat.le_of_ble_eq_true rfl) dX2_L2_4 ⟨Nat.le_of_ble_eq_true rfl, Nat.le_of_ble_eq_true rfl⟩) rfl rfl rfl (fun r1 w1 h1 => ?_)
  obtain ⟨rfl, rfl⟩ := h1
  refine z_w (ws2 := []) rfl ?_
  refine z_ixor (n := 8) F dX2_L2_7 rfl ?_
  refine z_iload_n (n := 9) F 0 dX2_L2_8 rfl rfl rfl ?_
  refine z_bipush (n := 11) F 14 dX2_L2_9 (by decide) rfl ?_
  refine z_pick (ws2 := [] ++ []) [] rfl (by decide) ?_
  refine z_ci (n := 14) (cells2 := 0) (slots2 := 0) (wc := []) (wr := []) F (z_rS F (metX2_ROT l G x 14) (va_cwS 2 F.hts (lw_S q191 q192 q11 q193) rfl rfl rfl (by decide +kernel) ⟨Nat.le_of_ble_eq_true rfl, Nat.le_of_ble_eq_true rfl⟩) rfl rfl (Nat.le_of_ble_eq_true rfl) dX2_L2_11 ⟨Nat.le_of_ble_eq_true rfl, Nat.le_of_ble_eq_true rfl⟩) rfl rfl rfl (fun r2 w2 h2 => ?_)
  obtain ⟨rfl, rfl⟩ := h2
  refine z_w (ws2 := []) rfl ?_
  refine z_ixor (n := 15) F dX2_L2_14 rfl ?_
  refine z_iload_n (n := 16) F 0 dX2_L2_15 rfl rfl rfl ?_
  refine z_bipush (n := 18) F 22 dX2_L2_16 (by decide) rfl ?_
  refine z_pick (ws2 := [] ++ []) [] rfl (by decide) ?_
  refine z_ci (n := 21) (cells2 := 0) (slots2 := 0) (wc := []) (wr := []) F (z_rS F (metX2_ROT l G x 22) (va_cwS 2 F.hts (lw_S q191 q192 q11 q193) rfl rfl rfl (by decide +kernel) ⟨Nat.le_of_ble_eq_true rfl, Nat.le_of_ble_eq_true rfl⟩) rfl rfl (Nat.le_of_ble_eq_true rfl) dX2_L2_18 ⟨Nat.le_of_ble_eq_true rfl, Nat.le_of_ble_eq_true rfl⟩) rfl rfl rfl (fun r3 w3 h3 => ?_)
  obtain ⟨rfl, rfl⟩ := h3
  refine z_w (ws2 := []) rfl ?_
  refine z_ixor (n := 22) F dX2_L2_21 rfl ?_
  refine z_iload_n (n := 23) F 0 dX2_L2_22 rfl rfl rfl ?_
  refine z_bipush (n := 25) F 30 dX2_L2_23 (by decide) rfl ?_
  refine z_pick (ws2 := [] ++ []) [] rfl (by decide) ?_
  refine z_ci (n := 28) (cells2 := 0) (slots2 := 0) (wc := []) (wr := []) F (z_rS F (metX2_ROT l G x 30) (va_cwS 2 F.hts (lw_S q191 q192 q11 q193) rfl rfl rfl (by decide +kernel) ⟨Nat.le_of_ble_eq_true rfl, Nat.le_of_ble_eq_true rfl⟩) rfl rfl (Nat.le_of_ble_eq_true rfl) dX2_L2_25 ⟨Nat.le_of_ble_eq_true rfl, Nat.le_of_ble_eq_true rfl⟩) rfl rfl rfl (fun r4 w4 h4 => ?_)
  obtain ⟨rfl, rfl⟩ := h4
  refine z_w (ws2 := []) rfl ?_
  refine z_ixor (n := 29) F dX2_L2_28 rfl ?_
  exact z_iret F rfl ⟨rfl, rfl⟩ (Nat.le_of_ble_eq_true rfl) (Nat.le_of_ble_eq_true rfl) dX2_L2_29
set_option maxHeartbeats 4000000 in
theorem metX2_getMaxIterations (l : Launch) (G : zG) (a0 : Nat) (fs : List Value) : ZMi l G yX2_getMaxIterations cX2_getMaxIterations 1 .int (zrm 0 0 0) [.ref a0] [(a0, zo 2 fs)] (fun r w => r = 2047 ∧ w = [(a0, zo 2 fs)]) := by
  refine z_enter "Zuc128CoreEngine" "getMaxIterations" [(0, .ref a0)] (by decide) rfl rfl rfl (Nat.le_of_ble_eq_true rfl) ?_
  intro p e s m args below meth c F
  refine z_sipush (n := 3) F 2047 dX2_getMaxIterations_0 (by decide) rfl ?_
  exact z_iret F rfl ⟨rfl, rfl⟩ (Nat.le_of_ble_eq_true rfl) (Nat.le_of_ble_eq_true rfl) dX2_getMaxIterations_3
end
section
/-! ZUC: contracts of the register, BRC and F (printed by gen/core2.py) -/
set_option maxRecDepth 100000
set_option maxHeartbeats 4000000 in
theorem metX2_LFSRWithInitialisationMode (l : Launch) (G : zG) (a lA : Nat) (u1 u2 u3 u4 u5 u6 : Value) (L : zA) (u : Int32) : ZMv l G yX2_LFSRWithInitialisationMode cX2_LFSRWithInitialisationMode 4 (zrm 1 0 0) [.ref a, .int u] [(a, zo 2 [.ref lA, u1, u2, u3, u4, u5, u6]), (lA, zi G 16 L)] (fun w => w = [(a, zo 2 [.ref lA, u1, u2, u3, u4, u5, u6]), (lA, zi G 16 (zIni L u))]) := by
  refine z_enter "Zuc128CoreEngine" "LFSRWithInitialisationMode" [(0, .ref a), (1, .int u)] (by decide) rfl rfl rfl (Nat.le_of_ble_eq_true rfl) ?_
  intro p e s m args below meth c F
  refine z_aload_n (n := 1) F 0 dX2_LFSRWithInitialisationMode_0 rfl rfl rfl ?_
  refine z_get (n := 4) F 0 0 in_X3 rfl rfl (by decide) q271 rfl rfl dX2_LFSRWithInitialisationMode_1 rfl ?_
  refine z_iconst (n := 5) F 0 dX2_LFSRWithInitialisationMode_4 (by decide) rfl ?_
  refine z_iald (n := 6) F 1 (L 0) rfl zn16_0 rfl dX2_LFSRWithInitialisationMode_5 rfl ?_
  refine z_istore_n (n := 7) F [(2, .int (L 0)), (0, .ref a), (1, .int u)] dX2_LFSRWithInitialisationMode_6 rfl (by decide) rfl rfl ?_
  refine z_aload_n (n := 8) F 1 dX2_LFSRWithInitialisationMode_7 rfl rfl rfl ?_
  refine z_get (n := 11) F 0 0 in_X3 rfl rfl (by decide) q271 rfl rfl dX2_LFSRWithInitialisationMode_8 rfl ?_
  refine z_iconst (n := 12) F 0 dX2_LFSRWithInitialisationMode_11 (by decide) rfl ?_
  refine z_iald (n := 13) F 1 (L 0) rfl zn16_0 rfl dX2_LFSRWithInitialisationMode_12 rfl ?_
  refine z_bipush (n := 15) F 8 dX2_LFSRWithInitialisationMode_13 (by decide) rfl ?_
  refine z_pick (ws2 := [] ++ [(a, zo 2 [.ref lA, u1, u2, u3, u4, u5, u6]), (lA, zi G 16 L)]) [0, 1] rfl (by decide) ?_
  refine z_ci (n := 18) (cells2 := 0) (slots2 := 0) (wc := []) (wr := [(a, zo 2 [.ref lA, u1, u2, u3, u4, u5, u6]), (lA, zi G 16 L)]) F (z_rS F (metX2_MulByPow2 l G (L 0) 8) (va_cwS 2 F.hts (lw_S q208 q209 q11 q210) rfl rfl rfl (by decide +kernel) ⟨Nat.le_of_ble_eq_true rfl, Nat.le_of_ble_eq_true rfl⟩) rfl rfl (Nat.le_of_ble_eq_true rfl) dX2_LFSRWithInitialisationMode_15 ⟨Nat.le_of_ble_eq_true rfl, Nat.le_of_ble_eq_true rfl⟩) rfl rfl rfl (fun r1 w1 h1 => ?_)
  obtain ⟨rfl, rfl⟩ := h1
  refine z_w (ws2 := [(a, zo 2 [.ref lA, u1, u2, u3, u4, u5, u6]), (lA, zi G 16 L)]) rfl ?_
  refine z_istore_n (n := 19) F [(3, .int (zMul (L 0) 8)), (2, .int (L 0)), (0, .ref a), (1, .int u)] dX2_LFSRWithInitialisationMode_18 rfl (by decide) rfl rfl ?_
  refine z_aload_n (n := 20) F 2 dX2_LFSRWithInitialisationMode_19 rfl rfl rfl ?_
  refine z_iload_n (n := 21) F 1 dX2_LFSRWithInitialisationMode_20 rfl rfl rfl ?_
  refine z_iload_n (n := 22) F 0 dX2_LFSRWithInitialisationMode_21 rfl rfl rfl ?_
  refine z_pick (ws2 := [(a, zo 2 [.ref lA, u1, u2, u3, u4, u5, u6])] ++ [(lA, zi G 16 L)]) [0, 1] rfl (by decide) ?_
  refine z_ci (n := 25) (cells2 := 0) (slots2 := 0) (wc := [(a, zo 2 [.ref lA, u1, u2, u3, u4, u5, u6])]) (wr := [(lA, zi G 16 L)]) F (z_rU F (metX2_AddM l G a [.ref lA, u1, u2, u3, u4, u5, u6] (L 0) (zMul (L 0) 8)) (va_cwU 2 F.hts (z_gU q212 q464 zs3 q214 q11 q215) rfl rfl rfl rfl (by decide +kernel) ⟨Nat.le_of_ble_eq_true rfl, Nat.le_of_ble_eq_true rfl⟩) 0 rfl rfl rfl rfl (Nat.le_of_ble_eq_true rfl) dX2_LFSRWithInitialisationMode_22 ⟨Nat.le_of_ble_eq_true rfl, Nat.le_of_ble_eq_true rfl⟩) rfl rfl rfl (fun r2 w2 h2 => ?_)
  obtain ⟨rfl, rfl⟩ := h2
  refine z_w (ws2 := [(a, zo 2 [.ref lA, u1, u2, u3, u4, u5, u6]), (lA, zi G 16 L)]) rfl ?_
  refine z_istore_n (n := 26) F [(2, .int (zAddM (L 0) (zMul (L 0) 8))), (3, .int (zMul (L 0) 8)), (0, .ref a), (1, .int u)] dX2_LFSRWithInitialisationMode_25 rfl (by decide) rfl rfl ?_
  refine z_aload_n (n := 27) F 2 dX2_LFSRWithInitialisationMode_26 rfl rfl rfl ?_
  refine z_get (n := 30) F 0 0 in_X3 rfl rfl (by decide) q271 rfl rfl dX2_LFSRWithInitialisationMode_27 rfl ?_
  refine z_iconst (n := 31) F 4 dX2_LFSRWithInitialisationMode_30 (by decide) rfl ?_
  refine z_iald (n := 32) F 1 (L 4) rfl zn16_4 rfl dX2_LFSRWithInitialisationMode_31 rfl ?_
  refine z_bipush (n := 34) F 20 dX2_LFSRWithInitialisationMode_32 (by decide) rfl ?_
  refine z_pick (ws2 := [] ++ [(a, zo 2 [.ref lA, u1, u2, u3, u4, u5, u6]), (lA, zi G 16 L)]) [0, 1] rfl (by decide) ?_
  refine z_ci (n := 37) (cells2 := 0) (slots2 := 0) (wc := []) (wr := [(a, zo 2 [.ref lA, u1, u2, u3, u4, u5, u6]), (lA, zi G 16 L)]) F (z_rS F (metX2_MulByPow2 l G (L 4) 20) (va_cwS 2 F.hts (lw_S q208 q209 q11 q210) rfl rfl rfl (by decide +kernel) ⟨Nat.le_of_ble_eq_true rfl, Nat.le_of_ble_eq_true rfl⟩) rfl rfl (Nat.le_of_ble_eq_true rfl) dX2_LFSRWithInitialisationMode_34 ⟨Nat.le_of_ble_eq_true rfl, Nat.le_of_ble_eq_true rfl⟩) rfl rfl rfl (fun r3 w3 h3 => ?_)
  obtain ⟨rfl, rfl⟩ := h3
  refine z_w (ws2 := [(a, zo 2 [.ref lA, u1, u2, u3, u4, u5, u6]), (lA, zi G 16 L)]) rfl ?_
  refine z_istore_n (n := 38) F [(3, .int (zMul (L 4) 20)), (2, .int (zAddM (L 0) (zMul (L 0) 8))), (0, .ref a), (1, .int u)] dX2_LFSRWithInitialisationMode_37 rfl (by decide) rfl rfl ?_
  refine z_aload_n (n := 39) F 2 dX2_LFSRWithInitialisationMode_38 rfl rfl rfl ?_
  refine z_iload_n (n := 40) F 1 dX2_LFSRWithInitialisationMode_39 rfl rfl rfl ?_
  refine z_iload_n (n := 41) F 0 dX2_LFSRWithInitialisationMode_40 rfl rfl rfl ?_
  refine z_pick (ws2 := [(a, zo 2 [.ref lA, u1, u2, u3, u4, u5, u6])] ++ [(lA, zi G 16 L)]) [0, 1] rfl (by decide) ?_
  refine z_ci (n := 44) (cells2 := 0) (slots2 := 0) (wc := [(a, zo 2 [.ref lA, u1, u2, u3, u4, u5, u6])]) (wr := [(lA, zi G 16 L)]) F (z_rU F (metX2_AddM l G a [.ref lA, u1, u2, u3, u4, u5, u6] (zAddM (L 0) (zMul (L 0) 8)) (zMul (L 4) 20)) (va_cwU 2 F.hts (z_gU q212 q464 zs3 q214 q11 q215) rfl rfl rfl rfl (by decide +kernel) ⟨Nat.le_of_ble_eq_true rfl, Nat.le_of_ble_eq_true rfl⟩) 0 rfl rfl rfl rfl (Nat.le_of_ble_eq_true rfl) dX2_LFSRWithInitialisationMode_41 ⟨Nat.le_of_ble_eq_true rfl, Nat.le_of_ble_eq_true rfl⟩) rfl rfl rfl (fun r4 w4 h4 => ?_)
  obtain ⟨rfl, rfl⟩ := h4
  refine z_w (ws2 := [(a, zo 2 [.ref lA, u1, u2, u3, u4, u5, u6]), (lA, zi G 16 L)]) rfl ?_
  refine z_istore_n (n := 45) F [(2, .int (zAddM (zAddM (L 0) (zMul (L 0) 8)) (zMul (L 4) 20))), (3, .int (zMul (L 4) 20)), (0, .ref a), (1, .int u)] dX2_LFSRWithInitialisationMode_44 rfl (by decide) rfl rfl ?_
  refine z_aload_n (n := 46) F 2 dX2_LFSRWithInitialisationMode_45 rfl rfl rfl ?_
  refine z_get (n := 49) F 0 0 in_X3 rfl rfl (by decide) q271 rfl rfl dX2_LFSRWithInitialisationMode_46 rfl ?_
  refine z_bipush (n := 51) F 10 dX2_LFSRWithInitialisationMode_49 (by decide) rfl ?_
  refine z_iald (n := 52) F 1 (L 10) rfl zn16_10 rfl dX2_LFSRWithInitialisationMode_51 rfl ?_
  refine z_bipush (n := 54) F 21 dX2_LFSRWithInitialisationMode_52 (by decide) rfl ?_
  refine z_pick (ws2 := [] ++ [(a, zo 2 [.ref lA, u1, u2, u3, u4, u5, u6]), (lA, zi G 16 L)]) [0, 1] rfl (by decide) ?_
  refine z_ci (n := 57) (cells2 := 0) (slots2 := 0) (wc := []) (wr := [(a, zo 2 [.ref lA, u1, u2, u3, u4, u5, u6]), (lA, zi G 16 L)]) F (z_rS F (metX2_MulByPow2 l G (L 10) 21) (va_cwS 2 F.hts (lw_S q208 q209 q11 q210) rfl rfl rfl (by decide +kernel) ⟨Nat.le_of_ble_eq_true rfl, Nat.le_of_ble_eq_true rfl⟩) rfl rfl (Nat.le_of_ble_eq_true rfl) dX2_LFSRWithInitialisationMode_54 ⟨Nat.le_of_ble_eq_true rfl, Nat.le_of_ble_eq_true rfl⟩) rfl rfl rfl (fun r5 w5 h5 => ?_)
  obtain ⟨rfl, rfl⟩ := h5
  refine z_w (ws2 := [(a, zo 2 [.ref lA, u1, u2, u3, u4, u5, u6]), (lA, zi G 16 L)]) rfl ?_
  refine z_istore_n (n := 58) F [(3, .int (zMul (L 10) 21)), (2, .int (zAddM (zAddM (L 0) (zMul (L 0) 8)) (zMul (L 4) 20))), (0, .ref a), (1, .int u)] dX2_LFSRWithInitialisationMode_57 rfl (by decide) rfl rfl ?_
  refine z_aload_n (n := 59) F 2 dX2_LFSRWithInitialisationMode_58 rfl rfl rfl ?_
  refine z_iload_n (n := 60) F 1 dX2_LFSRWithInitialisationMode_59 rfl rfl rfl ?_
  refine z_iload_n (n := 61) F 0 dX2_LFSRWithInitialisationMode_60 rfl rfl rfl ?_
  refine z_pick (ws2 := [(a, zo 2 [.ref lA, u1, u2, u3, u4, u5, u6])] ++ [(lA, zi G 16 L)]) [0, 1] rfl (by decide) ?_
  refine z_ci (n := 64) (cells2 := 0) (slots2 := 0) (wc := [(a, zo 2 [.ref lA, u1, u2, u3, u4, u5, u6])]) (wr := [(lA, zi G 16 L)]) F (z_rU F (metX2_AddM l G a [.ref lA, u1, u2, u3, u4, u5, u6] (zAddM (zAddM (L 0) (zMul (L 0) 8)) (zMul (L 4) 20)) (zMul (L 10) 21)) (va_cwU 2 F.hts (z_gU q212 q464 zs3 q214 q11 q215) rfl rfl rfl rfl (by decide +kernel) ⟨Nat.le_of_ble_eq_true rfl, Nat.le_of_ble_eq_true rfl⟩) 0 rfl rfl rfl rfl (Nat.le_of_ble_eq_true rfl) dX2_LFSRWithInitialisationMode_61 ⟨Nat.le_of_ble_eq_true rfl, Nat.le_of_ble_eq_true rfl⟩) rfl rfl rfl (fun r6 w6 h6 => ?_)
  obtain ⟨rfl, rfl⟩ := h6
  refine z_w (ws2 := [(a, zo 2 [.ref lA, u1, u2, u3, u4, u5, u6]), (lA, zi G 16 L)]) rfl ?_
  refine z_istore_n (n := 65) F [(2, .int (zAddM (zAddM (zAddM (L 0) (zMul (L 0) 8)) (zMul (L 4) 20)) (zMul (L 10) 21))), (3, .int (zMul (L 10) 21)), (0, .ref a), (1, .int u)] dX2_LFSRWithInitialisationMode_64 rfl (by decide) rfl rfl ?_
  refine z_aload_n (n := 66) F 2 dX2_LFSRWithInitialisationMode_65 rfl rfl rfl ?_
  refine z_get (n := 69) F 0 0 in_X3 rfl rfl (by decide) q271 rfl rfl dX2_LFSRWithInitialisationMode_66 rfl ?_
  refine z_bipush (n := 71) F 13 dX2_LFSRWithInitialisationMode_69 (by decide) rfl ?_
  refine z_iald (n := 72) F 1 (L 13) rfl zn16_13 rfl dX2_LFSRWithInitialisationMode_71 rfl ?_
  refine z_bipush (n := 74) F 17 dX2_LFSRWithInitialisationMode_72 (by decide) rfl ?_
  refine z_pick (ws2 := [] ++ [(a, zo 2 [.ref lA, u1, u2, u3, u4, u5, u6]), (lA, zi G 16 L)]) [0, 1] rfl (by decide) ?_
  refine z_ci (n := 77) (cells2 := 0) (slots2 := 0) (wc := []) (wr := [(a, zo 2 [.ref lA, u1, u2, u3, u4, u5, u6]), (lA, zi G 16 L)]) F (z_rS F (metX2_MulByPow2 l G (L 13) 17) (va_cwS 2 F.hts (lw_S q208 q209 q11 q210) rfl rfl rfl (by decide +kernel) ⟨Nat.le_of_ble_eq_true rfl, Nat.le_of_ble_eq_true rfl⟩) rfl rfl (Nat.le_of_ble_eq_true rfl) dX2_LFSRWithInitialisationMode_74 ⟨Nat.le_of_ble_eq_true rfl, Nat.le_of_ble_eq_true rfl⟩) rfl rfl rfl (fun r7 w7 h7 => ?_)
  obtain ⟨rfl, rfl⟩ := h7
  refine z_w (ws2 := [(a, zo 2 [.ref lA, u1, u2, u3, u4, u5, u6]), (lA, zi G 16 L)]) rfl ?_
  refine z_istore_n (n := 78) F [(3, .int (zMul (L 13) 17)), (2, .int (zAddM (zAddM (zAddM (L 0) (zMul (L 0) 8)) (zMul (L 4) 20)) (zMul (L 10) 21))), (0, .ref a), (1, .int u)] dX2_LFSRWithInitialisationMode_77 rfl (by decide) rfl rfl ?_
  refine z_aload_n (n := 79) F 2 dX2_LFSRWithInitialisationMode_78 rfl rfl rfl ?_
  refine z_iload_n (n := 80) F 1 dX2_LFSRWithInitialisationMode_79 rfl rfl rfl ?_
  refine z_iload_n (n := 81) F 0 dX2_LFSRWithInitialisationMode_80 rfl rfl rfl ?_
  refine z_pick (ws2 := [(a, zo 2 [.ref lA, u1, u2, u3, u4, u5, u6])] ++ [(lA, zi G 16 L)]) [0, 1] rfl (by decide) ?_
  refine z_ci (n := 84) (cells2 := 0) (slots2 := 0) (wc := [(a, zo 2 [.ref lA, u1, u2, u3, u4, u5, u6])]) (wr := [(lA, zi G 16 L)]) F (z_rU F (metX2_AddM l G a [.ref lA, u1, u2, u3, u4, u5, u6] (zAddM (zAddM (zAddM (L 0) (zMul (L 0) 8)) (zMul (L 4) 20)) (zMul (L 10) 21)) (zMul (L 13) 17)) (va_cwU 2 F.hts (z_gU q212 q464 zs3 q214 q11 q215) rfl rfl rfl rfl (by decide +kernel) ⟨Nat.le_of_ble_eq_true rfl, Nat.le_of_ble_eq_true rfl⟩) 0 rfl rfl rfl rfl (Nat.le_of_ble_eq_true rfl) dX2_LFSRWithInitialisationMode_81 ⟨Nat.le_of_ble_eq_true rfl, Nat.le_of_ble_eq_true rfl⟩) rfl rfl rfl (fun r8 w8 h8 => ?_)
  obtain ⟨rfl, rfl⟩ := h8
  refine z_w (ws2 := [(a, zo 2 [.ref lA, u1, u2, u3, u4, u5, u6]), (lA, zi G 16 L)]) rfl ?_
  refine z_istore_n (n := 85) F [(2, .int (zAddM (zAddM (zAddM (zAddM (L 0) (zMul (L 0) 8)) (zMul (L 4) 20)) (zMul (L 10) 21)) (zMul (L 13) 17))), (3, .int (zMul (L 13) 17)), (0, .ref a), (1, .int u)] dX2_LFSRWithInitialisationMode_84 rfl (by decide) rfl rfl ?_
  refine z_aload_n (n := 86) F 2 dX2_LFSRWithInitialisationMode_85 rfl rfl rfl ?_
  refine z_get (n := 89) F 0 0 in_X3 rfl rfl (by decide) q271 rfl rfl dX2_LFSRWithInitialisationMode_86 rfl ?_
  refine z_bipush (n := 91) F 15 dX2_LFSRWithInitialisationMode_89 (by decide) rfl ?_
  refine z_iald (n := 92) F 1 (L 15) rfl zn16_15 rfl dX2_LFSRWithInitialisationMode_91 rfl ?_
  refine z_bipush (n := 94) F 15 dX2_LFSRWithInitialisationMode_92 (by decide) rfl ?_
  refine z_pick (ws2 := [] ++ [(a, zo 2 [.ref lA, u1, u2, u3, u4, u5, u6]), (lA, zi G 16 L)]) [0, 1] rfl (by decide) ?_
  refine z_ci (n := 97) (cells2 := 0) (slots2 := 0) (wc := []) (wr := [(a, zo 2 [.ref lA, u1, u2, u3, u4, u5, u6]), (lA, zi G 16 L)]) F (z_rS F (metX2_MulByPow2 l G (L 15) 15) (va_cwS 2 F.hts (lw_S q208 q209 q11 q210) rfl rfl rfl (by decide +kernel) ⟨Nat.le_of_ble_eq_true rfl, Nat.le_of_ble_eq_true rfl⟩) rfl rfl (Nat.le_of_ble_eq_true rfl) dX2_LFSRWithInitialisationMode_94 ⟨Nat.le_of_ble_eq_true rfl, Nat.le_of_ble_eq_true rfl⟩) rfl rfl rfl (fun r9 w9 h9 => ?_)
  obtain ⟨rfl, rfl⟩ := h9
  refine z_w (ws2 := [(a, zo 2 [.ref lA, u1, u2, u3, u4, u5, u6]), (lA, zi G 16 L)]) rfl ?_
  refine z_istore_n (n := 98) F [(3, .int (zMul (L 15) 15)), (2, .int (zAddM (zAddM (zAddM (zAddM (L 0) (zMul (L 0) 8)) (zMul (L 4) 20)) (zMul (L 10) 21)) (zMul (L 13) 17))), (0, .ref a), (1, .int u)] dX2_LFSRWithInitialisationMode_97 rfl (by decide) rfl rfl ?_
  refine z_aload_n (n := 99) F 2 dX2_LFSRWithInitialisationMode_98 rfl rfl rfl ?_
  refine z_iload_n (n := 100) F 1 dX2_LFSRWithInitialisationMode_99 rfl rfl rfl ?_
  refine z_iload_n (n := 101) F 0 dX2_LFSRWithInitialisationMode_100 rfl rfl rfl ?_
  refine z_pick (ws2 := [(a, zo 2 [.ref lA, u1, u2, u3, u4, u5, u6])] ++ [(lA, zi G 16 L)]) [0, 1] rfl (by decide) ?_
  refine z_ci (n := 104) (cells2 := 0) (slots2 := 0) (wc := [(a, zo 2 [.ref lA, u1, u2, u3, u4, u5, u6])]) (wr := [(lA, zi G 16 L)]) F (z_rU F (metX2_AddM l G a [.ref lA, u1, u2, u3, u4, u5, u6] (zAddM (zAddM (zAddM (zAddM (L 0) (zMul (L 0) 8)) (zMul (L 4) 20)) (zMul (L 10) 21)) (zMul (L 13) 17)) (zMul (L 15) 15)) (va_cwU 2 F.hts (z_gU q212 q464 zs3 q214 q11 q215) rfl rfl rfl rfl (by decide +kernel) ⟨Nat.le_of_ble_eq_true rfl, Nat.le_of_ble_eq_true rfl⟩) 0 rfl rfl rfl rfl (Nat.le_of_ble_eq_true rfl) dX2_LFSRWithInitialisationMode_101 ⟨Nat.le_of_ble_eq_true rfl, Nat.le_of_ble_eq_true rfl⟩) rfl rfl rfl (fun r10 w10 h10 => ?_)
  obtain ⟨rfl, rfl⟩ := h10
  refine z_w (ws2 := [(a, zo 2 [.ref lA, u1, u2, u3, u4, u5, u6]), (lA, zi G 16 L)]) rfl ?_
  refine z_istore_n (n := 105) F [(2, .int (zAddM (zAddM (zAddM (zAddM (zAddM (L 0) (zMul (L 0) 8)) (zMul (L 4) 20)) (zMul (L 10) 21)) (zMul (L 13) 17)) (zMul (L 15) 15))), (3, .int (zMul (L 15) 15)), (0, .ref a), (1, .int u)] dX2_LFSRWithInitialisationMode_104 rfl (by decide) rfl rfl ?_
  refine z_aload_n (n := 106) F 2 dX2_LFSRWithInitialisationMode_105 rfl rfl rfl ?_
  refine z_iload_n (n := 107) F 0 dX2_LFSRWithInitialisationMode_106 rfl rfl rfl ?_
  refine z_iload_n (n := 108) F 3 dX2_LFSRWithInitialisationMode_107 rfl rfl rfl ?_
  refine z_pick (ws2 := [(a, zo 2 [.ref lA, u1, u2, u3, u4, u5, u6])] ++ [(lA, zi G 16 L)]) [0, 1] rfl (by decide) ?_
  refine z_ci (n := 111) (cells2 := 0) (slots2 := 0) (wc := [(a, zo 2 [.ref lA, u1, u2, u3, u4, u5, u6])]) (wr := [(lA, zi G 16 L)]) F (z_rU F (metX2_AddM l G a [.ref lA, u1, u2, u3, u4, u5, u6] (zAddM (zAddM (zAddM (zAddM (zAddM (L 0) (zMul (L 0) 8)) (zMul (L 4) 20)) (zMul (L 10) 21)) (zMul (L 13) 17)) (zMul (L 15) 15)) u) (va_cwU 2 F.hts (z_gU q212 q464 zs3 q214 q11 q215) rfl rfl rfl rfl (by decide +kernel) ⟨Nat.le_of_ble_eq_true rfl, Nat.le_of_ble_eq_true rfl⟩) 0 rfl rfl rfl rfl (Nat.le_of_ble_eq_true rfl) dX2_LFSRWithInitialisationMode_108 ⟨Nat.le_of_ble_eq_true rfl, Nat.le_of_ble_eq_true rfl⟩) rfl rfl rfl (fun r11 w11 h11 => ?_)
  obtain ⟨rfl, rfl⟩ := h11
  refine z_w (ws2 := [(a, zo 2 [.ref lA, u1, u2, u3, u4, u5, u6]), (lA, zi G 16 L)]) rfl ?_
  refine z_istore_n (n := 112) F [(2, .int (zAddM (zAddM (zAddM (zAddM (zAddM (zAddM (L 0) (zMul (L 0) 8)) (zMul (L 4) 20)) (zMul (L 10) 21)) (zMul (L 13) 17)) (zMul (L 15) 15)) u)), (3, .int (zMul (L 15) 15)), (0, .ref a), (1, .int u)] dX2_LFSRWithInitialisationMode_111 rfl (by decide) rfl rfl ?_
  refine z_aload_n (n := 113) F 2 dX2_LFSRWithInitialisationMode_112 rfl rfl rfl ?_
  refine z_get (n := 116) F 0 0 in_X3 rfl rfl (by decide) q271 rfl rfl dX2_LFSRWithInitialisationMode_113 rfl ?_
  refine z_iconst (n := 117) F 0 dX2_LFSRWithInitialisationMode_116 (by decide) rfl ?_
  refine z_aload_n (n := 118) F 2 dX2_LFSRWithInitialisationMode_117 rfl rfl rfl ?_
  refine z_get (n := 121) F 0 0 in_X3 rfl rfl (by decide) q271 rfl rfl dX2_LFSRWithInitialisationMode_118 rfl ?_
  refine z_iconst (n := 122) F 1 dX2_LFSRWithInitialisationMode_121 (by decide) rfl ?_
  refine z_iald (n := 123) F 1 (L 1) rfl zn16_1 rfl dX2_LFSRWithInitialisationMode_122 rfl ?_
  refine z_iast (n := 124) (ws2 := [(a, zo 2 [.ref lA, u1, u2, u3, u4, u5, u6]), (lA, zi G 16 (zSk L 1))]) F 1 (zSk L 1) rfl zn16_0 (zSk_up0 L) dX2_LFSRWithInitialisationMode_123 rfl rfl ?_
  refine z_aload_n (n := 125) F 2 dX2_LFSRWithInitialisationMode_124 rfl rfl rfl ?_
  refine z_get (n := 128) F 0 0 in_X3 rfl rfl (by decide) q271 rfl rfl dX2_LFSRWithInitialisationMode_125 rfl ?_
  refine z_iconst (n := 129) F 1 dX2_LFSRWithInitialisationMode_128 (by decide) rfl ?_
  refine z_aload_n (n := 130) F 2 dX2_LFSRWithInitialisationMode_129 rfl rfl rfl ?_
  refine z_get (n := 133) F 0 0 in_X3 rfl rfl (by decide) q271 rfl rfl dX2_LFSRWithInitialisationMode_130 rfl ?_
  refine z_iconst (n := 134) F 2 dX2_LFSRWithInitialisationMode_133 (by decide) rfl ?_
  refine z_iald (n := 135) F 1 (L 2) rfl zn16_2 (zSk_at L 1) dX2_LFSRWithInitialisationMode_134 rfl ?_
  refine z_iast (n := 136) (ws2 := [(a, zo 2 [.ref lA, u1, u2, u3, u4, u5, u6]), (lA, zi G 16 (zSk L 2))]) F 1 (zSk L 2) rfl zn16_1 (zSk_up L 1) dX2_LFSRWithInitialisationMode_135 rfl rfl ?_
  refine z_aload_n (n := 137) F 2 dX2_LFSRWithInitialisationMode_136 rfl rfl rfl ?_
  refine z_get (n := 140) F 0 0 in_X3 rfl rfl (by decide) q271 rfl rfl dX2_LFSRWithInitialisationMode_137 rfl ?_
  refine z_iconst (n := 141) F 2 dX2_LFSRWithInitialisationMode_140 (by decide) rfl ?_
  refine z_aload_n (n := 142) F 2 dX2_LFSRWithInitialisationMode_141 rfl rfl rfl ?_
  refine z_get (n := 145) F 0 0 in_X3 rfl rfl (by decide) q271 rfl rfl dX2_LFSRWithInitialisationMode_142 rfl ?_
  refine z_iconst (n := 146) F 3 dX2_LFSRWithInitialisationMode_145 (by decide) rfl ?_
  refine z_iald (n := 147) F 1 (L 3) rfl zn16_3 (zSk_at L 2) dX2_LFSRWithInitialisationMode_146 rfl ?_
  refine z_iast (n := 148) (ws2 := [(a, zo 2 [.ref lA, u1, u2, u3, u4, u5, u6]), (lA, zi G 16 (zSk L 3))]) F 1 (zSk L 3) rfl zn16_2 (zSk_up L 2) dX2_LFSRWithInitialisationMode_147 rfl rfl ?_
  refine z_aload_n (n := 149) F 2 dX2_LFSRWithInitialisationMode_148 rfl rfl rfl ?_
  refine z_get (n := 152) F 0 0 in_X3 rfl rfl (by decide) q271 rfl rfl dX2_LFSRWithInitialisationMode_149 rfl ?_
  refine z_iconst (n := 153) F 3 dX2_LFSRWithInitialisationMode_152 (by decide) rfl ?_
  refine z_aload_n (n := 154) F 2 dX2_LFSRWithInitialisationMode_153 rfl rfl rfl ?_
  refine z_get (n := 157) F 0 0 in_X3 rfl rfl (by decide) q271 rfl rfl dX2_LFSRWithInitialisationMode_154 rfl ?_
  refine z_iconst (n := 158) F 4 dX2_LFSRWithInitialisationMode_157 (by decide) rfl ?_
  refine z_iald (n := 159) F 1 (L 4) rfl zn16_4 (zSk_at L 3) dX2_LFSRWithInitialisationMode_158 rfl ?_
  refine z_iast (n := 160) (ws2 := [(a, zo 2 [.ref lA, u1, u2, u3, u4, u5, u6]), (lA, zi G 16 (zSk L 4))]) F 1 (zSk L 4) rfl zn16_3 (zSk_up L 3) dX2_LFSRWithInitialisationMode_159 rfl rfl ?_
  refine z_aload_n (n := 161) F 2 dX2_LFSRWithInitialisationMode_160 rfl rfl rfl ?_
  refine z_get (n := 164) F 0 0 in_X3 rfl rfl (by decide) q271 rfl rfl dX2_LFSRWithInitialisationMode_161 rfl ?_
  refine z_iconst (n := 165) F 4 dX2_LFSRWithInitialisationMode_164 (by decide) rfl ?_
  refine z_aload_n (n := 166) F 2 dX2_LFSRWithInitialisationMode_165 rfl rfl rfl ?_
  refine z_get (n := 169) F 0 0 in_X3 rfl rfl (by decide) q271 rfl rfl dX2_LFSRWithInitialisationMode_166 rfl ?_
  refine z_iconst (n := 170) F 5 dX2_LFSRWithInitialisationMode_169 (by decide) rfl ?_
  refine z_iald (n := 171) F 1 (L 5) rfl zn16_5 (zSk_at L 4) dX2_LFSRWithInitialisationMode_170 rfl ?_
  refine z_iast (n := 172) (ws2 := [(a, zo 2 [.ref lA, u1, u2, u3, u4, u5, u6]), (lA, zi G 16 (zSk L 5))]) F 1 (zSk L 5) rfl zn16_4 (zSk_up L 4) dX2_LFSRWithInitialisationMode_171 rfl rfl ?_
  refine z_aload_n (n := 173) F 2 dX2_LFSRWithInitialisationMode_172 rfl rfl rfl ?_
  refine z_get (n := 176) F 0 0 in_X3 rfl rfl (by decide) q271 rfl rfl dX2_LFSRWithInitialisationMode_173 rfl ?_
  refine z_iconst (n := 177) F 5 dX2_LFSRWithInitialisationMode_176 (by decide) rfl ?_
  refine z_aload_n (n := 178) F 2 dX2_LFSRWithInitialisationMode_177 rfl rfl rfl ?_
  refine z_get (n := 181) F 0 0 in_X3 rfl rfl (by decide) q271 rfl rfl dX2_LFSRWithInitialisationMode_178 rfl ?_
  refine z_bipush (n := 183) F 6 dX2_LFSRWithInitialisationMode_181 (by decide) rfl ?_
  refine z_iald (n := 184) F 1 (L 6) rfl zn16_6 (zSk_at L 5) dX2_LFSRWithInitialisationMode_183 rfl ?_
  refine z_iast (n := 185) (ws2 := [(a, zo 2 [.ref lA, u1, u2, u3, u4, u5, u6]), (lA, zi G 16 (zSk L 6))]) F 1 (zSk L 6) rfl zn16_5 (zSk_up L 5) dX2_LFSRWithInitialisationMode_184 rfl rfl ?_
  refine z_aload_n (n := 186) F 2 dX2_LFSRWithInitialisationMode_185 rfl rfl rfl ?_
  refine z_get (n := 189) F 0 0 in_X3 rfl rfl (by decide) q271 rfl rfl dX2_LFSRWithInitialisationMode_186 rfl ?_
  refine z_bipush (n := 191) F 6 dX2_LFSRWithInitialisationMode_189 (by decide) rfl ?_
  refine z_aload_n (n := 192) F 2 dX2_LFSRWithInitialisationMode_191 rfl rfl rfl ?_
  refine z_get (n := 195) F 0 0 in_X3 rfl rfl (by decide) q271 rfl rfl dX2_LFSRWithInitialisationMode_192 rfl ?_
  refine z_bipush (n := 197) F 7 dX2_LFSRWithInitialisationMode_195 (by decide) rfl ?_
  refine z_iald (n := 198) F 1 (L 7) rfl zn16_7 (zSk_at L 6) dX2_LFSRWithInitialisationMode_197 rfl ?_
  refine z_iast (n := 199) (ws2 := [(a, zo 2 [.ref lA, u1, u2, u3, u4, u5, u6]), (lA, zi G 16 (zSk L 7))]) F 1 (zSk L 7) rfl zn16_6 (zSk_up L 6) dX2_LFSRWithInitialisationMode_198 rfl rfl ?_
  refine z_aload_n (n := 200) F 2 dX2_LFSRWithInitialisationMode_199 rfl rfl rfl ?_
  refine z_get (n := 203) F 0 0 in_X3 rfl rfl (by decide) q271 rfl rfl dX2_LFSRWithInitialisationMode_200 rfl ?_
  refine z_bipush (n := 205) F 7 dX2_LFSRWithInitialisationMode_203 (by decide) rfl ?_
  refine z_aload_n (n := 206) F 2 dX2_LFSRWithInitialisationMode_205 rfl rfl rfl ?_
  refine z_get (n := 209) F 0 0 in_X3 rfl rfl (by decide) q271 rfl rfl dX2_LFSRWithInitialisationMode_206 rfl ?_
  refine z_bipush (n := 211) F 8 dX2_LFSRWithInitialisationMode_209 (by decide) rfl ?_
  refine z_iald (n := 212) F 1 (L 8) rfl zn16_8 (zSk_at L 7) dX2_LFSRWithInitialisationMode_211 rfl ?_
  refine z_iast (n := 213) (ws2 := [(a, zo 2 [.ref lA, u1, u2, u3, u4, u5, u6]), (lA, zi G 16 (zSk L 8))]) F 1 (zSk L 8) rfl zn16_7 (zSk_up L 7) dX2_LFSRWithInitialisationMode_212 rfl rfl ?_
  refine z_aload_n (n := 214) F 2 dX2_LFSRWithInitialisationMode_213 rfl rfl rfl ?_
  refine z_get (n := 217) F 0 0 in_X3 rfl rfl (by decide) q271 rfl rfl dX2_LFSRWithInitialisationMode_214 rfl ?_
  refine z_bipush (n := 219) F 8 dX2_LFSRWithInitialisationMode_217 (by decide) rfl ?_
  refine z_aload_n (n := 220) F 2 dX2_LFSRWithInitialisationMode_219 rfl rfl rfl ?_
  refine z_get (n := 223) F 0 0 in_X3 rfl rfl (by decide) q271 rfl rfl dX2_LFSRWithInitialisationMode_220 rfl ?_
  refine z_bipush (n := 225) F 9 dX2_LFSRWithInitialisationMode_223 (by decide) rfl ?_
  refine z_iald (n := 226) F 1 (L 9) rfl zn16_9 (zSk_at L 8) dX2_LFSRWithInitialisationMode_225 rfl ?_
  refine z_iast (n := 227) (ws2 := [(a, zo 2 [.ref lA, u1, u2, u3, u4, u5, u6]), (lA, zi G 16 (zSk L 9))]) F 1 (zSk L 9) rfl zn16_8 (zSk_up L 8) dX2_LFSRWithInitialisationMode_226 rfl rfl ?_
  refine z_aload_n (n := 228) F 2 dX2_LFSRWithInitialisationMode_227 rfl rfl rfl ?_
  refine z_get (n := 231) F 0 0 in_X3 rfl rfl (by decide) q271 rfl rfl dX2_LFSRWithInitialisationMode_228 rfl ?_
  refine z_bipush (n := 233) F 9 dX2_LFSRWithInitialisationMode_231 (by decide) rfl ?_
  refine z_aload_n (n := 234) F 2 dX2_LFSRWithInitialisationMode_233 rfl rfl rfl ?_
  refine z_get (n := 237) F 0 0 in_X3 rfl rfl (by decide) q271 rfl rfl dX2_LFSRWithInitialisationMode_234 rfl ?_
  refine z_bipush (n := 239) F 10 dX2_LFSRWithInitialisationMode_237 (by decide) rfl ?_
  refine z_iald (n := 240) F 1 (L 10) rfl zn16_10 (zSk_at L 9) dX2_LFSRWithInitialisationMode_239 rfl ?_
  refine z_iast (n := 241) (ws2 := [(a, zo 2 [.ref lA, u1, u2, u3, u4, u5, u6]), (lA, zi G 16 (zSk L 10))]) F 1 (zSk L 10) rfl zn16_9 (zSk_up L 9) dX2_LFSRWithInitialisationMode_240 rfl rfl ?_
  refine z_aload_n (n := 242) F 2 dX2_LFSRWithInitialisationMode_241 rfl rfl rfl ?_
  refine z_get (n := 245) F 0 0 in_X3 rfl rfl (by decide) q271 rfl rfl dX2_LFSRWithInitialisationMode_242 rfl ?_
  refine z_bipush (n := 247) F 10 dX2_LFSRWithInitialisationMode_245 (by decide) rfl ?_
  refine z_aload_n (n := 248) F 2 dX2_LFSRWithInitialisationMode_247 rfl rfl rfl ?_
  refine z_get (n := 251) F 0 0 in_X3 rfl rfl (by decide) q271 rfl rfl dX2_LFSRWithInitialisationMode_248 rfl ?_
  refine z_bipush (n := 253) F 11 dX2_LFSRWithInitialisationMode_251 (by decide) rfl ?_
  refine z_iald (n := 254) F 1 (L 11) rfl zn16_11 (zSk_at L 10) dX2_LFSRWithInitialisationMode_253 rfl ?_
  refine z_iast (n := 255) (ws2 := [(a, zo 2 [.ref lA, u1, u2, u3, u4, u5, u6]), (lA, zi G 16 (zSk L 11))]) F 1 (zSk L 11) rfl zn16_10 (zSk_up L 10) dX2_LFSRWithInitialisationMode_254 rfl rfl ?_
  refine z_aload_n (n := 256) F 2 dX2_LFSRWithInitialisationMode_255 rfl rfl rfl ?_
  refine z_get (n := 259) F 0 0 in_X3 rfl rfl (by decide) q271 rfl rfl dX2_LFSRWithInitialisationMode_256 rfl ?_
  refine z_bipush (n := 261) F 11 dX2_LFSRWithInitialisationMode_259 (by decide) rfl ?_
  refine z_aload_n (n := 262) F 2 dX2_LFSRWithInitialisationMode_261 rfl rfl rfl ?_
  refine z_get (n := 265) F 0 0 in_X3 rfl rfl (by decide) q271 rfl rfl dX2_LFSRWithInitialisationMode_262 rfl ?_
  refine z_bipush (n := 267) F 12 dX2_LFSRWithInitialisationMode_265 (by decide) rfl ?_
  refine z_iald (n := 268) F 1 (L 12) rfl zn16_12 (zSk_at L 11) dX2_LFSRWithInitialisationMode_267 rfl ?_
  refine z_iast (n := 269) (ws2 := [(a, zo 2 [.ref lA, u1, u2, u3, u4, u5, u6]), (lA, zi G 16 (zSk L 12))]) F 1 (zSk L 12) rfl zn16_11 (zSk_up L 11) dX2_LFSRWithInitialisationMode_268 rfl rfl ?_
  refine z_aload_n (n := 270) F 2 dX2_LFSRWithInitialisationMode_269 rfl rfl rfl ?_
  refine z_get (n := 273) F 0 0 in_X3 rfl rfl (by decide) q271 rfl rfl dX2_LFSRWithInitialisationMode_270 rfl ?_
  refine z_bipush (n := 275) F 12 dX2_LFSRWithInitialisationMode_273 (by decide) rfl ?_
  refine z_aload_n (n := 276) F 2 dX2_LFSRWithInitialisationMode_275 rfl rfl rfl ?_
  refine z_get (n := 279) F 0 0 in_X3 rfl rfl (by decide) q271 rfl rfl dX2_LFSRWithInitialisationMode_276 rfl ?_
  refine z_bipush (n := 281) F 13 dX2_LFSRWithInitialisationMode_279 (by decide) rfl ?_
  refine z_iald (n := 282) F 1 (L 13) rfl zn16_13 (zSk_at L 12) dX2_LFSRWithInitialisationMode_281 rfl ?_
  refine z_iast (n := 283) (ws2 := [(a, zo 2 [.ref lA, u1, u2, u3, u4, u5, u6]), (lA, zi G 16 (zSk L 13))]) F 1 (zSk L 13) rfl zn16_12 (zSk_up L 12) dX2_LFSRWithInitialisationMode_282 rfl rfl ?_
  refine z_aload_n (n := 284) F 2 dX2_LFSRWithInitialisationMode_283 rfl rfl rfl ?_
  refine z_get (n := 287) F 0 0 in_X3 rfl rfl (by decide) q271 rfl rfl dX2_LFSRWithInitialisationMode_284 rfl ?_
  refine z_bipush (n := 289) F 13 dX2_LFSRWithInitialisationMode_287 (by decide) rfl ?_
  refine z_aload_n (n := 290) F 2 dX2_LFSRWithInitialisationMode_289 rfl rfl rfl ?_
  refine z_get (n := 293) F 0 0 in_X3 rfl rfl (by decide) q271 rfl rfl dX2_LFSRWithInitialisationMode_290 rfl ?_
  refine z_bipush (n := 295) F 14 dX2_LFSRWithInitialisationMode_293 (by decide) rfl ?_
  refine z_iald (n := 296) F 1 (L 14) rfl zn16_14 (zSk_at L 13) dX2_LFSRWithInitialisationMode_295 rfl ?_
  refine z_iast (n := 297) (ws2 := [(a, zo 2 [.ref lA, u1, u2, u3, u4, u5, u6]), (lA, zi G 16 (zSk L 14))]) F 1 (zSk L 14) rfl zn16_13 (zSk_up L 13) dX2_LFSRWithInitialisationMode_296 rfl rfl ?_
  refine z_aload_n (n := 298) F 2 dX2_LFSRWithInitialisationMode_297 rfl rfl rfl ?_
  refine z_get (n := 301) F 0 0 in_X3 rfl rfl (by decide) q271 rfl rfl dX2_LFSRWithInitialisationMode_298 rfl ?_
  refine z_bipush (n := 303) F 14 dX2_LFSRWithInitialisationMode_301 (by decide) rfl ?_
  refine z_aload_n (n := 304) F 2 dX2_LFSRWithInitialisationMode_303 rfl rfl rfl ?_
  refine z_get (n := 307) F 0 0 in_X3 rfl rfl (by decide) q271 rfl rfl dX2_LFSRWithInitialisationMode_304 rfl ?_
  refine z_bipush (n := 309) F 15 dX2_LFSRWithInitialisationMode_307 (by decide) rfl ?_
  refine z_iald (n := 310) F 1 (L 15) rfl zn16_15 (zSk_at L 14) dX2_LFSRWithInitialisationMode_309 rfl ?_
  refine z_iast (n := 311) (ws2 := [(a, zo 2 [.ref lA, u1, u2, u3, u4, u5, u6]), (lA, zi G 16 (zSk L 15))]) F 1 (zSk L 15) rfl zn16_14 (zSk_up L 14) dX2_LFSRWithInitialisationMode_310 rfl rfl ?_
  refine z_aload_n (n := 312) F 2 dX2_LFSRWithInitialisationMode_311 rfl rfl rfl ?_
  refine z_get (n := 315) F 0 0 in_X3 rfl rfl (by decide) q271 rfl rfl dX2_LFSRWithInitialisationMode_312 rfl ?_
  refine z_bipush (n := 317) F 15 dX2_LFSRWithInitialisationMode_315 (by decide) rfl ?_
  refine z_iload_n (n := 318) F 0 dX2_LFSRWithInitialisationMode_317 rfl rfl rfl ?_
  refine z_iast (n := 319) (ws2 := [(a, zo 2 [.ref lA, u1, u2, u3, u4, u5, u6]), (lA, zi G 16 (upd (zSk L 15) 15 (zAddM (zAddM (zAddM (zAddM (zAddM (zAddM (L 0) (zMul (L 0) 8)) (zMul (L 4) 20)) (zMul (L 10) 21)) (zMul (L 13) 17)) (zMul (L 15) 15)) u)))]) F 1 (upd (zSk L 15) 15 (zAddM (zAddM (zAddM (zAddM (zAddM (zAddM (L 0) (zMul (L 0) 8)) (zMul (L 4) 20)) (zMul (L 10) 21)) (zMul (L 13) 17)) (zMul (L 15) 15)) u)) rfl zn16_15 rfl dX2_LFSRWithInitialisationMode_318 rfl rfl ?_
  exact z_vret F rfl (Nat.le_of_ble_eq_true rfl) (Nat.le_of_ble_eq_true rfl) dX2_LFSRWithInitialisationMode_319
set_option maxHeartbeats 4000000 in
theorem metX2_LFSRWithWorkMode (l : Launch) (G : zG) (a lA : Nat) (u1 u2 u3 u4 u5 u6 : Value) (L : zA)  : ZMv l G yX2_LFSRWithWorkMode cX2_LFSRWithWorkMode 3 (zrm 1 0 0) [.ref a] [(a, zo 2 [.ref lA, u1, u2, u3, u4, u5, u6]), (lA, zi G 16 L)] (fun w => w = [(a, zo 2 [.ref lA, u1, u2, u3, u4, u5, u6]), (lA, zi G 16 (zWork L))]) := by
  refine z_enter "Zuc128CoreEngine" "LFSRWithWorkMode" [(0, .ref a)] (by decide) rfl rfl rfl (Nat.le_of_ble_eq_true rfl) ?_
  intro p e s m args below meth c F
  refine z_aload_n (n := 1) F 0 dX2_LFSRWithWorkMode_0 rfl rfl rfl ?_
  refine z_get (n := 4) F 0 0 in_X3 rfl rfl (by decide) q271 rfl rfl dX2_LFSRWithWorkMode_1 rfl ?_
  refine z_iconst (n := 5) F 0 dX2_LFSRWithWorkMode_4 (by decide) rfl ?_
  refine z_iald (n := 6) F 1 (L 0) rfl zn16_0 rfl dX2_LFSRWithWorkMode_5 rfl ?_
  refine z_istore_n (n := 7) F [(1, .int (L 0)), (0, .ref a)] dX2_LFSRWithWorkMode_6 rfl (by decide) rfl rfl ?_
  refine z_aload_n (n := 8) F 1 dX2_LFSRWithWorkMode_7 rfl rfl rfl ?_
  refine z_get (n := 11) F 0 0 in_X3 rfl rfl (by decide) q271 rfl rfl dX2_LFSRWithWorkMode_8 rfl ?_
  refine z_iconst (n := 12) F 0 dX2_LFSRWithWorkMode_11 (by decide) rfl ?_
  refine z_iald (n := 13) F 1 (L 0) rfl zn16_0 rfl dX2_LFSRWithWorkMode_12 rfl ?_
  refine z_bipush (n := 15) F 8 dX2_LFSRWithWorkMode_13 (by decide) rfl ?_
  refine z_pick (ws2 := [] ++ [(a, zo 2 [.ref lA, u1, u2, u3, u4, u5, u6]), (lA, zi G 16 L)]) [0, 1] rfl (by decide) ?_
  refine z_ci (n := 18) (cells2 := 0) (slots2 := 0) (wc := []) (wr := [(a, zo 2 [.ref lA, u1, u2, u3, u4, u5, u6]), (lA, zi G 16 L)]) F (z_rS F (metX2_MulByPow2 l G (L 0) 8) (va_cwS 2 F.hts (lw_S q208 q209 q11 q210) rfl rfl rfl (by decide +kernel) ⟨Nat.le_of_ble_eq_true rfl, Nat.le_of_ble_eq_true rfl⟩) rfl rfl (Nat.le_of_ble_eq_true rfl) dX2_LFSRWithWorkMode_15 ⟨Nat.le_of_ble_eq_true rfl, Nat.le_of_ble_eq_true rfl⟩) rfl rfl rfl (fun r1 w1 h1 => ?_)
  obtain ⟨rfl, rfl⟩ := h1
  refine z_w (ws2 := [(a, zo 2 [.ref lA, u1, u2, u3, u4, u5, u6]), (lA, zi G 16 L)]) rfl ?_
  refine z_istore_n (n := 19) F [(2, .int (zMul (L 0) 8)), (1, .int (L 0)), (0, .ref a)] dX2_LFSRWithWorkMode_18 rfl (by decide) rfl rfl ?_
  refine z_aload_n (n := 20) F 2 dX2_LFSRWithWorkMode_19 rfl rfl rfl ?_
  refine z_iload_n (n := 21) F 1 dX2_LFSRWithWorkMode_20 rfl rfl rfl ?_
  refine z_iload_n (n := 22) F 0 dX2_LFSRWithWorkMode_21 rfl rfl rfl ?_
  refine z_pick (ws2 := [(a, zo 2 [.ref lA, u1, u2, u3, u4, u5, u6])] ++ [(lA, zi G 16 L)]) [0, 1] rfl (by decide) ?_
  refine z_ci (n := 25) (cells2 := 0) (slots2 := 0) (wc := [(a, zo 2 [.ref lA, u1, u2, u3, u4, u5, u6])]) (wr := [(lA, zi G 16 L)]) F (z_rU F (metX2_AddM l G a [.ref lA, u1, u2, u3, u4, u5, u6] (L 0) (zMul (L 0) 8)) (va_cwU 2 F.hts (z_gU q212 q464 zs3 q214 q11 q215) rfl rfl rfl rfl (by decide +kernel) ⟨Nat.le_of_ble_eq_true rfl, Nat.le_of_ble_eq_true rfl⟩) 0 rfl rfl rfl rfl (Nat.le_of_ble_eq_true rfl) dX2_LFSRWithWorkMode_22 ⟨Nat.le_of_ble_eq_true rfl, Nat.le_of_ble_eq_true rfl⟩) rfl rfl rfl (fun r2 w2 h2 => ?_)
  obtain ⟨rfl, rfl⟩ := h2
  refine z_w (ws2 := [(a, zo 2 [.ref lA, u1, u2, u3, u4, u5, u6]), (lA, zi G 16 L)]) rfl ?_
  refine z_istore_n (n := 26) F [(1, .int (zAddM (L 0) (zMul (L 0) 8))), (2, .int (zMul (L 0) 8)), (0, .ref a)] dX2_LFSRWithWorkMode_25 rfl (by decide) rfl rfl ?_
  refine z_aload_n (n := 27) F 2 dX2_LFSRWithWorkMode_26 rfl rfl rfl ?_
  refine z_get (n := 30) F 0 0 in_X3 rfl rfl (by decide) q271 rfl rfl dX2_LFSRWithWorkMode_27 rfl ?_
  refine z_iconst (n := 31) F 4 dX2_LFSRWithWorkMode_30 (by decide) rfl ?_
  refine z_iald (n := 32) F 1 (L 4) rfl zn16_4 rfl dX2_LFSRWithWorkMode_31 rfl ?_
  refine z_bipush (n := 34) F 20 dX2_LFSRWithWorkMode_32 (by decide) rfl ?_
  refine z_pick (ws2 := [] ++ [(a, zo 2 [.ref lA, u1, u2, u3, u4, u5, u6]), (lA, zi G 16 L)]) [0, 1] rfl (by decide) ?_
  refine z_ci (n := 37) (cells2 := 0) (slots2 := 0) (wc := []) (wr := [(a, zo 2 [.ref lA, u1, u2, u3, u4, u5, u6]), (lA, zi G 16 L)]) F (z_rS F (metX2_MulByPow2 l G (L 4) 20) (va_cwS 2 F.hts (lw_S q208 q209 q11 q210) rfl rfl rfl (by decide +kernel) ⟨Nat.le_of_ble_eq_true rfl, Nat.le_of_ble_eq_true rfl⟩) rfl rfl (Nat.le_of_ble_eq_true rfl) dX2_LFSRWithWorkMode_34 ⟨Nat.le_of_ble_eq_true rfl, Nat.le_of_ble_eq_true rfl⟩) rfl rfl rfl (fun r3 w3 h3 => ?_)
  obtain ⟨rfl, rfl⟩ := h3
  refine z_w (ws2 := [(a, zo 2 [.ref lA, u1, u2, u3, u4, u5, u6]), (lA, zi G 16 L)]) rfl ?_
  refine z_istore_n (n := 38) F [(2, .int (zMul (L 4) 20)), (1, .int (zAddM (L 0) (zMul (L 0) 8))), (0, .ref a)] dX2_LFSRWithWorkMode_37 rfl (by decide) rfl rfl ?_
  refine z_aload_n (n := 39) F 2 dX2_LFSRWithWorkMode_38 rfl rfl rfl ?_
  refine z_iload_n (n := 40) F 1 dX2_LFSRWithWorkMode_39 rfl rfl rfl ?_
  refine z_iload_n (n := 41) F 0 dX2_LFSRWithWorkMode_40 rfl rfl rfl ?_
  refine z_pick (ws2 := [(a, zo 2 [.ref lA, u1, u2, u3, u4, u5, u6])] ++ [(lA, zi G 16 L)]) [0, 1] rfl (by decide) ?_
  refine z_ci (n := 44) (cells2 := 0) (slots2 := 0) (wc := [(a, zo 2 [.ref lA, u1, u2, u3, u4, u5, u6])]) (wr := [(lA, zi G 16 L)]) F (z_rU F (metX2_AddM l G a [.ref lA, u1, u2, u3, u4, u5, u6] (zAddM (L 0) (zMul (L 0) 8)) (zMul (L 4) 20)) (va_cwU 2 F.hts (z_gU q212 q464 zs3 q214 q11 q215) rfl rfl rfl rfl (by decide +kernel) ⟨Nat.le_of_ble_eq_true rfl, Nat.le_of_ble_eq_true rfl⟩) 0 rfl rfl rfl rfl (Nat.le_of_ble_eq_true rfl) dX2_LFSRWithWorkMode_41 ⟨Nat.le_of_ble_eq_true rfl, Nat.le_of_ble_eq_true rfl⟩) rfl rfl rfl (fun r4 w4 h4 => ?_)
  obtain ⟨rfl, rfl⟩ := h4
  refine z_w (ws2 := [(a, zo 2 [.ref lA, u1, u2, u3, u4, u5, u6]), (lA, zi G 16 L)]) rfl ?_
  refine z_istore_n (n := 45) F [(1, .int (zAddM (zAddM (L 0) (zMul (L 0) 8)) (zMul (L 4) 20))), (2, .int (zMul (L 4) 20)), (0, .ref a)] dX2_LFSRWithWorkMode_44 rfl (by decide) rfl rfl ?_
  refine z_aload_n (n := 46) F 2 dX2_LFSRWithWorkMode_45 rfl rfl rfl ?_
  refine z_get (n := 49) F 0 0 in_X3 rfl rfl (by decide) q271 rfl rfl dX2_LFSRWithWorkMode_46 rfl ?_
  refine z_bipush (n := 51) F 10 dX2_LFSRWithWorkMode_49 (by decide) rfl ?_
  refine z_iald (n := 52) F 1 (L 10) rfl zn16_10 rfl dX2_LFSRWithWorkMode_51 rfl ?_
  refine z_bipush (n := 54) F 21 dX2_LFSRWithWorkMode_52 (by decide) rfl ?_
  refine z_pick (ws2 := [] ++ [(a, zo 2 [.ref lA, u1, u2, u3, u4, u5, u6]), (lA, zi G 16 L)]) [0, 1] rfl (by decide) ?_
  refine z_ci (n := 57) (cells2 := 0) (slots2 := 0) (wc := []) (wr := [(a, zo 2 [.ref lA, u1, u2, u3, u4, u5, u6]), (lA, zi G 16 L)]) F (z_rS F (metX2_MulByPow2 l G (L 10) 21) (va_cwS 2 F.hts (lw_S q208 q209 q11 q210) rfl rfl rfl (by decide +kernel) ⟨Nat.le_of_ble_eq_true rfl, Nat.le_of_ble_eq_true rfl⟩) rfl rfl (Nat.le_of_ble_eq_true rfl) dX2_LFSRWithWorkMode_54 ⟨Nat.le_of_ble_eq_true rfl, Nat.le_of_ble_eq_true rfl⟩) rfl rfl rfl (fun r5 w5 h5 => ?_)
  obtain ⟨rfl, rfl⟩ := h5
  refine z_w (ws2 := [(a, zo 2 [.ref lA, u1, u2, u3, u4, u5, u6]), (lA, zi G 16 L)]) rfl ?_
  refine z_istore_n (n := 58) F [(2, .int (zMul (L 10) 21)), (1, .int (zAddM (zAddM (L 0) (zMul (L 0) 8)) (zMul (L 4) 20))), (0, .ref a)] dX2_LFSRWithWorkMode_57 rfl (by decide) rfl rfl ?_
  refine z_aload_n (n := 59) F 2 dX2_LFSRWithWorkMode_58 rfl rfl rfl ?_
  refine z_iload_n (n := 60) F 1 dX2_LFSRWithWorkMode_59 rfl rfl rfl ?_
  refine z_iload_n (n := 61) F 0 dX2_LFSRWithWorkMode_60 rfl rfl rfl ?_
  refine z_pick (ws2 := [(a, zo 2 [.ref lA, u1, u2, u3, u4, u5, u6])] ++ [(lA, zi G 16 L)]) [0, 1] rfl (by decide) ?_
  refine z_ci (n := 64) (cells2 := 0) (slots2 := 0) (wc := [(a, zo 2 [.ref lA, u1, u2, u3, u4, u5, u6])]) (wr := [(lA, zi G 16 L)]) F (z_rU F (metX2_AddM l G a [.ref lA, u1, u2, u3, u4, u5, u6] (zAddM (zAddM (L 0) (zMul (L 0) 8)) (zMul (L 4) 20)) (zMul (L 10) 21)) (va_cwU 2 F.hts (z_gU q212 q464 zs3 q214 q11 q215) rfl rfl rfl rfl (by decide +kernel) ⟨Nat.le_of_ble_eq_true rfl, Nat.le_of_ble_eq_true rfl⟩) 0 rfl rfl rfl rfl (Nat.le_of_ble_eq_true rfl) dX2_LFSRWithWorkMode_61 ⟨Nat.le_of_ble_eq_true rfl, Nat.le_of_ble_eq_true rfl⟩) rfl rfl rfl (fun r6 w6 h6 => ?_)
  obtain ⟨rfl, rfl⟩ := h6
  refine z_w (ws2 := [(a, zo 2 [.ref lA, u1, u2, u3, u4, u5, u6]), (lA, zi G 16 L)]) rfl ?_
  refine z_istore_n (n := 65) F [(1, .int (zAddM (zAddM (zAddM (L 0) (zMul (L 0) 8)) (zMul (L 4) 20)) (zMul (L 10) 21))), (2, .int (zMul (L 10) 21)), (0, .ref a)] dX2_LFSRWithWorkMode_64 rfl (by decide) rfl rfl ?_
  refine z_aload_n (n := 66) F 2 dX2_LFSRWithWorkMode_65 rfl rfl rfl ?_
  refine z_get (n := 69) F 0 0 in_X3 rfl rfl (by decide) q271 rfl rfl dX2_LFSRWithWorkMode_66 rfl ?_
  refine z_bipush (n := 71) F 13 dX2_LFSRWithWorkMode_69 (by decide) rfl ?_
  refine z_iald (n := 72) F 1 (L 13) rfl zn16_13 rfl dX2_LFSRWithWorkMode_71 rfl ?_
  refine z_bipush (n := 74) F 17 dX2_LFSRWithWorkMode_72 (by decide) rfl ?_
  refine z_pick (ws2 := [] ++ [(a, zo 2 [.ref lA, u1, u2, u3, u4, u5, u6]), (lA, zi G 16 L)]) [0, 1] rfl (by decide) ?_
  refine z_ci (n := 77) (cells2 := 0) (slots2 := 0) (wc := []) (wr := [(a, zo 2 [.ref lA, u1, u2, u3, u4, u5, u6]), (lA, zi G 16 L)]) F (z_rS F (metX2_MulByPow2 l G (L 13) 17) (va_cwS 2 F.hts (lw_S q208 q209 q11 q210) rfl rfl rfl (by decide +kernel) ⟨Nat.le_of_ble_eq_true rfl, Nat.le_of_ble_eq_true rfl⟩) rfl rfl (Nat.le_of_ble_eq_true rfl) dX2_LFSRWithWorkMode_74 ⟨Nat.le_of_ble_eq_true rfl, Nat.le_of_ble_eq_true rfl⟩) rfl rfl rfl (fun r7 w7 h7 => ?_)
  obtain ⟨rfl, rfl⟩ := h7
  refine z_w (ws2 := [(a, zo 2 [.ref lA, u1, u2, u3, u4, u5, u6]), (lA, zi G 16 L)]) rfl ?_
  refine z_istore_n (n := 78) F [(2, .int (zMul (L 13) 17)), (1, .int (zAddM (zAddM (zAddM (L 0) (zMul (L 0) 8)) (zMul (L 4) 20)) (zMul (L 10) 21))), (0, .ref a)] dX2_LFSRWithWorkMode_77 rfl (by decide) rfl rfl ?_
  refine z_aload_n (n := 79) F 2 dX2_LFSRWithWorkMode_78 rfl rfl rfl ?_
  refine z_iload_n (n := 80) F 1 dX2_LFSRWithWorkMode_79 rfl rfl rfl ?_
  refine z_iload_n (n := 81) F 0 dX2_LFSRWithWorkMode_80 rfl rfl rfl ?_
  refine z_pick (ws2 := [(a, zo 2 [.ref lA, u1, u2, u3, u4, u5, u6])] ++ [(lA, zi G 16 L)]) [0, 1] rfl (by decide) ?_
  refine z_ci (n := 84) (cells2 := 0) (slots2 := 0) (wc := [(a, zo 2 [.ref lA, u1, u2, u3, u4, u5, u6])]) (wr := [(lA, zi G 16 L)]) F (z_rU F (metX2_AddM l G a [.ref lA, u1, u2, u3, u4, u5, u6] (zAddM (zAddM (zAddM (L 0) (zMul (L 0) 8)) (zMul (L 4) 20)) (zMul (L 10) 21)) (zMul (L 13) 17)) (va_cwU 2 F.hts (z_gU q212 q464 zs3 q214 q11 q215) rfl rfl rfl rfl (by decide +kernel) ⟨Nat.le_of_ble_eq_true rfl, Nat.le_of_ble_eq_true rfl⟩) 0 rfl rfl rfl rfl (Nat.le_of_ble_eq_true rfl) dX2_LFSRWithWorkMode_81 ⟨Nat.le_of_ble_eq_true rfl, Nat.le_of_ble_eq_true rfl⟩) rfl rfl rfl (fun r8 w8 h8 => ?_)
  obtain ⟨rfl, rfl⟩ := h8
  refine z_w (ws2 := [(a, zo 2 [.ref lA, u1, u2, u3, u4, u5, u6]), (lA, zi G 16 L)]) rfl ?_
  refine z_istore_n (n := 85) F [(1, .int (zAddM (zAddM (zAddM (zAddM (L 0) (zMul (L 0) 8)) (zMul (L 4) 20)) (zMul (L 10) 21)) (zMul (L 13) 17))), (2, .int (zMul (L 13) 17)), (0, .ref a)] dX2_LFSRWithWorkMode_84 rfl (by decide) rfl rfl ?_
  refine z_aload_n (n := 86) F 2 dX2_LFSRWithWorkMode_85 rfl rfl rfl ?_
  refine z_get (n := 89) F 0 0 in_X3 rfl rfl (by decide) q271 rfl rfl dX2_LFSRWithWorkMode_86 rfl ?_
  refine z_bipush (n := 91) F 15 dX2_LFSRWithWorkMode_89 (by decide) rfl ?_
  refine z_iald (n := 92) F 1 (L 15) rfl zn16_15 rfl dX2_LFSRWithWorkMode_91 rfl ?_
  refine z_bipush (n := 94) F 15 dX2_LFSRWithWorkMode_92 (by decide) rfl ?_
  refine z_pick (ws2 := [] ++ [(a, zo 2 [.ref lA, u1, u2, u3, u4, u5, u6]), (lA, zi G 16 L)]) [0, 1] rfl (by decide) ?_
  refine z_ci (n := 97) (cells2 := 0) (slots2 := 0) (wc := []) (wr := [(a, zo 2 [.ref lA, u1, u2, u3, u4, u5, u6]), (lA, zi G 16 L)]) F (z_rS F (metX2_MulByPow2 l G (L 15) 15) (va_cwS 2 F.hts (lw_S q208 q209 q11 q210) rfl rfl rfl (by decide +kernel) ⟨Nat.le_of_ble_eq_true rfl, Nat.le_of_ble_eq_true rfl⟩) rfl rfl (Nat.le_of_ble_eq_true rfl) dX2_LFSRWithWorkMode_94 ⟨Nat.le_of_ble_eq_true rfl, Nat.le_of_ble_eq_true rfl⟩) rfl rfl rfl (fun r9 w9 h9 => ?_)
  obtain ⟨rfl, rfl⟩ := h9
  refine z_w (ws2 := [(a, zo 2 [.ref lA, u1, u2, u3, u4, u5, u6]), (lA, zi G 16 L)]) rfl ?_
  refine z_istore_n (n := 98) F [(2, .int (zMul (L 15) 15)), (1, .int (zAddM (zAddM (zAddM (zAddM (L 0) (zMul (L 0) 8)) (zMul (L 4) 20)) (zMul (L 10) 21)) (zMul (L 13) 17))), (0, .ref a)] dX2_LFSRWithWorkMode_97 rfl (by decide) rfl rfl ?_
  refine z_aload_n (n := 99) F 2 dX2_LFSRWithWorkMode_98 rfl rfl rfl ?_
  refine z_iload_n (n := 100) F 1 dX2_LFSRWithWorkMode_99 rfl rfl rfl ?_
  refine z_iload_n (n := 101) F 0 dX2_LFSRWithWorkMode_100 rfl rfl rfl ?_
  refine z_pick (ws2 := [(a, zo 2 [.ref lA, u1, u2, u3, u4, u5, u6])] ++ [(lA, zi G 16 L)]) [0, 1] rfl (by decide) ?_
  refine z_ci (n := 104) (cells2 := 0) (slots2 := 0) (wc := [(a, zo 2 [.ref lA, u1, u2, u3, u4, u5, u6])]) (wr := [(lA, zi G 16 L)]) F (z_rU F (metX2_AddM l G a [.ref lA, u1, u2, u3, u4, u5, u6] (zAddM (zAddM (zAddM (zAddM (L 0) (zMul (L 0) 8)) (zMul (L 4) 20)) (zMul (L 10) 21)) (zMul (L 13) 17)) (zMul (L 15) 15)) (va_cwU 2 F.hts (z_gU q212 q464 zs3 q214 q11 q215) rfl rfl rfl rfl (by decide +kernel) ⟨Nat.le_of_ble_eq_true rfl, Nat.le_of_ble_eq_true rfl⟩) 0 rfl rfl rfl rfl (Nat.le_of_ble_eq_true rfl) dX2_LFSRWithWorkMode_101 ⟨Nat.le_of_ble_eq_true rfl, Nat.le_of_ble_eq_true rfl⟩) rfl rfl rfl (fun r10 w10 h10 => ?_)
  obtain ⟨rfl, rfl⟩ := h10
  refine z_w (ws2 := [(a, zo 2 [.ref lA, u1, u2, u3, u4, u5, u6]), (lA, zi G 16 L)]) rfl ?_
  refine z_istore_n (n := 105) F [(1, .int (zAddM (zAddM (zAddM (zAddM (zAddM (L 0) (zMul (L 0) 8)) (zMul (L 4) 20)) (zMul (L 10) 21)) (zMul (L 13) 17)) (zMul (L 15) 15))), (2, .int (zMul (L 15) 15)), (0, .ref a)] dX2_LFSRWithWorkMode_104 rfl (by decide) rfl rfl ?_
  refine z_aload_n (n := 106) F 2 dX2_LFSRWithWorkMode_105 rfl rfl rfl ?_
  refine z_get (n := 109) F 0 0 in_X3 rfl rfl (by decide) q271 rfl rfl dX2_LFSRWithWorkMode_106 rfl ?_
  refine z_iconst (n := 110) F 0 dX2_LFSRWithWorkMode_109 (by decide) rfl ?_
  refine z_aload_n (n := 111) F 2 dX2_LFSRWithWorkMode_110 rfl rfl rfl ?_
  refine z_get (n := 114) F 0 0 in_X3 rfl rfl (by decide) q271 rfl rfl dX2_LFSRWithWorkMode_111 rfl ?_
  refine z_iconst (n := 115) F 1 dX2_LFSRWithWorkMode_114 (by decide) rfl ?_
  refine z_iald (n := 116) F 1 (L 1) rfl zn16_1 rfl dX2_LFSRWithWorkMode_115 rfl ?_
  refine z_iast (n := 117) (ws2 := [(a, zo 2 [.ref lA, u1, u2, u3, u4, u5, u6]), (lA, zi G 16 (zSk L 1))]) F 1 (zSk L 1) rfl zn16_0 (zSk_up0 L) dX2_LFSRWithWorkMode_116 rfl rfl ?_
  refine z_aload_n (n := 118) F 2 dX2_LFSRWithWorkMode_117 rfl rfl rfl ?_
  refine z_get (n := 121) F 0 0 in_X3 rfl rfl (by decide) q271 rfl rfl dX2_LFSRWithWorkMode_118 rfl ?_
  refine z_iconst (n := 122) F 1 dX2_LFSRWithWorkMode_121 (by decide) rfl ?_
  refine z_aload_n (n := 123) F 2 dX2_LFSRWithWorkMode_122 rfl rfl rfl ?_
  refine z_get (n := 126) F 0 0 in_X3 rfl rfl (by decide) q271 rfl rfl dX2_LFSRWithWorkMode_123 rfl ?_
  refine z_iconst (n := 127) F 2 dX2_LFSRWithWorkMode_126 (by decide) rfl ?_
  refine z_iald (n := 128) F 1 (L 2) rfl zn16_2 (zSk_at L 1) dX2_LFSRWithWorkMode_127 rfl ?_
  refine z_iast (n := 129) (ws2 := [(a, zo 2 [.ref lA, u1, u2, u3, u4, u5, u6]), (lA, zi G 16 (zSk L 2))]) F 1 (zSk L 2) rfl zn16_1 (zSk_up L 1) dX2_LFSRWithWorkMode_128 rfl rfl ?_
  refine z_aload_n (n := 130) F 2 dX2_LFSRWithWorkMode_129 rfl rfl rfl ?_
  refine z_get (n := 133) F 0 0 in_X3 rfl rfl (by decide) q271 rfl rfl dX2_LFSRWithWorkMode_130 rfl ?_
  refine z_iconst (n := 134) F 2 dX2_LFSRWithWorkMode_133 (by decide) rfl ?_
  refine z_aload_n (n := 135) F 2 dX2_LFSRWithWorkMode_134 rfl rfl rfl ?_
  refine z_get (n := 138) F 0 0 in_X3 rfl rfl (by decide) q271 rfl rfl dX2_LFSRWithWorkMode_135 rfl ?_
  refine z_iconst (n := 139) F 3 dX2_LFSRWithWorkMode_138 (by decide) rfl ?_
  refine z_iald (n := 140) F 1 (L 3) rfl zn16_3 (zSk_at L 2) dX2_LFSRWithWorkMode_139 rfl ?_
  refine z_iast (n := 141) (ws2 := [(a, zo 2 [.ref lA, u1, u2, u3, u4, u5, u6]), (lA, zi G 16 (zSk L 3))]) F 1 (zSk L 3) rfl zn16_2 (zSk_up L 2) dX2_LFSRWithWorkMode_140 rfl rfl ?_
  refine z_aload_n (n := 142) F 2 dX2_LFSRWithWorkMode_141 rfl rfl rfl ?_
  refine z_get (n := 145) F 0 0 in_X3 rfl rfl (by decide) q271 rfl rfl dX2_LFSRWithWorkMode_142 rfl ?_
  refine z_iconst (n := 146) F 3 dX2_LFSRWithWorkMode_145 (by decide) rfl ?_
  refine z_aload_n (n := 147) F 2 dX2_LFSRWithWorkMode_146 rfl rfl rfl ?_
  refine z_get (n := 150) F 0 0 in_X3 rfl rfl (by decide) q271 rfl rfl dX2_LFSRWithWorkMode_147 rfl ?_
  refine z_iconst (n := 151) F 4 dX2_LFSRWithWorkMode_150 (by decide) rfl ?_
  refine z_iald (n := 152) F 1 (L 4) rfl zn16_4 (zSk_at L 3) dX2_LFSRWithWorkMode_151 rfl ?_
  refine z_iast (n := 153) (ws2 := [(a, zo 2 [.ref lA, u1, u2, u3, u4, u5, u6]), (lA, zi G 16 (zSk L 4))]) F 1 (zSk L 4) rfl zn16_3 (zSk_up L 3) dX2_LFSRWithWorkMode_152 rfl rfl ?_
  refine z_aload_n (n := 154) F 2 dX2_LFSRWithWorkMode_153 rfl rfl rfl ?_
  refine z_get (n := 157) F 0 0 in_X3 rfl rfl (by decide) q271 rfl rfl dX2_LFSRWithWorkMode_154 rfl ?_
  refine z_iconst (n := 158) F 4 dX2_LFSRWithWorkMode_157 (by decide) rfl ?_
  refine z_aload_n (n := 159) F 2 dX2_LFSRWithWorkMode_158 rfl rfl rfl ?_
  refine z_get (n := 162) F 0 0 in_X3 rfl rfl (by decide) q271 rfl rfl dX2_LFSRWithWorkMode_159 rfl ?_
  refine z_iconst (n := 163) F 5 dX2_LFSRWithWorkMode_162 (by decide) rfl ?_
  refine z_iald (n := 164) F 1 (L 5) rfl zn16_5 (zSk_at L 4) dX2_LFSRWithWorkMode_163 rfl ?_
  refine z_iast (n := 165) (ws2 := [(a, zo 2 [.ref lA, u1, u2, u3, u4, u5, u6]), (lA, zi G 16 (zSk L 5))]) F 1 (zSk L 5) rfl zn16_4 (zSk_up L 4) dX2_LFSRWithWorkMode_164 rfl rfl ?_
  refine z_aload_n (n := 166) F 2 dX2_LFSRWithWorkMode_165 rfl rfl rfl ?_
  refine z_get (n := 169) F 0 0 in_X3 rfl rfl (by decide) q271 rfl rfl dX2_LFSRWithWorkMode_166 rfl ?_
  refine z_iconst (n := 170) F 5 dX2_LFSRWithWorkMode_169 (by decide) rfl ?_
  refine z_aload_n (n := 171) F 2 dX2_LFSRWithWorkMode_170 rfl rfl rfl ?_
  refine z_get (n := 174) F 0 0 in_X3 rfl rfl (by decide) q271 rfl rfl dX2_LFSRWithWorkMode_171 rfl ?_
  refine z_bipush (n := 176) F 6 dX2_LFSRWithWorkMode_174 (by decide) rfl ?_
  refine z_iald (n := 177) F 1 (L 6) rfl zn16_6 (zSk_at L 5) dX2_LFSRWithWorkMode_176 rfl ?_
  refine z_iast (n := 178) (ws2 := [(a, zo 2 [.ref lA, u1, u2, u3, u4, u5, u6]), (lA, zi G 16 (zSk L 6))]) F 1 (zSk L 6) rfl zn16_5 (zSk_up L 5) dX2_LFSRWithWorkMode_177 rfl rfl ?_
  refine z_aload_n (n := 179) F 2 dX2_LFSRWithWorkMode_178 rfl rfl rfl ?_
  refine z_get (n := 182) F 0 0 in_X3 rfl rfl (by decide) q271 rfl rfl dX2_LFSRWithWorkMode_179 rfl ?_
  refine z_bipush (n := 184) F 6 dX2_LFSRWithWorkMode_182 (by decide) rfl ?_
  refine z_aload_n (n := 185) F 2 dX2_LFSRWithWorkMode_184 rfl rfl rfl ?_
  refine z_get (n := 188) F 0 0 in_X3 rfl rfl (by decide) q271 rfl rfl dX2_LFSRWithWorkMode_185 rfl ?_
  refine z_bipush (n := 190) F 7 dX2_LFSRWithWorkMode_188 (by decide) rfl ?_
  refine z_iald (n := 191) F 1 (L 7) rfl zn16_7 (zSk_at L 6) dX2_LFSRWithWorkMode_190 rfl ?_
  refine z_iast (n := 192) (ws2 := [(a, zo 2 [.ref lA, u1, u2, u3, u4, u5, u6]), (lA, zi G 16 (zSk L 7))]) F 1 (zSk L 7) rfl zn16_6 (zSk_up L 6) dX2_LFSRWithWorkMode_191 rfl rfl ?_
  refine z_aload_n (n := 193) F 2 dX2_LFSRWithWorkMode_192 rfl rfl rfl ?_
  refine z_get (n := 196) F 0 0 in_X3 rfl rfl (by decide) q271 rfl rfl dX2_LFSRWithWorkMode_193 rfl ?_
  refine z_bipush (n := 198) F 7 dX2_LFSRWithWorkMode_196 (by decide) rfl ?_
  refine z_aload_n (n := 199) F 2 dX2_LFSRWithWorkMode_198 rfl rfl rfl ?_
  refine z_get (n := 202) F 0 0 in_X3 rfl rfl (by decide) q271 rfl rfl dX2_LFSRWithWorkMode_199 rfl ?_
  refine z_bipush (n := 204) F 8 dX2_LFSRWithWorkMode_202 (by decide) rfl ?_
  refine z_iald (n := 205) F 1 (L 8) rfl zn16_8 (zSk_at L 7) dX2_LFSRWithWorkMode_204 rfl ?_
  refine z_iast (n := 206) (ws2 := [(a, zo 2 [.ref lA, u1, u2, u3, u4, u5, u6]), (lA, zi G 16 (zSk L 8))]) F 1 (zSk L 8) rfl zn16_7 (zSk_up L 7) dX2_LFSRWithWorkMode_205 rfl rfl ?_
  refine z_aload_n (n := 207) F 2 dX2_LFSRWithWorkMode_206 rfl rfl rfl ?_
  refine z_get (n := 210) F 0 0 in_X3 rfl rfl (by decide) q271 rfl rfl dX2_LFSRWithWorkMode_207 rfl ?_
  refine z_bipush (n := 212) F 8 dX2_LFSRWithWorkMode_210 (by decide) rfl ?_
  refine z_aload_n (n := 213) F 2 dX2_LFSRWithWorkMode_212 rfl rfl rfl ?_
  refine z_get (n := 216) F 0 0 in_X3 rfl rfl (by decide) q271 rfl rfl dX2_LFSRWithWorkMode_213 rfl ?_
  refine z_bipush (n := 218) F 9 dX2_LFSRWithWorkMode_216 (by decide) rfl ?_
  refine z_iald (n := 219) F 1 (L 9) rfl zn16_9 (zSk_at L 8) dX2_LFSRWithWorkMode_218 rfl ?_
  refine z_iast (n := 220) (ws2 := [(a, zo 2 [.ref lA, u1, u2, u3, u4, u5, u6]), (lA, zi G 16 (zSk L 9))]) F 1 (zSk L 9) rfl zn16_8 (zSk_up L 8) dX2_LFSRWithWorkMode_219 rfl rfl ?_
  refine z_aload_n (n := 221) F 2 dX2_LFSRWithWorkMode_220 rfl rfl rfl ?_
  refine z_get (n := 224) F 0 0 in_X3 rfl rfl (by decide) q271 rfl rfl dX2_LFSRWithWorkMode_221 rfl ?_
  refine z_bipush (n := 226) F 9 dX2_LFSRWithWorkMode_224 (by decide) rfl ?_
  refine z_aload_n (n := 227) F 2 dX2_LFSRWithWorkMode_226 rfl rfl rfl ?_
  refine z_get (n := 230) F 0 0 in_X3 rfl rfl (by decide) q271 rfl rfl dX2_LFSRWithWorkMode_227 rfl ?_
  refine z_bipush (n := 232) F 10 dX2_LFSRWithWorkMode_230 (by decide) rfl ?_
  refine z_iald (n := 233) F 1 (L 10) rfl zn16_10 (zSk_at L 9) dX2_LFSRWithWorkMode_232 rfl ?_
  refine z_iast (n := 234) (ws2 := [(a, zo 2 [.ref lA, u1, u2, u3, u4, u5, u6]), (lA, zi G 16 (zSk L 10))]) F 1 (zSk L 10) rfl zn16_9 (zSk_up L 9) dX2_LFSRWithWorkMode_233 rfl rfl ?_
  refine z_aload_n (n := 235) F 2 dX2_LFSRWithWorkMode_234 rfl rfl rfl ?_
  refine z_get (n := 238) F 0 0 in_X3 rfl rfl (by decide) q271 rfl rfl dX2_LFSRWithWorkMode_235 rfl ?_
  refine z_bipush (n := 240) F 10 dX2_LFSRWithWorkMode_238 (by decide) rfl ?_
  refine z_aload_n (n := 241) F 2 dX2_LFSRWithWorkMode_240 rfl rfl rfl ?_
  refine z_get (n := 244) F 0 0 in_X3 rfl rfl (by decide) q271 rfl rfl dX2_LFSRWithWorkMode_241 rfl ?_
  refine z_bipush (n := 246) F 11 dX2_LFSRWithWorkMode_244 (by decide) rfl ?_
  refine z_iald (n := 247) F 1 (L 11) rfl zn16_11 (zSk_at L 10) dX2_LFSRWithWorkMode_246 rfl ?_
  refine z_iast (n := 248) (ws2 := [(a, zo 2 [.ref lA, u1, u2, u3, u4, u5, u6]), (lA, zi G 16 (zSk L 11))]) F 1 (zSk L 11) rfl zn16_10 (zSk_up L 10) dX2_LFSRWithWorkMode_247 rfl rfl ?_
  refine z_aload_n (n := 249) F 2 dX2_LFSRWithWorkMode_248 rfl rfl rfl ?_
  refine z_get (n := 252) F 0 0 in_X3 rfl rfl (by decide) q271 rfl rfl dX2_LFSRWithWorkMode_249 rfl ?_
  refine z_bipush (n := 254) F 11 dX2_LFSRWithWorkMode_252 (by decide) rfl ?_
  refine z_aload_n (n := 255) F 2 dX2_LFSRWithWorkMode_254 rfl rfl rfl ?_
  refine z_get (n := 258) F 0 0 in_X3 rfl rfl (by decide) q271 rfl rfl dX2_LFSRWithWorkMode_255 rfl ?_
  refine z_bipush (n := 260) F 12 dX2_LFSRWithWorkMode_258 (by decide) rfl ?_
  refine z_iald (n := 261) F 1 (L 12) rfl zn16_12 (zSk_at L 11) dX2_LFSRWithWorkMode_260 rfl ?_
  refine z_iast (n := 262) (ws2 := [(a, zo 2 [.ref lA, u1, u2, u3, u4, u5, u6]), (lA, zi G 16 (zSk L 12))]) F 1 (zSk L 12) rfl zn16_11 (zSk_up L 11) dX2_LFSRWithWorkMode_261 rfl rfl ?_
  refine z_aload_n (n := 263) F 2 dX2_LFSRWithWorkMode_262 rfl rfl rfl ?_
  refine z_get (n := 266) F 0 0 in_X3 rfl rfl (by decide) q271 rfl rfl dX2_LFSRWithWorkMode_263 rfl ?_
  refine z_bipush (n := 268) F 12 dX2_LFSRWithWorkMode_266 (by decide) rfl ?_
  refine z_aload_n (n := 269) F 2 dX2_LFSRWithWorkMode_268 rfl rfl rfl ?_
  refine z_get (n := 272) F 0 0 in_X3 rfl rfl (by decide) q271 rfl rfl dX2_LFSRWithWorkMode_269 rfl ?_
  refine z_bipush (n := 274) F 13 dX2_LFSRWithWorkMode_272 (by decide) rfl ?_
  refine z_iald (n := 275) F 1 (L 13) rfl zn16_13 (zSk_at L 12) dX2_LFSRWithWorkMode_274 rfl ?_
  refine z_iast (n := 276) (ws2 := [(a, zo 2 [.ref lA, u1, u2, u3, u4, u5, u6]), (lA, zi G 16 (zSk L 13))]) F 1 (zSk L 13) rfl zn16_12 (zSk_up L 12) dX2_LFSRWithWorkMode_275 rfl rfl ?_
  refine z_aload_n (n := 277) F 2 dX2_LFSRWithWorkMode_276 rfl rfl rfl ?_
  refine z_get (n := 280) F 0 0 in_X3 rfl rfl (by decide) q271 rfl rfl dX2_LFSRWithWorkMode_277 rfl ?_
  refine z_bipush (n := 282) F 13 dX2_LFSRWithWorkMode_280 (by decide) rfl ?_
  refine z_aload_n (n := 283) F 2 dX2_LFSRWithWorkMode_282 rfl rfl rfl ?_
  refine z_get (n := 286) F 0 0 in_X3 rfl rfl (by decide) q271 rfl rfl dX2_LFSRWithWorkMode_283 rfl ?_
  refine z_bipush (n := 288) F 14 dX2_LFSRWithWorkMode_286 (by decide) rfl ?_
  refine z_iald (n := 289) F 1 (L 14) rfl zn16_14 (zSk_at L 13) dX2_LFSRWithWorkMode_288 rfl ?_
  refine z_iast (n := 290) (ws2 := [(a, zo 2 [.ref lA, u1, u2, u3, u4, u5, u6]), (lA, zi G 16 (zSk L 14))]) F 1 (zSk L 14) rfl zn16_13 (zSk_up L 13) dX2_LFSRWithWorkMode_289 rfl rfl ?_
  refine z_aload_n (n := 291) F 2 dX2_LFSRWithWorkMode_290 rfl rfl rfl ?_
  refine z_get (n := 294) F 0 0 in_X3 rfl rfl (by decide) q271 rfl rfl dX2_LFSRWithWorkMode_291 rfl ?_
  refine z_bipush (n := 296) F 14 dX2_LFSRWithWorkMode_294 (by decide) rfl ?_
  refine z_aload_n (n := 297) F 2 dX2_LFSRWithWorkMode_296 rfl rfl rfl ?_
  refine z_get (n := 300) F 0 0 in_X3 rfl rfl (by decide) q271 rfl rfl dX2_LFSRWithWorkMode_297 rfl ?_
  refine z_bipush (n := 302) F 15 dX2_LFSRWithWorkMode_300 (by decide) rfl ?_
  refine z_iald (n := 303) F 1 (L 15) rfl zn16_15 (zSk_at L 14) dX2_LFSRWithWorkMode_302 rfl ?_
  refine z_iast (n := 304) (ws2 := [(a, zo 2 [.ref lA, u1, u2, u3, u4, u5, u6]), (lA, zi G 16 (zSk L 15))]) F 1 (zSk L 15) rfl zn16_14 (zSk_up L 14) dX2_LFSRWithWorkMode_303 rfl rfl ?_
  refine z_aload_n (n := 305) F 2 dX2_LFSRWithWorkMode_304 rfl rfl rfl ?_
  refine z_get (n := 308) F 0 0 in_X3 rfl rfl (by decide) q271 rfl rfl dX2_LFSRWithWorkMode_305 rfl ?_
  refine z_bipush (n := 310) F 15 dX2_LFSRWithWorkMode_308 (by decide) rfl ?_
  refine z_iload_n (n := 311) F 0 dX2_LFSRWithWorkMode_310 rfl rfl rfl ?_
  refine z_iast (n := 312) (ws2 := [(a, zo 2 [.ref lA, u1, u2, u3, u4, u5, u6]), (lA, zi G 16 (upd (zSk L 15) 15 (zAddM (zAddM (zAddM (zAddM (zAddM (L 0) (zMul (L 0) 8)) (zMul (L 4) 20)) (zMul (L 10) 21)) (zMul (L 13) 17)) (zMul (L 15) 15))))]) F 1 (upd (zSk L 15) 15 (zAddM (zAddM (zAddM (zAddM (zAddM (L 0) (zMul (L 0) 8)) (zMul (L 4) 20)) (zMul (L 10) 21)) (zMul (L 13) 17)) (zMul (L 15) 15))) rfl zn16_15 rfl dX2_LFSRWithWorkMode_311 rfl rfl ?_
  exact z_vret F rfl (Nat.le_of_ble_eq_true rfl) (Nat.le_of_ble_eq_true rfl) dX2_LFSRWithWorkMode_312
set_option maxHeartbeats 4000000 in
theorem metX2_BitReorganization (l : Launch) (G : zG) (a lA bA : Nat) (u1 u3 u4 u5 u6 : Value) (L B : zA) : ZMv l G yX2_BitReorganization cX2_BitReorganization 1 (zrm 0 0 0) [.ref a] [(a, zo 2 [.ref lA, u1, .ref bA, u3, u4, u5, u6]), (lA, zi G 16 L), (bA, zi G 4 B)] (fun w => w = [(a, zo 2 [.ref lA, u1, .ref bA, u3, u4, u5, u6]), (lA, zi G 16 L), (bA, zi G 4 (zBit L B))]) := by
  refine z_enter "Zuc128CoreEngine" "BitReorganization" [(0, .ref a)] (by decide) rfl rfl rfl (Nat.le_of_ble_eq_true rfl) ?_
  intro p e s m args below meth c F
  refine z_aload_n (n := 1) F 0 dX2_BitReorganization_0 rfl rfl rfl ?_
  refine z_get (n := 4) F 0 2 in_X3 rfl rfl (by decide) q273 rfl rfl dX2_BitReorganization_1 rfl ?_
  refine z_iconst (n := 5) F 0 dX2_BitReorganization_4 (by decide) rfl ?_
  refine z_aload_n (n := 6) F 0 dX2_BitReorganization_5 rfl rfl rfl ?_
  refine z_get (n := 9) F 0 0 in_X3 rfl rfl (by decide) q271 rfl rfl dX2_BitReorganization_6 rfl ?_
  refine z_bipush (n := 11) F 15 dX2_BitReorganization_9 (by decide) rfl ?_
  refine z_iald (n := 12) F 1 (L 15) rfl zn16_15 rfl dX2_BitReorganization_11 rfl ?_
  refine z_ldc (n := 14) F q180 dX2_BitReorganization_12 rfl ?_
  refine z_iand (n := 15) F dX2_BitReorganization_14 rfl ?_
  refine z_iconst (n := 16) F 1 dX2_BitReorganization_15 (by decide) rfl ?_
  refine z_ishl (n := 17) F dX2_BitReorganization_16 rfl ?_
  refine z_aload_n (n := 18) F 0 dX2_BitReorganization_17 rfl rfl rfl ?_
  refine z_get (n := 21) F 0 0 in_X3 rfl rfl (by decide) q271 rfl rfl dX2_BitReorganization_18 rfl ?_
  refine z_bipush (n := 23) F 14 dX2_BitReorganization_21 (by decide) rfl ?_
  refine z_iald (n := 24) F 1 (L 14) rfl zn16_14 rfl dX2_BitReorganization_23 rfl ?_
  refine z_ldc (n := 26) F q181 dX2_BitReorganization_24 rfl ?_
  refine z_iand (n := 27) F dX2_BitReorganization_26 rfl ?_
  refine z_ior (n := 28) F dX2_BitReorganization_27 rfl ?_
  refine z_iast (n := 29) (ws2 := [(a, zo 2 [.ref lA, u1, .ref bA, u3, u4, u5, u6]), (lA, zi G 16 L), (bA, zi G 4 (upd B 0 ((((L 15) &&& 2147450880) <<< (1 &&& 31)) ||| ((L 14) &&& 65535))))]) F 2 (upd B 0 ((((L 15) &&& 2147450880) <<< (1 &&& 31)) ||| ((L 14) &&& 65535))) rfl zn4_0 rfl dX2_BitReorganization_28 rfl rfl ?_
  refine z_aload_n (n := 30) F 0 dX2_BitReorganization_29 rfl rfl rfl ?_
  refine z_get (n := 33) F 0 2 in_X3 rfl rfl (by decide) q273 rfl rfl dX2_BitReorganization_30 rfl ?_
  refine z_iconst (n := 34) F 1 dX2_BitReorganization_33 (by decide) rfl ?_
  refine z_aload_n (n := 35) F 0 dX2_BitReorganization_34 rfl rfl rfl ?_
  refine z_get (n := 38) F 0 0 in_X3 rfl rfl (by decide) q271 rfl rfl dX2_BitReorganization_35 rfl ?_
  refine z_bipush (n := 40) F 11 dX2_BitReorganization_38 (by decide) rfl ?_
  refine z_iald (n := 41) F 1 (L 11) rfl zn16_11 rfl dX2_BitReorganization_40 rfl ?_
  refine z_ldc (n := 43) F q181 dX2_BitReorganization_41 rfl ?_
  refine z_iand (n := 44) F dX2_BitReorganization_43 rfl ?_
  refine z_bipush (n := 46) F 16 dX2_BitReorganization_44 (by decide) rfl ?_
  refine z_ishl (n := 47) F dX2_BitReorganization_46 rfl ?_
  refine z_aload_n (n := 48) F 0 dX2_BitReorganization_47 rfl rfl rfl ?_
  refine z_get (n := 51) F 0 0 in_X3 rfl rfl (by decide) q271 rfl rfl dX2_BitReorganization_48 rfl ?_
  refine z_bipush (n := 53) F 9 dX2_BitReorganization_51 (by decide) rfl ?_
  refine z_iald (n := 54) F 1 (L 9) rfl zn16_9 rfl dX2_BitReorganization_53 rfl ?_
  refine z_bipush (n := 56) F 15 dX2_BitReorganization_54 (by decide) rfl ?_
  refine z_iushr (n := 57) F dX2_BitReorganization_56 rfl ?_
  refine z_ior (n := 58) F dX2_BitReorganization_57 rfl ?_
  refine z_iast (n := 59) (ws2 := [(a, zo 2 [.ref lA, u1, .ref bA, u3, u4, u5, u6]), (lA, zi G 16 L), (bA, zi G 4 (upd (upd B 0 ((((L 15) &&& 2147450880) <<< (1 &&& 31)) ||| ((L 14) &&& 65535))) 1 ((((L 11) &&& 65535) <<< (16 &&& 31)) ||| (zush (L 9) 15))))]) F 2 (upd (upd B 0 ((((L 15) &&& 2147450880) <<< (1 &&& 31)) ||| ((L 14) &&& 65535))) 1 ((((L 11) &&& 65535) <<< (16 &&& 31)) ||| (zush (L 9) 15))) rfl zn4_1 rfl dX2_BitReorganization_58 rfl rfl ?_
  refine z_aload_n (n := 60) F 0 dX2_BitReorganization_59 rfl rfl rfl ?_
  refine z_get (n := 63) F 0 2 in_X3 rfl rfl (by decide) q273 rfl rfl dX2_BitReorganization_60 rfl ?_
  refine z_iconst (n := 64) F 2 dX2_BitReorganization_63 (by decide) rfl ?_
  refine z_aload_n (n := 65) F 0 dX2_BitReorganization_64 rfl rfl rfl ?_
  refine z_get (n := 68) F 0 0 in_X3 rfl rfl (by decide) q271 rfl rfl dX2_BitReorganization_65 rfl ?_
  refine z_bipush (n := 70) F 7 dX2_BitReorganization_68 (by decide) rfl ?_
  refine z_iald (n := 71) F 1 (L 7) rfl zn16_7 rfl dX2_BitReorganization_70 rfl ?_
  refine z_ldc (n := 73) F q181 dX2_BitReorganization_71 rfl ?_
  refine z_iand (n := 74) F dX2_BitReorganization_73 rfl ?_
  refine z_bipush (n := 76) F 16 dX2_BitReorganization_74 (by decide) rfl ?_
  refine z_ishl (n := 77) F dX2_BitReorganization_76 rfl ?_
  refine z_aload_n (n := 78) F 0 dX2_BitReorganization_77 rfl rfl rfl ?_
  refine z_get (n := 81) F 0 0 in_X3 rfl rfl (by decide) q271 rfl rfl dX2_BitReorganization_78 rfl ?_
  refine z_iconst (n := 82) F 5 dX2_BitReorganization_81 (by decide) rfl ?_
  refine z_iald (n := 83) F 1 (L 5) rfl zn16_5 rfl dX2_BitReorganization_82 rfl ?_
  refine z_bipush (n := 85) F 15 dX2_BitReorganization_83 (by decide) rfl ?_
  refine z_iushr (n := 86) F dX2_BitReorganization_85 rfl ?_
  refine z_ior (n := 87) F dX2_BitReorganization_86 rfl ?_
  refine z_iast (n := 88) (ws2 := [(a, zo 2 [.ref lA, u1, .ref bA, u3, u4, u5, u6]), (lA, zi G 16 L), (bA, zi G 4 (upd (upd (upd B 0 ((((L 15) &&& 2147450880) <<< (1 &&& 31)) ||| ((L 14) &&& 65535))) 1 ((((L 11) &&& 65535) <<< (16 &&& 31)) ||| (zush (L 9) 15))) 2 ((((L 7) &&& 65535) <<< (16 &&& 31)) ||| (zush (L 5) 15))))]) F 2 (upd (upd (upd B 0 ((((L 15) &&& 2147450880) <<< (1 &&& 31)) ||| ((L 14) &&& 65535))) 1 ((((L 11) &&& 65535) <<< (16 &&& 31)) ||| (zush (L 9) 15))) 2 ((((L 7) &&& 65535) <<< (16 &&& 31)) ||| (zush (L 5) 15))) rfl zn4_2 rfl dX2_BitReorganization_87 rfl rfl ?_
  refine z_aload_n (n := 89) F 0 dX2_BitReorganization_88 rfl rfl rfl ?_
  refine z_get (n := 92) F 0 2 in_X3 rfl rfl (by decide) q273 rfl rfl dX2_BitReorganization_89 rfl ?_
  refine z_iconst (n := 93) F 3 dX2_BitReorganization_92 (by decide) rfl ?_
  refine z_aload_n (n := 94) F 0 dX2_BitReorganization_93 rfl rfl rfl ?_
  refine z_get (n := 97) F 0 0 in_X3 rfl rfl (by decide) q271 rfl rfl dX2_BitReorganization_94 rfl ?_
  refine z_iconst (n := 98) F 2 dX2_BitReorganization_97 (by decide) rfl ?_
  refine z_iald (n := 99) F 1 (L 2) rfl zn16_2 rfl dX2_BitReorganization_98 rfl ?_
  refine z_ldc (n := 101) F q181 dX2_BitReorganization_99 rfl ?_
  refine z_iand (n := 102) F dX2_BitReorganization_101 rfl ?_
  refine z_bipush (n := 104) F 16 dX2_BitReorganization_102 (by decide) rfl ?_
  refine z_ishl (n := 105) F dX2_BitReorganization_104 rfl ?_
  refine z_aload_n (n := 106) F 0 dX2_BitReorganization_105 rfl rfl rfl ?_
  refine z_get (n := 109) F 0 0 in_X3 rfl rfl (by decide) q271 rfl rfl dX2_BitReorganization_106 rfl ?_
  refine z_iconst (n := 110) F 0 dX2_BitReorganization_109 (by decide) rfl ?_
  refine z_iald (n := 111) F 1 (L 0) rfl zn16_0 rfl dX2_BitReorganization_110 rfl ?_
  refine z_bipush (n := 113) F 15 dX2_BitReorganization_111 (by decide) rfl ?_
  refine z_iushr (n := 114) F dX2_BitReorganization_113 rfl ?_
  refine z_ior (n := 115) F dX2_BitReorganization_114 rfl ?_
  refine z_iast (n := 116) (ws2 := [(a, zo 2 [.ref lA, u1, .ref bA, u3, u4, u5, u6]), (lA, zi G 16 L), (bA, zi G 4 (upd (upd (upd (upd B 0 ((((L 15) &&& 2147450880) <<< (1 &&& 31)) ||| ((L 14) &&& 65535))) 1 ((((L 11) &&& 65535) <<< (16 &&& 31)) ||| (zush (L 9) 15))) 2 ((((L 7) &&& 65535) <<< (16 &&& 31)) ||| (zush (L 5) 15))) 3 ((((L 2) &&& 65535) <<< (16 &&& 31)) ||| (zush (L 0) 15))))]) F 2 (upd (upd (upd (upd B 0 ((((L 15) &&& 2147450880) <<< (1 &&& 31)) ||| ((L 14) &&& 65535))) 1 ((((L 11) &&& 65535) <<< (16 &&& 31)) ||| (zush (L 9) 15))) 2 ((((L 7) &&& 65535) <<< (16 &&& 31)) ||| (zush (L 5) 15))) 3 ((((L 2) &&& 65535) <<< (16 &&& 31)) ||| (zush (L 0) 15))) rfl zn4_3 rfl dX2_BitReorganization_115 rfl rfl ?_
  exact z_vret F rfl (Nat.le_of_ble_eq_true rfl) (Nat.le_of_ble_eq_true rfl) dX2_BitReorganization_116
set_option maxHeartbeats 4000000 in
theorem metX2_F (l : Launch) (G : zG) (a fA bA : Nat) (u0 u3 u4 u5 u6 : Value) (F1 B : zA) : ZMi l G yX2_F cX2_F 6 .int (zrm 2 0 0) [.ref a] [(a, zo 2 [u0, .ref fA, .ref bA, u3, u4, u5, u6]), (fA, zi G 2 F1), (bA, zi G 4 B)] (fun r w => r = zWf B F1 ∧ w = [(a, zo 2 [u0, .ref fA, .ref bA, u3, u4, u5, u6]), (fA, zi G 2 (zFn B F1)), (bA, zi G 4 B)]) := by
  refine z_enter "Zuc128CoreEngine" "F" [(0, .ref a)] (by decide) rfl rfl rfl (Nat.le_of_ble_eq_true rfl) ?_
  intro p e s m args below meth c F
  refine z_aload_n (n := 1) F 0 dX2_F_0 rfl rfl rfl ?_
  refine z_get (n := 4) F 0 2 in_X3 rfl rfl (by decide) q273 rfl rfl dX2_F_1 rfl ?_
  refine z_iconst (n := 5) F 0 dX2_F_4 (by decide) rfl ?_
  refine z_iald (n := 6) F 2 (B 0) rfl zn4_0 rfl dX2_F_5 rfl ?_
  refine z_aload_n (n := 7) F 0 dX2_F_6 rfl rfl rfl ?_
  refine z_get (n := 10) F 0 1 in_X3 rfl rfl (by decide) q272 rfl rfl dX2_F_7 rfl ?_
  refine z_iconst (n := 11) F 0 dX2_F_10 (by decide) rfl ?_
  refine z_iald (n := 12) F 1 (F1 0) rfl zn2_0 rfl dX2_F_11 rfl ?_
  refine z_ixor (n := 13) F dX2_F_12 rfl ?_
  refine z_aload_n (n := 14) F 0 dX2_F_13 rfl rfl rfl ?_
  refine z_get (n := 17) F 0 1 in_X3 rfl rfl (by decide) q272 rfl rfl dX2_F_14 rfl ?_
  refine z_iconst (n := 18) F 1 dX2_F_17 (by decide) rfl ?_
  refine z_iald (n := 19) F 1 (F1 1) rfl zn2_1 rfl dX2_F_18 rfl ?_
  refine z_iadd (n := 20) F dX2_F_19 rfl ?_
  refine z_istore_n (n := 21) F [(1, .int (((B 0) ^^^ (F1 0)) + (F1 1))), (0, .ref a)] dX2_F_20 rfl (by decide) rfl rfl ?_
  refine z_aload_n (n := 22) F 1 dX2_F_21 rfl rfl rfl ?_
  refine z_get (n := 25) F 0 1 in_X3 rfl rfl (by decide) q272 rfl rfl dX2_F_22 rfl ?_
  refine z_iconst (n := 26) F 0 dX2_F_25 (by decide) rfl ?_
  refine z_iald (n := 27) F 1 (F1 0) rfl zn2_0 rfl dX2_F_26 rfl ?_
  refine z_aload_n (n := 28) F 1 dX2_F_27 rfl rfl rfl ?_
  refine z_get (n := 31) F 0 2 in_X3 rfl rfl (by decide) q273 rfl rfl dX2_F_28 rfl ?_
  refine z_iconst (n := 32) F 1 dX2_F_31 (by decide) rfl ?_
  refine z_iald (n := 33) F 2 (B 1) rfl zn4_1 rfl dX2_F_32 rfl ?_
  refine z_iadd (n := 34) F dX2_F_33 rfl ?_
  refine z_istore_n (n := 35) F [(2, .int ((F1 0) + (B 1))), (1, .int (((B 0) ^^^ (F1 0)) + (F1 1))), (0, .ref a)] dX2_F_34 rfl (by decide) rfl rfl ?_
  refine z_aload_n (n := 36) F 2 dX2_F_35 rfl rfl rfl ?_
  refine z_get (n := 39) F 0 1 in_X3 rfl rfl (by decide) q272 rfl rfl dX2_F_36 rfl ?_
  refine z_iconst (n := 40) F 1 dX2_F_39 (by decide) rfl ?_
  refine z_iald (n := 41) F 1 (F1 1) rfl zn2_1 rfl dX2_F_40 rfl ?_
  refine z_aload_n (n := 42) F 2 dX2_F_41 rfl rfl rfl ?_
  refine z_get (n := 45) F 0 2 in_X3 rfl rfl (by decide) q273 rfl rfl dX2_F_42 rfl ?_
  refine z_iconst (n := 46) F 2 dX2_F_45 (by decide) rfl ?_
  refine z_iald (n := 47) F 2 (B 2) rfl zn4_2 rfl dX2_F_46 rfl ?_
  refine z_ixor (n := 48) F dX2_F_47 rfl ?_
  refine z_istore_n (n := 49) F [(3, .int ((F1 1) ^^^ (B 2))), (2, .int ((F1 0) + (B 1))), (1, .int (((B 0) ^^^ (F1 0)) + (F1 1))), (0, .ref a)] dX2_F_48 rfl (by decide) rfl rfl ?_
  refine z_iload_n (n := 50) F 1 dX2_F_49 rfl rfl rfl ?_
  refine z_bipush (n := 52) F 16 dX2_F_50 (by decide) rfl ?_
  refine z_ishl (n := 53) F dX2_F_52 rfl ?_
  refine z_iload_n (n := 54) F 0 dX2_F_53 rfl rfl rfl ?_
  refine z_bipush (n := 56) F 16 dX2_F_54 (by decide) rfl ?_
  refine z_iushr (n := 57) F dX2_F_56 rfl ?_
  refine z_ior (n := 58) F dX2_F_57 rfl ?_
  refine z_pick (ws2 := [] ++ [(a, zo 2 [u0, .ref fA, .ref bA, u3, u4, u5, u6]), (fA, zi G 2 F1), (bA, zi G 4 B)]) [0, 1, 2] rfl (by decide) ?_
  refine z_ci (n := 61) (cells2 := 0) (slots2 := 0) (wc := []) (wr := [(a, zo 2 [u0, .ref fA, .ref bA, u3, u4, u5, u6]), (fA, zi G 2 F1), (bA, zi G 4 B)]) F (z_rS F (metX2_L1 l G ((((F1 0) + (B 1)) <<< (16 &&& 31)) ||| (zush ((F1 1) ^^^ (B 2)) 16))) (va_cwS 1 F.hts (lw_S q188 q189 q11 q190) rfl rfl rfl (by decide +kernel) ⟨Nat.le_of_ble_eq_true rfl, Nat.le_of_ble_eq_true rfl⟩) rfl rfl (Nat.le_of_ble_eq_true rfl) dX2_F_58 ⟨Nat.le_of_ble_eq_true rfl, Nat.le_of_ble_eq_true rfl⟩) rfl rfl rfl (fun r1 w1 h1 => ?_)
  obtain ⟨rfl, rfl⟩ := h1
  refine z_w (ws2 := [(a, zo 2 [u0, .ref fA, .ref bA, u3, u4, u5, u6]), (fA, zi G 2 F1), (bA, zi G 4 B)]) rfl ?_
  refine z_istore (n := 63) F [(4, .int (zL1 ((((F1 0) + (B 1)) <<< (16 &&& 31)) ||| (zush ((F1 1) ^^^ (B 2)) 16)))), (3, .int ((F1 1) ^^^ (B 2))), (2, .int ((F1 0) + (B 1))), (1, .int (((B 0) ^^^ (F1 0)) + (F1 1))), (0, .ref a)] dX2_F_61 (by decide) rfl rfl ?_
  refine z_iload_n (n := 64) F 1 dX2_F_63 rfl rfl rfl ?_
  refine z_bipush (n := 66) F 16 dX2_F_64 (by decide) rfl ?_
  refine z_ishl (n := 67) F dX2_F_66 rfl ?_
  refine z_iload_n (n := 68) F 2 dX2_F_67 rfl rfl rfl ?_
  refine z_bipush (n := 70) F 16 dX2_F_68 (by decide) rfl ?_
  refine z_iushr (n := 71) F dX2_F_70 rfl ?_
  refine z_ior (n := 72) F dX2_F_71 rfl ?_
  refine z_pick (ws2 := [] ++ [(a, zo 2 [u0, .ref fA, .ref bA, u3, u4, u5, u6]), (fA, zi G 2 F1), (bA, zi G 4 B)]) [0, 1, 2] rfl (by decide) ?_
  refine z_ci (n := 75) (cells2 := 0) (slots2 := 0) (wc := []) (wr := [(a, zo 2 [u0, .ref fA, .ref bA, u3, u4, u5, u6]), (fA, zi G 2 F1), (bA, zi G 4 B)]) F (z_rS F (metX2_L2 l G ((((F1 1) ^^^ (B 2)) <<< (16 &&& 31)) ||| (zush ((F1 0) + (B 1)) 16))) (va_cwS 1 F.hts (lw_S q194 q195 q11 q196) rfl rfl rfl (by decide +kernel) ⟨Nat.le_of_ble_eq_true rfl, Nat.le_of_ble_eq_true rfl⟩) rfl rfl (Nat.le_of_ble_eq_true rfl) dX2_F_72 ⟨Nat.le_of_ble_eq_true rfl, Nat.le_of_ble_eq_true rfl⟩) rfl rfl rfl (fun r2 w2 h2 => ?_)
  obtain ⟨rfl, rfl⟩ := h2
  refine z_w (ws2 := [(a, zo 2 [u0, .ref fA, .ref bA, u3, u4, u5, u6]), (fA, zi G 2 F1), (bA, zi G 4 B)]) rfl ?_
  refine z_istore (n := 77) F [(5, .int (zL2 ((((F1 1) ^^^ (B 2)) <<< (16 &&& 31)) ||| (zush ((F1 0) + (B 1)) 16)))), (4, .int (zL1 ((((F1 0) + (B 1)) <<< (16 &&& 31)) ||| (zush ((F1 1) ^^^ (B 2)) 16)))), (3, .int ((F1 1) ^^^ (B 2))), (2, .int ((F1 0) + (B 1))), (1, .int (((B 0) ^^^ (F1 0)) + (F1 1))), (0, .ref a)] dX2_F_75 (by decide) rfl rfl ?_
  refine z_aload_n (n := 78) F 5 dX2_F_77 rfl rfl rfl ?_
  refine z_get (n := 81) F 0 1 in_X3 rfl rfl (by decide) q272 rfl rfl dX2_F_78 rfl ?_
  refine z_iconst (n := 82) F 0 dX2_F_81 (by decide) rfl ?_
  refine z_getsS0 (n := 85) F q197 dX2_F_82 rfl ?_
  refine z_iload (n := 87) F 1 dX2_F_85 rfl rfl ?_
  refine z_bipush (n := 89) F 24 dX2_F_87 (by decide) rfl ?_
  refine z_iushr (n := 90) F dX2_F_89 rfl ?_
  refine z_tS0 (n := 91) F (zS0 (zush (zL1 ((((F1 0) + (B 1)) <<< (16 &&& 31)) ||| (zush ((F1 1) ^^^ (B 2)) 16))) 24).toNatClampNeg) (zin_24 _) rfl dX2_F_90 rfl ?_
  refine z_getsS1 (n := 94) F q199 dX2_F_91 rfl ?_
  refine z_iload (n := 96) F 1 dX2_F_94 rfl rfl ?_
  refine z_bipush (n := 98) F 16 dX2_F_96 (by decide) rfl ?_
  refine z_iushr (n := 99) F dX2_F_98 rfl ?_
  refine z_sipush (n := 102) F 255 dX2_F_99 (by decide) rfl ?_
  refine z_iand (n := 103) F dX2_F_102 rfl ?_
  refine z_tS1 (n := 104) F (zS1 ((zush (zL1 ((((F1 0) + (B 1)) <<< (16 &&& 31)) ||| (zush ((F1 1) ^^^ (B 2)) 16))) 16) &&& 255).toNatClampNeg) (zin_255 _) rfl dX2_F_103 rfl ?_
  refine z_getsS0 (n := 107) F q197 dX2_F_104 rfl ?_
  refine z_iload (n := 109) F 1 dX2_F_107 rfl rfl ?_
  refine z_bipush (n := 111) F 8 dX2_F_109 (by decide) rfl ?_
  refine z_iushr (n := 112) F dX2_F_111 rfl ?_
  refine z_sipush (n := 115) F 255 dX2_F_112 (by decide) rfl ?_
  refine z_iand (n := 116) F dX2_F_115 rfl ?_
  refine z_tS0 (n := 117) F (zS0 ((zush (zL1 ((((F1 0) + (B 1)) <<< (16 &&& 31)) ||| (zush ((F1 1) ^^^ (B 2)) 16))) 8) &&& 255).toNatClampNeg) (zin_255 _) rfl dX2_F_116 rfl ?_
  refine z_getsS1 (n := 120) F q199 dX2_F_117 rfl ?_
  refine z_iload (n := 122) F 1 dX2_F_120 rfl rfl ?_
  refine z_sipush (n := 125) F 255 dX2_F_122 (by decide) rfl ?_
  refine z_iand (n := 126) F dX2_F_125 rfl ?_
  refine z_tS1 (n := 127) F (zS1 ((zL1 ((((F1 0) + (B 1)) <<< (16 &&& 31)) ||| (zush ((F1 1) ^^^ (B 2)) 16))) &&& 255).toNatClampNeg) (zin_255 _) rfl dX2_F_126 rfl ?_
  refine z_pick (ws2 := [] ++ [(a, zo 2 [u0, .ref fA, .ref bA, u3, u4, u5, u6]), (fA, zi G 2 F1), (bA, zi G 4 B)]) [0, 1, 2] rfl (by decide) ?_
  refine z_ci (n := 130) (cells2 := 0) (slots2 := 0) (wc := []) (wr := [(a, zo 2 [u0, .ref fA, .ref bA, u3, u4, u5, u6]), (fA, zi G 2 F1), (bA, zi G 4 B)]) F (z_rS F (metX2_MAKEU32 l G (zS0 (zush (zL1 ((((F1 0) + (B 1)) <<< (16 &&& 31)) ||| (zush ((F1 1) ^^^ (B 2)) 16))) 24).toNatClampNeg) (zS1 ((zush (zL1 ((((F1 0) + (B 1)) <<< (16 &&& 31)) ||| (zush ((F1 1) ^^^ (B 2)) 16))) 16) &&& 255).toNatClampNeg) (zS0 ((zush (zL1 ((((F1 0) + (B 1)) <<< (16 &&& 31)) ||| (zush ((F1 1) ^^^ (B 2)) 16))) 8) &&& 255).toNatClampNeg) (zS1 ((zL1 ((((F1 0) + (B 1)) <<< (16 &&& 31)) ||| (zush ((F1 1) ^^^ (B 2)) 16))) &&& 255).toNatClampNeg)) (va_cwS 4 F.hts (lw_S q201 q202 q11 q203) rfl rfl rfl (by decide +kernel) ⟨Nat.le_of_ble_eq_true rfl, Nat.le_of_ble_eq_true rfl⟩) rfl rfl (Nat.le_of_ble_eq_true rfl) dX2_F_127 ⟨Nat.le_of_ble_eq_true rfl, Nat.le_of_ble_eq_true rfl⟩) rfl rfl rfl (fun r3 w3 h3 => ?_)
  obtain ⟨rfl, rfl⟩ := h3
  refine z_w (ws2 := [(a, zo 2 [u0, .ref fA, .ref bA, u3, u4, u5, u6]), (fA, zi G 2 F1), (bA, zi G 4 B)]) rfl ?_
  refine z_iast (n := 131) (ws2 := [(a, zo 2 [u0, .ref fA, .ref bA, u3, u4, u5, u6]), (fA, zi G 2 (upd F1 0 (zMK32 (zS0 (zush (zL1 ((((F1 0) + (B 1)) <<< (16 &&& 31)) ||| (zush ((F1 1) ^^^ (B 2)) 16))) 24).toNatClampNeg) (zS1 ((zush (zL1 ((((F1 0) + (B 1)) <<< (16 &&& 31)) ||| (zush ((F1 1) ^^^ (B 2)) 16))) 16) &&& 255).toNatClampNeg) (zS0 ((zush (zL1 ((((F1 0) + (B 1)) <<< (16 &&& 31)) ||| (zush ((F1 1) ^^^ (B 2)) 16))) 8) &&& 255).toNatClampNeg) (zS1 ((zL1 ((((F1 0) + (B 1)) <<< (16 &&& 31)) ||| (zush ((F1 1) ^^^ (B 2)) 16))) &&& 255).toNatClampNeg)))), (bA, zi G 4 B)]) F 1 (upd F1 0 (zMK32 (zS0 (zush (zL1 ((((F1 0) + (B 1)) <<< (16 &&& 31)) ||| (zush ((F1 1) ^^^ (B 2)) 16))) 24).toNatClampNeg) (zS1 ((zush (zL1 ((((F1 0) + (B 1)) <<< (16 &&& 31)) ||| (zush ((F1 1) ^^^ (B 2)) 16))) 16) &&& 255).toNatClampNeg) (zS0 ((zush (zL1 ((((F1 0) + (B 1)) <<< (16 &&& 31)) ||| (zush ((F1 1) ^^^ (B 2)) 16))) 8) &&& 255).toNatClampNeg) (zS1 ((zL1 ((((F1 0) + (B 1)) <<< (16 &&& 31)) ||| (zush ((F1 1) ^^^ (B 2)) 16))) &&& 255).toNatClampNeg))) rfl zn2_0 rfl dX2_F_130 rfl rfl ?_
  refine z_aload_n (n := 132) F 5 dX2_F_131 rfl rfl rfl ?_
  refine z_get (n := 135) F 0 1 in_X3 rfl rfl (by decide) q272 rfl rfl dX2_F_132 rfl ?_
  refine z_iconst (n := 136) F 1 dX2_F_135 (by decide) rfl ?_
  refine z_getsS0 (n := 139) F q197 dX2_F_136 rfl ?_
  refine z_iload (n := 141) F 0 dX2_F_139 rfl rfl ?_
  refine z_bipush (n := 143) F 24 dX2_F_141 (by decide) rfl ?_
  refine z_iushr (n := 144) F dX2_F_143 rfl ?_
  refine z_tS0 (n := 145) F (zS0 (zush (zL2 ((((F1 1) ^^^ (B 2)) <<< (16 &&& 31)) ||| (zush ((F1 0) + (B 1)) 16))) 24).toNatClampNeg) (zin_24 _) rfl dX2_F_144 rfl ?_
  refine z_getsS1 (n := 148) F q199 dX2_F_145 rfl ?_
  refine z_iload (n := 150) F 0 dX2_F_148 rfl rfl ?_
  refine z_bipush (n := 152) F 16 dX2_F_150 (by decide) rfl ?_
  refine z_iushr (n := 153) F dX2_F_152 rfl ?_
  refine z_sipush (n := 156) F 255 dX2_F_153 (by decide) rfl ?_
  refine z_iand (n := 157) F dX2_F_156 rfl ?_
  refine z_tS1 (n := 158) F (zS1 ((zush (zL2 ((((F1 1) ^^^ (B 2)) <<< (16 &&& 31)) ||| (zush ((F1 0) + (B 1)) 16))) 16) &&& 255).toNatClampNeg) (zin_255 _) rfl dX2_F_157 rfl ?_
  refine z_getsS0 (n := 161) F q197 dX2_F_158 rfl ?_
  refine z_iload (n := 163) F 0 dX2_F_161 rfl rfl ?_
  refine z_bipush (n := 165) F 8 dX2_F_163 (by decide) rfl ?_
  refine z_iushr (n := 166) F dX2_F_165 rfl ?_
  refine z_sipush (n := 169) F 255 dX2_F_166 (by decide) rfl ?_
  refine z_iand (n := 170) F dX2_F_169 rfl ?_
  refine z_tS0 (n := 171) F (zS0 ((zush (zL2 ((((F1 1) ^^^ (B 2)) <<< (16 &&& 31)) ||| (zush ((F1 0) + (B 1)) 16))) 8) &&& 255).toNatClampNeg) (zin_255 _) rfl dX2_F_170 rfl ?_
  refine z_getsS1 (n := 174) F q199 dX2_F_171 rfl ?_
  refine z_iload (n := 176) F 0 dX2_F_174 rfl rfl ?_
  refine z_sipush (n := 179) F 255 dX2_F_176 (by decide) rfl ?_
  refine z_iand (n := 180) F dX2_F_179 rfl ?_
  refine z_tS1 (n := 181) F (zS1 ((zL2 ((((F1 1) ^^^ (B 2)) <<< (16 &&& 31)) ||| (zush ((F1 0) + (B 1)) 16))) &&& 255).toNatClampNeg) (zin_255 _) rfl dX2_F_180 rfl ?_
  refine z_pick (ws2 := [] ++ [(a, zo 2 [u0, .ref fA, .ref bA, u3, u4, u5, u6]), (fA, zi G 2 (upd F1 0 (zMK32 (zS0 (zush (zL1 ((((F1 0) + (B 1)) <<< (16 &&& 31)) ||| (zush ((F1 1) ^^^ (B 2)) 16))) 24).toNatClampNeg) (zS1 ((zush (zL1 ((((F1 0) + (B 1)) <<< (16 &&& 31)) ||| (zush ((F1 1) ^^^ (B 2)) 16))) 16) &&& 255).toNatClampNeg) (zS0 ((zush (zL1 ((((F1 0) + (B 1)) <<< (16 &&& 31)) ||| (zush ((F1 1) ^^^ (B 2)) 16))) 8) &&& 255).toNatClampNeg) (zS1 ((zL1 ((((F1 0) + (B 1)) <<< (16 &&& 31)) ||| (zush ((F1 1) ^^^ (B 2)) 16))) &&& 255).toNatClampNeg)))), (bA, zi G 4 B)]) [0, 1, 2] rfl (by decide) ?_
  refine z_ci (n := 184) (cells2 := 0) (slots2 := 0) (wc := []) (wr := [(a, zo 2 [u0, .ref fA, .ref bA, u3, u4, u5, u6]), (fA, zi G 2 (upd F1 0 (zMK32 (zS0 (zush (zL1 ((((F1 0) + (B 1)) <<< (16 &&& 31)) ||| (zush ((F1 1) ^^^ (B 2)) 16))) 24).toNatClampNeg) (zS1 ((zush (zL1 ((((F1 0) + (B 1)) <<< (16 &&& 31)) ||| (zush ((F1 1) ^^^ (B 2)) 16))) 16) &&& 255).toNatClampNeg) (zS0 ((zush (zL1 ((((F1 0) + (B 1)) <<< (16 &&& 31)) ||| (zush ((F1 1) ^^^ (B 2)) 16))) 8) &&& 255).toNatClampNeg) (zS1 ((zL1 ((((F1 0) + (B 1)) <<< (16 &&& 31)) ||| (zush ((F1 1) ^^^ (B 2)) 16))) &&& 255).toNatClampNeg)))), (bA, zi G 4 B)]) F (z_rS F (metX2_MAKEU32 l G (zS0 (zush (zL2 ((((F1 1) ^^^ (B 2)) <<< (16 &&& 31)) ||| (zush ((F1 0) + (B 1)) 16))) 24).toNatClampNeg) (zS1 ((zush (zL2 ((((F1 1) ^^^ (B 2)) <<< (16 &&& 31)) ||| (zush ((F1 0) + (B 1)) 16))) 16) &&& 255).toNatClampNeg) (zS0 ((zush (zL2 ((((F1 1) ^^^ (B 2)) <<< (16 &&& 31)) ||| (zush ((F1 0) + (B 1)) 16))) 8) &&& 255).toNatClampNeg) (zS1 ((zL2 ((((F1 1) ^^^ (B 2)) <<< (16 &&& 31)) ||| (zush ((F1 0) + (B 1)) 16))) &&& 255).toNatClampNeg)) (va_cwS 4 F.hts (lw_S q201 q202 q11 q203) rfl rfl rfl (by decide +kernel) ⟨Nat.le_of_ble_eq_true rfl, Nat.le_of_ble_eq_true rfl⟩) rfl rfl (Nat.le_of_ble_eq_true rfl) dX2_F_181 ⟨Nat.le_of_ble_eq_true rfl, Nat.le_of_ble_eq_true rfl⟩) rfl rfl rfl (fun r4 w4 h4 => ?_)
  obtain ⟨rfl, rfl⟩ := h4
  refine z_w (ws2 := [(a, zo 2 [u0, .ref fA, .ref bA, u3, u4, u5, u6]), (fA, zi G 2 (upd F1 0 (zMK32 (zS0 (zush (zL1 ((((F1 0) + (B 1)) <<< (16 &&& 31)) ||| (zush ((F1 1) ^^^ (B 2)) 16))) 24).toNatClampNeg) (zS1 ((zush (zL1 ((((F1 0) + (B 1)) <<< (16 &&& 31)) ||| (zush ((F1 1) ^^^ (B 2)) 16))) 16) &&& 255).toNatClampNeg) (zS0 ((zush (zL1 ((((F1 0) + (B 1)) <<< (16 &&& 31)) ||| (zush ((F1 1) ^^^ (B 2)) 16))) 8) &&& 255).toNatClampNeg) (zS1 ((zL1 ((((F1 0) + (B 1)) <<< (16 &&& 31)) ||| (zush ((F1 1) ^^^ (B 2)) 16))) &&& 255).toNatClampNeg)))), (bA, zi G 4 B)]) rfl ?_
  refine z_iast (n := 185) (ws2 := [(a, zo 2 [u0, .ref fA, .ref bA, u3, u4, u5, u6]), (fA, zi G 2 (upd (upd F1 0 (zMK32 (zS0 (zush (zL1 ((((F1 0) + (B 1)) <<< (16 &&& 31)) ||| (zush ((F1 1) ^^^ (B 2)) 16))) 24).toNatClampNeg) (zS1 ((zush (zL1 ((((F1 0) + (B 1)) <<< (16 &&& 31)) ||| (zush ((F1 1) ^^^ (B 2)) 16))) 16) &&& 255).toNatClampNeg) (zS0 ((zush (zL1 ((((F1 0) + (B 1)) <<< (16 &&& 31)) ||| (zush ((F1 1) ^^^ (B 2)) 16))) 8) &&& 255).toNatClampNeg) (zS1 ((zL1 ((((F1 0) + (B 1)) <<< (16 &&& 31)) ||| (zush ((F1 1) ^^^ (B 2)) 16))) &&& 255).toNatClampNeg))) 1 (zMK32 (zS0 (zush (zL2 ((((F1 1) ^^^ (B 2)) <<< (16 &&& 31)) ||| (zush ((F1 0) + (B 1)) 16))) 24).toNatClampNeg) (zS1 ((zush (zL2 ((((F1 1) ^^^ (B 2)) <<< (16 &&& 31)) ||| (zush ((F1 0) + (B 1)) 16))) 16) &&& 255).toNatClampNeg) (zS0 ((zush (zL2 ((((F1 1) ^^^ (B 2)) <<< (16 &&& 31)) ||| (zush ((F1 0) + (B 1)) 16))) 8) &&& 255).toNatClampNeg) (zS1 ((zL2 ((((F1 1) ^^^ (B 2)) <<< (16 &&& 31)) ||| (zush ((F1 0) + (B 1)) 16))) &&& 255).toNatClampNeg)))), (bA, zi G 4 B)]) F 1 (upd (upd F1 0 (zMK32 (zS0 (zush (zL1 ((((F1 0) + (B 1)) <<< (16 &&& 31)) ||| (zush ((F1 1) ^^^ (B 2)) 16))) 24).toNatClampNeg) (zS1 ((zush (zL1 ((((F1 0) + (B 1)) <<< (16 &&& 31)) ||| (zush ((F1 1) ^^^ (B 2)) 16))) 16) &&& 255).toNatClampNeg) (zS0 ((zush (zL1 ((((F1 0) + (B 1)) <<< (16 &&& 31)) ||| (zush ((F1 1) ^^^ (B 2)) 16))) 8) &&& 255).toNatClampNeg) (zS1 ((zL1 ((((F1 0) + (B 1)) <<< (16 &&& 31)) ||| (zush ((F1 1) ^^^ (B 2)) 16))) &&& 255).toNatClampNeg))) 1 (zMK32 (zS0 (zush (zL2 ((((F1 1) ^^^ (B 2)) <<< (16 &&& 31)) ||| (zush ((F1 0) + (B 1)) 16))) 24).toNatClampNeg) (zS1 ((zush (zL2 ((((F1 1) ^^^ (B 2)) <<< (16 &&& 31)) ||| (zush ((F1 0) + (B 1)) 16))) 16) &&& 255).toNatClampNeg) (zS0 ((zush (zL2 ((((F1 1) ^^^ (B 2)) <<< (16 &&& 31)) ||| (zush ((F1 0) + (B 1)) 16))) 8) &&& 255).toNatClampNeg) (zS1 ((zL2 ((((F1 1) ^^^ (B 2)) <<< (16 &&& 31)) ||| (zush ((F1 0) + (B 1)) 16))) &&& 255).toNatClampNeg))) rfl zn2_1 rfl dX2_F_184 rfl rfl ?_
  refine z_iload_n (n := 186) F 4 dX2_F_185 rfl rfl rfl ?_
  exact z_iret F rfl ⟨rfl, rfl⟩ (Nat.le_of_ble_eq_true rfl) (Nat.le_of_ble_eq_true rfl) dX2_F_186
set_option maxHeartbeats 4000000 in
theorem metX2_encode32be (l : Launch) (G : zG) (q : Nat) (K : zA) (v : Int32) : ZMv l G yX2_encode32be cX2_encode32be 3 (zrm 0 0 0) [.int v, .ref q, .int 0] [(q, zb G 4 K)] (fun w => w = [(q, zb G 4 (zEnc K v))]) := by
  refine z_enter "Zuc128CoreEngine" "encode32be" [(0, .int v), (1, .ref q), (2, .int 0)] (by decide) rfl rfl rfl (Nat.le_of_ble_eq_true rfl) ?_
  intro p e s m args below meth c F
  refine z_aload_n (n := 1) F 1 dX2_encode32be_0 rfl rfl rfl ?_
  refine z_iload_n (n := 2) F 2 dX2_encode32be_1 rfl rfl rfl ?_
  refine z_iload_n (n := 3) F 0 dX2_encode32be_2 rfl rfl rfl ?_
  refine z_bipush (n := 5) F 24 dX2_encode32be_3 (by decide) rfl ?_
  refine z_ishr (n := 6) F dX2_encode32be_5 rfl ?_
  refine z_i2b (n := 7) F dX2_encode32be_6 rfl ?_
  refine z_bast (n := 8) (ws2 := [(q, zb G 4 (upd K 0 (zb8 (v >>> (24 &&& 31)))))]) F 0 (upd K 0 (zb8 (v >>> (24 &&& 31)))) rfl zn4_0 (congrArg (upd K 0) (zb8_b _)) dX2_encode32be_7 rfl rfl ?_
  refine z_aload_n (n := 9) F 1 dX2_encode32be_8 rfl rfl rfl ?_
  refine z_iload_n (n := 10) F 2 dX2_encode32be_9 rfl rfl rfl ?_
  refine z_iconst (n := 11) F 1 dX2_encode32be_10 (by decide) rfl ?_
  refine z_iadd (n := 12) F dX2_encode32be_11 rfl ?_
  refine z_re (y := 1) (by decide) ?_
  refine z_iload_n (n := 13) F 0 dX2_encode32be_12 rfl rfl rfl ?_
  refine z_bipush (n := 15) F 16 dX2_encode32be_13 (by decide) rfl ?_
  refine z_ishr (n := 16) F dX2_encode32be_15 rfl ?_
  refine z_i2b (n := 17) F dX2_encode32be_16 rfl ?_
  refine z_bast (n := 18) (ws2 := [(q, zb G 4 (upd (upd K 0 (zb8 (v >>> (24 &&& 31)))) 1 (zb8 (v >>> (16 &&& 31)))))]) F 0 (upd (upd K 0 (zb8 (v >>> (24 &&& 31)))) 1 (zb8 (v >>> (16 &&& 31)))) rfl zn4_1 (congrArg (upd (upd K 0 (zb8 (v >>> (24 &&& 31)))) 1) (zb8_b _)) dX2_encode32be_17 rfl rfl ?_
  refine z_aload_n (n := 19) F 1 dX2_encode32be_18 rfl rfl rfl ?_
  refine z_iload_n (n := 20) F 2 dX2_encode32be_19 rfl rfl rfl ?_
  refine z_iconst (n := 21) F 2 dX2_encode32be_20 (by decide) rfl ?_
  refine z_iadd (n := 22) F dX2_encode32be_21 rfl ?_
  refine z_re (y := 2) (by decide) ?_
  refine z_iload_n (n := 23) F 0 dX2_encode32be_22 rfl rfl rfl ?_
  refine z_bipush (n := 25) F 8 dX2_encode32be_23 (by decide) rfl ?_
  refine z_ishr (n := 26) F dX2_encode32be_25 rfl ?_
  refine z_i2b (n := 27) F dX2_encode32be_26 rfl ?_
  refine z_bast (n := 28) (ws2 := [(q, zb G 4 (upd (upd (upd K 0 (zb8 (v >>> (24 &&& 31)))) 1 (zb8 (v >>> (16 &&& 31)))) 2 (zb8 (v >>> (8 &&& 31)))))]) F 0 (upd (upd (upd K 0 (zb8 (v >>> (24 &&& 31)))) 1 (zb8 (v >>> (16 &&& 31)))) 2 (zb8 (v >>> (8 &&& 31)))) rfl zn4_2 (congrArg (upd (upd (upd K 0 (zb8 (v >>> (24 &&& 31)))) 1 (zb8 (v >>> (16 &&& 31)))) 2) (zb8_b _)) dX2_encode32be_27 rfl rfl ?_
  refine z_aload_n (n := 29) F 1 dX2_encode32be_28 rfl rfl rfl ?_
  refine z_iload_n (n := 30) F 2 dX2_encode32be_29 rfl rfl rfl ?_
  refine z_iconst (n := 31) F 3 dX2_encode32be_30 (by decide) rfl ?_
  refine z_iadd (n := 32) F dX2_encode32be_31 rfl ?_
  refine z_re (y := 3) (by decide) ?_
  refine z_iload_n (n := 33) F 0 dX2_encode32be_32 rfl rfl rfl ?_
  refine z_i2b (n := 34) F dX2_encode32be_33 rfl ?_
  refine z_bast (n := 35) (ws2 := [(q, zb G 4 (upd (upd (upd (upd K 0 (zb8 (v >>> (24 &&& 31)))) 1 (zb8 (v >>> (16 &&& 31)))) 2 (zb8 (v >>> (8 &&& 31)))) 3 (zb8 v)))]) F 0 (upd (upd (upd (upd K 0 (zb8 (v >>> (24 &&& 31)))) 1 (zb8 (v >>> (16 &&& 31)))) 2 (zb8 (v >>> (8 &&& 31)))) 3 (zb8 v)) rfl zn4_3 (congrArg (upd (upd (upd (upd K 0 (zb8 (v >>> (24 &&& 31)))) 1 (zb8 (v >>> (16 &&& 31)))) 2 (zb8 (v >>> (8 &&& 31)))) 3) (zb8_b _)) dX2_encode32be_34 rfl rfl ?_
  exact z_vret F rfl (Nat.le_of_ble_eq_true rfl) (Nat.le_of_ble_eq_true rfl) dX2_encode32be_35
set_option maxHeartbeats 4000000 in
theorem metX2_setKeyAndIV_2 (l : Launch) (G : zG) (a lA kq iq : Nat) (u1 u2 u3 u4 u5 u6 : Value) (L k iv : zA) : ZMv l G yX2_setKeyAndIV_2 cX2_setKeyAndIV_2 4 (zrm 1 0 0) [.ref a, .ref lA, .ref kq, .ref iq] [(a, zo 2 [.ref lA, u1, u2, u3, u4, u5, u6]), (lA, zi G 16 L), (kq, zb G 16 k), (iq, zb G 16 iv)] (fun w => w = [(a, zo 2 [.ref lA, u1, u2, u3, u4, u5, u6]), (lA, zi G 16 (zLd k iv)), (kq, zb G 16 k), (iq, zb G 16 iv)]) := by
  refine z_enter "Zuc128CoreEngine" "setKeyAndIV" [(0, .ref a), (1, .ref lA), (2, .ref kq), (3, .ref iq)] (by decide) rfl rfl rfl (Nat.le_of_ble_eq_true rfl) ?_
  intro p e s m args below meth c F
  refine z_aload_n (n := 1) F 2 dX2_setKeyAndIV_2_0 rfl rfl rfl ?_
  refine z_ifnull (n := 4) F dX2_setKeyAndIV_2_1 rfl ?_
  refine z_aload_n (n := 5) F 2 dX2_setKeyAndIV_2_4 rfl rfl rfl ?_
  refine z_alenB (n := 6) F 2 16 rfl (by decide) dX2_setKeyAndIV_2_5 rfl ?_
  refine z_bipush (n := 8) F 16 dX2_setKeyAndIV_2_6 (by decide) rfl ?_
  refine z_icmp_eq_t (tgt := 21) F dX2_setKeyAndIV_2_8 (by decide) rfl ?_
  refine z_aload_n (n := 22) F 3 dX2_setKeyAndIV_2_21 rfl rfl rfl ?_
  refine z_ifnull (n := 25) F dX2_setKeyAndIV_2_22 rfl ?_
  refine z_aload_n (n := 26) F 3 dX2_setKeyAndIV_2_25 rfl rfl rfl ?_
  refine z_alenB (n := 27) F 3 16 rfl (by decide) dX2_setKeyAndIV_2_26 rfl ?_
  refine z_bipush (n := 29) F 16 dX2_setKeyAndIV_2_27 (by decide) rfl ?_
  refine z_icmp_eq_t (tgt := 42) F dX2_setKeyAndIV_2_29 (by decide) rfl ?_
  refine z_aload_n (n := 43) F 0 dX2_setKeyAndIV_2_42 rfl rfl rfl ?_
  refine z_get (n := 46) F 0 0 in_X3 rfl rfl (by decide) q271 rfl rfl dX2_setKeyAndIV_2_43 rfl ?_
  refine z_iconst (n := 47) F 0 dX2_setKeyAndIV_2_46 (by decide) rfl ?_
  refine z_aload_n (n := 48) F 2 dX2_setKeyAndIV_2_47 rfl rfl rfl ?_
  refine z_iconst (n := 49) F 0 dX2_setKeyAndIV_2_48 (by decide) rfl ?_
  refine z_bald (n := 50) F 2 (k 0) rfl zn16_0 rfl dX2_setKeyAndIV_2_49 rfl ?_
  refine z_getsEK (n := 53) F q423 dX2_setKeyAndIV_2_50 rfl ?_
  refine z_iconst (n := 54) F 0 dX2_setKeyAndIV_2_53 (by decide) rfl ?_
  refine z_tEK (n := 55) F (zEK 0) zn16_0 rfl dX2_setKeyAndIV_2_54 rfl ?_
  refine z_aload_n (n := 56) F 3 dX2_setKeyAndIV_2_55 rfl rfl rfl ?_
  refine z_iconst (n := 57) F 0 dX2_setKeyAndIV_2_56 (by decide) rfl ?_
  refine z_bald (n := 58) F 3 (iv 0) rfl zn16_0 rfl dX2_setKeyAndIV_2_57 rfl ?_
  refine z_pick (ws2 := [] ++ [(a, zo 2 [.ref lA, u1, u2, u3, u4, u5, u6]), (lA, zi G 16 L), (kq, zb G 16 k), (iq, zb G 16 iv)]) [0, 1, 2, 3] rfl (by decide) ?_
  refine z_ci (n := 61) (cells2 := 0) (slots2 := 0) (wc := []) (wr := [(a, zo 2 [.ref lA, u1, u2, u3, u4, u5, u6]), (lA, zi G 16 L), (kq, zb G 16 k), (iq, zb G 16 iv)]) F (z_rS F (metX2_MAKEU31 l G (k 0) (zEK 0) (iv 0)) (va_cwS 3 F.hts (lw_S q425 q426 q11 q427) rfl rfl rfl (by decide +kernel) ⟨Nat.le_of_ble_eq_true rfl, Nat.le_of_ble_eq_true rfl⟩) rfl rfl (Nat.le_of_ble_eq_true rfl) dX2_setKeyAndIV_2_58 ⟨Nat.le_of_ble_eq_true rfl, Nat.le_of_ble_eq_true rfl⟩) rfl rfl rfl (fun r1 w1 h1 => ?_)
  obtain ⟨rfl, rfl⟩ := h1
  refine z_w (ws2 := [(a, zo 2 [.ref lA, u1, u2, u3, u4, u5, u6]), (lA, zi G 16 L), (kq, zb G 16 k), (iq, zb G 16 iv)]) rfl ?_
  refine z_iast (n := 62) (ws2 := [(a, zo 2 [.ref lA, u1, u2, u3, u4, u5, u6]), (lA, zi G 16 (zLs L k iv 1)), (kq, zb G 16 k), (iq, zb G 16 iv)]) F 1 (zLs L k iv 1) rfl zn16_0 (zLs_up0 L k iv) dX2_setKeyAndIV_2_61 rfl rfl ?_
  refine z_aload_n (n := 63) F 0 dX2_setKeyAndIV_2_62 rfl rfl rfl ?_
  refine z_get (n := 66) F 0 0 in_X3 rfl rfl (by decide) q271 rfl rfl dX2_setKeyAndIV_2_63 rfl ?_
  refine z_iconst (n := 67) F 1 dX2_setKeyAndIV_2_66 (by decide) rfl ?_
  refine z_aload_n (n := 68) F 2 dX2_setKeyAndIV_2_67 rfl rfl rfl ?_
  refine z_iconst (n := 69) F 1 dX2_setKeyAndIV_2_68 (by decide) rfl ?_
  refine z_bald (n := 70) F 2 (k 1) rfl zn16_1 rfl dX2_setKeyAndIV_2_69 rfl ?_
  refine z_getsEK (n := 73) F q423 dX2_setKeyAndIV_2_70 rfl ?_
  refine z_iconst (n := 74) F 1 dX2_setKeyAndIV_2_73 (by decide) rfl ?_
  refine z_tEK (n := 75) F (zEK 1) zn16_1 rfl dX2_setKeyAndIV_2_74 rfl ?_
  refine z_aload_n (n := 76) F 3 dX2_setKeyAndIV_2_75 rfl rfl rfl ?_
  refine z_iconst (n := 77) F 1 dX2_setKeyAndIV_2_76 (by decide) rfl ?_
  refine z_bald (n := 78) F 3 (iv 1) rfl zn16_1 rfl dX2_setKeyAndIV_2_77 rfl ?_
  refine z_pick (ws2 := [] ++ [(a, zo 2 [.ref lA, u1, u2, u3, u4, u5, u6]), (lA, zi G 16 (zLs L k iv 1)), (kq, zb G 16 k), (iq, zb G 16 iv)]) [0, 1, 2, 3] rfl (by decide) ?_
  refine z_ci (n := 81) (cells2 := 0) (slots2 := 0) (wc := []) (wr := [(a, zo 2 [.ref lA, u1, u2, u3, u4, u5, u6]), (lA, zi G 16 (zLs L k iv 1)), (kq, zb G 16 k), (iq, zb G 16 iv)]) F (z_rS F (metX2_MAKEU31 l G (k 1) (zEK 1) (iv 1)) (va_cwS 3 F.hts (lw_S q425 q426 q11 q427) rfl rfl rfl (by decide +kernel) ⟨Nat.le_of_ble_eq_true rfl, Nat.le_of_ble_eq_true rfl⟩) rfl rfl (Nat.le_of_ble_eq_true rfl) dX2_setKeyAndIV_2_78 ⟨Nat.le_of_ble_eq_true rfl, Nat.le_of_ble_eq_true rfl⟩) rfl rfl rfl (fun r2 w2 h2 => ?_)
  obtain ⟨rfl, rfl⟩ := h2
  refine z_w (ws2 := [(a, zo 2 [.ref lA, u1, u2, u3, u4, u5, u6]), (lA, zi G 16 (zLs L k iv 1)), (kq, zb G 16 k), (iq, zb G 16 iv)]) rfl ?_
  refine z_iast (n := 82) (ws2 := [(a, zo 2 [.ref lA, u1, u2, u3, u4, u5, u6]), (lA, zi G 16 (zLs L k iv 2)), (kq, zb G 16 k), (iq, zb G 16 iv)]) F 1 (zLs L k iv 2) rfl zn16_1 (zLs_up L k iv 1) dX2_setKeyAndIV_2_81 rfl rfl ?_
  refine z_aload_n (n := 83) F 0 dX2_setKeyAndIV_2_82 rfl rfl rfl ?_
  refine z_get (n := 86) F 0 0 in_X3 rfl rfl (by decide) q271 rfl rfl dX2_setKeyAndIV_2_83 rfl ?_
  refine z_iconst (n := 87) F 2 dX2_setKeyAndIV_2_86 (by decide) rfl ?_
  refine z_aload_n (n := 88) F 2 dX2_setKeyAndIV_2_87 rfl rfl rfl ?_
  refine z_iconst (n := 89) F 2 dX2_setKeyAndIV_2_88 (by decide) rfl ?_
  refine z_bald (n := 90) F 2 (k 2) rfl zn16_2 rfl dX2_setKeyAndIV_2_89 rfl ?_
  refine z_getsEK (n := 93) F q423 dX2_setKeyAndIV_2_90 rfl ?_
  refine z_iconst (n := 94) F 2 dX2_setKeyAndIV_2_93 (by decide) rfl ?_
  refine z_tEK (n := 95) F (zEK 2) zn16_2 rfl dX2_setKeyAndIV_2_94 rfl ?_
  refine z_aload_n (n := 96) F 3 dX2_setKeyAndIV_2_95 rfl rfl rfl ?_
  refine z_iconst (n := 97) F 2 dX2_setKeyAndIV_2_96 (by decide) rfl ?_
  refine z_bald (n := 98) F 3 (iv 2) rfl zn16_2 rfl dX2_setKeyAndIV_2_97 rfl ?_
  refine z_pick (ws2 := [] ++ [(a, zo 2 [.ref lA, u1, u2, u3, u4, u5, u6]), (lA, zi G 16 (zLs L k iv 2)), (kq, zb G 16 k), (iq, zb G 16 iv)]) [0, 1, 2, 3] rfl (by decide) ?_
  refine z_ci (n := 101) (cells2 := 0) (slots2 := 0) (wc := []) (wr := [(a, zo 2 [.ref lA, u1, u2, u3, u4, u5, u6]), (lA, zi G 16 (zLs L k iv 2)), (kq, zb G 16 k), (iq, zb G 16 iv)]) F (z_rS F (metX2_MAKEU31 l G (k 2) (zEK 2) (iv 2)) (va_cwS 3 F.hts (lw_S q425 q426 q11 q427) rfl rfl rfl (by decide +kernel) ⟨Nat.le_of_ble_eq_true rfl, Nat.le_of_ble_eq_true rfl⟩) rfl rfl (Nat.le_of_ble_eq_true rfl) dX2_setKeyAndIV_2_98 ⟨Nat.le_of_ble_eq_true rfl, Nat.le_of_ble_eq_true rfl⟩) rfl rfl rfl (fun r3 w3 h3 => ?_)
  obtain ⟨rfl, rfl⟩ := h3
  refine z_w (ws2 := [(a, zo 2 [.ref lA, u1, u2, u3, u4, u5, u6]), (lA, zi G 16 (zLs L k iv 2)), (kq, zb G 16 k), (iq, zb G 16 iv)]) rfl ?_
  refine z_iast (n := 102) (ws2 := [(a, zo 2 [.ref lA, u1, u2, u3, u4, u5, u6]), (lA, zi G 16 (zLs L k iv 3)), (kq, zb G 16 k), (iq, zb G 16 iv)]) F 1 (zLs L k iv 3) rfl zn16_2 (zLs_up L k iv 2) dX2_setKeyAndIV_2_101 rfl rfl ?_
  refine z_aload_n (n := 103) F 0 dX2_setKeyAndIV_2_102 rfl rfl rfl ?_
  refine z_get (n := 106) F 0 0 in_X3 rfl rfl (by decide) q271 rfl rfl dX2_setKeyAndIV_2_103 rfl ?_
  refine z_iconst (n := 107) F 3 dX2_setKeyAndIV_2_106 (by decide) rfl ?_
  refine z_aload_n (n := 108) F 2 dX2_setKeyAndIV_2_107 rfl rfl rfl ?_
  refine z_iconst (n := 109) F 3 dX2_setKeyAndIV_2_108 (by decide) rfl ?_
  refine z_bald (n := 110) F 2 (k 3) rfl zn16_3 rfl dX2_setKeyAndIV_2_109 rfl ?_
  refine z_getsEK (n := 113) F q423 dX2_setKeyAndIV_2_110 rfl ?_
  refine z_iconst (n := 114) F 3 dX2_setKeyAndIV_2_113 (by decide) rfl ?_
  refine z_tEK (n := 115) F (zEK 3) zn16_3 rfl dX2_setKeyAndIV_2_114 rfl ?_
  refine z_aload_n (n := 116) F 3 dX2_setKeyAndIV_2_115 rfl rfl rfl ?_
  refine z_iconst (n := 117) F 3 dX2_setKeyAndIV_2_116 (by decide) rfl ?_
  refine z_bald (n := 118) F 3 (iv 3) rfl zn16_3 rfl dX2_setKeyAndIV_2_117 rfl ?_
  refine z_pick (ws2 := [] ++ [(a, zo 2 [.ref lA, u1, u2, u3, u4, u5, u6]), (lA, zi G 16 (zLs L k iv 3)), (kq, zb G 16 k), (iq, zb G 16 iv)]) [0, 1, 2, 3] rfl (by decide) ?_
  refine z_ci (n := 121) (cells2 := 0) (slots2 := 0) (wc := []) (wr := [(a, zo 2 [.ref lA, u1, u2, u3, u4, u5, u6]), (lA, zi G 16 (zLs L k iv 3)), (kq, zb G 16 k), (iq, zb G 16 iv)]) F (z_rS F (metX2_MAKEU31 l G (k 3) (zEK 3) (iv 3)) (va_cwS 3 F.hts (lw_S q425 q426 q11 q427) rfl rfl rfl (by decide +kernel) ⟨Nat.le_of_ble_eq_true rfl, Nat.le_of_ble_eq_true rfl⟩) rfl rfl (Nat.le_of_ble_eq_true rfl) dX2_setKeyAndIV_2_118 ⟨Nat.le_of_ble_eq_true rfl, Nat.le_of_ble_eq_true rfl⟩) rfl rfl rfl (fun r4 w4 h4 => ?_)
  obtain ⟨rfl, rfl⟩ := h4
  refine z_w (ws2 := [(a, zo 2 [.ref lA, u1, u2, u3, u4, u5, u6]), (lA, zi G 16 (zLs L k iv 3)), (kq, zb G 16 k), (iq, zb G 16 iv)]) rfl ?_
  refine z_iast (n := 122) (ws2 := [(a, zo 2 [.ref lA, u1, u2, u3, u4, u5, u6]), (lA, zi G 16 (zLs L k iv 4)), (kq, zb G 16 k), (iq, zb G 16 iv)]) F 1 (zLs L k iv 4) rfl zn16_3 (zLs_up L k iv 3) dX2_setKeyAndIV_2_121 rfl rfl ?_
  refine z_aload_n (n := 123) F 0 dX2_setKeyAndIV_2_122 rfl rfl rfl ?_
  refine z_get (n := 126) F 0 0 in_X3 rfl rfl (by decide) q271 rfl rfl dX2_setKeyAndIV_2_123 rfl ?_
  refine z_iconst (n := 127) F 4 dX2_setKeyAndIV_2_126 (by decide) rfl ?_
  refine z_aload_n (n := 128) F 2 dX2_setKeyAndIV_2_127 rfl rfl rfl ?_
  refine z_iconst (n := 129) F 4 dX2_setKeyAndIV_2_128 (by decide) rfl ?_
  refine z_bald (n := 130) F 2 (k 4) rfl zn16_4 rfl dX2_setKeyAndIV_2_129 rfl ?_
  refine z_getsEK (n := 133) F q423 dX2_setKeyAndIV_2_130 rfl ?_
  refine z_iconst (n := 134) F 4 dX2_setKeyAndIV_2_133 (by decide) rfl ?_
  refine z_tEK (n := 135) F (zEK 4) zn16_4 rfl dX2_setKeyAndIV_2_134 rfl ?_
  refine z_aload_n (n := 136) F 3 dX2_setKeyAndIV_2_135 rfl rfl rfl ?_
  refine z_iconst (n := 137) F 4 dX2_setKeyAndIV_2_136 (by decide) rfl ?_
  refine z_bald (n := 138) F 3 (iv 4) rfl zn16_4 rfl dX2_setKeyAndIV_2_137 rfl ?_
  refine z_pick (ws2 := [] ++ [(a, zo 2 [.ref lA, u1, u2, u3, u4, u5, u6]), (lA, zi G 16 (zLs L k iv 4)), (kq, zb G 16 k), (iq, zb G 16 iv)]) [0, 1, 2, 3] rfl (by decide) ?_
  refine z_ci (n := 141) (cells2 := 0) (slots2 := 0) (wc := []) (wr := [(a, zo 2 [.ref lA, u1, u2, u3, u4, u5, u6]), (lA, zi G 16 (zLs L k iv 4)), (kq, zb G 16 k), (iq, zb G 16 iv)]) F (z_rS F (metX2_MAKEU31 l G (k 4) (zEK 4) (iv 4)) (va_cwS 3 F.hts (lw_S q425 q426 q11 q427) rfl rfl rfl (by decide +kernel) ⟨Nat.le_of_ble_eq_true rfl, Nat.le_of_ble_eq_true rfl⟩) rfl rfl (Nat.le_of_ble_eq_true rfl) dX2_setKeyAndIV_2_138 ⟨Nat.le_of_ble_eq_true rfl, Nat.le_of_ble_eq_true rfl⟩) rfl rfl rfl (fun r5 w5 h5 => ?_)
  obtain ⟨rfl, rfl⟩ := h5
  refine z_w (ws2 := [(a, zo 2 [.ref lA, u1, u2, u3, u4, u5, u6]), (lA, zi G 16 (zLs L k iv 4)), (kq, zb G 16 k), (iq, zb G 16 iv)]) rfl ?_
  refine z_iast (n := 142) (ws2 := [(a, zo 2 [.ref lA, u1, u2, u3, u4, u5, u6]), (lA, zi G 16 (zLs L k iv 5)), (kq, zb G 16 k), (iq, zb G 16 iv)]) F 1 (zLs L k iv 5) rfl zn16_4 (zLs_up L k iv 4) dX2_setKeyAndIV_2_141 rfl rfl ?_
  refine z_aload_n (n := 143) F 0 dX2_setKeyAndIV_2_142 rfl rfl rfl ?_
  refine z_get (n := 146) F 0 0 in_X3 rfl rfl (by decide) q271 rfl rfl dX2_setKeyAndIV_2_143 rfl ?_
  refine z_iconst (n := 147) F 5 dX2_setKeyAndIV_2_146 (by decide) rfl ?_
  refine z_aload_n (n := 148) F 2 dX2_setKeyAndIV_2_147 rfl rfl rfl ?_
  refine z_iconst (n := 149) F 5 dX2_setKeyAndIV_2_148 (by decide) rfl ?_
  refine z_bald (n := 150) F 2 (k 5) rfl zn16_5 rfl dX2_setKeyAndIV_2_149 rfl ?_
  refine z_getsEK (n := 153) F q423 dX2_setKeyAndIV_2_150 rfl ?_
  refine z_iconst (n := 154) F 5 dX2_setKeyAndIV_2_153 (by decide) rfl ?_
  refine z_tEK (n := 155) F (zEK 5) zn16_5 rfl dX2_setKeyAndIV_2_154 rfl ?_
  refine z_aload_n (n := 156) F 3 dX2_setKeyAndIV_2_155 rfl rfl rfl ?_
  refine z_iconst (n := 157) F 5 dX2_setKeyAndIV_2_156 (by decide) rfl ?_
  refine z_bald (n := 158) F 3 (iv 5) rfl zn16_5 rfl dX2_setKeyAndIV_2_157 rfl ?_
  refine z_pick (ws2 := [] ++ [(a, zo 2 [.ref lA, u1, u2, u3, u4, u5, u6]), (lA, zi G 16 (zLs L k iv 5)), (kq, zb G 16 k), (iq, zb G 16 iv)]) [0, 1, 2, 3] rfl (by decide) ?_
  refine z_ci (n := 161) (cells2 := 0) (slots2 := 0) (wc := []) (wr := [(a, zo 2 [.ref lA, u1, u2, u3, u4, u5, u6]), (lA, zi G 16 (zLs L k iv 5)), (kq, zb G 16 k), (iq, zb G 16 iv)]) F (z_rS F (metX2_MAKEU31 l G (k 5) (zEK 5) (iv 5)) (va_cwS 3 F.hts (lw_S q425 q426 q11 q427) rfl rfl rfl (by decide +kernel) ⟨Nat.le_of_ble_eq_true rfl, Nat.le_of_ble_eq_true rfl⟩) rfl rfl (Nat.le_of_ble_eq_true rfl) dX2_setKeyAndIV_2_158 ⟨Nat.le_of_ble_eq_true rfl, Nat.le_of_ble_eq_true rfl⟩) rfl rfl rfl (fun r6 w6 h6 => ?_)
  obtain ⟨rfl, rfl⟩ := h6
  refine z_w (ws2 := [(a, zo 2 [.ref lA, u1, u2, u3, u4, u5, u6]), (lA, zi G 16 (zLs L k iv 5)), (kq, zb G 16 k), (iq, zb G 16 iv)]) rfl ?_
  refine z_iast (n := 162) (ws2 := [(a, zo 2 [.ref lA, u1, u2, u3, u4, u5, u6]), (lA, zi G 16 (zLs L k iv 6)), (kq, zb G 16 k), (iq, zb G 16 iv)]) F 1 (zLs L k iv 6) rfl zn16_5 (zLs_up L k iv 5) dX2_setKeyAndIV_2_161 rfl rfl ?_
  refine z_aload_n (n := 163) F 0 dX2_setKeyAndIV_2_162 rfl rfl rfl ?_
  refine z_get (n := 166) F 0 0 in_X3 rfl rfl (by decide) q271 rfl rfl dX2_setKeyAndIV_2_163 rfl ?_
  refine z_bipush (n := 168) F 6 dX2_setKeyAndIV_2_166 (by decide) rfl ?_
  refine z_aload_n (n := 169) F 2 dX2_setKeyAndIV_2_168 rfl rfl rfl ?_
  refine z_bipush (n := 171) F 6 dX2_setKeyAndIV_2_169 (by decide) rfl ?_
  refine z_bald (n := 172) F 2 (k 6) rfl zn16_6 rfl dX2_setKeyAndIV_2_171 rfl ?_
  refine z_getsEK (n := 175) F q423 dX2_setKeyAndIV_2_172 rfl ?_
  refine z_bipush (n := 177) F 6 dX2_setKeyAndIV_2_175 (by decide) rfl ?_
  refine z_tEK (n := 178) F (zEK 6) zn16_6 rfl dX2_setKeyAndIV_2_177 rfl ?_
  refine z_aload_n (n := 179) F 3 dX2_setKeyAndIV_2_178 rfl rfl rfl ?_
  refine z_bipush (n := 181) F 6 dX2_setKeyAndIV_2_179 (by decide) rfl ?_
  refine z_bald (n := 182) F 3 (iv 6) rfl zn16_6 rfl dX2_setKeyAndIV_2_181 rfl ?_
  refine z_pick (ws2 := [] ++ [(a, zo 2 [.ref lA, u1, u2, u3, u4, u5, u6]), (lA, zi G 16 (zLs L k iv 6)), (kq, zb G 16 k), (iq, zb G 16 iv)]) [0, 1, 2, 3] rfl (by decide) ?_
  refine z_ci (n := 185) (cells2 := 0) (slots2 := 0) (wc := []) (wr := [(a, zo 2 [.ref lA, u1, u2, u3, u4, u5, u6]), (lA, zi G 16 (zLs L k iv 6)), (kq, zb G 16 k), (iq, zb G 16 iv)]) F (z_rS F (metX2_MAKEU31 l G (k 6) (zEK 6) (iv 6)) (va_cwS 3 F.hts (lw_S q425 q426 q11 q427) rfl rfl rfl (by decide +kernel) ⟨Nat.le_of_ble_eq_true rfl, Nat.le_of_ble_eq_true rfl⟩) rfl rfl (Nat.le_of_ble_eq_true rfl) dX2_setKeyAndIV_2_182 ⟨Nat.le_of_ble_eq_true rfl, Nat.le_of_ble_eq_true rfl⟩) rfl rfl rfl (fun r7 w7 h7 => ?_)
  obtain ⟨rfl, rfl⟩ := h7
  refine z_w (ws2 := [(a, zo 2 [.ref lA, u1, u2, u3, u4, u5, u6]), (lA, zi G 16 (zLs L k iv 6)), (kq, zb G 16 k), (iq, zb G 16 iv)]) rfl ?_
  refine z_iast (n := 186) (ws2 := [(a, zo 2 [.ref lA, u1, u2, u3, u4, u5, u6]), (lA, zi G 16 (zLs L k iv 7)), (kq, zb G 16 k), (iq, zb G 16 iv)]) F 1 (zLs L k iv 7) rfl zn16_6 (zLs_up L k iv 6) dX2_setKeyAndIV_2_185 rfl rfl ?_
  refine z_aload_n (n := 187) F 0 dX2_setKeyAndIV_2_186 rfl rfl rfl ?_
  refine z_get (n := 190) F 0 0 in_X3 rfl rfl (by decide) q271 rfl rfl dX2_setKeyAndIV_2_187 rfl ?_
  refine z_bipush (n := 192) F 7 dX2_setKeyAndIV_2_190 (by decide) rfl ?_
  refine z_aload_n (n := 193) F 2 dX2_setKeyAndIV_2_192 rfl rfl rfl ?_
  refine z_bipush (n := 195) F 7 dX2_setKeyAndIV_2_193 (by decide) rfl ?_
  refine z_bald (n := 196) F 2 (k 7) rfl zn16_7 rfl dX2_setKeyAndIV_2_195 rfl ?_
  refine z_getsEK (n := 199) F q423 dX2_setKeyAndIV_2_196 rfl ?_
  refine z_bipush (n := 201) F 7 dX2_setKeyAndIV_2_199 (by decide) rfl ?_
  refine z_tEK (n := 202) F (zEK 7) zn16_7 rfl dX2_setKeyAndIV_2_201 rfl ?_
  refine z_aload_n (n := 203) F 3 dX2_setKeyAndIV_2_202 rfl rfl rfl ?_
  refine z_bipush (n := 205) F 7 dX2_setKeyAndIV_2_203 (by decide) rfl ?_
  refine z_bald (n := 206) F 3 (iv 7) rfl zn16_7 rfl dX2_setKeyAndIV_2_205 rfl ?_
  refine z_pick (ws2 := [] ++ [(a, zo 2 [.ref lA, u1, u2, u3, u4, u5, u6]), (lA, zi G 16 (zLs L k iv 7)), (kq, zb G 16 k), (iq, zb G 16 iv)]) [0, 1, 2, 3] rfl (by decide) ?_
  refine z_ci (n := 209) (cells2 := 0) (slots2 := 0) (wc := []) (wr := [(a, zo 2 [.ref lA, u1, u2, u3, u4, u5, u6]), (lA, zi G 16 (zLs L k iv 7)), (kq, zb G 16 k), (iq, zb G 16 iv)]) F (z_rS F (metX2_MAKEU31 l G (k 7) (zEK 7) (iv 7)) (va_cwS 3 F.hts (lw_S q425 q426 q11 q427) rfl rfl rfl (by decide +kernel) ⟨Nat.le_of_ble_eq_true rfl, Nat.le_of_ble_eq_true rfl⟩) rfl rfl (Nat.le_of_ble_eq_true rfl) dX2_setKeyAndIV_2_206 ⟨Nat.le_of_ble_eq_true rfl, Nat.le_of_ble_eq_true rfl⟩) rfl rfl rfl (fun r8 w8 h8 => ?_)
  obtain ⟨rfl, rfl⟩ := h8
  refine z_w (ws2 := [(a, zo 2 [.ref lA, u1, u2, u3, u4, u5, u6]), (lA, zi G 16 (zLs L k iv 7)), (kq, zb G 16 k), (iq, zb G 16 iv)]) rfl ?_
  refine z_iast (n := 210) (ws2 := [(a, zo 2 [.ref lA, u1, u2, u3, u4, u5, u6]), (lA, zi G 16 (zLs L k iv 8)), (kq, zb G 16 k), (iq, zb G 16 iv)]) F 1 (zLs L k iv 8) rfl zn16_7 (zLs_up L k iv 7) dX2_setKeyAndIV_2_209 rfl rfl ?_
  refine z_aload_n (n := 211) F 0 dX2_setKeyAndIV_2_210 rfl rfl rfl ?_
  refine z_get (n := 214) F 0 0 in_X3 rfl rfl (by decide) q271 rfl rfl dX2_setKeyAndIV_2_211 rfl ?_
  refine z_bipush (n := 216) F 8 dX2_setKeyAndIV_2_214 (by decide) rfl ?_
  refine z_aload_n (n := 217) F 2 dX2_setKeyAndIV_2_216 rfl rfl rfl ?_
  refine z_bipush (n := 219) F 8 dX2_setKeyAndIV_2_217 (by decide) rfl ?_
  refine z_bald (n := 220) F 2 (k 8) rfl zn16_8 rfl dX2_setKeyAndIV_2_219 rfl ?_
  refine z_getsEK (n := 223) F q423 dX2_setKeyAndIV_2_220 rfl ?_
  refine z_bipush (n := 225) F 8 dX2_setKeyAndIV_2_223 (by decide) rfl ?_
  refine z_tEK (n := 226) F (zEK 8) zn16_8 rfl dX2_setKeyAndIV_2_225 rfl ?_
  refine z_aload_n (n := 227) F 3 dX2_setKeyAndIV_2_226 rfl rfl rfl ?_
  refine z_bipush (n := 229) F 8 dX2_setKeyAndIV_2_227 (by decide) rfl ?_
  refine z_bald (n := 230) F 3 (iv 8) rfl zn16_8 rfl dX2_setKeyAndIV_2_229 rfl ?_
  refine z_pick (ws2 := [] ++ [(a, zo 2 [.ref lA, u1, u2, u3, u4, u5, u6]), (lA, zi G 16 (zLs L k iv 8)), (kq, zb G 16 k), (iq, zb G 16 iv)]) [0, 1, 2, 3] rfl (by decide) ?_
  refine z_ci (n := 233) (cells2 := 0) (slots2 := 0) (wc := []) (wr := [(a, zo 2 [.ref lA, u1, u2, u3, u4, u5, u6]), (lA, zi G 16 (zLs L k iv 8)), (kq, zb G 16 k), (iq, zb G 16 iv)]) F (z_rS F (metX2_MAKEU31 l G (k 8) (zEK 8) (iv 8)) (va_cwS 3 F.hts (lw_S q425 q426 q11 q427) rfl rfl rfl (by decide +kernel) ⟨Nat.le_of_ble_eq_true rfl, Nat.le_of_ble_eq_true rfl⟩) rfl rfl (Nat.le_of_ble_eq_true rfl) dX2_setKeyAndIV_2_230 ⟨Nat.le_of_ble_eq_true rfl, Nat.le_of_ble_eq_true rfl⟩) rfl rfl rfl (fun r9 w9 h9 => ?_)
  obtain ⟨rfl, rfl⟩ := h9
  refine z_w (ws2 := [(a, zo 2 [.ref lA, u1, u2, u3, u4, u5, u6]), (lA, zi G 16 (zLs L k iv 8)), (kq, zb G 16 k), (iq, zb G 16 iv)]) rfl ?_
  refine z_iast (n := 234) (ws2 := [(a, zo 2 [.ref lA, u1, u2, u3, u4, u5, u6]), (lA, zi G 16 (zLs L k iv 9)), (kq, zb G 16 k), (iq, zb G 16 iv)]) F 1 (zLs L k iv 9) rfl zn16_8 (zLs_up L k iv 8) dX2_setKeyAndIV_2_233 rfl rfl ?_
  refine z_aload_n (n := 235) F 0 dX2_setKeyAndIV_2_234 rfl rfl rfl ?_
  refine z_get (n := 238) F 0 0 in_X3 rfl rfl (by decide) q271 rfl rfl dX2_setKeyAndIV_2_235 rfl ?_
  refine z_bipush (n := 240) F 9 dX2_setKeyAndIV_2_238 (by decide) rfl ?_
  refine z_aload_n (n := 241) F 2 dX2_setKeyAndIV_2_240 rfl rfl rfl ?_
  refine z_bipush (n := 243) F 9 dX2_setKeyAndIV_2_241 (by decide) rfl ?_
  refine z_bald (n := 244) F 2 (k 9) rfl zn16_9 rfl dX2_setKeyAndIV_2_243 rfl ?_
  refine z_getsEK (n := 247) F q423 dX2_setKeyAndIV_2_244 rfl ?_
  refine z_bipush (n := 249) F 9 dX2_setKeyAndIV_2_247 (by decide) rfl ?_
  refine z_tEK (n := 250) F (zEK 9) zn16_9 rfl dX2_setKeyAndIV_2_249 rfl ?_
  refine z_aload_n (n := 251) F 3 dX2_setKeyAndIV_2_250 rfl rfl rfl ?_
  refine z_bipush (n := 253) F 9 dX2_setKeyAndIV_2_251 (by decide) rfl ?_
  refine z_bald (n := 254) F 3 (iv 9) rfl zn16_9 rfl dX2_setKeyAndIV_2_253 rfl ?_
  refine z_pick (ws2 := [] ++ [(a, zo 2 [.ref lA, u1, u2, u3, u4, u5, u6]), (lA, zi G 16 (zLs L k iv 9)), (kq, zb G 16 k), (iq, zb G 16 iv)]) [0, 1, 2, 3] rfl (by decide) ?_
  refine z_ci (n := 257) (cells2 := 0) (slots2 := 0) (wc := []) (wr := [(a, zo 2 [.ref lA, u1, u2, u3, u4, u5, u6]), (lA, zi G 16 (zLs L k iv 9)), (kq, zb G 16 k), (iq, zb G 16 iv)]) F (z_rS F (metX2_MAKEU31 l G (k 9) (zEK 9) (iv 9)) (va_cwS 3 F.hts (lw_S q425 q426 q11 q427) rfl rfl rfl (by decide +kernel) ⟨Nat.le_of_ble_eq_true rfl, Nat.le_of_ble_eq_true rfl⟩) rfl rfl (Nat.le_of_ble_eq_true rfl) dX2_setKeyAndIV_2_254 ⟨Nat.le_of_ble_eq_true rfl, Nat.le_of_ble_eq_true rfl⟩) rfl rfl rfl (fun r10 w10 h10 => ?_)
  obtain ⟨rfl, rfl⟩ := h10
  refine z_w (ws2 := [(a, zo 2 [.ref lA, u1, u2, u3, u4, u5, u6]), (lA, zi G 16 (zLs L k iv 9)), (kq, zb G 16 k), (iq, zb G 16 iv)]) rfl ?_
  refine z_iast (n := 258) (ws2 := [(a, zo 2 [.ref lA, u1, u2, u3, u4, u5, u6]), (lA, zi G 16 (zLs L k iv 10)), (kq, zb G 16 k), (iq, zb G 16 iv)]) F 1 (zLs L k iv 10) rfl zn16_9 (zLs_up L k iv 9) dX2_setKeyAndIV_2_257 rfl rfl ?_
  refine z_aload_n (n := 259) F 0 dX2_setKeyAndIV_2_258 rfl rfl rfl ?_
  refine z_get (n := 262) F 0 0 in_X3 rfl rfl (by decide) q271 rfl rfl dX2_setKeyAndIV_2_259 rfl ?_
  refine z_bipush (n := 264) F 10 dX2_setKeyAndIV_2_262 (by decide) rfl ?_
  refine z_aload_n (n := 265) F 2 dX2_setKeyAndIV_2_264 rfl rfl rfl ?_
  refine z_bipush (n := 267) F 10 dX2_setKeyAndIV_2_265 (by decide) rfl ?_
  refine z_bald (n := 268) F 2 (k 10) rfl zn16_10 rfl dX2_setKeyAndIV_2_267 rfl ?_
  refine z_getsEK (n := 271) F q423 dX2_setKeyAndIV_2_268 rfl ?_
  refine z_bipush (n := 273) F 10 dX2_setKeyAndIV_2_271 (by decide) rfl ?_
  refine z_tEK (n := 274) F (zEK 10) zn16_10 rfl dX2_setKeyAndIV_2_273 rfl ?_
  refine z_aload_n (n := 275) F 3 dX2_setKeyAndIV_2_274 rfl rfl rfl ?_
  refine z_bipush (n := 277) F 10 dX2_setKeyAndIV_2_275 (by decide) rfl ?_
  refine z_bald (n := 278) F 3 (iv 10) rfl zn16_10 rfl dX2_setKeyAndIV_2_277 rfl ?_
  refine z_pick (ws2 := [] ++ [(a, zo 2 [.ref lA, u1, u2, u3, u4, u5, u6]), (lA, zi G 16 (zLs L k iv 10)), (kq, zb G 16 k), (iq, zb G 16 iv)]) [0, 1, 2, 3] rfl (by decide) ?_
  refine z_ci (n := 281) (cells2 := 0) (slots2 := 0) (wc := []) (wr := [(a, zo 2 [.ref lA, u1, u2, u3, u4, u5, u6]), (lA, zi G 16 (zLs L k iv 10)), (kq, zb G 16 k), (iq, zb G 16 iv)]) F (z_rS F (metX2_MAKEU31 l G (k 10) (zEK 10) (iv 10)) (va_cwS 3 F.hts (lw_S q425 q426 q11 q427) rfl rfl rfl (by decide +kernel) ⟨Nat.le_of_ble_eq_true rfl, Nat.le_of_ble_eq_true rfl⟩) rfl rfl (Nat.le_of_ble_eq_true rfl) dX2_setKeyAndIV_2_278 ⟨Nat.le_of_ble_eq_true rfl, Nat.le_of_ble_eq_true rfl⟩) rfl rfl rfl (fun r11 w11 h11 => ?_)
  obtain ⟨rfl, rfl⟩ := h11
  refine z_w (ws2 := [(a, zo 2 [.ref lA, u1, u2, u3, u4, u5, u6]), (lA, zi G 16 (zLs L k iv 10)), (kq, zb G 16 k), (iq, zb G 16 iv)]) rfl ?_
  refine z_iast (n := 282) (ws2 := [(a, zo 2 [.ref lA, u1, u2, u3, u4, u5, u6]), (lA, zi G 16 (zLs L k iv 11)), (kq, zb G 16 k), (iq, zb G 16 iv)]) F 1 (zLs L k iv 11) rfl zn16_10 (zLs_up L k iv 10) dX2_setKeyAndIV_2_281 rfl rfl ?_
  refine z_aload_n (n := 283) F 0 dX2_setKeyAndIV_2_282 rfl rfl rfl ?_
  refine z_get (n := 286) F 0 0 in_X3 rfl rfl (by decide) q271 rfl rfl dX2_setKeyAndIV_2_283 rfl ?_
  refine z_bipush (n := 288) F 11 dX2_setKeyAndIV_2_286 (by decide) rfl ?_
  refine z_aload_n (n := 289) F 2 dX2_setKeyAndIV_2_288 rfl rfl rfl ?_
  refine z_bipush (n := 291) F 11 dX2_setKeyAndIV_2_289 (by decide) rfl ?_
  refine z_bald (n := 292) F 2 (k 11) rfl zn16_11 rfl dX2_setKeyAndIV_2_291 rfl ?_
  refine z_getsEK (n := 295) F q423 dX2_setKeyAndIV_2_292 rfl ?_
  refine z_bipush (n := 297) F 11 dX2_setKeyAndIV_2_295 (by decide) rfl ?_
  refine z_tEK (n := 298) F (zEK 11) zn16_11 rfl dX2_setKeyAndIV_2_297 rfl ?_
  refine z_aload_n (n := 299) F 3 dX2_setKeyAndIV_2_298 rfl rfl rfl ?_
  refine z_bipush (n := 301) F 11 dX2_setKeyAndIV_2_299 (by decide) rfl ?_
  refine z_bald (n := 302) F 3 (iv 11) rfl zn16_11 rfl dX2_setKeyAndIV_2_301 rfl ?_
  refine z_pick (ws2 := [] ++ [(a, zo 2 [.ref lA, u1, u2, u3, u4, u5, u6]), (lA, zi G 16 (zLs L k iv 11)), (kq, zb G 16 k), (iq, zb G 16 iv)]) [0, 1, 2, 3] rfl (by decide) ?_
  refine z_ci (n := 305) (cells2 := 0) (slots2 := 0) (wc := []) (wr := [(a, zo 2 [.ref lA, u1, u2, u3, u4, u5, u6]), (lA, zi G 16 (zLs L k iv 11)), (kq, zb G 16 k), (iq, zb G 16 iv)]) F (z_rS F (metX2_MAKEU31 l G (k 11) (zEK 11) (iv 11)) (va_cwS 3 F.hts (lw_S q425 q426 q11 q427) rfl rfl rfl (by decide +kernel) ⟨Nat.le_of_ble_eq_true rfl, Nat.le_of_ble_eq_true rfl⟩) rfl rfl (Nat.le_of_ble_eq_true rfl) dX2_setKeyAndIV_2_302 ⟨Nat.le_of_ble_eq_true rfl, Nat.le_of_ble_eq_true rfl⟩) rfl rfl rfl (fun r12 w12 h12 => ?_)
  obtain ⟨rfl, rfl⟩ := h12
  refine z_w (ws2 := [(a, zo 2 [.ref lA, u1, u2, u3, u4, u5, u6]), (lA, zi G 16 (zLs L k iv 11)), (kq, zb G 16 k), (iq, zb G 16 iv)]) rfl ?_
  refine z_iast (n := 306) (ws2 := [(a, zo 2 [.ref lA, u1, u2, u3, u4, u5, u6]), (lA, zi G 16 (zLs L k iv 12)), (kq, zb G 16 k), (iq, zb G 16 iv)]) F 1 (zLs L k iv 12) rfl zn16_11 (zLs_up L k iv 11) dX2_setKeyAndIV_2_305 rfl rfl ?_
  refine z_aload_n (n := 307) F 0 dX2_setKeyAndIV_2_306 rfl rfl rfl ?_
  refine z_get (n := 310) F 0 0 in_X3 rfl rfl (by decide) q271 rfl rfl dX2_setKeyAndIV_2_307 rfl ?_
  refine z_bipush (n := 312) F 12 dX2_setKeyAndIV_2_310 (by decide) rfl ?_
  refine z_aload_n (n := 313) F 2 dX2_setKeyAndIV_2_312 rfl rfl rfl ?_
  refine z_bipush (n := 315) F 12 dX2_setKeyAndIV_2_313 (by decide) rfl ?_
  refine z_bald (n := 316) F 2 (k 12) rfl zn16_12 rfl dX2_setKeyAndIV_2_315 rfl ?_
  refine z_getsEK (n := 319) F q423 dX2_setKeyAndIV_2_316 rfl ?_
  refine z_bipush (n := 321) F 12 dX2_setKeyAndIV_2_319 (by decide) rfl ?_
  refine z_tEK (n := 322) F (zEK 12) zn16_12 rfl dX2_setKeyAndIV_2_321 rfl ?_
  refine z_aload_n (n := 323) F 3 dX2_setKeyAndIV_2_322 rfl rfl rfl ?_
  refine z_bipush (n := 325) F 12 dX2_setKeyAndIV_2_323 (by decide) rfl ?_
  refine z_bald (n := 326) F 3 (iv 12) rfl zn16_12 rfl dX2_setKeyAndIV_2_325 rfl ?_
  refine z_pick (ws2 := [] ++ [(a, zo 2 [.ref lA, u1, u2, u3, u4, u5, u6]), (lA, zi G 16 (zLs L k iv 12)), (kq, zb G 16 k), (iq, zb G 16 iv)]) [0, 1, 2, 3] rfl (by decide) ?_
  refine z_ci (n := 329) (cells2 := 0) (slots2 := 0) (wc := []) (wr := [(a, zo 2 [.ref lA, u1, u2, u3, u4, u5, u6]), (lA, zi G 16 (zLs L k iv 12)), (kq, zb G 16 k), (iq, zb G 16 iv)]) F (z_rS F (metX2_MAKEU31 l G (k 12) (zEK 12) (iv 12)) (va_cwS 3 F.hts (lw_S q425 q426 q11 q427) rfl rfl rfl (by decide +kernel) ⟨Nat.le_of_ble_eq_true rfl, Nat.le_of_ble_eq_true rfl⟩) rfl rfl (Nat.le_of_ble_eq_true rfl) dX2_setKeyAndIV_2_326 ⟨Nat.le_of_ble_eq_true rfl, Nat.le_of_ble_eq_true rfl⟩) rfl rfl rfl (fun r13 w13 h13 => ?_)
  obtain ⟨rfl, rfl⟩ := h13
  refine z_w (ws2 := [(a, zo 2 [.ref lA, u1, u2, u3, u4, u5, u6]), (lA, zi G 16 (zLs L k iv 12)), (kq, zb G 16 k), (iq, zb G 16 iv)]) rfl ?_
  refine z_iast (n := 330) (ws2 := [(a, zo 2 [.ref lA, u1, u2, u3, u4, u5, u6]), (lA, zi G 16 (zLs L k iv 13)), (kq, zb G 16 k), (iq, zb G 16 iv)]) F 1 (zLs L k iv 13) rfl zn16_12 (zLs_up L k iv 12) dX2_setKeyAndIV_2_329 rfl rfl ?_
  refine z_aload_n (n := 331) F 0 dX2_setKeyAndIV_2_330 rfl rfl rfl ?_
  refine z_get (n := 334) F 0 0 in_X3 rfl rfl (by decide) q271 rfl rfl dX2_setKeyAndIV_2_331 rfl ?_
  refine z_bipush (n := 336) F 13 dX2_setKeyAndIV_2_334 (by decide) rfl ?_
  refine z_aload_n (n := 337) F 2 dX2_setKeyAndIV_2_336 rfl rfl rfl ?_
  refine z_bipush (n := 339) F 13 dX2_setKeyAndIV_2_337 (by decide) rfl ?_
  refine z_bald (n := 340) F 2 (k 13) rfl zn16_13 rfl dX2_setKeyAndIV_2_339 rfl ?_
  refine z_getsEK (n := 343) F q423 dX2_setKeyAndIV_2_340 rfl ?_
  refine z_bipush (n := 345) F 13 dX2_setKeyAndIV_2_343 (by decide) rfl ?_
  refine z_tEK (n := 346) F (zEK 13) zn16_13 rfl dX2_setKeyAndIV_2_345 rfl ?_
  refine z_aload_n (n := 347) F 3 dX2_setKeyAndIV_2_346 rfl rfl rfl ?_
  refine z_bipush (n := 349) F 13 dX2_setKeyAndIV_2_347 (by decide) rfl ?_
  refine z_bald (n := 350) F 3 (iv 13) rfl zn16_13 rfl dX2_setKeyAndIV_2_349 rfl ?_
  refine z_pick (ws2 := [] ++ [(a, zo 2 [.ref lA, u1, u2, u3, u4, u5, u6]), (lA, zi G 16 (zLs L k iv 13)), (kq, zb G 16 k), (iq, zb G 16 iv)]) [0, 1, 2, 3] rfl (by decide) ?_
  refine z_ci (n := 353) (cells2 := 0) (slots2 := 0) (wc := []) (wr := [(a, zo 2 [.ref lA, u1, u2, u3, u4, u5, u6]), (lA, zi G 16 (zLs L k iv 13)), (kq, zb G 16 k), (iq, zb G 16 iv)]) F (z_rS F (metX2_MAKEU31 l G (k 13) (zEK 13) (iv 13)) (va_cwS 3 F.hts (lw_S q425 q426 q11 q427) rfl rfl rfl (by decide +kernel) ⟨Nat.le_of_ble_eq_true rfl, Nat.le_of_ble_eq_true rfl⟩) rfl rfl (Nat.le_of_ble_eq_true rfl) dX2_setKeyAndIV_2_350 ⟨Nat.le_of_ble_eq_true rfl, Nat.le_of_ble_eq_true rfl⟩) rfl rfl rfl (fun r14 w14 h14 => ?_)
  obtain ⟨rfl, rfl⟩ := h14
  refine z_w (ws2 := [(a, zo 2 [.ref lA, u1, u2, u3, u4, u5, u6]), (lA, zi G 16 (zLs L k iv 13)), (kq, zb G 16 k), (iq, zb G 16 iv)]) rfl ?_
  refine z_iast (n := 354) (ws2 := [(a, zo 2 [.ref lA, u1, u2, u3, u4, u5, u6]), (lA, zi G 16 (zLs L k iv 14)), (kq, zb G 16 k), (iq, zb G 16 iv)]) F 1 (zLs L k iv 14) rfl zn16_13 (zLs_up L k iv 13) dX2_setKeyAndIV_2_353 rfl rfl ?_
  refine z_aload_n (n := 355) F 0 dX2_setKeyAndIV_2_354 rfl rfl rfl ?_
  refine z_get (n := 358) F 0 0 in_X3 rfl rfl (by decide) q271 rfl rfl dX2_setKeyAndIV_2_355 rfl ?_
  refine z_bipush (n := 360) F 14 dX2_setKeyAndIV_2_358 (by decide) rfl ?_
  refine z_aload_n (n := 361) F 2 dX2_setKeyAndIV_2_360 rfl rfl rfl ?_
  refine z_bipush (n := 363) F 14 dX2_setKeyAndIV_2_361 (by decide) rfl ?_
  refine z_bald (n := 364) F 2 (k 14) rfl zn16_14 rfl dX2_setKeyAndIV_2_363 rfl ?_
  refine z_getsEK (n := 367) F q423 dX2_setKeyAndIV_2_364 rfl ?_
  refine z_bipush (n := 369) F 14 dX2_setKeyAndIV_2_367 (by decide) rfl ?_
  refine z_tEK (n := 370) F (zEK 14) zn16_14 rfl dX2_setKeyAndIV_2_369 rfl ?_
  refine z_aload_n (n := 371) F 3 dX2_setKeyAndIV_2_370 rfl rfl rfl ?_
  refine z_bipush (n := 373) F 14 dX2_setKeyAndIV_2_371 (by decide) rfl ?_
  refine z_bald (n := 374) F 3 (iv 14) rfl zn16_14 rfl dX2_setKeyAndIV_2_373 rfl ?_
  refine z_pick (ws2 := [] ++ [(a, zo 2 [.ref lA, u1, u2, u3, u4, u5, u6]), (lA, zi G 16 (zLs L k iv 14)), (kq, zb G 16 k), (iq, zb G 16 iv)]) [0, 1, 2, 3] rfl (by decide) ?_
  refine z_ci (n := 377) (cells2 := 0) (slots2 := 0) (wc := []) (wr := [(a, zo 2 [.ref lA, u1, u2, u3, u4, u5, u6]), (lA, zi G 16 (zLs L k iv 14)), (kq, zb G 16 k), (iq, zb G 16 iv)]) F (z_rS F (metX2_MAKEU31 l G (k 14) (zEK 14) (iv 14)) (va_cwS 3 F.hts (lw_S q425 q426 q11 q427) rfl rfl rfl (by decide +kernel) ⟨Nat.le_of_ble_eq_true rfl, Nat.le_of_ble_eq_true rfl⟩) rfl rfl (Nat.le_of_ble_eq_true rfl) dX2_setKeyAndIV_2_374 ⟨Nat.le_of_ble_eq_true rfl, Nat.le_of_ble_eq_true rfl⟩) rfl rfl rfl (fun r15 w15 h15 => ?_)
  obtain ⟨rfl, rfl⟩ := h15
  refine z_w (ws2 := [(a, zo 2 [.ref lA, u1, u2, u3, u4, u5, u6]), (lA, zi G 16 (zLs L k iv 14)), (kq, zb G 16 k), (iq, zb G 16 iv)]) rfl ?_
  refine z_iast (n := 378) (ws2 := [(a, zo 2 [.ref lA, u1, u2, u3, u4, u5, u6]), (lA, zi G 16 (zLs L k iv 15)), (kq, zb G 16 k), (iq, zb G 16 iv)]) F 1 (zLs L k iv 15) rfl zn16_14 (zLs_up L k iv 14) dX2_setKeyAndIV_2_377 rfl rfl ?_
  refine z_aload_n (n := 379) F 0 dX2_setKeyAndIV_2_378 rfl rfl rfl ?_
  refine z_get (n := 382) F 0 0 in_X3 rfl rfl (by decide) q271 rfl rfl dX2_setKeyAndIV_2_379 rfl ?_
  refine z_bipush (n := 384) F 15 dX2_setKeyAndIV_2_382 (by decide) rfl ?_
  refine z_aload_n (n := 385) F 2 dX2_setKeyAndIV_2_384 rfl rfl rfl ?_
  refine z_bipush (n := 387) F 15 dX2_setKeyAndIV_2_385 (by decide) rfl ?_
  refine z_bald (n := 388) F 2 (k 15) rfl zn16_15 rfl dX2_setKeyAndIV_2_387 rfl ?_
  refine z_getsEK (n := 391) F q423 dX2_setKeyAndIV_2_388 rfl ?_
  refine z_bipush (n := 393) F 15 dX2_setKeyAndIV_2_391 (by decide) rfl ?_
  refine z_tEK (n := 394) F (zEK 15) zn16_15 rfl dX2_setKeyAndIV_2_393 rfl ?_
  refine z_aload_n (n := 395) F 3 dX2_setKeyAndIV_2_394 rfl rfl rfl ?_
  refine z_bipush (n := 397) F 15 dX2_setKeyAndIV_2_395 (by decide) rfl ?_
  refine z_bald (n := 398) F 3 (iv 15) rfl zn16_15 rfl dX2_setKeyAndIV_2_397 rfl ?_
  refine z_pick (ws2 := [] ++ [(a, zo 2 [.ref lA, u1, u2, u3, u4, u5, u6]), (lA, zi G 16 (zLs L k iv 15)), (kq, zb G 16 k), (iq, zb G 16 iv)]) [0, 1, 2, 3] rfl (by decide) ?_
  refine z_ci (n := 401) (cells2 := 0) (slots2 := 0) (wc := []) (wr := [(a, zo 2 [.ref lA, u1, u2, u3, u4, u5, u6]), (lA, zi G 16 (zLs L k iv 15)), (kq, zb G 16 k), (iq, zb G 16 iv)]) F (z_rS F (metX2_MAKEU31 l G (k 15) (zEK 15) (iv 15)) (va_cwS 3 F.hts (lw_S q425 q426 q11 q427) rfl rfl rfl (by decide +kernel) ⟨Nat.le_of_ble_eq_true rfl, Nat.le_of_ble_eq_true rfl⟩) rfl rfl (Nat.le_of_ble_eq_true rfl) dX2_setKeyAndIV_2_398 ⟨Nat.le_of_ble_eq_true rfl, Nat.le_of_ble_eq_true rfl⟩) rfl rfl rfl (fun r16 w16 h16 => ?_)
  obtain ⟨rfl, rfl⟩ := h16
  refine z_w (ws2 := [(a, zo 2 [.ref lA, u1, u2, u3, u4, u5, u6]), (lA, zi G 16 (zLs L k iv 15)), (kq, zb G 16 k), (iq, zb G 16 iv)]) rfl ?_
  refine z_iast (n := 402) (ws2 := [(a, zo 2 [.ref lA, u1, u2, u3, u4, u5, u6]), (lA, zi G 16 (zLs L k iv 16)), (kq, zb G 16 k), (iq, zb G 16 iv)]) F 1 (zLs L k iv 16) rfl zn16_15 (zLs_up L k iv 15) dX2_setKeyAndIV_2_401 rfl rfl ?_
  refine z_ext (ws2 := [(a, zo 2 [.ref lA, u1, u2, u3, u4, u5, u6]), (lA, zi G 16 (zLd k iv)), (kq, zb G 16 k), (iq, zb G 16 iv)]) 1 (zLd k iv) rfl (zLs_16 L k iv) rfl ?_
  exact z_vret F rfl (Nat.le_of_ble_eq_true rfl) (Nat.le_of_ble_eq_true rfl) dX2_setKeyAndIV_2_402
end
section
/-! ZUC: contracts of the engine's own methods (printed by gen/core3.py) -/
set_option maxRecDepth 100000
/-- a loop of N rounds: what holds at its end holds at its head -/
theorem zz_loop (K : va_W → List (Nat × Value) → Prop) (wf : Nat → va_W) (lf : Nat → List (Nat × Value)) (N : Nat) (hend : K (wf N) (lf N)) (hs : ∀ t : Nat, t < N → K (wf (t + 1)) (lf (t + 1)) → K (wf t) (lf t)) : K (wf 0) (lf 0) := by
  have h : ∀ k : Nat, k ≤ N → K (wf (N - k)) (lf (N - k)) := by
    intro k
    induction k with
    | zero => intro _; exact hend
    | succ k ih =>
      intro hk
      have h1 := ih (by omega)
      have e : N - k = (N - (k + 1)) + 1 := by omega
      rw [e] at h1
      exact hs _ (by omega) h1
  have h0 := h N (Nat.le_refl N)
  rwa [Nat.sub_self] at h0
theorem zF00 (F : zA) : ∀ j : Nat, j < 2 → upd (upd F 0 0) 1 0 j = z00 j := fun j hj => by rcases (show j = 0 ∨ j = 1 by omega) with rfl | rfl <;> rfl
theorem zAt_inv2 {n : Nat} {σ : zS} (h : zInv n σ) : ∀ j : Nat, n + j < 1000000 → zInv (n + j) (zAt σ j) := by
  intro j
  induction j with
  | zero => intro _; exact h
  | succ j ih => intro hn; exact zAdv_inv (n := n + j) (ih (by omega)) (by omega)
theorem zInv_x {n : Nat} {σ : zS} (h : zInv n σ) : vp_in (zSx σ) 4 := by rw [h.1]; exact vp_in_nI (by omega) (by omega)
theorem zInv_n {n : Nat} {σ : zS} (h : zInv n σ) (hn : n < 8000) : zSn σ < 2047 := by
  rw [h.2.1]
  exact nI_lt (a := (n + 3) / 4) (b := 2047) (by omega) (by omega)
/-- what is written out when j bytes of T, from f0 on, have gone through an engine that began with σ -/
def zOt (σ : zS) (T : zA) (f0 j : Nat) : zA := fun t => if t < j then zOut (zAt σ t) (T (f0 + t)) else 0
theorem zOt_up (σ : zS) (T : zA) (f0 : Nat) {j : Nat} (hj : j < 2 ^ 31) : upd (zOt σ T f0 j) (nI j).toNatClampNeg (zb8 (zOut (zAt σ j) (T (f0 + j)))) = zOt σ T f0 (j + 1) := by
  rw [nI_clamp hj, show zb8 (zOut (zAt σ j) (T (f0 + j))) = zOut (zAt σ j) (T (f0 + j)) from zb8_b _]
  funext t
  simp only [upd, zOt]
  by_cases h : t = j
  · subst h; simp
  · rw [if_neg h]
    by_cases h2 : t < j
    · rw [if_pos h2, if_pos (by omega)]
    · rw [if_neg h2, if_neg (by omega)]

set_option maxHeartbeats 4000000 in
theorem metX2_setKeyAndIV (l : Launch) (G : zG) (a lA fA bA kq iq : Nat) (u3 u4 u5 u6 : Value) (L F1 B k iv : zA) : ZMv l G yX2_setKeyAndIV cX2_setKeyAndIV 5 (zrm 3 0 0) [.ref a, .ref kq, .ref iq] [(a, zo 2 [.ref lA, .ref fA, .ref bA, u3, u4, u5, u6]), (lA, zi G 16 L), (fA, zi G 2 F1), (bA, zi G 4 B), (kq, zb G 16 k), (iq, zb G 16 iv)] (fun w => w = [(a, zo 2 [.ref lA, .ref fA, .ref bA, u3, u4, u5, u6]), (lA, zi G 16 (zSet (zLd k iv, z00, B)).1), (fA, zi G 2 (zSet (zLd k iv, z00, B)).2.1), (bA, zi G 4 (zSet (zLd k iv, z00, B)).2.2), (kq, zb G 16 k), (iq, zb G 16 iv)]) := by
  refine z_enter "Zuc128CoreEngine" "setKeyAndIV" [(0, .ref a), (1, .ref kq), (2, .ref iq)] (by decide) rfl rfl rfl (Nat.le_of_ble_eq_true rfl) ?_
  intro p e s m args below meth c F
  refine z_aload_n (n := 1) F 0 dX2_setKeyAndIV_0 rfl rfl rfl ?_
  refine z_aload_n (n := 2) F 0 dX2_setKeyAndIV_1 rfl rfl rfl ?_
  refine z_get (n := 5) F 0 0 in_X3 rfl rfl (by decide) q271 rfl rfl dX2_setKeyAndIV_2 rfl ?_
  refine z_aload_n (n := 6) F 1 dX2_setKeyAndIV_5 rfl rfl rfl ?_
  refine z_aload_n (n := 7) F 2 dX2_setKeyAndIV_6 rfl rfl rfl ?_
  refine z_pick (ws2 := [(a, zo 2 [.ref lA, .ref fA, .ref bA, u3, u4, u5, u6]), (lA, zi G 16 L), (kq, zb G 16 k), (iq, zb G 16 iv)] ++ [(fA, zi G 2 F1), (bA, zi G 4 B)]) [0, 1, 4, 5, 2, 3] rfl (by decide) ?_
  refine z_cv (n := 10) (cells2 := 0) (slots2 := 0) (wc := [(a, zo 2 [.ref lA, .ref fA, .ref bA, u3, u4, u5, u6]), (lA, zi G 16 L), (kq, zb G 16 k), (iq, zb G 16 iv)]) (wr := [(fA, zi G 2 F1), (bA, zi G 4 B)]) F (z_rU F (metX2_setKeyAndIV_2 l G a lA kq iq (.ref fA) (.ref bA) (u3) (u4) (u5) (u6) L k iv) (va_cwU 3 F.hts (z_gU q400 q403 q404 q401 q11 q405) rfl rfl rfl rfl (by decide +kernel) ⟨Nat.le_of_ble_eq_true rfl, Nat.le_of_ble_eq_true rfl⟩) 0 rfl rfl rfl rfl (Nat.le_of_ble_eq_true rfl) dX2_setKeyAndIV_7 ⟨Nat.le_of_ble_eq_true rfl, Nat.le_of_ble_eq_true rfl⟩) rfl rfl rfl (fun w1 h1 => ?_)
  obtain rfl := h1
  refine z_w (ws2 := [(a, zo 2 [.ref lA, .ref fA, .ref bA, u3, u4, u5, u6]), (lA, zi G 16 (zLd k iv)), (kq, zb G 16 k), (iq, zb G 16 iv), (fA, zi G 2 F1), (bA, zi G 4 B)]) rfl ?_
  refine z_pick (ws2 := [(a, zo 2 [.ref lA, .ref fA, .ref bA, u3, u4, u5, u6]), (lA, zi G 16 (zLd k iv)), (fA, zi G 2 F1), (bA, zi G 4 B), (kq, zb G 16 k), (iq, zb G 16 iv)]) [0, 1, 4, 5, 2, 3] rfl (by decide) ?_
  refine z_aload_n (n := 11) F 0 dX2_setKeyAndIV_10 rfl rfl rfl ?_
  refine z_get (n := 14) F 0 1 in_X3 rfl rfl (by decide) q272 rfl rfl dX2_setKeyAndIV_11 rfl ?_
  refine z_iconst (n := 15) F 0 dX2_setKeyAndIV_14 (by decide) rfl ?_
  refine z_iconst (n := 16) F 0 dX2_setKeyAndIV_15 (by decide) rfl ?_
  refine z_iast (n := 17) (ws2 := [(a, zo 2 [.ref lA, .ref fA, .ref bA, u3, u4, u5, u6]), (lA, zi G 16 (zLd k iv)), (fA, zi G 2 (upd F1 0 0)), (bA, zi G 4 B), (kq, zb G 16 k), (iq, zb G 16 iv)]) F 2 (upd F1 0 0) rfl zn2_0 rfl dX2_setKeyAndIV_16 rfl rfl ?_
  refine z_aload_n (n := 18) F 0 dX2_setKeyAndIV_17 rfl rfl rfl ?_
  refine z_get (n := 21) F 0 1 in_X3 rfl rfl (by decide) q272 rfl rfl dX2_setKeyAndIV_18 rfl ?_
  refine z_iconst (n := 22) F 1 dX2_setKeyAndIV_21 (by decide) rfl ?_
  refine z_iconst (n := 23) F 0 dX2_setKeyAndIV_22 (by decide) rfl ?_
  refine z_iast (n := 24) (ws2 := [(a, zo 2 [.ref lA, .ref fA, .ref bA, u3, u4, u5, u6]), (lA, zi G 16 (zLd k iv)), (fA, zi G 2 (upd (upd F1 0 0) 1 0)), (bA, zi G 4 B), (kq, zb G 16 k), (iq, zb G 16 iv)]) F 2 (upd (upd F1 0 0) 1 0) rfl zn2_1 rfl dX2_setKeyAndIV_23 rfl rfl ?_
  refine z_ext (ws2 := [(a, zo 2 [.ref lA, .ref fA, .ref bA, u3, u4, u5, u6]), (lA, zi G 16 (zLd k iv)), (fA, zi G 2 z00), (bA, zi G 4 B), (kq, zb G 16 k), (iq, zb G 16 iv)]) 2 z00 rfl (zF00 F1) rfl ?_
  refine z_bipush (n := 26) F 32 dX2_setKeyAndIV_24 (by decide) rfl ?_
  refine z_istore_n (n := 27) F [(3, .int 32), (0, .ref a), (1, .ref kq), (2, .ref iq)] dX2_setKeyAndIV_26 rfl (by decide) rfl rfl ?_
  refine zz_loop (fun ws lv => ZW p l e _ s m args below meth c _ G _ _ 0 0 ws 27 lv []) (fun t => [(a, zo 2 [.ref lA, .ref fA, .ref bA, u3, u4, u5, u6]), (lA, zi G 16 (zRds (zLd k iv, z00, B) t).1), (fA, zi G 2 (zRds (zLd k iv, z00, B) t).2.1), (bA, zi G 4 (zRds (zLd k iv, z00, B) t).2.2), (kq, zb G 16 k), (iq, zb G 16 iv)]) (fun t => [(3, .int (nI (32 - t))), (0, .ref a), (1, .ref kq), (2, .ref iq)]) 32 ?_ ?_
  · refine z_w (ws2 := [(a, zo 2 [.ref lA, .ref fA, .ref bA, u3, u4, u5, u6]), (lA, zi G 16 (zRds (zLd k iv, z00, B) 32).1), (fA, zi G 2 (zRds (zLd k iv, z00, B) 32).2.1), (bA, zi G 4 (zRds (zLd k iv, z00, B) 32).2.2), (kq, zb G 16 k), (iq, zb G 16 iv)]) rfl ?_
    refine z_l (lv2 := [(3, .int 0), (0, .ref a), (1, .ref kq), (2, .ref iq)]) rfl ?_
    refine z_iload_n (n := 28) F 0 dX2_setKeyAndIV_27 rfl rfl rfl ?_
    refine z_if_le_t (tgt := 55) F dX2_setKeyAndIV_28 (by decide) (by decide) ?_
    refine z_aload_n (n := 56) F 1 dX2_setKeyAndIV_55 rfl rfl rfl ?_
    refine z_pick (ws2 := [(a, zo 2 [.ref lA, .ref fA, .ref bA, u3, u4, u5, u6]), (lA, zi G 16 (zRds (zLd k iv, z00, B) 32).1), (bA, zi G 4 (zRds (zLd k iv, z00, B) 32).2.2)] ++ [(fA, zi G 2 (zRds (zLd k iv, z00, B) 32).2.1), (kq, zb G 16 k), (iq, zb G 16 iv)]) [0, 1, 3, 2, 4, 5] rfl (by decide) ?_
    refine z_cv (n := 59) (cells2 := 0) (slots2 := 0) (wc := [(a, zo 2 [.ref lA, .ref fA, .ref bA, u3, u4, u5, u6]), (lA, zi G 16 (zRds (zLd k iv, z00, B) 32).1), (bA, zi G 4 (zRds (zLd k iv, z00, B) 32).2.2)]) (wr := [(fA, zi G 2 (zRds (zLd k iv, z00, B) 32).2.1), (kq, zb G 16 k), (iq, zb G 16 iv)]) F (z_rU F (metX2_BitReorganization l G a lA bA (.ref fA) (u3) (u4) (u5) (u6) ((zRds (zLd k iv, z00, B) 32).1) ((zRds (zLd k iv, z00, B) 32).2.2)) (va_cwU 0 F.hts (z_gU q176 q462 zs1 q178 q11 q179) rfl rfl rfl rfl (by decide +kernel) ⟨Nat.le_of_ble_eq_true rfl, Nat.le_of_ble_eq_true rfl⟩) 0 rfl rfl rfl rfl (Nat.le_of_ble_eq_true rfl) dX2_setKeyAndIV_56 ⟨Nat.le_of_ble_eq_true rfl, Nat.le_of_ble_eq_true rfl⟩) rfl rfl rfl (fun w2 h2 => ?_)
    obtain rfl := h2
    refine z_w (ws2 := [(a, zo 2 [.ref lA, .ref fA, .ref bA, u3, u4, u5, u6]), (lA, zi G 16 (zRds (zLd k iv, z00, B) 32).1), (bA, zi G 4 (zBit ((zRds (zLd k iv, z00, B) 32).1) ((zRds (zLd k iv, z00, B) 32).2.2))), (fA, zi G 2 (zRds (zLd k iv, z00, B) 32).2.1), (kq, zb G 16 k), (iq, zb G 16 iv)]) rfl ?_
    refine z_pick (ws2 := [(a, zo 2 [.ref lA, .ref fA, .ref bA, u3, u4, u5, u6]), (lA, zi G 16 (zRds (zLd k iv, z00, B) 32).1), (fA, zi G 2 (zRds (zLd k iv, z00, B) 32).2.1), (bA, zi G 4 (zBit ((zRds (zLd k iv, z00, B) 32).1) ((zRds (zLd k iv, z00, B) 32).2.2))), (kq, zb G 16 k), (iq, zb G 16 iv)]) [0, 1, 3, 2, 4, 5] rfl (by decide) ?_
    refine z_aload_n (n := 60) F 1 dX2_setKeyAndIV_59 rfl rfl rfl ?_
    refine z_pick (ws2 := [(a, zo 2 [.ref lA, .ref fA, .ref bA, u3, u4, u5, u6]), (fA, zi G 2 (zRds (zLd k iv, z00, B) 32).2.1), (bA, zi G 4 (zBit ((zRds (zLd k iv, z00, B) 32).1) ((zRds (zLd k iv, z00, B) 32).2.2)))] ++ [(lA, zi G 16 (zRds (zLd k iv, z00, B) 32).1), (kq, zb G 16 k), (iq, zb G 16 iv)]) [0, 2, 3, 1, 4, 5] rfl (by decide) ?_
    refine z_ci (n := 63) (cells2 := 0) (slots2 := 0) (wc := [(a, zo 2 [.ref lA, .ref fA, .ref bA, u3, u4, u5, u6]), (fA, zi G 2 (zRds (zLd k iv, z00, B) 32).2.1), (bA, zi G 4 (zBit ((zRds (zLd k iv, z00, B) 32).1) ((zRds (zLd k iv, z00, B) 32).2.2)))]) (wr := [(lA, zi G 16 (zRds (zLd k iv, z00, B) 32).1), (kq, zb G 16 k), (iq, zb G 16 iv)]) F (z_rU F (metX2_F l G a fA bA (.ref lA) (u3) (u4) (u5) (u6) ((zRds (zLd k iv, z00, B) 32).2.1) (zBit ((zRds (zLd k iv, z00, B) 32).1) ((zRds (zLd k iv, z00, B) 32).2.2))) (va_cwU 0 F.hts (z_gU q182 q185 q186 q183 q11 q187) rfl rfl rfl rfl (by decide +kernel) ⟨Nat.le_of_ble_eq_true rfl, Nat.le_of_ble_eq_true rfl⟩) 0 rfl rfl rfl rfl (Nat.le_of_ble_eq_true rfl) dX2_setKeyAndIV_60 ⟨Nat.le_of_ble_eq_true rfl, Nat.le_of_ble_eq_true rfl⟩) rfl rfl rfl (fun r3 w3 h3 => ?_)
    obtain ⟨rfl, rfl⟩ := h3
    refine z_w (ws2 := [(a, zo 2 [.ref lA, .ref fA, .ref bA, u3, u4, u5, u6]), (fA, zi G 2 (zFn (zBit ((zRds (zLd k iv, z00, B) 32).1) ((zRds (zLd k iv, z00, B) 32).2.2)) ((zRds (zLd k iv, z00, B) 32).2.1))), (bA, zi G 4 (zBit ((zRds (zLd k iv, z00, B) 32).1) ((zRds (zLd k iv, z00, B) 32).2.2))), (lA, zi G 16 (zRds (zLd k iv, z00, B) 32).1), (kq, zb G 16 k), (iq, zb G 16 iv)]) rfl ?_
    refine z_pick (ws2 := [(a, zo 2 [.ref lA, .ref fA, .ref bA, u3, u4, u5, u6]), (lA, zi G 16 (zRds (zLd k iv, z00, B) 32).1), (fA, zi G 2 (zFn (zBit ((zRds (zLd k iv, z00, B) 32).1) ((zRds (zLd k iv, z00, B) 32).2.2)) ((zRds (zLd k iv, z00, B) 32).2.1))), (bA, zi G 4 (zBit ((zRds (zLd k iv, z00, B) 32).1) ((zRds (zLd k iv, z00, B) 32).2.2))), (kq, zb G 16 k), (iq, zb G 16 iv)]) [0, 3, 1, 2, 4, 5] rfl (by decide) ?_
    refine z_pop (n := 64) F dX2_setKeyAndIV_63 rfl rfl ?_
    refine z_aload_n (n := 65) F 1 dX2_setKeyAndIV_64 rfl rfl rfl ?_
    refine z_pick (ws2 := [(a, zo 2 [.ref lA, .ref fA, .ref bA, u3, u4, u5, u6]), (lA, zi G 16 (zRds (zLd k iv, z00, B) 32).1)] ++ [(fA, zi G 2 (zFn (zBit ((zRds (zLd k iv, z00, B) 32).1) ((zRds (zLd k iv, z00, B) 32).2.2)) ((zRds (zLd k iv, z00, B) 32).2.1))), (bA, zi G 4 (zBit ((zRds (zLd k iv, z00, B) 32).1) ((zRds (zLd k iv, z00, B) 32).2.2))), (kq, zb G 16 k), (iq, zb G 16 iv)]) [0, 1, 2, 3, 4, 5] rfl (by decide) ?_
    refine z_cv (n := 68) (cells2 := 0) (slots2 := 0) (wc := [(a, zo 2 [.ref lA, .ref fA, .ref bA, u3, u4, u5, u6]), (lA, zi G 16 (zRds (zLd k iv, z00, B) 32).1)]) (wr := [(fA, zi G 2 (zFn (zBit ((zRds (zLd k iv, z00, B) 32).1) ((zRds (zLd k iv, z00, B) 32).2.2)) ((zRds (zLd k iv, z00, B) 32).2.1))), (bA, zi G 4 (zBit ((zRds (zLd k iv, z00, B) 32).1) ((zRds (zLd k iv, z00, B) 32).2.2))), (kq, zb G 16 k), (iq, zb G 16 iv)]) F (z_rU F (metX2_LFSRWithWorkMode l G a lA (.ref fA) (.ref bA) (u3) (u4) (u5) (u6) ((zRds (zLd k iv, z00, B) 32).1)) (va_cwU 0 F.hts (z_gU q204 q463 zs2 q206 q11 q207) rfl rfl rfl rfl (by decide +kernel) ⟨Nat.le_of_ble_eq_true rfl, Nat.le_of_ble_eq_true rfl⟩) 0 rfl rfl rfl rfl (Nat.le_of_ble_eq_true rfl) dX2_setKeyAndIV_65 ⟨Nat.le_of_ble_eq_true rfl, Nat.le_of_ble_eq_true rfl⟩) rfl rfl rfl (fun w4 h4 => ?_)
    obtain rfl := h4
    refine z_w (ws2 := [(a, zo 2 [.ref lA, .ref fA, .ref bA, u3, u4, u5, u6]), (lA, zi G 16 (zWork ((zRds (zLd k iv, z00, B) 32).1))), (fA, zi G 2 (zFn (zBit ((zRds (zLd k iv, z00, B) 32).1) ((zRds (zLd k iv, z00, B) 32).2.2)) ((zRds (zLd k iv, z00, B) 32).2.1))), (bA, zi G 4 (zBit ((zRds (zLd k iv, z00, B) 32).1) ((zRds (zLd k iv, z00, B) 32).2.2))), (kq, zb G 16 k), (iq, zb G 16 iv)]) rfl ?_
    exact z_vret F rfl (Nat.le_of_ble_eq_true rfl) (Nat.le_of_ble_eq_true rfl) dX2_setKeyAndIV_68
  · intro t ht hnext
    refine z_w (ws2 := [(a, zo 2 [.ref lA, .ref fA, .ref bA, u3, u4, u5, u6]), (lA, zi G 16 (zRds (zLd k iv, z00, B) t).1), (fA, zi G 2 (zRds (zLd k iv, z00, B) t).2.1), (bA, zi G 4 (zRds (zLd k iv, z00, B) t).2.2), (kq, zb G 16 k), (iq, zb G 16 iv)]) rfl ?_
    refine z_l (lv2 := [(3, .int (nI (32 - t))), (0, .ref a), (1, .ref kq), (2, .ref iq)]) rfl ?_
    refine z_iload_n (n := 28) F 0 dX2_setKeyAndIV_27 rfl rfl rfl ?_
    refine z_if_le_f (tgt := 55) (n := 31) F dX2_setKeyAndIV_28 (by decide) (nI_nle (by omega) (by omega)) rfl ?_
    refine z_aload_n (n := 32) F 1 dX2_setKeyAndIV_31 rfl rfl rfl ?_
    refine z_pick (ws2 := [(a, zo 2 [.ref lA, .ref fA, .ref bA, u3, u4, u5, u6]), (lA, zi G 16 (zRds (zLd k iv, z00, B) t).1), (bA, zi G 4 (zRds (zLd k iv, z00, B) t).2.2)] ++ [(fA, zi G 2 (zRds (zLd k iv, z00, B) t).2.1), (kq, zb G 16 k), (iq, zb G 16 iv)]) [0, 1, 3, 2, 4, 5] rfl (by decide) ?_
    refine z_cv (n := 35) (cells2 := 0) (slots2 := 0) (wc := [(a, zo 2 [.ref lA, .ref fA, .ref bA, u3, u4, u5, u6]), (lA, zi G 16 (zRds (zLd k iv, z00, B) t).1), (bA, zi G 4 (zRds (zLd k iv, z00, B) t).2.2)]) (wr := [(fA, zi G 2 (zRds (zLd k iv, z00, B) t).2.1), (kq, zb G 16 k), (iq, zb G 16 iv)]) F (z_rU F (metX2_BitReorganization l G a lA bA (.ref fA) (u3) (u4) (u5) (u6) ((zRds (zLd k iv, z00, B) t).1) ((zRds (zLd k iv, z00, B) t).2.2)) (va_cwU 0 F.hts (z_gU q176 q462 zs1 q178 q11 q179) rfl rfl rfl rfl (by decide +kernel) ⟨Nat.le_of_ble_eq_true rfl, Nat.le_of_ble_eq_true rfl⟩) 0 rfl rfl rfl rfl (Nat.le_of_ble_eq_true rfl) dX2_setKeyAndIV_32 ⟨Nat.le_of_ble_eq_true rfl, Nat.le_of_ble_eq_true rfl⟩) rfl rfl rfl (fun w5 h5 => ?_)
    obtain rfl := h5
    refine z_w (ws2 := [(a, zo 2 [.ref lA, .ref fA, .ref bA, u3, u4, u5, u6]), (lA, zi G 16 (zRds (zLd k iv, z00, B) t).1), (bA, zi G 4 (zBit ((zRds (zLd k iv, z00, B) t).1) ((zRds (zLd k iv, z00, B) t).2.2))), (fA, zi G 2 (zRds (zLd k iv, z00, B) t).2.1), (kq, zb G 16 k), (iq, zb G 16 iv)]) rfl ?_
    refine z_pick (ws2 := [(a, zo 2 [.ref lA, .ref fA, .ref bA, u3, u4, u5, u6]), (lA, zi G 16 (zRds (zLd k iv, z00, B) t).1), (fA, zi G 2 (zRds (zLd k iv, z00, B) t).2.1), (bA, zi G 4 (zBit ((zRds (zLd k iv, z00, B) t).1) ((zRds (zLd k iv, z00, B) t).2.2))), (kq, zb G 16 k), (iq, zb G 16 iv)]) [0, 1, 3, 2, 4, 5] rfl (by decide) ?_
    refine z_aload_n (n := 36) F 1 dX2_setKeyAndIV_35 rfl rfl rfl ?_
    refine z_pick (ws2 := [(a, zo 2 [.ref lA, .ref fA, .ref bA, u3, u4, u5, u6]), (fA, zi G 2 (zRds (zLd k iv, z00, B) t).2.1), (bA, zi G 4 (zBit ((zRds (zLd k iv, z00, B) t).1) ((zRds (zLd k iv, z00, B) t).2.2)))] ++ [(lA, zi G 16 (zRds (zLd k iv, z00, B) t).1), (kq, zb G 16 k), (iq, zb G 16 iv)]) [0, 2, 3, 1, 4, 5] rfl (by decide) ?_
    refine z_ci (n := 39) (cells2 := 0) (slots2 := 0) (wc := [(a, zo 2 [.ref lA, .ref fA, .ref bA, u3, u4, u5, u6]), (fA, zi G 2 (zRds (zLd k iv, z00, B) t).2.1), (bA, zi G 4 (zBit ((zRds (zLd k iv, z00, B) t).1) ((zRds (zLd k iv, z00, B) t).2.2)))]) (wr := [(lA, zi G 16 (zRds (zLd k iv, z00, B) t).1), (kq, zb G 16 k), (iq, zb G 16 iv)]) F (z_rU F (metX2_F l G a fA bA (.ref lA) (u3) (u4) (u5) (u6) ((zRds (zLd k iv, z00, B) t).2.1) (zBit ((zRds (zLd k iv, z00, B) t).1) ((zRds (zLd k iv, z00, B) t).2.2))) (va_cwU 0 F.hts (z_gU q182 q185 q186 q183 q11 q187) rfl rfl rfl rfl (by decide +kernel) ⟨Nat.le_of_ble_eq_true rfl, Nat.le_of_ble_eq_true rfl⟩) 0 rfl rfl rfl rfl (Nat.le_of_ble_eq_true rfl) dX2_setKeyAndIV_36 ⟨Nat.le_of_ble_eq_true rfl, Nat.le_of_ble_eq_true rfl⟩) rfl rfl rfl (fun r6 w6 h6 => ?_)
    obtain ⟨rfl, rfl⟩ := h6
    refine z_w (ws2 := [(a, zo 2 [.ref lA, .ref fA, .ref bA, u3, u4, u5, u6]), (fA, zi G 2 (zFn (zBit ((zRds (zLd k iv, z00, B) t).1) ((zRds (zLd k iv, z00, B) t).2.2)) ((zRds (zLd k iv, z00, B) t).2.1))), (bA, zi G 4 (zBit ((zRds (zLd k iv, z00, B) t).1) ((zRds (zLd k iv, z00, B) t).2.2))), (lA, zi G 16 (zRds (zLd k iv, z00, B) t).1), (kq, zb G 16 k), (iq, zb G 16 iv)]) rfl ?_
    refine z_pick (ws2 := [(a, zo 2 [.ref lA, .ref fA, .ref bA, u3, u4, u5, u6]), (lA, zi G 16 (zRds (zLd k iv, z00, B) t).1), (fA, zi G 2 (zFn (zBit ((zRds (zLd k iv, z00, B) t).1) ((zRds (zLd k iv, z00, B) t).2.2)) ((zRds (zLd k iv, z00, B) t).2.1))), (bA, zi G 4 (zBit ((zRds (zLd k iv, z00, B) t).1) ((zRds (zLd k iv, z00, B) t).2.2))), (kq, zb G 16 k), (iq, zb G 16 iv)]) [0, 3, 1, 2, 4, 5] rfl (by decide) ?_
    refine z_istore (n := 41) F [(4, .int (zWf (zBit ((zRds (zLd k iv, z00, B) t).1) ((zRds (zLd k iv, z00, B) t).2.2)) ((zRds (zLd k iv, z00, B) t).2.1))), (3, .int (nI (32 - t))), (0, .ref a), (1, .ref kq), (2, .ref iq)] dX2_setKeyAndIV_39 (by decide) rfl rfl ?_
    refine z_aload_n (n := 42) F 2 dX2_setKeyAndIV_41 rfl rfl rfl ?_
    refine z_iload (n := 44) F 0 dX2_setKeyAndIV_42 rfl rfl ?_
    refine z_iconst (n := 45) F 1 dX2_setKeyAndIV_44 (by decide) rfl ?_
    refine z_iushr (n := 46) F dX2_setKeyAndIV_45 rfl ?_
    refine z_pick (ws2 := [(a, zo 2 [.ref lA, .ref fA, .ref bA, u3, u4, u5, u6]), (lA, zi G 16 (zRds (zLd k iv, z00, B) t).1)] ++ [(fA, zi G 2 (zFn (zBit ((zRds (zLd k iv, z00, B) t).1) ((zRds (zLd k iv, z00, B) t).2.2)) ((zRds (zLd k iv, z00, B) t).2.1))), (bA, zi G 4 (zBit ((zRds (zLd k iv, z00, B) t).1) ((zRds (zLd k iv, z00, B) t).2.2))), (kq, zb G 16 k), (iq, zb G 16 iv)]) [0, 1, 2, 3, 4, 5] rfl (by decide) ?_
    refine z_cv (n := 49) (cells2 := 0) (slots2 := 0) (wc := [(a, zo 2 [.ref lA, .ref fA, .ref bA, u3, u4, u5, u6]), (lA, zi G 16 (zRds (zLd k iv, z00, B) t).1)]) (wr := [(fA, zi G 2 (zFn (zBit ((zRds (zLd k iv, z00, B) t).1) ((zRds (zLd k iv, z00, B) t).2.2)) ((zRds (zLd k iv, z00, B) t).2.1))), (bA, zi G 4 (zBit ((zRds (zLd k iv, z00, B) t).1) ((zRds (zLd k iv, z00, B) t).2.2))), (kq, zb G 16 k), (iq, zb G 16 iv)]) F (z_rU F (metX2_LFSRWithInitialisationMode l G a lA (.ref fA) (.ref bA) (u3) (u4) (u5) (u6) ((zRds (zLd k iv, z00, B) t).1) (zush (zWf (zBit ((zRds (zLd k iv, z00, B) t).1) ((zRds (zLd k iv, z00, B) t).2.2)) ((zRds (zLd k iv, z00, B) t).2.1)) 1)) (va_cwU 1 F.hts (z_gU q428 q466 zs5 q430 q11 q431) rfl rfl rfl rfl (by decide +kernel) ⟨Nat.le_of_ble_eq_true rfl, Nat.le_of_ble_eq_true rfl⟩) 0 rfl rfl rfl rfl (Nat.le_of_ble_eq_true rfl) dX2_setKeyAndIV_46 ⟨Nat.le_of_ble_eq_true rfl, Nat.le_of_ble_eq_true rfl⟩) rfl rfl rfl (fun w7 h7 => ?_)
    obtain rfl := h7
    refine z_w (ws2 := [(a, zo 2 [.ref lA, .ref fA, .ref bA, u3, u4, u5, u6]), (lA, zi G 16 (zIni ((zRds (zLd k iv, z00, B) t).1) (zush (zWf (zBit ((zRds (zLd k iv, z00, B) t).1) ((zRds (zLd k iv, z00, B) t).2.2)) ((zRds (zLd k iv, z00, B) t).2.1)) 1))), (fA, zi G 2 (zFn (zBit ((zRds (zLd k iv, z00, B) t).1) ((zRds (zLd k iv, z00, B) t).2.2)) ((zRds (zLd k iv, z00, B) t).2.1))), (bA, zi G 4 (zBit ((zRds (zLd k iv, z00, B) t).1) ((zRds (zLd k iv, z00, B) t).2.2))), (kq, zb G 16 k), (iq, zb G 16 iv)]) rfl ?_
    refine z_iinc (n := 52) F 1 (nI (32 - (t + 1))) [(3, .int (nI (32 - (t + 1)))), (4, .int (zWf (zBit ((zRds (zLd k iv, z00, B) t).1) ((zRds (zLd k iv, z00, B) t).2.2)) ((zRds (zLd k iv, z00, B) t).2.1))), (0, .ref a), (1, .ref kq), (2, .ref iq)] dX2_setKeyAndIV_49 rfl (by rw [show 32 - t = (32 - (t + 1)) + 1 by omega]; exact pk_m1 _) (by decide) rfl rfl ?_
    refine z_goto (tgt := 27) F dX2_setKeyAndIV_52 (by decide) ?_
    refine z_lsub (lv2 := [(3, .int (nI (32 - (t + 1)))), (0, .ref a), (1, .ref kq), (2, .ref iq)]) [0, 2, 3, 4] rfl ?_
    exact hnext
set_option maxHeartbeats 4000000 in
theorem metX2_makeKeyStreamWord (l : Launch) (G : zG) (a lA fA bA : Nat) (u3 u4 u6 : Value) (L F1 B : zA) (n : Int32) (hn : n < 2047) : ZMi l G yX2_makeKeyStreamWord cX2_makeKeyStreamWord 2 .int (zrm 3 0 0) [.ref a] [(a, zo 2 [.ref lA, .ref fA, .ref bA, u3, u4, .int n, u6]), (lA, zi G 16 L), (fA, zi G 2 F1), (bA, zi G 4 B)] (fun r w => r = zNw L F1 B ∧ w = [(a, zo 2 [.ref lA, .ref fA, .ref bA, u3, u4, .int (n + 1), u6]), (lA, zi G 16 (zWork L)), (fA, zi G 2 (zFn (zBit L B) F1)), (bA, zi G 4 (zBit L B))]) := by
  refine z_enter "Zuc128CoreEngine" "makeKeyStreamWord" [(0, .ref a)] (by decide) rfl rfl rfl (Nat.le_of_ble_eq_true rfl) ?_
  intro p e s m args below meth c F
  refine z_aload_n (n := 1) F 0 dX2_makeKeyStreamWord_0 rfl rfl rfl ?_
  refine z_dup (n := 2) F dX2_makeKeyStreamWord_1 rfl rfl ?_
  refine z_get (n := 5) F 0 5 in_X3 rfl rfl (by decide) q276 rfl rfl dX2_makeKeyStreamWord_2 rfl ?_
  refine z_dup_x1 (n := 6) F dX2_makeKeyStreamWord_5 rfl rfl rfl ?_
  refine z_iconst (n := 7) F 1 dX2_makeKeyStreamWord_6 (by decide) rfl ?_
  refine z_iadd (n := 8) F dX2_makeKeyStreamWord_7 rfl ?_
  refine z_put (n := 11) (ws2 := [(a, zo 2 [.ref lA, .ref fA, .ref bA, u3, u4, .int (n + 1), u6]), (lA, zi G 16 L), (fA, zi G 2 F1), (bA, zi G 4 B)]) F 0 5 tyX3 in_X3 tyX3_ok nmX3 rfl rfl (by decide) q276 rfl rfl rfl rfl rfl (Nat.le_of_ble_eq_true rfl) dX2_makeKeyStreamWord_8 rfl rfl ?_
  refine z_aload_n (n := 12) F 0 dX2_makeKeyStreamWord_11 rfl rfl rfl ?_
  refine z_pick (ws2 := [(a, zo 2 [.ref lA, .ref fA, .ref bA, u3, u4, .int (n + 1), u6])] ++ [(lA, zi G 16 L), (fA, zi G 2 F1), (bA, zi G 4 B)]) [0, 1, 2, 3] rfl (by decide) ?_
  refine z_ci (n := 15) (cells2 := 0) (slots2 := 0) (wc := [(a, zo 2 [.ref lA, .ref fA, .ref bA, u3, u4, .int (n + 1), u6])]) (wr := [(lA, zi G 16 L), (fA, zi G 2 F1), (bA, zi G 4 B)]) F (z_rU F (metX2_getMaxIterations l G a [.ref lA, .ref fA, .ref bA, u3, u4, .int (n + 1), u6]) (va_cwU 0 F.hts (z_gU q169 q172 q173 q170 q11 q174) rfl rfl rfl rfl (by decide +kernel) ⟨Nat.le_of_ble_eq_true rfl, Nat.le_of_ble_eq_true rfl⟩) 0 rfl rfl rfl rfl (Nat.le_of_ble_eq_true rfl) dX2_makeKeyStreamWord_12 ⟨Nat.le_of_ble_eq_true rfl, Nat.le_of_ble_eq_true rfl⟩) rfl rfl rfl (fun r1 w1 h1 => ?_)
  obtain ⟨rfl, rfl⟩ := h1
  refine z_w (ws2 := [(a, zo 2 [.ref lA, .ref fA, .ref bA, u3, u4, .int (n + 1), u6]), (lA, zi G 16 L), (fA, zi G 2 F1), (bA, zi G 4 B)]) rfl ?_
  refine z_icmp_lt_t (tgt := 28) F dX2_makeKeyStreamWord_15 (by decide) hn ?_
  refine z_aload_n (n := 29) F 0 dX2_makeKeyStreamWord_28 rfl rfl rfl ?_
  refine z_pick (ws2 := [(a, zo 2 [.ref lA, .ref fA, .ref bA, u3, u4, .int (n + 1), u6]), (lA, zi G 16 L), (bA, zi G 4 B)] ++ [(fA, zi G 2 F1)]) [0, 1, 3, 2] rfl (by decide) ?_
  refine z_cv (n := 32) (cells2 := 0) (slots2 := 0) (wc := [(a, zo 2 [.ref lA, .ref fA, .ref bA, u3, u4, .int (n + 1), u6]), (lA, zi G 16 L), (bA, zi G 4 B)]) (wr := [(fA, zi G 2 F1)]) F (z_rU F (metX2_BitReorganization l G a lA bA (.ref fA) (u3) (u4) (.int (n + 1)) (u6) L B) (va_cwU 0 F.hts (z_gU q176 q462 zs1 q178 q11 q179) rfl rfl rfl rfl (by decide +kernel) ⟨Nat.le_of_ble_eq_true rfl, Nat.le_of_ble_eq_true rfl⟩) 0 rfl rfl rfl rfl (Nat.le_of_ble_eq_true rfl) dX2_makeKeyStreamWord_29 ⟨Nat.le_of_ble_eq_true rfl, Nat.le_of_ble_eq_true rfl⟩) rfl rfl rfl (fun w2 h2 => ?_)
  obtain rfl := h2
  refine z_w (ws2 := [(a, zo 2 [.ref lA, .ref fA, .ref bA, u3, u4, .int (n + 1), u6]), (lA, zi G 16 L), (bA, zi G 4 (zBit L B)), (fA, zi G 2 F1)]) rfl ?_
  refine z_pick (ws2 := [(a, zo 2 [.ref lA, .ref fA, .ref bA, u3, u4, .int (n + 1), u6]), (lA, zi G 16 L), (fA, zi G 2 F1), (bA, zi G 4 (zBit L B))]) [0, 1, 3, 2] rfl (by decide) ?_
  refine z_aload_n (n := 33) F 0 dX2_makeKeyStreamWord_32 rfl rfl rfl ?_
  refine z_pick (ws2 := [(a, zo 2 [.ref lA, .ref fA, .ref bA, u3, u4, .int (n + 1), u6]), (fA, zi G 2 F1), (bA, zi G 4 (zBit L B))] ++ [(lA, zi G 16 L)]) [0, 2, 3, 1] rfl (by decide) ?_
  refine z_ci (n := 36) (cells2 := 0) (slots2 := 0) (wc := [(a, zo 2 [.ref lA, .ref fA, .ref bA, u3, u4, .int (n + 1), u6]), (fA, zi G 2 F1), (bA, zi G 4 (zBit L B))]) (wr := [(lA, zi G 16 L)]) F (z_rU F (metX2_F l G a fA bA (.ref lA) (u3) (u4) (.int (n + 1)) (u6) F1 (zBit L B)) (va_cwU 0 F.hts (z_gU q182 q185 q186 q183 q11 q187) rfl rfl rfl rfl (by decide +kernel) ⟨Nat.le_of_ble_eq_true rfl, Nat.le_of_ble_eq_true rfl⟩) 0 rfl rfl rfl rfl (Nat.le_of_ble_eq_true rfl) dX2_makeKeyStreamWord_33 ⟨Nat.le_of_ble_eq_true rfl, Nat.le_of_ble_eq_true rfl⟩) rfl rfl rfl (fun r3 w3 h3 => ?_)
  obtain ⟨rfl, rfl⟩ := h3
  refine z_w (ws2 := [(a, zo 2 [.ref lA, .ref fA, .ref bA, u3, u4, .int (n + 1), u6]), (fA, zi G 2 (zFn (zBit L B) F1)), (bA, zi G 4 (zBit L B)), (lA, zi G 16 L)]) rfl ?_
  refine z_pick (ws2 := [(a, zo 2 [.ref lA, .ref fA, .ref bA, u3, u4, .int (n + 1), u6]), (lA, zi G 16 L), (fA, zi G 2 (zFn (zBit L B) F1)), (bA, zi G 4 (zBit L B))]) [0, 3, 1, 2] rfl (by decide) ?_
  refine z_aload_n (n := 37) F 0 dX2_makeKeyStreamWord_36 rfl rfl rfl ?_
  refine z_get (n := 40) F 0 2 in_X3 rfl rfl (by decide) q273 rfl rfl dX2_makeKeyStreamWord_37 rfl ?_
  refine z_iconst (n := 41) F 3 dX2_makeKeyStreamWord_40 (by decide) rfl ?_
  refine z_iald (n := 42) F 3 ((zBit L B) 3) rfl zn4_3 rfl dX2_makeKeyStreamWord_41 rfl ?_
  refine z_ixor (n := 43) F dX2_makeKeyStreamWord_42 rfl ?_
  refine z_istore_n (n := 44) F [(1, .int ((zWf (zBit L B) F1) ^^^ ((zBit L B) 3))), (0, .ref a)] dX2_makeKeyStreamWord_43 rfl (by decide) rfl rfl ?_
  refine z_aload_n (n := 45) F 1 dX2_makeKeyStreamWord_44 rfl rfl rfl ?_
  refine z_pick (ws2 := [(a, zo 2 [.ref lA, .ref fA, .ref bA, u3, u4, .int (n + 1), u6]), (lA, zi G 16 L)] ++ [(fA, zi G 2 (zFn (zBit L B) F1)), (bA, zi G 4 (zBit L B))]) [0, 1, 2, 3] rfl (by decide) ?_
  refine z_cv (n := 48) (cells2 := 0) (slots2 := 0) (wc := [(a, zo 2 [.ref lA, .ref fA, .ref bA, u3, u4, .int (n + 1), u6]), (lA, zi G 16 L)]) (wr := [(fA, zi G 2 (zFn (zBit L B) F1)), (bA, zi G 4 (zBit L B))]) F (z_rU F (metX2_LFSRWithWorkMode l G a lA (.ref fA) (.ref bA) (u3) (u4) (.int (n + 1)) (u6) L) (va_cwU 0 F.hts (z_gU q204 q463 zs2 q206 q11 q207) rfl rfl rfl rfl (by decide +kernel) ⟨Nat.le_of_ble_eq_true rfl, Nat.le_of_ble_eq_true rfl⟩) 0 rfl rfl rfl rfl (Nat.le_of_ble_eq_true rfl) dX2_makeKeyStreamWord_45 ⟨Nat.le_of_ble_eq_true rfl, Nat.le_of_ble_eq_true rfl⟩) rfl rfl rfl (fun w4 h4 => ?_)
  obtain rfl := h4
  refine z_w (ws2 := [(a, zo 2 [.ref lA, .ref fA, .ref bA, u3, u4, .int (n + 1), u6]), (lA, zi G 16 (zWork L)), (fA, zi G 2 (zFn (zBit L B) F1)), (bA, zi G 4 (zBit L B))]) rfl ?_
  refine z_iload_n (n := 49) F 0 dX2_makeKeyStreamWord_48 rfl rfl rfl ?_
  exact z_iret F rfl ⟨rfl, rfl⟩ (Nat.le_of_ble_eq_true rfl) (Nat.le_of_ble_eq_true rfl) dX2_makeKeyStreamWord_49
set_option maxHeartbeats 4000000 in
theorem metX2_makeKeyStream (l : Launch) (G : zG) (a lA fA bA kA : Nat) (rst : Value) (σ : zS) (hn : zSn σ < 2047) : ZMv l G yX2_makeKeyStream cX2_makeKeyStream 1 (zrm 4 0 0) [.ref a] [(a, zo 2 [.ref lA, .ref fA, .ref bA, .int (zSx σ), .ref kA, .int (zSn σ), rst]), (lA, zi G 16 σ.1), (fA, zi G 2 σ.2.1), (bA, zi G 4 σ.2.2.1), (kA, zb G 4 (zSK σ))] (fun w => w = [(a, zo 2 [.ref lA, .ref fA, .ref bA, .int (zSx (zGen σ)), .ref kA, .int (zSn (zGen σ)), rst]), (lA, zi G 16 (zGen σ).1), (fA, zi G 2 (zGen σ).2.1), (bA, zi G 4 (zGen σ).2.2.1), (kA, zb G 4 (zSK (zGen σ)))]) := by
  refine z_enter "Zuc128CoreEngine" "makeKeyStream" [(0, .ref a)] (by decide) rfl rfl rfl (Nat.le_of_ble_eq_true rfl) ?_
  intro p e s m args below meth c F
  refine z_aload_n (n := 1) F 0 dX2_makeKeyStream_0 rfl rfl rfl ?_
  refine z_pick (ws2 := [(a, zo 2 [.ref lA, .ref fA, .ref bA, .int (zSx σ), .ref kA, .int (zSn σ), rst]), (lA, zi G 16 σ.1), (fA, zi G 2 σ.2.1), (bA, zi G 4 σ.2.2.1)] ++ [(kA, zb G 4 (zSK σ))]) [0, 1, 2, 3, 4] rfl (by decide) ?_
  refine z_ci (n := 4) (cells2 := 0) (slots2 := 0) (wc := [(a, zo 2 [.ref lA, .ref fA, .ref bA, .int (zSx σ), .ref kA, .int (zSn σ), rst]), (lA, zi G 16 σ.1), (fA, zi G 2 σ.2.1), (bA, zi G 4 σ.2.2.1)]) (wr := [(kA, zb G 4 (zSK σ))]) F (z_rU F (metX2_makeKeyStreamWord l G a lA fA bA (.int (zSx σ)) (.ref kA) (rst) σ.1 σ.2.1 σ.2.2.1 (zSn σ) hn) (va_cwU 0 F.hts (z_gU q163 q166 q167 q164 q11 q168) rfl rfl rfl rfl (by decide +kernel) ⟨Nat.le_of_ble_eq_true rfl, Nat.le_of_ble_eq_true rfl⟩) 0 rfl rfl rfl rfl (Nat.le_of_ble_eq_true rfl) dX2_makeKeyStream_1 ⟨Nat.le_of_ble_eq_true rfl, Nat.le_of_ble_eq_true rfl⟩) rfl rfl rfl (fun r1 w1 h1 => ?_)
  obtain ⟨rfl, rfl⟩ := h1
  refine z_w (ws2 := [(a, zo 2 [.ref lA, .ref fA, .ref bA, .int (zSx σ), .ref kA, .int ((zSn σ) + 1), rst]), (lA, zi G 16 (zWork σ.1)), (fA, zi G 2 (zFn (zBit σ.1 σ.2.2.1) σ.2.1)), (bA, zi G 4 (zBit σ.1 σ.2.2.1)), (kA, zb G 4 (zSK σ))]) rfl ?_
  refine z_aload_n (n := 5) F 0 dX2_makeKeyStream_4 rfl rfl rfl ?_
  refine z_get (n := 8) F 0 4 in_X3 rfl rfl (by decide) q275 rfl rfl dX2_makeKeyStream_5 rfl ?_
  refine z_iconst (n := 9) F 0 dX2_makeKeyStream_8 (by decide) rfl ?_
  refine z_pick (ws2 := [(kA, zb G 4 (zSK σ))] ++ [(a, zo 2 [.ref lA, .ref fA, .ref bA, .int (zSx σ), .ref kA, .int ((zSn σ) + 1), rst]), (lA, zi G 16 (zWork σ.1)), (fA, zi G 2 (zFn (zBit σ.1 σ.2.2.1) σ.2.1)), (bA, zi G 4 (zBit σ.1 σ.2.2.1))]) [4, 0, 1, 2, 3] rfl (by decide) ?_
  refine z_cv (n := 12) (cells2 := 0) (slots2 := 0) (wc := [(kA, zb G 4 (zSK σ))]) (wr := [(a, zo 2 [.ref lA, .ref fA, .ref bA, .int (zSx σ), .ref kA, .int ((zSn σ) + 1), rst]), (lA, zi G 16 (zWork σ.1)), (fA, zi G 2 (zFn (zBit σ.1 σ.2.2.1) σ.2.1)), (bA, zi G 4 (zBit σ.1 σ.2.2.1))]) F (z_rS F (metX2_encode32be l G kA (zSK σ) (zNw σ.1 σ.2.1 σ.2.2.1)) (va_cwS 3 F.hts (lw_S q216 q217 q11 q218) rfl rfl rfl (by decide +kernel) ⟨Nat.le_of_ble_eq_true rfl, Nat.le_of_ble_eq_true rfl⟩) rfl rfl (Nat.le_of_ble_eq_true rfl) dX2_makeKeyStream_9 ⟨Nat.le_of_ble_eq_true rfl, Nat.le_of_ble_eq_true rfl⟩) rfl rfl rfl (fun w2 h2 => ?_)
  obtain rfl := h2
  refine z_w (ws2 := [(kA, zb G 4 (zEnc (zSK σ) (zNw σ.1 σ.2.1 σ.2.2.1))), (a, zo 2 [.ref lA, .ref fA, .ref bA, .int (zSx σ), .ref kA, .int ((zSn σ) + 1), rst]), (lA, zi G 16 (zWork σ.1)), (fA, zi G 2 (zFn (zBit σ.1 σ.2.2.1) σ.2.1)), (bA, zi G 4 (zBit σ.1 σ.2.2.1))]) rfl ?_
  refine z_pick (ws2 := [(a, zo 2 [.ref lA, .ref fA, .ref bA, .int (zSx σ), .ref kA, .int ((zSn σ) + 1), rst]), (lA, zi G 16 (zWork σ.1)), (fA, zi G 2 (zFn (zBit σ.1 σ.2.2.1) σ.2.1)), (bA, zi G 4 (zBit σ.1 σ.2.2.1)), (kA, zb G 4 (zEnc (zSK σ) (zNw σ.1 σ.2.1 σ.2.2.1)))]) [1, 2, 3, 4, 0] rfl (by decide) ?_
  exact z_vret F rfl (Nat.le_of_ble_eq_true rfl) (Nat.le_of_ble_eq_true rfl) dX2_makeKeyStream_12
set_option maxHeartbeats 4000000 in
theorem metX2_returnByte (l : Launch) (G : zG) (a lA fA bA kA : Nat) (rst : Value) (σ : zS) (b : Int32) (n : Nat) (hn8 : n < 8000) (hi : zInv n σ) : ZMi l G yX2_returnByte cX2_returnByte 3 .byte (zrm 5 0 0) [.ref a, .int b] [(a, zo 2 [.ref lA, .ref fA, .ref bA, .int (zSx σ), .ref kA, .int (zSn σ), rst]), (lA, zi G 16 σ.1), (fA, zi G 2 σ.2.1), (bA, zi G 4 σ.2.2.1), (kA, zb G 4 (zSK σ))] (fun r w => r = zOut σ b ∧ w = [(a, zo 2 [.ref lA, .ref fA, .ref bA, .int (zSx (zAdv σ)), .ref kA, .int (zSn (zAdv σ)), rst]), (lA, zi G 16 (zAdv σ).1), (fA, zi G 2 (zAdv σ).2.1), (bA, zi G 4 (zAdv σ).2.2.1), (kA, zb G 4 (zSK (zAdv σ)))]) := by
  refine z_enter "Zuc128CoreEngine" "returnByte" [(0, .ref a), (1, .int b)] (by decide) rfl rfl rfl (Nat.le_of_ble_eq_true rfl) ?_
  intro p e s m args below meth c F
  have hx := zInv_x hi
  have hn := zInv_n hi hn8
  refine z_w (ws2 := [(a, zo 2 [.ref lA, .ref fA, .ref bA, .int (zSx σ), .ref kA, .int (zSn σ), rst]), (lA, zi G 16 σ.1), (fA, zi G 2 σ.2.1), (bA, zi G 4 σ.2.2.1), (kA, zb G 4 (zSK σ))]) rfl ?_
  have tail : ∀ τ : zS, zPrep σ = τ → ZW p l e (zrm 5 0 0) s m args below meth c 3 G (va_A [(a, zo 2 [.ref lA, .ref fA, .ref bA, .int (zSx σ), .ref kA, .int (zSn σ), rst]), (lA, zi G 16 σ.1), (fA, zi G 2 σ.2.1), (bA, zi G 4 σ.2.2.1), (kA, zb G 4 (zSK σ))] s.heap.size) (MQ below (va_Qi (fun r w => r = zOut σ b ∧ w = [(a, zo 2 [.ref lA, .ref fA, .ref bA, .int (zSx (zAdv σ)), .ref kA, .int (zSn (zAdv σ)), rst]), (lA, zi G 16 (zAdv σ).1), (fA, zi G 2 (zAdv σ).2.1), (bA, zi G 4 (zAdv σ).2.2.1), (kA, zb G 4 (zSK (zAdv σ)))]) (zB G [(a, zo 2 [.ref lA, .ref fA, .ref bA, .int (zSx σ), .ref kA, .int (zSn σ), rst]), (lA, zi G 16 σ.1), (fA, zi G 2 σ.2.1), (bA, zi G 4 σ.2.2.1), (kA, zb G 4 (zSK σ))] s.heap.size) (va_A [(a, zo 2 [.ref lA, .ref fA, .ref bA, .int (zSx σ), .ref kA, .int (zSn σ), rst]), (lA, zi G 16 σ.1), (fA, zi G 2 σ.2.1), (bA, zi G 4 σ.2.2.1), (kA, zb G 4 (zSK σ))] s.heap.size)) args s (zrm 5 0 0).cells (zrm 5 0 0).slots (va_A [(a, zo 2 [.ref lA, .ref fA, .ref bA, .int (zSx σ), .ref kA, .int (zSn σ), rst]), (lA, zi G 16 σ.1), (fA, zi G 2 σ.2.1), (bA, zi G 4 σ.2.2.1), (kA, zb G 4 (zSK σ))] s.heap.size)) 0 0 [(a, zo 2 [.ref lA, .ref fA, .ref bA, .int (zSx σ), .ref kA, .int (zSn τ), rst]), (lA, zi G 16 τ.1), (fA, zi G 2 τ.2.1), (bA, zi G 4 τ.2.2.1), (kA, zb G 4 (zSK τ))] 11 [(0, .ref a), (1, .int b)] [] := by
    intro τ hτ
    refine z_aload_n (n := 12) F 0 dX2_returnByte_11 rfl rfl rfl ?_
    refine z_get (n := 15) F 0 4 in_X3 rfl rfl (by decide) q275 rfl rfl dX2_returnByte_12 rfl ?_
    refine z_aload_n (n := 16) F 0 dX2_returnByte_15 rfl rfl rfl ?_
    refine z_get (n := 19) F 0 3 in_X3 rfl rfl (by decide) q274 rfl rfl dX2_returnByte_16 rfl ?_
    refine z_bald (n := 20) F 4 ((zSK τ) (zSx σ).toNatClampNeg) rfl hx rfl dX2_returnByte_19 rfl ?_
    refine z_iload_n (n := 21) F 1 dX2_returnByte_20 rfl rfl rfl ?_
    refine z_ixor (n := 22) F dX2_returnByte_21 rfl ?_
    refine z_i2b (n := 23) F dX2_returnByte_22 rfl ?_
    refine z_istore_n (n := 24) F [(2, .int (zb8 (((zSK τ) (zSx σ).toNatClampNeg) ^^^ b))), (0, .ref a), (1, .int b)] dX2_returnByte_23 rfl (by decide) rfl rfl ?_
    refine z_aload_n (n := 25) F 1 dX2_returnByte_24 rfl rfl rfl ?_
    refine z_aload_n (n := 26) F 1 dX2_returnByte_25 rfl rfl rfl ?_
    refine z_get (n := 29) F 0 3 in_X3 rfl rfl (by decide) q274 rfl rfl dX2_returnByte_26 rfl ?_
    refine z_iconst (n := 30) F 1 dX2_returnByte_29 (by decide) rfl ?_
    refine z_iadd (n := 31) F dX2_returnByte_30 rfl ?_
    refine z_iconst (n := 32) F 4 dX2_returnByte_31 (by decide) rfl ?_
    refine z_irem (n := 33) F dX2_returnByte_32 (by decide) rfl ?_
    refine z_put (n := 36) (ws2 := [(a, zo 2 [.ref lA, .ref fA, .ref bA, .int (((zSx σ) + 1) - ((zSx σ) + 1) / 4 * 4), .ref kA, .int (zSn τ), rst]), (lA, zi G 16 τ.1), (fA, zi G 2 τ.2.1), (bA, zi G 4 τ.2.2.1), (kA, zb G 4 (zSK τ))]) F 0 3 tyX3 in_X3 tyX3_ok nmX3 rfl rfl (by decide) q274 rfl rfl rfl rfl rfl (Nat.le_of_ble_eq_true rfl) dX2_returnByte_33 rfl rfl ?_
    refine z_iload_n (n := 37) F 0 dX2_returnByte_36 rfl rfl rfl ?_
    subst hτ
    exact z_iret F (zb8_nar _) ⟨rfl, rfl⟩ (Nat.le_of_ble_eq_true rfl) (Nat.le_of_ble_eq_true rfl) dX2_returnByte_37
  refine z_aload_n (n := 1) F 0 dX2_returnByte_0 rfl rfl rfl ?_
  refine z_get (n := 4) F 0 3 in_X3 rfl rfl (by decide) q274 rfl rfl dX2_returnByte_1 rfl ?_
  refine z_if_ne (tgt := 11) (n := 7) F dX2_returnByte_4 (by decide) rfl (fun h0 => ?_) (fun h0 => ?_)
  · exact tail σ (if_neg h0)
  · refine z_w (ws2 := [(a, zo 2 [.ref lA, .ref fA, .ref bA, .int (zSx σ), .ref kA, .int (zSn σ), rst]), (lA, zi G 16 σ.1), (fA, zi G 2 σ.2.1), (bA, zi G 4 σ.2.2.1), (kA, zb G 4 (zSK σ))]) rfl ?_
    refine z_aload_n (n := 8) F 0 dX2_returnByte_7 rfl rfl rfl ?_
    refine z_pick (ws2 := [(a, zo 2 [.ref lA, .ref fA, .ref bA, .int (zSx σ), .ref kA, .int (zSn σ), rst]), (lA, zi G 16 σ.1), (fA, zi G 2 σ.2.1), (bA, zi G 4 σ.2.2.1), (kA, zb G 4 (zSK σ))] ++ []) [0, 1, 2, 3, 4] rfl (by decide) ?_
    refine z_cv (n := 11) (cells2 := 0) (slots2 := 0) (wc := [(a, zo 2 [.ref lA, .ref fA, .ref bA, .int (zSx σ), .ref kA, .int (zSn σ), rst]), (lA, zi G 16 σ.1), (fA, zi G 2 σ.2.1), (bA, zi G 4 σ.2.2.1), (kA, zb G 4 (zSK σ))]) (wr := []) F (z_rU F (metX2_makeKeyStream l G a lA fA bA kA rst σ hn) (va_cwU 0 F.hts (z_gU q158 q461 zs0 q160 q11 q162) rfl rfl rfl rfl (by decide +kernel) ⟨Nat.le_of_ble_eq_true rfl, Nat.le_of_ble_eq_true rfl⟩) 0 rfl rfl rfl rfl (Nat.le_of_ble_eq_true rfl) dX2_returnByte_8 ⟨Nat.le_of_ble_eq_true rfl, Nat.le_of_ble_eq_true rfl⟩) rfl rfl rfl (fun w1 h1 => ?_)
    obtain rfl := h1
    refine z_w (ws2 := [(a, zo 2 [.ref lA, .ref fA, .ref bA, .int (zSx (zGen σ)), .ref kA, .int (zSn (zGen σ)), rst]), (lA, zi G 16 (zGen σ).1), (fA, zi G 2 (zGen σ).2.1), (bA, zi G 4 (zGen σ).2.2.1), (kA, zb G 4 (zSK (zGen σ)))]) rfl ?_
    exact tail (zGen σ) (if_pos h0)
set_option maxHeartbeats 4000000 in
theorem metX2_processBytes (l : Launch) (G : zG) (a lA fA bA kA rr ia oa : Nat) (σ : zS) (T : zA) (n f0 N M : Nat) (hfN : f0 + N ≤ M) (hM : M < 1000) (hn : n < 4000) (hi : zInv n σ) : ZMi l G yX2_processBytes cX2_processBytes 7 .int (zrm 6 0 0) [.ref a, .ref ia, .int (nI f0), .int (nI N), .ref oa, .int 0] [(a, zo 2 [.ref lA, .ref fA, .ref bA, .int (zSx σ), .ref kA, .int (zSn σ), .ref rr]), (lA, zi G 16 σ.1), (fA, zi G 2 σ.2.1), (bA, zi G 4 σ.2.2.1), (kA, zb G 4 (zSK σ)), (ia, zb G M T), (oa, zb G N z00)] (fun r w => r = nI N ∧ w = [(a, zo 2 [.ref lA, .ref fA, .ref bA, .int (zSx (zAt σ N)), .ref kA, .int (zSn (zAt σ N)), .ref rr]), (lA, zi G 16 (zAt σ N).1), (fA, zi G 2 (zAt σ N).2.1), (bA, zi G 4 (zAt σ N).2.2.1), (kA, zb G 4 (zSK (zAt σ N))), (ia, zb G M T), (oa, zb G N (zOt σ T f0 N))]) := by
  refine z_enter "Zuc128CoreEngine" "processBytes" [(0, .ref a), (1, .ref ia), (2, .int (nI f0)), (3, .int (nI N)), (4, .ref oa), (5, .int 0)] (by decide) rfl rfl rfl (Nat.le_of_ble_eq_true rfl) ?_
  intro p e s m args below meth c F
  refine z_aload_n (n := 1) F 0 dX2_processBytes_0 rfl rfl rfl ?_
  refine z_get (n := 4) F 0 6 in_X3 rfl rfl (by decide) q277 rfl rfl dX2_processBytes_1 rfl ?_
  refine z_ifnonnull (tgt := 17) F dX2_processBytes_4 (by decide) ?_
  refine z_iload_n (n := 18) F 2 dX2_processBytes_17 rfl rfl rfl ?_
  refine z_iload_n (n := 19) F 3 dX2_processBytes_18 rfl rfl rfl ?_
  refine z_iadd (n := 20) F dX2_processBytes_19 rfl ?_
  refine z_aload_n (n := 21) F 1 dX2_processBytes_20 rfl rfl rfl ?_
  refine z_alenB (n := 22) F 5 (nI M) rfl rfl dX2_processBytes_21 rfl ?_
  refine z_icmp_le_t (tgt := 35) F dX2_processBytes_22 (by decide) (by rw [nI_add]; exact nI_le hfN (by omega)) ?_
  refine z_iload (n := 37) F 5 dX2_processBytes_35 rfl rfl ?_
  refine z_iload_n (n := 38) F 3 dX2_processBytes_37 rfl rfl rfl ?_
  refine z_iadd (n := 39) F dX2_processBytes_38 rfl ?_
  refine z_aload (n := 41) F 4 dX2_processBytes_39 rfl rfl ?_
  refine z_alenB (n := 42) F 6 (nI N) rfl rfl dX2_processBytes_41 rfl ?_
  refine z_icmp_le_t (tgt := 55) F dX2_processBytes_42 (by decide) (by rw [Int32.zero_add]; exact Int32.le_refl _) ?_
  refine z_iconst (n := 56) F 0 dX2_processBytes_55 (by decide) rfl ?_
  refine z_istore (n := 58) F [(6, .int 0), (0, .ref a), (1, .ref ia), (2, .int (nI f0)), (3, .int (nI N)), (4, .ref oa), (5, .int 0)] dX2_processBytes_56 (by decide) rfl rfl ?_
  refine z_ext (ws2 := [(a, zo 2 [.ref lA, .ref fA, .ref bA, .int (zSx (zAt σ 0)), .ref kA, .int (zSn (zAt σ 0)), .ref rr]), (lA, zi G 16 (zAt σ 0).1), (fA, zi G 2 (zAt σ 0).2.1), (bA, zi G 4 (zAt σ 0).2.2.1), (kA, zb G 4 (zSK (zAt σ 0))), (ia, zb G M T), (oa, zb G N (zOt σ T f0 0))]) 6 (zOt σ T f0 0) rfl (fun j _ => by simp [zOt, z00]) rfl ?_
  refine zz_loop (fun ws lv => ZW p l e _ s m args below meth c _ G _ _ 0 0 ws 58 lv []) (fun t => [(a, zo 2 [.ref lA, .ref fA, .ref bA, .int (zSx (zAt σ t)), .ref kA, .int (zSn (zAt σ t)), .ref rr]), (lA, zi G 16 (zAt σ t).1), (fA, zi G 2 (zAt σ t).2.1), (bA, zi G 4 (zAt σ t).2.2.1), (kA, zb G 4 (zSK (zAt σ t))), (ia, zb G M T), (oa, zb G N (zOt σ T f0 t))]) (fun t => [(6, .int (nI t)), (0, .ref a), (1, .ref ia), (2, .int (nI f0)), (3, .int (nI N)), (4, .ref oa), (5, .int 0)]) N ?_ ?_
  · refine z_w (ws2 := [(a, zo 2 [.ref lA, .ref fA, .ref bA, .int (zSx (zAt σ N)), .ref kA, .int (zSn (zAt σ N)), .ref rr]), (lA, zi G 16 (zAt σ N).1), (fA, zi G 2 (zAt σ N).2.1), (bA, zi G 4 (zAt σ N).2.2.1), (kA, zb G 4 (zSK (zAt σ N))), (ia, zb G M T), (oa, zb G N (zOt σ T f0 N))]) rfl ?_
    refine z_l (lv2 := [(6, .int (nI N)), (0, .ref a), (1, .ref ia), (2, .int (nI f0)), (3, .int (nI N)), (4, .ref oa), (5, .int 0)]) rfl ?_
    refine z_iload (n := 60) F 0 dX2_processBytes_58 rfl rfl ?_
    refine z_iload_n (n := 61) F 4 dX2_processBytes_60 rfl rfl rfl ?_
    refine z_icmp_ge_t (tgt := 88) F dX2_processBytes_61 (by decide) (Int32.le_refl _) ?_
    refine z_iload_n (n := 89) F 4 dX2_processBytes_88 rfl rfl rfl ?_
    exact z_iret F rfl ⟨rfl, rfl⟩ (Nat.le_of_ble_eq_true rfl) (Nat.le_of_ble_eq_true rfl) dX2_processBytes_89
  · intro t ht hnext
    refine z_w (ws2 := [(a, zo 2 [.ref lA, .ref fA, .ref bA, .int (zSx (zAt σ t)), .ref kA, .int (zSn (zAt σ t)), .ref rr]), (lA, zi G 16 (zAt σ t).1), (fA, zi G 2 (zAt σ t).2.1), (bA, zi G 4 (zAt σ t).2.2.1), (kA, zb G 4 (zSK (zAt σ t))), (ia, zb G M T), (oa, zb G N (zOt σ T f0 t))]) rfl ?_
    refine z_l (lv2 := [(6, .int (nI t)), (0, .ref a), (1, .ref ia), (2, .int (nI f0)), (3, .int (nI N)), (4, .ref oa), (5, .int 0)]) rfl ?_
    refine z_iload (n := 60) F 0 dX2_processBytes_58 rfl rfl ?_
    refine z_iload_n (n := 61) F 4 dX2_processBytes_60 rfl rfl rfl ?_
    refine z_icmp_ge_f (tgt := 88) (n := 64) F dX2_processBytes_61 (by decide) (nI_ge ht (by omega)) rfl ?_
    refine z_aload (n := 66) F 5 dX2_processBytes_64 rfl rfl ?_
    refine z_iload (n := 68) F 0 dX2_processBytes_66 rfl rfl ?_
    refine z_iload (n := 70) F 6 dX2_processBytes_68 rfl rfl ?_
    refine z_iadd (n := 71) F dX2_processBytes_70 rfl ?_
    refine z_re (y := (nI t)) (Int32.add_zero _) ?_
    refine z_aload_n (n := 72) F 1 dX2_processBytes_71 rfl rfl rfl ?_
    refine z_aload_n (n := 73) F 2 dX2_processBytes_72 rfl rfl rfl ?_
    refine z_iload (n := 75) F 0 dX2_processBytes_73 rfl rfl ?_
    refine z_iload_n (n := 76) F 3 dX2_processBytes_75 rfl rfl rfl ?_
    refine z_iadd (n := 77) F dX2_processBytes_76 rfl ?_
    refine z_re (y := (nI (f0 + t))) (by rw [nI_add, Nat.add_comm]) ?_
    refine z_bald (n := 78) F 5 (T (f0 + t)) rfl (vp_in_nI (by omega) (by omega)) (congrArg T (nI_clamp (by omega))) dX2_processBytes_77 rfl ?_
    refine z_pick (ws2 := [(a, zo 2 [.ref lA, .ref fA, .ref bA, .int (zSx (zAt σ t)), .ref kA, .int (zSn (zAt σ t)), .ref rr]), (lA, zi G 16 (zAt σ t).1), (fA, zi G 2 (zAt σ t).2.1), (bA, zi G 4 (zAt σ t).2.2.1), (kA, zb G 4 (zSK (zAt σ t)))] ++ [(ia, zb G M T), (oa, zb G N (zOt σ T f0 t))]) [0, 1, 2, 3, 4, 5, 6] rfl (by decide) ?_
    refine z_ci (n := 81) (cells2 := 0) (slots2 := 0) (wc := [(a, zo 2 [.ref lA, .ref fA, .ref bA, .int (zSx (zAt σ t)), .ref kA, .int (zSn (zAt σ t)), .ref rr]), (lA, zi G 16 (zAt σ t).1), (fA, zi G 2 (zAt σ t).2.1), (bA, zi G 4 (zAt σ t).2.2.1), (kA, zb G 4 (zSK (zAt σ t)))]) (wr := [(ia, zb G M T), (oa, zb G N (zOt σ T f0 t))]) F (z_rU F (metX2_returnByte l G a lA fA bA kA (.ref rr) (zAt σ t) (T (f0 + t)) (n + t) (by omega) (zAt_inv2 hi t (by omega))) (va_cwU 1 F.hts (z_gU q152 q155 q156 q153 q11 q157) rfl rfl rfl rfl (by decide +kernel) ⟨Nat.le_of_ble_eq_true rfl, Nat.le_of_ble_eq_true rfl⟩) 0 rfl rfl rfl rfl (Nat.le_of_ble_eq_true rfl) dX2_processBytes_78 ⟨Nat.le_of_ble_eq_true rfl, Nat.le_of_ble_eq_true rfl⟩) rfl rfl rfl (fun r1 w1 h1 => ?_)
    obtain ⟨rfl, rfl⟩ := h1
    refine z_w (ws2 := [(a, zo 2 [.ref lA, .ref fA, .ref bA, .int (zSx (zAdv (zAt σ t))), .ref kA, .int (zSn (zAdv (zAt σ t))), .ref rr]), (lA, zi G 16 (zAdv (zAt σ t)).1), (fA, zi G 2 (zAdv (zAt σ t)).2.1), (bA, zi G 4 (zAdv (zAt σ t)).2.2.1), (kA, zb G 4 (zSK (zAdv (zAt σ t)))), (ia, zb G M T), (oa, zb G N (zOt σ T f0 t))]) rfl ?_
    refine z_bast (n := 82) (ws2 := [(a, zo 2 [.ref lA, .ref fA, .ref bA, .int (zSx (zAdv (zAt σ t))), .ref kA, .int (zSn (zAdv (zAt σ t))), .ref rr]), (lA, zi G 16 (zAdv (zAt σ t)).1), (fA, zi G 2 (zAdv (zAt σ t)).2.1), (bA, zi G 4 (zAdv (zAt σ t)).2.2.1), (kA, zb G 4 (zSK (zAdv (zAt σ t)))), (ia, zb G M T), (oa, zb G N (zOt σ T f0 (t + 1)))]) F 6 (zOt σ T f0 (t + 1)) rfl (vp_in_nI (by omega) (by omega)) (zOt_up σ T f0 (by omega)) dX2_processBytes_81 rfl rfl ?_
    refine z_iinc (n := 85) F 0 (nI (t + 1)) [(6, .int (nI (t + 1))), (0, .ref a), (1, .ref ia), (2, .int (nI f0)), (3, .int (nI N)), (4, .ref oa), (5, .int 0)] dX2_processBytes_82 rfl (nI_1 t) (by decide) rfl rfl ?_
    refine z_goto (tgt := 58) F dX2_processBytes_85 (by decide) ?_
    exact hnext
set_option maxHeartbeats 4000000 in
theorem metX2_reset_2 (l : Launch) (G : zG) (a lA fA bA kA b ylA yfA ybA ykA : Nat) (rst rs2 : Value) (σ τ : zS) (hK : zBy (zSK τ)) : ZMv l G yX2_reset_2 cX2_reset_2 3 (zrm 1 0 0) [.ref a, .ref b] [(a, zo 2 [.ref lA, .ref fA, .ref bA, .int (zSx σ), .ref kA, .int (zSn σ), rst]), (lA, zi G 16 σ.1), (fA, zi G 2 σ.2.1), (bA, zi G 4 σ.2.2.1), (kA, zb G 4 (zSK σ)), (b, zo 2 [.ref ylA, .ref yfA, .ref ybA, .int (zSx τ), .ref ykA, .int (zSn τ), rs2]), (ylA, zi G 16 τ.1), (yfA, zi G 2 τ.2.1), (ybA, zi G 4 τ.2.2.1), (ykA, zb G 4 (zSK τ))] (fun w => w = [(a, zo 2 [.ref lA, .ref fA, .ref bA, .int (zSx τ), .ref kA, .int (zSn τ), .ref b]), (lA, zi G 16 τ.1), (fA, zi G 2 τ.2.1), (bA, zi G 4 τ.2.2.1), (kA, zb G 4 (zSK τ)), (b, zo 2 [.ref ylA, .ref yfA, .ref ybA, .int (zSx τ), .ref ykA, .int (zSn τ), rs2]), (ylA, zi G 16 τ.1), (yfA, zi G 2 τ.2.1), (ybA, zi G 4 τ.2.2.1), (ykA, zb G 4 (zSK τ))]) := by
  refine z_enter "Zuc128CoreEngine" "reset" [(0, .ref a), (1, .ref b)] (by decide) rfl rfl rfl (Nat.le_of_ble_eq_true rfl) ?_
  intro p e s m args below meth c F
  refine z_aload_n (n := 1) F 1 dX2_reset_2_0 rfl rfl rfl ?_
  refine z_castE (n := 4) F 5 rfl q243 dX2_reset_2_1 rfl ?_
  refine z_astore_n (n := 5) F [(2, .ref b), (0, .ref a), (1, .ref b)] dX2_reset_2_4 rfl (by decide) rfl rfl ?_
  refine z_aload_n (n := 6) F 0 dX2_reset_2_5 rfl rfl rfl ?_
  refine z_get (n := 9) F 5 0 in_X3 rfl rfl (by decide) q271 rfl rfl dX2_reset_2_6 rfl ?_
  refine z_iconst (n := 10) F 0 dX2_reset_2_9 (by decide) rfl ?_
  refine z_aload_n (n := 11) F 1 dX2_reset_2_10 rfl rfl rfl ?_
  refine z_get (n := 14) F 0 0 in_X3 rfl rfl (by decide) q271 rfl rfl dX2_reset_2_11 rfl ?_
  refine z_iconst (n := 15) F 0 dX2_reset_2_14 (by decide) rfl ?_
  refine z_aload_n (n := 16) F 1 dX2_reset_2_15 rfl rfl rfl ?_
  refine z_get (n := 19) F 0 0 in_X3 rfl rfl (by decide) q271 rfl rfl dX2_reset_2_16 rfl ?_
  refine z_alenI (n := 20) F 1 16 rfl (by decide) dX2_reset_2_19 rfl ?_
  refine z_copy0I (n := 23) (ws2 := [(a, zo 2 [.ref lA, .ref fA, .ref bA, .int (zSx σ), .ref kA, .int (zSn σ), rst]), (lA, zi G 16 τ.1), (fA, zi G 2 σ.2.1), (bA, zi G 4 σ.2.2.1), (kA, zb G 4 (zSK σ)), (b, zo 2 [.ref ylA, .ref yfA, .ref ybA, .int (zSx τ), .ref ykA, .int (zSn τ), rs2]), (ylA, zi G 16 τ.1), (yfA, zi G 2 τ.2.1), (ybA, zi G 4 τ.2.2.1), (ykA, zb G 4 (zSK τ))]) F 6 1 q244 (by decide) rfl rfl rfl rfl rfl (Nat.le_of_ble_eq_true rfl) (Nat.le_of_ble_eq_true rfl) dX2_reset_2_20 rfl rfl ?_
  refine z_aload_n (n := 24) F 0 dX2_reset_2_23 rfl rfl rfl ?_
  refine z_get (n := 27) F 5 1 in_X3 rfl rfl (by decide) q272 rfl rfl dX2_reset_2_24 rfl ?_
  refine z_iconst (n := 28) F 0 dX2_reset_2_27 (by decide) rfl ?_
  refine z_aload_n (n := 29) F 1 dX2_reset_2_28 rfl rfl rfl ?_
  refine z_get (n := 32) F 0 1 in_X3 rfl rfl (by decide) q272 rfl rfl dX2_reset_2_29 rfl ?_
  refine z_iconst (n := 33) F 0 dX2_reset_2_32 (by decide) rfl ?_
  refine z_aload_n (n := 34) F 1 dX2_reset_2_33 rfl rfl rfl ?_
  refine z_get (n := 37) F 0 1 in_X3 rfl rfl (by decide) q272 rfl rfl dX2_reset_2_34 rfl ?_
  refine z_alenI (n := 38) F 2 2 rfl (by decide) dX2_reset_2_37 rfl ?_
  refine z_copy0I (n := 41) (ws2 := [(a, zo 2 [.ref lA, .ref fA, .ref bA, .int (zSx σ), .ref kA, .int (zSn σ), rst]), (lA, zi G 16 τ.1), (fA, zi G 2 τ.2.1), (bA, zi G 4 σ.2.2.1), (kA, zb G 4 (zSK σ)), (b, zo 2 [.ref ylA, .ref yfA, .ref ybA, .int (zSx τ), .ref ykA, .int (zSn τ), rs2]), (ylA, zi G 16 τ.1), (yfA, zi G 2 τ.2.1), (ybA, zi G 4 τ.2.2.1), (ykA, zb G 4 (zSK τ))]) F 7 2 q244 (by decide) rfl rfl rfl rfl rfl (Nat.le_of_ble_eq_true rfl) (Nat.le_of_ble_eq_true rfl) dX2_reset_2_38 rfl rfl ?_
  refine z_aload_n (n := 42) F 0 dX2_reset_2_41 rfl rfl rfl ?_
  refine z_get (n := 45) F 5 2 in_X3 rfl rfl (by decide) q273 rfl rfl dX2_reset_2_42 rfl ?_
  refine z_iconst (n := 46) F 0 dX2_reset_2_45 (by decide) rfl ?_
  refine z_aload_n (n := 47) F 1 dX2_reset_2_46 rfl rfl rfl ?_
  refine z_get (n := 50) F 0 2 in_X3 rfl rfl (by decide) q273 rfl rfl dX2_reset_2_47 rfl ?_
  refine z_iconst (n := 51) F 0 dX2_reset_2_50 (by decide) rfl ?_
  refine z_aload_n (n := 52) F 1 dX2_reset_2_51 rfl rfl rfl ?_
  refine z_get (n := 55) F 0 2 in_X3 rfl rfl (by decide) q273 rfl rfl dX2_reset_2_52 rfl ?_
  refine z_alenI (n := 56) F 3 4 rfl (by decide) dX2_reset_2_55 rfl ?_
  refine z_copy0I (n := 59) (ws2 := [(a, zo 2 [.ref lA, .ref fA, .ref bA, .int (zSx σ), .ref kA, .int (zSn σ), rst]), (lA, zi G 16 τ.1), (fA, zi G 2 τ.2.1), (bA, zi G 4 τ.2.2.1), (kA, zb G 4 (zSK σ)), (b, zo 2 [.ref ylA, .ref yfA, .ref ybA, .int (zSx τ), .ref ykA, .int (zSn τ), rs2]), (ylA, zi G 16 τ.1), (yfA, zi G 2 τ.2.1), (ybA, zi G 4 τ.2.2.1), (ykA, zb G 4 (zSK τ))]) F 8 3 q244 (by decide) rfl rfl rfl rfl rfl (Nat.le_of_ble_eq_true rfl) (Nat.le_of_ble_eq_true rfl) dX2_reset_2_56 rfl rfl ?_
  refine z_aload_n (n := 60) F 0 dX2_reset_2_59 rfl rfl rfl ?_
  refine z_get (n := 63) F 5 4 in_X3 rfl rfl (by decide) q275 rfl rfl dX2_reset_2_60 rfl ?_
  refine z_iconst (n := 64) F 0 dX2_reset_2_63 (by decide) rfl ?_
  refine z_aload_n (n := 65) F 1 dX2_reset_2_64 rfl rfl rfl ?_
  refine z_get (n := 68) F 0 4 in_X3 rfl rfl (by decide) q275 rfl rfl dX2_reset_2_65 rfl ?_
  refine z_iconst (n := 69) F 0 dX2_reset_2_68 (by decide) rfl ?_
  refine z_aload_n (n := 70) F 1 dX2_reset_2_69 rfl rfl rfl ?_
  refine z_get (n := 73) F 0 4 in_X3 rfl rfl (by decide) q275 rfl rfl dX2_reset_2_70 rfl ?_
  refine z_alenB (n := 74) F 4 4 rfl (by decide) dX2_reset_2_73 rfl ?_
  refine z_copy0B (n := 77) (ws2 := [(a, zo 2 [.ref lA, .ref fA, .ref bA, .int (zSx σ), .ref kA, .int (zSn σ), rst]), (lA, zi G 16 τ.1), (fA, zi G 2 τ.2.1), (bA, zi G 4 τ.2.2.1), (kA, zb G 4 (zSK τ)), (b, zo 2 [.ref ylA, .ref yfA, .ref ybA, .int (zSx τ), .ref ykA, .int (zSn τ), rs2]), (ylA, zi G 16 τ.1), (yfA, zi G 2 τ.2.1), (ybA, zi G 4 τ.2.2.1), (ykA, zb G 4 (zSK τ))]) F 9 4 q244 (by decide) rfl rfl hK rfl rfl rfl (Nat.le_of_ble_eq_true rfl) (Nat.le_of_ble_eq_true rfl) dX2_reset_2_74 rfl rfl ?_
  refine z_aload_n (n := 78) F 1 dX2_reset_2_77 rfl rfl rfl ?_
  refine z_aload_n (n := 79) F 0 dX2_reset_2_78 rfl rfl rfl ?_
  refine z_get (n := 82) F 5 3 in_X3 rfl rfl (by decide) q274 rfl rfl dX2_reset_2_79 rfl ?_
  refine z_put (n := 85) (ws2 := [(a, zo 2 [.ref lA, .ref fA, .ref bA, .int (zSx τ), .ref kA, .int (zSn σ), rst]), (lA, zi G 16 τ.1), (fA, zi G 2 τ.2.1), (bA, zi G 4 τ.2.2.1), (kA, zb G 4 (zSK τ)), (b, zo 2 [.ref ylA, .ref yfA, .ref ybA, .int (zSx τ), .ref ykA, .int (zSn τ), rs2]), (ylA, zi G 16 τ.1), (yfA, zi G 2 τ.2.1), (ybA, zi G 4 τ.2.2.1), (ykA, zb G 4 (zSK τ))]) F 0 3 tyX3 in_X3 tyX3_ok nmX3 rfl rfl (by decide) q274 rfl rfl rfl rfl rfl (Nat.le_of_ble_eq_true rfl) dX2_reset_2_82 rfl rfl ?_
  refine z_aload_n (n := 86) F 1 dX2_reset_2_85 rfl rfl rfl ?_
  refine z_aload_n (n := 87) F 0 dX2_reset_2_86 rfl rfl rfl ?_
  refine z_get (n := 90) F 5 5 in_X3 rfl rfl (by decide) q276 rfl rfl dX2_reset_2_87 rfl ?_
  refine z_put (n := 93) (ws2 := [(a, zo 2 [.ref lA, .ref fA, .ref bA, .int (zSx τ), .ref kA, .int (zSn τ), rst]), (lA, zi G 16 τ.1), (fA, zi G 2 τ.2.1), (bA, zi G 4 τ.2.2.1), (kA, zb G 4 (zSK τ)), (b, zo 2 [.ref ylA, .ref yfA, .ref ybA, .int (zSx τ), .ref ykA, .int (zSn τ), rs2]), (ylA, zi G 16 τ.1), (yfA, zi G 2 τ.2.1), (ybA, zi G 4 τ.2.2.1), (ykA, zb G 4 (zSK τ))]) F 0 5 tyX3 in_X3 tyX3_ok nmX3 rfl rfl (by decide) q276 rfl rfl rfl rfl rfl (Nat.le_of_ble_eq_true rfl) dX2_reset_2_90 rfl rfl ?_
  refine z_aload_n (n := 94) F 1 dX2_reset_2_93 rfl rfl rfl ?_
  refine z_aload_n (n := 95) F 0 dX2_reset_2_94 rfl rfl rfl ?_
  refine z_put (n := 98) (ws2 := [(a, zo 2 [.ref lA, .ref fA, .ref bA, .int (zSx τ), .ref kA, .int (zSn τ), .ref b]), (lA, zi G 16 τ.1), (fA, zi G 2 τ.2.1), (bA, zi G 4 τ.2.2.1), (kA, zb G 4 (zSK τ)), (b, zo 2 [.ref ylA, .ref yfA, .ref ybA, .int (zSx τ), .ref ykA, .int (zSn τ), rs2]), (ylA, zi G 16 τ.1), (yfA, zi G 2 τ.2.1), (ybA, zi G 4 τ.2.2.1), (ykA, zb G 4 (zSK τ))]) F 0 6 tyX3 in_X3 tyX3_ok nmX3 rfl rfl (by decide) q277 rfl rfl rfl rfl rfl (Nat.le_of_ble_eq_true rfl) dX2_reset_2_95 rfl rfl ?_
  exact z_vret F rfl (Nat.le_of_ble_eq_true rfl) (Nat.le_of_ble_eq_true rfl) dX2_reset_2_98
set_option maxHeartbeats 4000000 in
theorem metX2_reset (l : Launch) (G : zG) (a lA fA bA kA b ylA yfA ybA ykA : Nat) (rs2 : Value) (σ τ : zS) (hK : zBy (zSK τ)) : ZMv l G yX2_reset cX2_reset 1 (zrm 2 0 0) [.ref a] [(a, zo 2 [.ref lA, .ref fA, .ref bA, .int (zSx σ), .ref kA, .int (zSn σ), .ref b]), (lA, zi G 16 σ.1), (fA, zi G 2 σ.2.1), (bA, zi G 4 σ.2.2.1), (kA, zb G 4 (zSK σ)), (b, zo 2 [.ref ylA, .ref yfA, .ref ybA, .int (zSx τ), .ref ykA, .int (zSn τ), rs2]), (ylA, zi G 16 τ.1), (yfA, zi G 2 τ.2.1), (ybA, zi G 4 τ.2.2.1), (ykA, zb G 4 (zSK τ))] (fun w => w = [(a, zo 2 [.ref lA, .ref fA, .ref bA, .int (zSx τ), .ref kA, .int (zSn τ), .ref b]), (lA, zi G 16 τ.1), (fA, zi G 2 τ.2.1), (bA, zi G 4 τ.2.2.1), (kA, zb G 4 (zSK τ)), (b, zo 2 [.ref ylA, .ref yfA, .ref ybA, .int (zSx τ), .ref ykA, .int (zSn τ), rs2]), (ylA, zi G 16 τ.1), (yfA, zi G 2 τ.2.1), (ybA, zi G 4 τ.2.2.1), (ykA, zb G 4 (zSK τ))]) := by
  refine z_enter "Zuc128CoreEngine" "reset" [(0, .ref a)] (by decide) rfl rfl rfl (Nat.le_of_ble_eq_true rfl) ?_
  intro p e s m args below meth c F
  refine z_aload_n (n := 1) F 0 dX2_reset_0 rfl rfl rfl ?_
  refine z_get (n := 4) F 0 6 in_X3 rfl rfl (by decide) q277 rfl rfl dX2_reset_1 rfl ?_
  refine z_ifnull (n := 7) F dX2_reset_4 rfl ?_
  refine z_aload_n (n := 8) F 0 dX2_reset_7 rfl rfl rfl ?_
  refine z_aload_n (n := 9) F 0 dX2_reset_8 rfl rfl rfl ?_
  refine z_get (n := 12) F 0 6 in_X3 rfl rfl (by decide) q277 rfl rfl dX2_reset_9 rfl ?_
  refine z_pick (ws2 := [(a, zo 2 [.ref lA, .ref fA, .ref bA, .int (zSx σ), .ref kA, .int (zSn σ), .ref b]), (lA, zi G 16 σ.1), (fA, zi G 2 σ.2.1), (bA, zi G 4 σ.2.2.1), (kA, zb G 4 (zSK σ)), (b, zo 2 [.ref ylA, .ref yfA, .ref ybA, .int (zSx τ), .ref ykA, .int (zSn τ), rs2]), (ylA, zi G 16 τ.1), (yfA, zi G 2 τ.2.1), (ybA, zi G 4 τ.2.2.1), (ykA, zb G 4 (zSK τ))] ++ []) [0, 1, 2, 3, 4, 5, 6, 7, 8, 9] rfl (by decide) ?_
  refine z_cv (n := 15) (cells2 := 0) (slots2 := 0) (wc := [(a, zo 2 [.ref lA, .ref fA, .ref bA, .int (zSx σ), .ref kA, .int (zSn σ), .ref b]), (lA, zi G 16 σ.1), (fA, zi G 2 σ.2.1), (bA, zi G 4 σ.2.2.1), (kA, zb G 4 (zSK σ)), (b, zo 2 [.ref ylA, .ref yfA, .ref ybA, .int (zSx τ), .ref ykA, .int (zSn τ), rs2]), (ylA, zi G 16 τ.1), (yfA, zi G 2 τ.2.1), (ybA, zi G 4 τ.2.2.1), (ykA, zb G 4 (zSK τ))]) (wr := []) F (z_rU F (metX2_reset_2 l G a lA fA bA kA b ylA yfA ybA ykA (.ref b) rs2 σ τ hK) (va_cwU 1 F.hts (z_gU q237 q240 q241 q238 q11 q242) rfl rfl rfl rfl (by decide +kernel) ⟨Nat.le_of_ble_eq_true rfl, Nat.le_of_ble_eq_true rfl⟩) 0 rfl rfl rfl rfl (Nat.le_of_ble_eq_true rfl) dX2_reset_12 ⟨Nat.le_of_ble_eq_true rfl, Nat.le_of_ble_eq_true rfl⟩) rfl rfl rfl (fun w1 h1 => ?_)
  obtain rfl := h1
  refine z_w (ws2 := [(a, zo 2 [.ref lA, .ref fA, .ref bA, .int (zSx τ), .ref kA, .int (zSn τ), .ref b]), (lA, zi G 16 τ.1), (fA, zi G 2 τ.2.1), (bA, zi G 4 τ.2.2.1), (kA, zb G 4 (zSK τ)), (b, zo 2 [.ref ylA, .ref yfA, .ref ybA, .int (zSx τ), .ref ykA, .int (zSn τ), rs2]), (ylA, zi G 16 τ.1), (yfA, zi G 2 τ.2.1), (ybA, zi G 4 τ.2.2.1), (ykA, zb G 4 (zSK τ))]) rfl ?_
  exact z_vret F rfl (Nat.le_of_ble_eq_true rfl) (Nat.le_of_ble_eq_true rfl) dX2_reset_15
set_option maxHeartbeats 4000000 in
theorem metX2_init (l : Launch) (G : zG) (a : Nat) : ZMv l G yX2_init cX2_init 1 (zrm 1 4 26) [.ref a] [(a, zo 2 [.null, .null, .null, .int 0, .null, .int 0, .null])] (fun w => ∃ lA fA bA kA : Nat, w = [(a, zo 2 [.ref lA, .ref fA, .ref bA, .int 0, .ref kA, .int 0, .null]), (lA, zi G 16 z00), (fA, zi G 2 z00), (bA, zi G 4 z00), (kA, zb G 4 z00)]) := by
  refine z_enter "Zuc128CoreEngine" "<init>" [(0, .ref a)] (by decide) rfl rfl rfl (Nat.le_of_ble_eq_true rfl) ?_
  intro p e s m args below meth c F
  refine z_aload_n (n := 1) F 0 dX2_init_0 rfl rfl rfl ?_
  refine z_objI (n := 4) F q270 (Nat.le_of_ble_eq_true rfl) (Nat.le_of_ble_eq_true rfl) dX2_init_1 rfl ?_
  refine z_aload_n (n := 5) F 0 dX2_init_4 rfl rfl rfl ?_
  refine z_bipush (n := 7) F 16 dX2_init_5 (by decide) rfl ?_
  refine z_newI (n := 9) (cells2 := 1) (slots2 := 16) F 16 (by decide) rfl (Nat.le_of_ble_eq_true rfl) (Nat.le_of_ble_eq_true rfl) (Nat.le_of_ble_eq_true rfl) dX2_init_7 rfl rfl rfl (fun q1 => ?_)
  refine z_w (ws2 := [(a, zo 2 [.null, .null, .null, .int 0, .null, .int 0, .null]), (q1, zi G 16 z00)]) rfl ?_
  refine z_putF (n := 12) (ws2 := [(a, zo 2 [.ref q1, .null, .null, .int 0, .null, .int 0, .null]), (q1, zi G 16 z00)]) F 0 0 tyX3 in_X3 tyX3_ok nmX3 rfl rfl (by decide) q271 rfl rfl rfl rfl rfl rfl rfl (Nat.le_of_ble_eq_true rfl) dX2_init_9 rfl rfl ?_
  refine z_aload_n (n := 13) F 0 dX2_init_12 rfl rfl rfl ?_
  refine z_iconst (n := 14) F 2 dX2_init_13 (by decide) rfl ?_
  refine z_newI (n := 16) (cells2 := 2) (slots2 := 18) F 2 (by decide) rfl (Nat.le_of_ble_eq_true rfl) (Nat.le_of_ble_eq_true rfl) (Nat.le_of_ble_eq_true rfl) dX2_init_14 rfl rfl rfl (fun q2 => ?_)
  refine z_w (ws2 := [(a, zo 2 [.ref q1, .null, .null, .int 0, .null, .int 0, .null]), (q1, zi G 16 z00), (q2, zi G 2 z00)]) rfl ?_
  refine z_putF (n := 19) (ws2 := [(a, zo 2 [.ref q1, .ref q2, .null, .int 0, .null, .int 0, .null]), (q1, zi G 16 z00), (q2, zi G 2 z00)]) F 0 1 tyX3 in_X3 tyX3_ok nmX3 rfl rfl (by decide) q272 rfl rfl rfl rfl rfl rfl rfl (Nat.le_of_ble_eq_true rfl) dX2_init_16 rfl rfl ?_
  refine z_aload_n (n := 20) F 0 dX2_init_19 rfl rfl rfl ?_
  refine z_iconst (n := 21) F 4 dX2_init_20 (by decide) rfl ?_
  refine z_newI (n := 23) (cells2 := 3) (slots2 := 22) F 4 (by decide) rfl (Nat.le_of_ble_eq_true rfl) (Nat.le_of_ble_eq_true rfl) (Nat.le_of_ble_eq_true rfl) dX2_init_21 rfl rfl rfl (fun q3 => ?_)
  refine z_w (ws2 := [(a, zo 2 [.ref q1, .ref q2, .null, .int 0, .null, .int 0, .null]), (q1, zi G 16 z00), (q2, zi G 2 z00), (q3, zi G 4 z00)]) rfl ?_
  refine z_putF (n := 26) (ws2 := [(a, zo 2 [.ref q1, .ref q2, .ref q3, .int 0, .null, .int 0, .null]), (q1, zi G 16 z00), (q2, zi G 2 z00), (q3, zi G 4 z00)]) F 0 2 tyX3 in_X3 tyX3_ok nmX3 rfl rfl (by decide) q273 rfl rfl rfl rfl rfl rfl rfl (Nat.le_of_ble_eq_true rfl) dX2_init_23 rfl rfl ?_
  refine z_aload_n (n := 27) F 0 dX2_init_26 rfl rfl rfl ?_
  refine z_iconst (n := 28) F 4 dX2_init_27 (by decide) rfl ?_
  refine z_newB (n := 30) (cells2 := 4) (slots2 := 26) F 4 (by decide) rfl (Nat.le_of_ble_eq_true rfl) (Nat.le_of_ble_eq_true rfl) (Nat.le_of_ble_eq_true rfl) dX2_init_28 rfl rfl rfl (fun q4 => ?_)
  refine z_w (ws2 := [(a, zo 2 [.ref q1, .ref q2, .ref q3, .int 0, .null, .int 0, .null]), (q1, zi G 16 z00), (q2, zi G 2 z00), (q3, zi G 4 z00), (q4, zb G 4 z00)]) rfl ?_
  refine z_putF (n := 33) (ws2 := [(a, zo 2 [.ref q1, .ref q2, .ref q3, .int 0, .ref q4, .int 0, .null]), (q1, zi G 16 z00), (q2, zi G 2 z00), (q3, zi G 4 z00), (q4, zb G 4 z00)]) F 0 4 tyX3 in_X3 tyX3_ok nmX3 rfl rfl (by decide) q275 rfl rfl rfl rfl rfl rfl rfl (Nat.le_of_ble_eq_true rfl) dX2_init_30 rfl rfl ?_
  exact z_vret F ⟨q1, q2, q3, q4, rfl⟩ (Nat.le_of_ble_eq_true rfl) (Nat.le_of_ble_eq_true rfl) dX2_init_33
set_option maxHeartbeats 4000000 in
theorem metX3_init (l : Launch) (G : zG) (a : Nat) : ZMv l G yX3_init cX3_init 1 (zrm 2 4 26) [.ref a] [(a, zo 2 [.null, .null, .null, .int 0, .null, .int 0, .null])] (fun w => ∃ lA fA bA kA : Nat, w = [(a, zo 2 [.ref lA, .ref fA, .ref bA, .int 0, .ref kA, .int 0, .null]), (lA, zi G 16 z00), (fA, zi G 2 z00), (bA, zi G 4 z00), (kA, zb G 4 z00)]) := by
  refine z_enter "Zuc128Engine" "<init>" [(0, .ref a)] (by decide) rfl rfl rfl (Nat.le_of_ble_eq_true rfl) ?_
  intro p e s m args below meth c F
  refine z_aload_n (n := 1) F 0 dX3_init_0 rfl rfl rfl ?_
  refine z_pick (ws2 := [(a, zo 2 [.null, .null, .null, .int 0, .null, .int 0, .null])] ++ []) [0] rfl (by decide) ?_
  refine z_cv (n := 4) (cells2 := 4) (slots2 := 26) (wc := [(a, zo 2 [.null, .null, .null, .int 0, .null, .int 0, .null])]) (wr := []) F (z_rI F (metX2_init l G a) (cwI 0 F.hts (lw_meth q269) rfl rfl rfl (F.hts _ q11) (F.hts _ q267) (F.hts _ q268) rfl (by decide +kernel) ⟨Nat.le_of_ble_eq_true rfl, Nat.le_of_ble_eq_true rfl⟩) rfl rfl (Nat.le_of_ble_eq_true rfl) dX3_init_1 ⟨Nat.le_of_ble_eq_true rfl, Nat.le_of_ble_eq_true rfl⟩) rfl rfl rfl (fun w1 h1 => ?_)
  obtain ⟨lA, fA, bA, kA, rfl⟩ := h1
  refine z_w (ws2 := [(a, zo 2 [.ref lA, .ref fA, .ref bA, .int 0, .ref kA, .int 0, .null]), (lA, zi G 16 z00), (fA, zi G 2 z00), (bA, zi G 4 z00), (kA, zb G 4 z00)]) rfl ?_
  exact z_vret F ⟨lA, fA, bA, kA, rfl⟩ (Nat.le_of_ble_eq_true rfl) (Nat.le_of_ble_eq_true rfl) dX3_init_4
set_option maxHeartbeats 4000000 in
theorem metX2_init_3 (l : Launch) (G : zG) (a b ylA yfA ybA ykA : Nat) (rs2 : Value) (τ : zS) (hK : zBy (zSK τ)) : ZMv l G yX2_init_3 cX2_init_3 2 (zrm 2 4 26) [.ref a, .ref b] [(a, zo 2 [.null, .null, .null, .int 0, .null, .int 0, .null]), (b, zo 2 [.ref ylA, .ref yfA, .ref ybA, .int (zSx τ), .ref ykA, .int (zSn τ), rs2]), (ylA, zi G 16 τ.1), (yfA, zi G 2 τ.2.1), (ybA, zi G 4 τ.2.2.1), (ykA, zb G 4 (zSK τ))] (fun w => ∃ lA fA bA kA : Nat, w = [(a, zo 2 [.ref lA, .ref fA, .ref bA, .int (zSx τ), .ref kA, .int (zSn τ), .ref b]), (lA, zi G 16 τ.1), (fA, zi G 2 τ.2.1), (bA, zi G 4 τ.2.2.1), (kA, zb G 4 (zSK τ)), (b, zo 2 [.ref ylA, .ref yfA, .ref ybA, .int (zSx τ), .ref ykA, .int (zSn τ), rs2]), (ylA, zi G 16 τ.1), (yfA, zi G 2 τ.2.1), (ybA, zi G 4 τ.2.2.1), (ykA, zb G 4 (zSK τ))]) := by
  refine z_enter "Zuc128CoreEngine" "<init>" [(0, .ref a), (1, .ref b)] (by decide) rfl rfl rfl (Nat.le_of_ble_eq_true rfl) ?_
  intro p e s m args below meth c F
  refine z_aload_n (n := 1) F 0 dX2_init_3_0 rfl rfl rfl ?_
  refine z_objI (n := 4) F q270 (Nat.le_of_ble_eq_true rfl) (Nat.le_of_ble_eq_true rfl) dX2_init_3_1 rfl ?_
  refine z_aload_n (n := 5) F 0 dX2_init_3_4 rfl rfl rfl ?_
  refine z_bipush (n := 7) F 16 dX2_init_3_5 (by decide) rfl ?_
  refine z_newI (n := 9) (cells2 := 1) (slots2 := 16) F 16 (by decide) rfl (Nat.le_of_ble_eq_true rfl) (Nat.le_of_ble_eq_true rfl) (Nat.le_of_ble_eq_true rfl) dX2_init_3_7 rfl rfl rfl (fun q1 => ?_)
  refine z_w (ws2 := [(a, zo 2 [.null, .null, .null, .int 0, .null, .int 0, .null]), (b, zo 2 [.ref ylA, .ref yfA, .ref ybA, .int (zSx τ), .ref ykA, .int (zSn τ), rs2]), (ylA, zi G 16 τ.1), (yfA, zi G 2 τ.2.1), (ybA, zi G 4 τ.2.2.1), (ykA, zb G 4 (zSK τ)), (q1, zi G 16 z00)]) rfl ?_
  refine z_putF (n := 12) (ws2 := [(a, zo 2 [.ref q1, .null, .null, .int 0, .null, .int 0, .null]), (b, zo 2 [.ref ylA, .ref yfA, .ref ybA, .int (zSx τ), .ref ykA, .int (zSn τ), rs2]), (ylA, zi G 16 τ.1), (yfA, zi G 2 τ.2.1), (ybA, zi G 4 τ.2.2.1), (ykA, zb G 4 (zSK τ)), (q1, zi G 16 z00)]) F 0 0 tyX3 in_X3 tyX3_ok nmX3 rfl rfl (by decide) q271 rfl rfl rfl rfl rfl rfl rfl (Nat.le_of_ble_eq_true rfl) dX2_init_3_9 rfl rfl ?_
  refine z_aload_n (n := 13) F 0 dX2_init_3_12 rfl rfl rfl ?_
  refine z_iconst (n := 14) F 2 dX2_init_3_13 (by decide) rfl ?_
  refine z_newI (n := 16) (cells2 := 2) (slots2 := 18) F 2 (by decide) rfl (Nat.le_of_ble_eq_true rfl) (Nat.le_of_ble_eq_true rfl) (Nat.le_of_ble_eq_true rfl) dX2_init_3_14 rfl rfl rfl (fun q2 => ?_)
  refine z_w (ws2 := [(a, zo 2 [.ref q1, .null, .null, .int 0, .null, .int 0, .null]), (b, zo 2 [.ref ylA, .ref yfA, .ref ybA, .int (zSx τ), .ref ykA, .int (zSn τ), rs2]), (ylA, zi G 16 τ.1), (yfA, zi G 2 τ.2.1), (ybA, zi G 4 τ.2.2.1), (ykA, zb G 4 (zSK τ)), (q1, zi G 16 z00), (q2, zi G 2 z00)]) rfl ?_
  refine z_putF (n := 19) (ws2 := [(a, zo 2 [.ref q1, .ref q2, .null, .int 0, .null, .int 0, .null]), (b, zo 2 [.ref ylA, .ref yfA, .ref ybA, .int (zSx τ), .ref ykA, .int (zSn τ), rs2]), (ylA, zi G 16 τ.1), (yfA, zi G 2 τ.2.1), (ybA, zi G 4 τ.2.2.1), (ykA, zb G 4 (zSK τ)), (q1, zi G 16 z00), (q2, zi G 2 z00)]) F 0 1 tyX3 in_X3 tyX3_ok nmX3 rfl rfl (by decide) q272 rfl rfl rfl rfl rfl rfl rfl (Nat.le_of_ble_eq_true rfl) dX2_init_3_16 rfl rfl ?_
  refine z_aload_n (n := 20) F 0 dX2_init_3_19 rfl rfl rfl ?_
  refine z_iconst (n := 21) F 4 dX2_init_3_20 (by decide) rfl ?_
  refine z_newI (n := 23) (cells2 := 3) (slots2 := 22) F 4 (by decide) rfl (Nat.le_of_ble_eq_true rfl) (Nat.le_of_ble_eq_true rfl) (Nat.le_of_ble_eq_true rfl) dX2_init_3_21 rfl rfl rfl (fun q3 => ?_)
  refine z_w (ws2 := [(a, zo 2 [.ref q1, .ref q2, .null, .int 0, .null, .int 0, .null]), (b, zo 2 [.ref ylA, .ref yfA, .ref ybA, .int (zSx τ), .ref ykA, .int (zSn τ), rs2]), (ylA, zi G 16 τ.1), (yfA, zi G 2 τ.2.1), (ybA, zi G 4 τ.2.2.1), (ykA, zb G 4 (zSK τ)), (q1, zi G 16 z00), (q2, zi G 2 z00), (q3, zi G 4 z00)]) rfl ?_
  refine z_putF (n := 26) (ws2 := [(a, zo 2 [.ref q1, .ref q2, .ref q3, .int 0, .null, .int 0, .null]), (b, zo 2 [.ref ylA, .ref yfA, .ref ybA, .int (zSx τ), .ref ykA, .int (zSn τ), rs2]), (ylA, zi G 16 τ.1), (yfA, zi G 2 τ.2.1), (ybA, zi G 4 τ.2.2.1), (ykA, zb G 4 (zSK τ)), (q1, zi G 16 z00), (q2, zi G 2 z00), (q3, zi G 4 z00)]) F 0 2 tyX3 in_X3 tyX3_ok nmX3 rfl rfl (by decide) q273 rfl rfl rfl rfl rfl rfl rfl (Nat.le_of_ble_eq_true rfl) dX2_init_3_23 rfl rfl ?_
  refine z_aload_n (n := 27) F 0 dX2_init_3_26 rfl rfl rfl ?_
  refine z_iconst (n := 28) F 4 dX2_init_3_27 (by decide) rfl ?_
  refine z_newB (n := 30) (cells2 := 4) (slots2 := 26) F 4 (by decide) rfl (Nat.le_of_ble_eq_true rfl) (Nat.le_of_ble_eq_true rfl) (Nat.le_of_ble_eq_true rfl) dX2_init_3_28 rfl rfl rfl (fun q4 => ?_)
  refine z_w (ws2 := [(a, zo 2 [.ref q1, .ref q2, .ref q3, .int 0, .null, .int 0, .null]), (b, zo 2 [.ref ylA, .ref yfA, .ref ybA, .int (zSx τ), .ref ykA, .int (zSn τ), rs2]), (ylA, zi G 16 τ.1), (yfA, zi G 2 τ.2.1), (ybA, zi G 4 τ.2.2.1), (ykA, zb G 4 (zSK τ)), (q1, zi G 16 z00), (q2, zi G 2 z00), (q3, zi G 4 z00), (q4, zb G 4 z00)]) rfl ?_
  refine z_putF (n := 33) (ws2 := [(a, zo 2 [.ref q1, .ref q2, .ref q3, .int 0, .ref q4, .int 0, .null]), (b, zo 2 [.ref ylA, .ref yfA, .ref ybA, .int (zSx τ), .ref ykA, .int (zSn τ), rs2]), (ylA, zi G 16 τ.1), (yfA, zi G 2 τ.2.1), (ybA, zi G 4 τ.2.2.1), (ykA, zb G 4 (zSK τ)), (q1, zi G 16 z00), (q2, zi G 2 z00), (q3, zi G 4 z00), (q4, zb G 4 z00)]) F 0 4 tyX3 in_X3 tyX3_ok nmX3 rfl rfl (by decide) q275 rfl rfl rfl rfl rfl rfl rfl (Nat.le_of_ble_eq_true rfl) dX2_init_3_30 rfl rfl ?_
  refine z_aload_n (n := 34) F 0 dX2_init_3_33 rfl rfl rfl ?_
  refine z_aload_n (n := 35) F 1 dX2_init_3_34 rfl rfl rfl ?_
  refine z_pick (ws2 := [(a, zo 2 [.ref q1, .ref q2, .ref q3, .int 0, .ref q4, .int 0, .null]), (q1, zi G 16 z00), (q2, zi G 2 z00), (q3, zi G 4 z00), (q4, zb G 4 z00), (b, zo 2 [.ref ylA, .ref yfA, .ref ybA, .int (zSx τ), .ref ykA, .int (zSn τ), rs2]), (ylA, zi G 16 τ.1), (yfA, zi G 2 τ.2.1), (ybA, zi G 4 τ.2.2.1), (ykA, zb G 4 (zSK τ))]) [0, 6, 7, 8, 9, 1, 2, 3, 4, 5] rfl (by decide) ?_
  refine z_pick (ws2 := [(a, zo 2 [.ref q1, .ref q2, .ref q3, .int 0, .ref q4, .int 0, .null]), (q1, zi G 16 z00), (q2, zi G 2 z00), (q3, zi G 4 z00), (q4, zb G 4 z00), (b, zo 2 [.ref ylA, .ref yfA, .ref ybA, .int (zSx τ), .ref ykA, .int (zSn τ), rs2]), (ylA, zi G 16 τ.1), (yfA, zi G 2 τ.2.1), (ybA, zi G 4 τ.2.2.1), (ykA, zb G 4 (zSK τ))] ++ []) [0, 1, 2, 3, 4, 5, 6, 7, 8, 9] rfl (by decide) ?_
  refine z_cv (n := 38) (cells2 := 4) (slots2 := 26) (wc := [(a, zo 2 [.ref q1, .ref q2, .ref q3, .int 0, .ref q4, .int 0, .null]), (q1, zi G 16 z00), (q2, zi G 2 z00), (q3, zi G 4 z00), (q4, zb G 4 z00), (b, zo 2 [.ref ylA, .ref yfA, .ref ybA, .int (zSx τ), .ref ykA, .int (zSn τ), rs2]), (ylA, zi G 16 τ.1), (yfA, zi G 2 τ.2.1), (ybA, zi G 4 τ.2.2.1), (ykA, zb G 4 (zSK τ))]) (wr := []) F (z_rU F (metX2_reset_2 l G a q1 q2 q3 q4 b ylA yfA ybA ykA .null rs2 (z00, z00, z00, 0, z00, 0) τ hK) (va_cwU 1 F.hts (z_gU q237 q240 q241 q238 q11 q242) rfl rfl rfl rfl (by decide +kernel) ⟨Nat.le_of_ble_eq_true rfl, Nat.le_of_ble_eq_true rfl⟩) 0 rfl rfl rfl rfl (Nat.le_of_ble_eq_true rfl) dX2_init_3_35 ⟨Nat.le_of_ble_eq_true rfl, Nat.le_of_ble_eq_true rfl⟩) rfl rfl rfl (fun w5 h5 => ?_)
  obtain rfl := h5
  refine z_w (ws2 := [(a, zo 2 [.ref q1, .ref q2, .ref q3, .int (zSx τ), .ref q4, .int (zSn τ), .ref b]), (q1, zi G 16 τ.1), (q2, zi G 2 τ.2.1), (q3, zi G 4 τ.2.2.1), (q4, zb G 4 (zSK τ)), (b, zo 2 [.ref ylA, .ref yfA, .ref ybA, .int (zSx τ), .ref ykA, .int (zSn τ), rs2]), (ylA, zi G 16 τ.1), (yfA, zi G 2 τ.2.1), (ybA, zi G 4 τ.2.2.1), (ykA, zb G 4 (zSK τ))]) rfl ?_
  exact z_vret F ⟨q1, q2, q3, q4, rfl⟩ (Nat.le_of_ble_eq_true rfl) (Nat.le_of_ble_eq_true rfl) dX2_init_3_38
set_option maxHeartbeats 4000000 in
theorem metX3_init_2 (l : Launch) (G : zG) (a b ylA yfA ybA ykA : Nat) (rs2 : Value) (τ : zS) (hK : zBy (zSK τ)) : ZMv l G yX3_init_2 cX3_init_2 2 (zrm 3 4 26) [.ref a, .ref b] [(a, zo 2 [.null, .null, .null, .int 0, .null, .int 0, .null]), (b, zo 2 [.ref ylA, .ref yfA, .ref ybA, .int (zSx τ), .ref ykA, .int (zSn τ), rs2]), (ylA, zi G 16 τ.1), (yfA, zi G 2 τ.2.1), (ybA, zi G 4 τ.2.2.1), (ykA, zb G 4 (zSK τ))] (fun w => ∃ lA fA bA kA : Nat, w = [(a, zo 2 [.ref lA, .ref fA, .ref bA, .int (zSx τ), .ref kA, .int (zSn τ), .ref b]), (lA, zi G 16 τ.1), (fA, zi G 2 τ.2.1), (bA, zi G 4 τ.2.2.1), (kA, zb G 4 (zSK τ)), (b, zo 2 [.ref ylA, .ref yfA, .ref ybA, .int (zSx τ), .ref ykA, .int (zSn τ), rs2]), (ylA, zi G 16 τ.1), (yfA, zi G 2 τ.2.1), (ybA, zi G 4 τ.2.2.1), (ykA, zb G 4 (zSK τ))]) := by
  refine z_enter "Zuc128Engine" "<init>" [(0, .ref a), (1, .ref b)] (by decide) rfl rfl rfl (Nat.le_of_ble_eq_true rfl) ?_
  intro p e s m args below meth c F
  refine z_aload_n (n := 1) F 0 dX3_init_2_0 rfl rfl rfl ?_
  refine z_aload_n (n := 2) F 1 dX3_init_2_1 rfl rfl rfl ?_
  refine z_pick (ws2 := [(a, zo 2 [.null, .null, .null, .int 0, .null, .int 0, .null]), (b, zo 2 [.ref ylA, .ref yfA, .ref ybA, .int (zSx τ), .ref ykA, .int (zSn τ), rs2]), (ylA, zi G 16 τ.1), (yfA, zi G 2 τ.2.1), (ybA, zi G 4 τ.2.2.1), (ykA, zb G 4 (zSK τ))] ++ []) [0, 1, 2, 3, 4, 5] rfl (by decide) ?_
  refine z_cv (n := 5) (cells2 := 4) (slots2 := 26) (wc := [(a, zo 2 [.null, .null, .null, .int 0, .null, .int 0, .null]), (b, zo 2 [.ref ylA, .ref yfA, .ref ybA, .int (zSx τ), .ref ykA, .int (zSn τ), rs2]), (ylA, zi G 16 τ.1), (yfA, zi G 2 τ.2.1), (ybA, zi G 4 τ.2.2.1), (ykA, zb G 4 (zSK τ))]) (wr := []) F (z_rI F (metX2_init_3 l G a b ylA yfA ybA ykA rs2 τ hK) (cwI 1 F.hts (lw_meth q445) rfl rfl rfl (F.hts _ q11) (F.hts _ q443) (F.hts _ q444) rfl (by decide +kernel) ⟨Nat.le_of_ble_eq_true rfl, Nat.le_of_ble_eq_true rfl⟩) rfl rfl (Nat.le_of_ble_eq_true rfl) dX3_init_2_2 ⟨Nat.le_of_ble_eq_true rfl, Nat.le_of_ble_eq_true rfl⟩) rfl rfl rfl (fun w1 h1 => ?_)
  obtain ⟨lA, fA, bA, kA, rfl⟩ := h1
  refine z_w (ws2 := [(a, zo 2 [.ref lA, .ref fA, .ref bA, .int (zSx τ), .ref kA, .int (zSn τ), .ref b]), (lA, zi G 16 τ.1), (fA, zi G 2 τ.2.1), (bA, zi G 4 τ.2.2.1), (kA, zb G 4 (zSK τ)), (b, zo 2 [.ref ylA, .ref yfA, .ref ybA, .int (zSx τ), .ref ykA, .int (zSn τ), rs2]), (ylA, zi G 16 τ.1), (yfA, zi G 2 τ.2.1), (ybA, zi G 4 τ.2.2.1), (ykA, zb G 4 (zSK τ))]) rfl ?_
  exact z_vret F ⟨lA, fA, bA, kA, rfl⟩ (Nat.le_of_ble_eq_true rfl) (Nat.le_of_ble_eq_true rfl) dX3_init_2_5
set_option maxHeartbeats 4000000 in
theorem metX3_copy (l : Launch) (G : zG) (b ylA yfA ybA ykA : Nat) (rs2 : Value) (τ : zS) (hK : zBy (zSK τ)) : ZMr l G yX3_copy cX3_copy 1 (.object "Memoable") (zrm 4 5 33) [.ref b] [(b, zo 2 [.ref ylA, .ref yfA, .ref ybA, .int (zSx τ), .ref ykA, .int (zSn τ), rs2]), (ylA, zi G 16 τ.1), (yfA, zi G 2 τ.2.1), (ybA, zi G 4 τ.2.2.1), (ykA, zb G 4 (zSK τ))] (fun r w => ∃ lA fA bA kA : Nat, w = [(r, zo 2 [.ref lA, .ref fA, .ref bA, .int (zSx τ), .ref kA, .int (zSn τ), .ref b]), (lA, zi G 16 τ.1), (fA, zi G 2 τ.2.1), (bA, zi G 4 τ.2.2.1), (kA, zb G 4 (zSK τ)), (b, zo 2 [.ref ylA, .ref yfA, .ref ybA, .int (zSx τ), .ref ykA, .int (zSn τ), rs2]), (ylA, zi G 16 τ.1), (yfA, zi G 2 τ.2.1), (ybA, zi G 4 τ.2.2.1), (ykA, zb G 4 (zSK τ))]) := by
  refine z_enter "Zuc128Engine" "copy" [(0, .ref b)] (by decide) rfl rfl rfl (Nat.le_of_ble_eq_true rfl) ?_
  intro p e s m args below meth c F
  refine z_new (n := 3) (cells2 := 1) (slots2 := 7) F 2 [.null, .null, .null, .int 0, .null, .int 0, .null] tyX3 in_X3 tyX3_ok q439 q263 q12 rfl zd2 (Nat.le_of_ble_eq_true rfl) (Nat.le_of_ble_eq_true rfl) dX3_copy_0 rfl rfl rfl (fun q1 => ?_)
  refine z_w (ws2 := [(b, zo 2 [.ref ylA, .ref yfA, .ref ybA, .int (zSx τ), .ref ykA, .int (zSn τ), rs2]), (ylA, zi G 16 τ.1), (yfA, zi G 2 τ.2.1), (ybA, zi G 4 τ.2.2.1), (ykA, zb G 4 (zSK τ)), (q1, zo 2 [.null, .null, .null, .int 0, .null, .int 0, .null])]) rfl ?_
  refine z_dup (n := 4) F dX3_copy_3 rfl rfl ?_
  refine z_aload_n (n := 5) F 0 dX3_copy_4 rfl rfl rfl ?_
  refine z_pick (ws2 := [(q1, zo 2 [.null, .null, .null, .int 0, .null, .int 0, .null]), (b, zo 2 [.ref ylA, .ref yfA, .ref ybA, .int (zSx τ), .ref ykA, .int (zSn τ), rs2]), (ylA, zi G 16 τ.1), (yfA, zi G 2 τ.2.1), (ybA, zi G 4 τ.2.2.1), (ykA, zb G 4 (zSK τ))] ++ []) [5, 0, 1, 2, 3, 4] rfl (by decide) ?_
  refine z_cv (n := 8) (cells2 := 5) (slots2 := 33) (wc := [(q1, zo 2 [.null, .null, .null, .int 0, .null, .int 0, .null]), (b, zo 2 [.ref ylA, .ref yfA, .ref ybA, .int (zSx τ), .ref ykA, .int (zSn τ), rs2]), (ylA, zi G 16 τ.1), (yfA, zi G 2 τ.2.1), (ybA, zi G 4 τ.2.2.1), (ykA, zb G 4 (zSK τ))]) (wr := []) F (z_rI F (metX3_init_2 l G q1 b ylA yfA ybA ykA rs2 τ hK) (cwI 1 F.hts (lw_meth q442) rfl rfl rfl (F.hts _ q12) (F.hts _ q440) (F.hts _ q441) rfl (by decide +kernel) ⟨Nat.le_of_ble_eq_true rfl, Nat.le_of_ble_eq_true rfl⟩) rfl rfl (Nat.le_of_ble_eq_true rfl) dX3_copy_5 ⟨Nat.le_of_ble_eq_true rfl, Nat.le_of_ble_eq_true rfl⟩) rfl rfl rfl (fun w2 h2 => ?_)
  obtain ⟨lA, fA, bA, kA, rfl⟩ := h2
  refine z_w (ws2 := [(q1, zo 2 [.ref lA, .ref fA, .ref bA, .int (zSx τ), .ref kA, .int (zSn τ), .ref b]), (lA, zi G 16 τ.1), (fA, zi G 2 τ.2.1), (bA, zi G 4 τ.2.2.1), (kA, zb G 4 (zSK τ)), (b, zo 2 [.ref ylA, .ref yfA, .ref ybA, .int (zSx τ), .ref ykA, .int (zSn τ), rs2]), (ylA, zi G 16 τ.1), (yfA, zi G 2 τ.2.1), (ybA, zi G 4 τ.2.2.1), (ykA, zb G 4 (zSK τ))]) rfl ?_
  exact z_aret F (Or.inl ⟨_, rfl⟩) ⟨lA, fA, bA, kA, rfl⟩ (Nat.le_of_ble_eq_true rfl) (Nat.le_of_ble_eq_true rfl) dX3_copy_8
end
section
/-! ZUC: parameters, init, ZucDesk (printed by gen/core4.py) -/
set_option maxRecDepth 100000
/-- the rest that from(), count() and out() take -/
def zmd (x : Int32) (n : Nat) : Nat := x.toBitVec.toNat % 2147483648 % n
theorem zmd_eq (x : Int32) {n : Nat} (h0 : 0 < n) (hn : n < 2 ^ 31) : (x &&& 2147483647) - (x &&& 2147483647) / nI n * nI n = nI (zmd x n) := by
  have h := pk_and x (m := 2147483647) 31 rfl
  rw [h]
  exact pk_rem (Nat.mod_lt _ (by decide)) h0 hn
theorem zmd_nI {k n : Nat} (h : k < 2 ^ 31) : zmd (nI k) n = k % n := by
  unfold zmd
  rw [pk_tn (by omega), Nat.mod_eq_of_lt (a := k) (by omega)]
theorem zmd_id {k n : Nat} (h : k < 2 ^ 31) (hk : k < n) : nI (zmd (nI k) n) = nI k := by
  rw [zmd_nI h, Nat.mod_eq_of_lt hk]
/-- four words, from place n on -/
def zPt (f : zA) (n : Nat) (x y z u : Int32) : zA := zWd (zWd (zWd (zWd f n x) (n + 4) y) (n + 8) z) (n + 12) u
def zCp (f : zA) (t : Nat) : zA := fun i => if i < t then zb8 (f i) else 0
theorem zCp_0 (f : zA) : ∀ j : Nat, j < 16 → z00 j = zCp f 0 j := fun j _ => by simp [zCp, z00]
theorem zCp_up (f : zA) {t : Nat} (h : t < 2 ^ 31) : upd (zCp f t) (nI t).toNatClampNeg (zb8 (f t)) = zCp f (t + 1) := by
  rw [nI_clamp h]
  funext j
  simp only [upd, zCp]
  by_cases e : j = t
  · subst e; simp
  · rw [if_neg e]
    by_cases h2 : j < t
    · rw [if_pos h2, if_pos (by omega)]
    · rw [if_neg h2, if_neg (by omega)]
theorem zBy_cp (f : zA) (t : Nat) : zBy (zCp f t) := by
  intro j
  unfold zCp
  by_cases h : j < t
  · rw [if_pos h]; exact zb8_fit _
  · rw [if_neg h]; rfl

set_option maxHeartbeats 4000000 in
theorem metX5_init_3 (l : Launch) (G : zG) (a : Nat) : ZMv l G yX5_init_3 cX5_init_3 2 (zrm 1 1 16) [.ref a, .int 16] [(a, zo 0 [.null])] (fun w => ∃ q : Nat, w = [(a, zo 0 [.ref q]), (q, zb G 16 z00)]) := by
  refine z_enter "KeyParameter" "<init>" [(0, .ref a), (1, .int 16)] (by decide) rfl rfl rfl (Nat.le_of_ble_eq_true rfl) ?_
  intro p e s m args below meth c F
  refine z_aload_n (n := 1) F 0 dX5_init_3_0 rfl rfl rfl ?_
  refine z_objI (n := 4) F q355 (Nat.le_of_ble_eq_true rfl) (Nat.le_of_ble_eq_true rfl) dX5_init_3_1 rfl ?_
  refine z_aload_n (n := 5) F 0 dX5_init_3_4 rfl rfl rfl ?_
  refine z_iload_n (n := 6) F 1 dX5_init_3_5 rfl rfl rfl ?_
  refine z_newB (n := 8) (cells2 := 1) (slots2 := 16) F 16 (by decide) rfl (Nat.le_of_ble_eq_true rfl) (Nat.le_of_ble_eq_true rfl) (Nat.le_of_ble_eq_true rfl) dX5_init_3_6 rfl rfl rfl (fun q1 => ?_)
  refine z_w (ws2 := [(a, zo 0 [.null]), (q1, zb G 16 z00)]) rfl ?_
  refine z_put (n := 11) (ws2 := [(a, zo 0 [.ref q1]), (q1, zb G 16 z00)]) F 0 0 tyX5 in_X5 tyX5_ok nmX5 rfl rfl (by decide) q356 rfl rfl rfl rfl rfl (Nat.le_of_ble_eq_true rfl) dX5_init_3_8 rfl rfl ?_
  exact z_vret F ⟨q1, rfl⟩ (Nat.le_of_ble_eq_true rfl) (Nat.le_of_ble_eq_true rfl) dX5_init_3_11
set_option maxHeartbeats 4000000 in
theorem metX5_init_2 (l : Launch) (G : zG) (a kq : Nat) (k : zA) (hK : zBy k) : ZMv l G yX5_init_2 cX5_init_2 4 (zrm 2 1 16) [.ref a, .ref kq, .int 0, .int 16] [(a, zo 0 [.null]), (kq, zb G 16 k)] (fun w => ∃ q : Nat, w = [(a, zo 0 [.ref q]), (kq, zb G 16 k), (q, zb G 16 k)]) := by
  refine z_enter "KeyParameter" "<init>" [(0, .ref a), (1, .ref kq), (2, .int 0), (3, .int 16)] (by decide) rfl rfl rfl (Nat.le_of_ble_eq_true rfl) ?_
  intro p e s m args below meth c F
  refine z_aload_n (n := 1) F 0 dX5_init_2_0 rfl rfl rfl ?_
  refine z_iload_n (n := 2) F 3 dX5_init_2_1 rfl rfl rfl ?_
  refine z_pick (ws2 := [(a, zo 0 [.null])] ++ [(kq, zb G 16 k)]) [0, 1] rfl (by decide) ?_
  refine z_cv (n := 5) (cells2 := 1) (slots2 := 16) (wc := [(a, zo 0 [.null])]) (wr := [(kq, zb G 16 k)]) F (z_rI F (metX5_init_3 l G a) (cwI 1 F.hts (lw_meth q354) rfl rfl rfl (F.hts _ q14) (F.hts _ q352) (F.hts _ q353) rfl (by decide +kernel) ⟨Nat.le_of_ble_eq_true rfl, Nat.le_of_ble_eq_true rfl⟩) rfl rfl (Nat.le_of_ble_eq_true rfl) dX5_init_2_2 ⟨Nat.le_of_ble_eq_true rfl, Nat.le_of_ble_eq_true rfl⟩) rfl rfl rfl (fun w1 h1 => ?_)
  obtain ⟨q, rfl⟩ := h1
  refine z_w (ws2 := [(a, zo 0 [.ref q]), (q, zb G 16 z00), (kq, zb G 16 k)]) rfl ?_
  refine z_pick (ws2 := [(a, zo 0 [.ref q]), (kq, zb G 16 k), (q, zb G 16 z00)]) [0, 2, 1] rfl (by decide) ?_
  refine z_aload_n (n := 6) F 1 dX5_init_2_5 rfl rfl rfl ?_
  refine z_iload_n (n := 7) F 2 dX5_init_2_6 rfl rfl rfl ?_
  refine z_aload_n (n := 8) F 0 dX5_init_2_7 rfl rfl rfl ?_
  refine z_get (n := 11) F 0 0 in_X5 rfl rfl (by decide) q356 rfl rfl dX5_init_2_8 rfl ?_
  refine z_iconst (n := 12) F 0 dX5_init_2_11 (by decide) rfl ?_
  refine z_iload_n (n := 13) F 3 dX5_init_2_12 rfl rfl rfl ?_
  refine z_copy0B (n := 16) (ws2 := [(a, zo 0 [.ref q]), (kq, zb G 16 k), (q, zb G 16 k)]) F 1 2 q360 (by decide) rfl rfl hK rfl rfl rfl (Nat.le_of_ble_eq_true rfl) (Nat.le_of_ble_eq_true rfl) dX5_init_2_13 rfl rfl ?_
  exact z_vret F ⟨q, rfl⟩ (Nat.le_of_ble_eq_true rfl) (Nat.le_of_ble_eq_true rfl) dX5_init_2_16
set_option maxHeartbeats 4000000 in
theorem metX5_init (l : Launch) (G : zG) (a kq : Nat) (k : zA) (hK : zBy k) : ZMv l G yX5_init cX5_init 2 (zrm 3 1 16) [.ref a, .ref kq] [(a, zo 0 [.null]), (kq, zb G 16 k)] (fun w => ∃ q : Nat, w = [(a, zo 0 [.ref q]), (kq, zb G 16 k), (q, zb G 16 k)]) := by
  refine z_enter "KeyParameter" "<init>" [(0, .ref a), (1, .ref kq)] (by decide) rfl rfl rfl (Nat.le_of_ble_eq_true rfl) ?_
  intro p e s m args below meth c F
  refine z_aload_n (n := 1) F 0 dX5_init_0 rfl rfl rfl ?_
  refine z_aload_n (n := 2) F 1 dX5_init_1 rfl rfl rfl ?_
  refine z_iconst (n := 3) F 0 dX5_init_2 (by decide) rfl ?_
  refine z_aload_n (n := 4) F 1 dX5_init_3 rfl rfl rfl ?_
  refine z_alenB (n := 5) F 1 16 rfl (by decide) dX5_init_4 rfl ?_
  refine z_pick (ws2 := [(a, zo 0 [.null]), (kq, zb G 16 k)] ++ []) [0, 1] rfl (by decide) ?_
  refine z_cv (n := 8) (cells2 := 1) (slots2 := 16) (wc := [(a, zo 0 [.null]), (kq, zb G 16 k)]) (wr := []) F (z_rI F (metX5_init_2 l G a kq k hK) (cwI 3 F.hts (lw_meth q351) rfl rfl rfl (F.hts _ q14) (F.hts _ q349) (F.hts _ q350) rfl (by decide +kernel) ⟨Nat.le_of_ble_eq_true rfl, Nat.le_of_ble_eq_true rfl⟩) rfl rfl (Nat.le_of_ble_eq_true rfl) dX5_init_5 ⟨Nat.le_of_ble_eq_true rfl, Nat.le_of_ble_eq_true rfl⟩) rfl rfl rfl (fun w1 h1 => ?_)
  obtain ⟨q, rfl⟩ := h1
  refine z_w (ws2 := [(a, zo 0 [.ref q]), (kq, zb G 16 k), (q, zb G 16 k)]) rfl ?_
  exact z_vret F ⟨q, rfl⟩ (Nat.le_of_ble_eq_true rfl) (Nat.le_of_ble_eq_true rfl) dX5_init_8
set_option maxHeartbeats 4000000 in
theorem metX5_getKey (l : Launch) (G : zG) (a q : Nat) : ZMr l G yX5_getKey cX5_getKey 1 (.array .byte) (zrm 0 0 0) [.ref a] [(a, zo 0 [.ref q])] (fun r w => q = r ∧ w = [(a, zo 0 [.ref q])]) := by
  refine z_enter "KeyParameter" "getKey" [(0, .ref a)] (by decide) rfl rfl rfl (Nat.le_of_ble_eq_true rfl) ?_
  intro p e s m args below meth c F
  refine z_aload_n (n := 1) F 0 dX5_getKey_0 rfl rfl rfl ?_
  refine z_get (n := 4) F 0 0 in_X5 rfl rfl (by decide) q356 rfl rfl dX5_getKey_1 rfl ?_
  exact z_aret F (Or.inr ⟨_, rfl⟩) ⟨rfl, rfl⟩ (Nat.le_of_ble_eq_true rfl) (Nat.le_of_ble_eq_true rfl) dX5_getKey_4
set_option maxHeartbeats 4000000 in
theorem metX4_init_2 (l : Launch) (G : zG) (a kp vq : Nat) (iv : zA) (hK : zBy iv) : ZMv l G yX4_init_2 cX4_init_2 5 (zrm 1 1 16) [.ref a, .ref kp, .ref vq, .int 0, .int 16] [(a, zo 1 [.null, .null]), (vq, zb G 16 iv)] (fun w => ∃ q : Nat, w = [(a, zo 1 [.ref q, .ref kp]), (vq, zb G 16 iv), (q, zb G 16 iv)]) := by
  refine z_enter "ParametersWithIV" "<init>" [(0, .ref a), (1, .ref kp), (2, .ref vq), (3, .int 0), (4, .int 16)] (by decide) rfl rfl rfl (Nat.le_of_ble_eq_true rfl) ?_
  intro p e s m args below meth c F
  refine z_aload_n (n := 1) F 0 dX4_init_2_0 rfl rfl rfl ?_
  refine z_objI (n := 4) F q367 (Nat.le_of_ble_eq_true rfl) (Nat.le_of_ble_eq_true rfl) dX4_init_2_1 rfl ?_
  refine z_aload_n (n := 5) F 0 dX4_init_2_4 rfl rfl rfl ?_
  refine z_iload (n := 7) F 4 dX4_init_2_5 rfl rfl ?_
  refine z_newB (n := 9) (cells2 := 1) (slots2 := 16) F 16 (by decide) rfl (Nat.le_of_ble_eq_true rfl) (Nat.le_of_ble_eq_true rfl) (Nat.le_of_ble_eq_true rfl) dX4_init_2_7 rfl rfl rfl (fun q1 => ?_)
  refine z_w (ws2 := [(a, zo 1 [.null, .null]), (vq, zb G 16 iv), (q1, zb G 16 z00)]) rfl ?_
  refine z_put (n := 12) (ws2 := [(a, zo 1 [.ref q1, .null]), (vq, zb G 16 iv), (q1, zb G 16 z00)]) F 0 0 tyX4 in_X4 tyX4_ok nmX4 rfl rfl (by decide) q369 rfl rfl rfl rfl rfl (Nat.le_of_ble_eq_true rfl) dX4_init_2_9 rfl rfl ?_
  refine z_aload_n (n := 13) F 0 dX4_init_2_12 rfl rfl rfl ?_
  refine z_aload_n (n := 14) F 1 dX4_init_2_13 rfl rfl rfl ?_
  refine z_put (n := 17) (ws2 := [(a, zo 1 [.ref q1, .ref kp]), (vq, zb G 16 iv), (q1, zb G 16 z00)]) F 0 1 tyX4 in_X4 tyX4_ok nmX4 rfl rfl (by decide) q370 rfl rfl rfl rfl rfl (Nat.le_of_ble_eq_true rfl) dX4_init_2_14 rfl rfl ?_
  refine z_aload_n (n := 18) F 2 dX4_init_2_17 rfl rfl rfl ?_
  refine z_iload_n (n := 19) F 3 dX4_init_2_18 rfl rfl rfl ?_
  refine z_aload_n (n := 20) F 0 dX4_init_2_19 rfl rfl rfl ?_
  refine z_get (n := 23) F 0 0 in_X4 rfl rfl (by decide) q369 rfl rfl dX4_init_2_20 rfl ?_
  refine z_iconst (n := 24) F 0 dX4_init_2_23 (by decide) rfl ?_
  refine z_iload (n := 26) F 4 dX4_init_2_24 rfl rfl ?_
  refine z_copy0B (n := 29) (ws2 := [(a, zo 1 [.ref q1, .ref kp]), (vq, zb G 16 iv), (q1, zb G 16 iv)]) F 1 2 q368 (by decide) rfl rfl hK rfl rfl rfl (Nat.le_of_ble_eq_true rfl) (Nat.le_of_ble_eq_true rfl) dX4_init_2_26 rfl rfl ?_
  exact z_vret F ⟨q1, rfl⟩ (Nat.le_of_ble_eq_true rfl) (Nat.le_of_ble_eq_true rfl) dX4_init_2_29
set_option maxHeartbeats 4000000 in
theorem metX4_init (l : Launch) (G : zG) (a kp vq : Nat) (iv : zA) (hK : zBy iv) : ZMv l G yX4_init cX4_init 3 (zrm 2 1 16) [.ref a, .ref kp, .ref vq] [(a, zo 1 [.null, .null]), (vq, zb G 16 iv)] (fun w => ∃ q : Nat, w = [(a, zo 1 [.ref q, .ref kp]), (vq, zb G 16 iv), (q, zb G 16 iv)]) := by
  refine z_enter "ParametersWithIV" "<init>" [(0, .ref a), (1, .ref kp), (2, .ref vq)] (by decide) rfl rfl rfl (Nat.le_of_ble_eq_true rfl) ?_
  intro p e s m args below meth c F
  refine z_aload_n (n := 1) F 0 dX4_init_0 rfl rfl rfl ?_
  refine z_aload_n (n := 2) F 1 dX4_init_1 rfl rfl rfl ?_
  refine z_aload_n (n := 3) F 2 dX4_init_2 rfl rfl rfl ?_
  refine z_iconst (n := 4) F 0 dX4_init_3 (by decide) rfl ?_
  refine z_aload_n (n := 5) F 2 dX4_init_4 rfl rfl rfl ?_
  refine z_alenB (n := 6) F 1 16 rfl (by decide) dX4_init_5 rfl ?_
  refine z_pick (ws2 := [(a, zo 1 [.null, .null]), (vq, zb G 16 iv)] ++ []) [0, 1] rfl (by decide) ?_
  refine z_cv (n := 9) (cells2 := 1) (slots2 := 16) (wc := [(a, zo 1 [.null, .null]), (vq, zb G 16 iv)]) (wr := []) F (z_rI F (metX4_init_2 l G a kp vq iv hK) (cwI 4 F.hts (lw_meth q366) rfl rfl rfl (F.hts _ q13) (F.hts _ q364) (F.hts _ q365) rfl (by decide +kernel) ⟨Nat.le_of_ble_eq_true rfl, Nat.le_of_ble_eq_true rfl⟩) rfl rfl (Nat.le_of_ble_eq_true rfl) dX4_init_6 ⟨Nat.le_of_ble_eq_true rfl, Nat.le_of_ble_eq_true rfl⟩) rfl rfl rfl (fun w1 h1 => ?_)
  obtain ⟨q, rfl⟩ := h1
  refine z_w (ws2 := [(a, zo 1 [.ref q, .ref kp]), (vq, zb G 16 iv), (q, zb G 16 iv)]) rfl ?_
  exact z_vret F ⟨q, rfl⟩ (Nat.le_of_ble_eq_true rfl) (Nat.le_of_ble_eq_true rfl) dX4_init_9
set_option maxHeartbeats 4000000 in
theorem metX4_getIV (l : Launch) (G : zG) (a q kp : Nat) : ZMr l G yX4_getIV cX4_getIV 1 (.array .byte) (zrm 0 0 0) [.ref a] [(a, zo 1 [.ref q, .ref kp])] (fun r w => q = r ∧ w = [(a, zo 1 [.ref q, .ref kp])]) := by
  refine z_enter "ParametersWithIV" "getIV" [(0, .ref a)] (by decide) rfl rfl rfl (Nat.le_of_ble_eq_true rfl) ?_
  intro p e s m args below meth c F
  refine z_aload_n (n := 1) F 0 dX4_getIV_0 rfl rfl rfl ?_
  refine z_get (n := 4) F 0 0 in_X4 rfl rfl (by decide) q369 rfl rfl dX4_getIV_1 rfl ?_
  exact z_aret F (Or.inr ⟨_, rfl⟩) ⟨rfl, rfl⟩ (Nat.le_of_ble_eq_true rfl) (Nat.le_of_ble_eq_true rfl) dX4_getIV_4
set_option maxHeartbeats 4000000 in
theorem metX4_getParameters (l : Launch) (G : zG) (a q kp : Nat) : ZMr l G yX4_getParameters cX4_getParameters 1 (.object "CipherParameters") (zrm 0 0 0) [.ref a] [(a, zo 1 [.ref q, .ref kp])] (fun r w => kp = r ∧ w = [(a, zo 1 [.ref q, .ref kp])]) := by
  refine z_enter "ParametersWithIV" "getParameters" [(0, .ref a)] (by decide) rfl rfl rfl (Nat.le_of_ble_eq_true rfl) ?_
  intro p e s m args below meth c F
  refine z_aload_n (n := 1) F 0 dX4_getParameters_0 rfl rfl rfl ?_
  refine z_get (n := 4) F 0 1 in_X4 rfl rfl (by decide) q370 rfl rfl dX4_getParameters_1 rfl ?_
  exact z_aret F (Or.inl ⟨_, rfl⟩) ⟨rfl, rfl⟩ (Nat.le_of_ble_eq_true rfl) (Nat.le_of_ble_eq_true rfl) dX4_getParameters_4
set_option maxHeartbeats 4000000 in
theorem metX2_init_2 (l : Launch) (G : zG) (a lA fA bA kA pq iq kp kq : Nat) (k iv : zA) : ZMv l G yX2_init_2 cX2_init_2 7 (zrm 5 5 33) [.ref a, .int 1, .ref pq] [(a, zo 2 [.ref lA, .ref fA, .ref bA, .int 0, .ref kA, .int 0, .null]), (lA, zi G 16 z00), (fA, zi G 2 z00), (bA, zi G 4 z00), (kA, zb G 4 z00), (pq, zo 1 [.ref iq, .ref kp]), (iq, zb G 16 iv), (kp, zo 0 [.ref kq]), (kq, zb G 16 k)] (fun w => ∃ b ylA yfA ybA ykA : Nat, w = [(a, zo 2 [.ref lA, .ref fA, .ref bA, .int (zSx (zSig k iv)), .ref kA, .int (zSn (zSig k iv)), .ref b]), (lA, zi G 16 (zSig k iv).1), (fA, zi G 2 (zSig k iv).2.1), (bA, zi G 4 (zSig k iv).2.2.1), (kA, zb G 4 (zSK (zSig k iv))), (b, zo 2 [.ref ylA, .ref yfA, .ref ybA, .int (zSx (zSig k iv)), .ref ykA, .int (zSn (zSig k iv)), .ref a]), (ylA, zi G 16 (zSig k iv).1), (yfA, zi G 2 (zSig k iv).2.1), (ybA, zi G 4 (zSig k iv).2.2.1), (ykA, zb G 4 (zSK (zSig k iv))), (pq, zo 1 [.ref iq, .ref kp]), (iq, zb G 16 iv), (kp, zo 0 [.ref kq]), (kq, zb G 16 k)]) := by
  refine z_enter "Zuc128CoreEngine" "init" [(0, .ref a), (1, .int 1), (2, .ref pq)] (by decide) rfl rfl rfl (Nat.le_of_ble_eq_true rfl) ?_
  intro p e s m args below meth c F
  refine z_aload_n (n := 1) F 2 dX2_init_2_0 rfl rfl rfl ?_
  refine z_astore_n (n := 2) F [(3, .ref pq), (0, .ref a), (1, .int 1), (2, .ref pq)] dX2_init_2_1 rfl (by decide) rfl rfl ?_
  refine z_null (n := 3) F dX2_init_2_2 rfl ?_
  refine z_astoreN (n := 5) F [(4, .null), (3, .ref pq), (0, .ref a), (1, .int 1), (2, .ref pq)] dX2_init_2_3 (by decide) rfl rfl ?_
  refine z_null (n := 6) F dX2_init_2_5 rfl ?_
  refine z_astoreN (n := 8) F [(5, .null), (4, .null), (3, .ref pq), (0, .ref a), (1, .int 1), (2, .ref pq)] dX2_init_2_6 (by decide) rfl rfl ?_
  refine z_aload_n (n := 9) F 2 dX2_init_2_8 rfl rfl rfl ?_
  refine z_instS (n := 12) F 5 rfl rfl q382 dX2_init_2_9 rfl ?_
  refine z_if_eq_f (tgt := 34) (n := 15) F dX2_init_2_12 (by decide) (by decide) rfl ?_
  refine z_aload_n (n := 16) F 2 dX2_init_2_15 rfl rfl rfl ?_
  refine z_castS (n := 19) F 5 rfl rfl q382 dX2_init_2_16 rfl ?_
  refine z_astore (n := 21) F [(6, .ref pq), (5, .null), (4, .null), (3, .ref pq), (0, .ref a), (1, .int 1), (2, .ref pq)] dX2_init_2_19 (by decide) rfl rfl ?_
  refine z_aload (n := 23) F 0 dX2_init_2_21 rfl rfl ?_
  refine z_pick (ws2 := [(pq, zo 1 [.ref iq, .ref kp])] ++ [(a, zo 2 [.ref lA, .ref fA, .ref bA, .int 0, .ref kA, .int 0, .null]), (lA, zi G 16 z00), (fA, zi G 2 z00), (bA, zi G 4 z00), (kA, zb G 4 z00), (iq, zb G 16 iv), (kp, zo 0 [.ref kq]), (kq, zb G 16 k)]) [5, 0, 1, 2, 3, 4, 6, 7, 8] rfl (by decide) ?_
  refine z_cr (n := 26) (cells2 := 0) (slots2 := 0) (wc := [(pq, zo 1 [.ref iq, .ref kp])]) (wr := [(a, zo 2 [.ref lA, .ref fA, .ref bA, .int 0, .ref kA, .int 0, .null]), (lA, zi G 16 z00), (fA, zi G 2 z00), (bA, zi G 4 z00), (kA, zb G 4 z00), (iq, zb G 16 iv), (kp, zo 0 [.ref kq]), (kq, zb G 16 k)]) F (z_rV F (metX4_getIV l G pq iq kp) (cwV 0 F.hts (lw_V q383 q384 q385 q13 q386) rfl rfl rfl (by decide +kernel) ⟨Nat.le_of_ble_eq_true rfl, Nat.le_of_ble_eq_true rfl⟩) 0 rfl rfl rfl rfl (Nat.le_of_ble_eq_true rfl) dX2_init_2_23 ⟨Nat.le_of_ble_eq_true rfl, Nat.le_of_ble_eq_true rfl⟩) rfl rfl rfl (fun r1 w1 h1 => ?_)
  obtain ⟨rfl, rfl⟩ := h1
  refine z_w (ws2 := [(pq, zo 1 [.ref iq, .ref kp]), (a, zo 2 [.ref lA, .ref fA, .ref bA, .int 0, .ref kA, .int 0, .null]), (lA, zi G 16 z00), (fA, zi G 2 z00), (bA, zi G 4 z00), (kA, zb G 4 z00), (iq, zb G 16 iv), (kp, zo 0 [.ref kq]), (kq, zb G 16 k)]) rfl ?_
  refine z_pick (ws2 := [(a, zo 2 [.ref lA, .ref fA, .ref bA, .int 0, .ref kA, .int 0, .null]), (lA, zi G 16 z00), (fA, zi G 2 z00), (bA, zi G 4 z00), (kA, zb G 4 z00), (pq, zo 1 [.ref iq, .ref kp]), (iq, zb G 16 iv), (kp, zo 0 [.ref kq]), (kq, zb G 16 k)]) [1, 2, 3, 4, 5, 0, 6, 7, 8] rfl (by decide) ?_
  refine z_astore (n := 28) F [(5, .ref iq), (6, .ref pq), (4, .null), (3, .ref pq), (0, .ref a), (1, .int 1), (2, .ref pq)] dX2_init_2_26 (by decide) rfl rfl ?_
  refine z_aload (n := 30) F 1 dX2_init_2_28 rfl rfl ?_
  refine z_pick (ws2 := [(pq, zo 1 [.ref iq, .ref kp])] ++ [(a, zo 2 [.ref lA, .ref fA, .ref bA, .int 0, .ref kA, .int 0, .null]), (lA, zi G 16 z00), (fA, zi G 2 z00), (bA, zi G 4 z00), (kA, zb G 4 z00), (iq, zb G 16 iv), (kp, zo 0 [.ref kq]), (kq, zb G 16 k)]) [5, 0, 1, 2, 3, 4, 6, 7, 8] rfl (by decide) ?_
  refine z_cr (n := 33) (cells2 := 0) (slots2 := 0) (wc := [(pq, zo 1 [.ref iq, .ref kp])]) (wr := [(a, zo 2 [.ref lA, .ref fA, .ref bA, .int 0, .ref kA, .int 0, .null]), (lA, zi G 16 z00), (fA, zi G 2 z00), (bA, zi G 4 z00), (kA, zb G 4 z00), (iq, zb G 16 iv), (kp, zo 0 [.ref kq]), (kq, zb G 16 k)]) F (z_rV F (metX4_getParameters l G pq iq kp) (cwV 0 F.hts (lw_V q387 q388 q389 q13 q390) rfl rfl rfl (by decide +kernel) ⟨Nat.le_of_ble_eq_true rfl, Nat.le_of_ble_eq_true rfl⟩) 0 rfl rfl rfl rfl (Nat.le_of_ble_eq_true rfl) dX2_init_2_30 ⟨Nat.le_of_ble_eq_true rfl, Nat.le_of_ble_eq_true rfl⟩) rfl rfl rfl (fun r2 w2 h2 => ?_)
  obtain ⟨rfl, rfl⟩ := h2
  refine z_w (ws2 := [(pq, zo 1 [.ref iq, .ref kp]), (a, zo 2 [.ref lA, .ref fA, .ref bA, .int 0, .ref kA, .int 0, .null]), (lA, zi G 16 z00), (fA, zi G 2 z00), (bA, zi G 4 z00), (kA, zb G 4 z00), (iq, zb G 16 iv), (kp, zo 0 [.ref kq]), (kq, zb G 16 k)]) rfl ?_
  refine z_pick (ws2 := [(a, zo 2 [.ref lA, .ref fA, .ref bA, .int 0, .ref kA, .int 0, .null]), (lA, zi G 16 z00), (fA, zi G 2 z00), (bA, zi G 4 z00), (kA, zb G 4 z00), (pq, zo 1 [.ref iq, .ref kp]), (iq, zb G 16 iv), (kp, zo 0 [.ref kq]), (kq, zb G 16 k)]) [1, 2, 3, 4, 5, 0, 6, 7, 8] rfl (by decide) ?_
  refine z_astore_n (n := 34) F [(3, .ref kp), (5, .ref iq), (6, .ref pq), (4, .null), (0, .ref a), (1, .int 1), (2, .ref pq)] dX2_init_2_33 rfl (by decide) rfl rfl ?_
  refine z_aload_n (n := 35) F 0 dX2_init_2_34 rfl rfl rfl ?_
  refine z_instS (n := 38) F 7 rfl rfl q391 dX2_init_2_35 rfl ?_
  refine z_if_eq_f (tgt := 54) (n := 41) F dX2_init_2_38 (by decide) (by decide) rfl ?_
  refine z_aload_n (n := 42) F 0 dX2_init_2_41 rfl rfl rfl ?_
  refine z_castS (n := 45) F 7 rfl rfl q391 dX2_init_2_42 rfl ?_
  refine z_astore (n := 47) F [(6, .ref kp), (3, .ref kp), (5, .ref iq), (4, .null), (0, .ref a), (1, .int 1), (2, .ref pq)] dX2_init_2_45 (by decide) rfl rfl ?_
  refine z_aload (n := 49) F 0 dX2_init_2_47 rfl rfl ?_
  refine z_pick (ws2 := [(kp, zo 0 [.ref kq])] ++ [(a, zo 2 [.ref lA, .ref fA, .ref bA, .int 0, .ref kA, .int 0, .null]), (lA, zi G 16 z00), (fA, zi G 2 z00), (bA, zi G 4 z00), (kA, zb G 4 z00), (pq, zo 1 [.ref iq, .ref kp]), (iq, zb G 16 iv), (kq, zb G 16 k)]) [7, 0, 1, 2, 3, 4, 5, 6, 8] rfl (by decide) ?_
  refine z_cr (n := 52) (cells2 := 0) (slots2 := 0) (wc := [(kp, zo 0 [.ref kq])]) (wr := [(a, zo 2 [.ref lA, .ref fA, .ref bA, .int 0, .ref kA, .int 0, .null]), (lA, zi G 16 z00), (fA, zi G 2 z00), (bA, zi G 4 z00), (kA, zb G 4 z00), (pq, zo 1 [.ref iq, .ref kp]), (iq, zb G 16 iv), (kq, zb G 16 k)]) F (z_rV F (metX5_getKey l G kp kq) (cwV 0 F.hts (lw_V q392 q393 q394 q14 q395) rfl rfl rfl (by decide +kernel) ⟨Nat.le_of_ble_eq_true rfl, Nat.le_of_ble_eq_true rfl⟩) 0 rfl rfl rfl rfl (Nat.le_of_ble_eq_true rfl) dX2_init_2_49 ⟨Nat.le_of_ble_eq_true rfl, Nat.le_of_ble_eq_true rfl⟩) rfl rfl rfl (fun r3 w3 h3 => ?_)
  obtain ⟨rfl, rfl⟩ := h3
  refine z_w (ws2 := [(kp, zo 0 [.ref kq]), (a, zo 2 [.ref lA, .ref fA, .ref bA, .int 0, .ref kA, .int 0, .null]), (lA, zi G 16 z00), (fA, zi G 2 z00), (bA, zi G 4 z00), (kA, zb G 4 z00), (pq, zo 1 [.ref iq, .ref kp]), (iq, zb G 16 iv), (kq, zb G 16 k)]) rfl ?_
  refine z_pick (ws2 := [(a, zo 2 [.ref lA, .ref fA, .ref bA, .int 0, .ref kA, .int 0, .null]), (lA, zi G 16 z00), (fA, zi G 2 z00), (bA, zi G 4 z00), (kA, zb G 4 z00), (pq, zo 1 [.ref iq, .ref kp]), (iq, zb G 16 iv), (kp, zo 0 [.ref kq]), (kq, zb G 16 k)]) [1, 2, 3, 4, 5, 6, 7, 0, 8] rfl (by decide) ?_
  refine z_astore (n := 54) F [(4, .ref kq), (6, .ref kp), (3, .ref kp), (5, .ref iq), (0, .ref a), (1, .int 1), (2, .ref pq)] dX2_init_2_52 (by decide) rfl rfl ?_
  refine z_aload_n (n := 55) F 4 dX2_init_2_54 rfl rfl rfl ?_
  refine z_iconst (n := 56) F 0 dX2_init_2_55 (by decide) rfl ?_
  refine z_put (n := 59) (ws2 := [(a, zo 2 [.ref lA, .ref fA, .ref bA, .int 0, .ref kA, .int 0, .null]), (lA, zi G 16 z00), (fA, zi G 2 z00), (bA, zi G 4 z00), (kA, zb G 4 z00), (pq, zo 1 [.ref iq, .ref kp]), (iq, zb G 16 iv), (kp, zo 0 [.ref kq]), (kq, zb G 16 k)]) F 0 3 tyX3 in_X3 tyX3_ok nmX3 rfl rfl (by decide) q274 rfl rfl rfl rfl rfl (Nat.le_of_ble_eq_true rfl) dX2_init_2_56 rfl rfl ?_
  refine z_aload_n (n := 60) F 4 dX2_init_2_59 rfl rfl rfl ?_
  refine z_iconst (n := 61) F 0 dX2_init_2_60 (by decide) rfl ?_
  refine z_put (n := 64) (ws2 := [(a, zo 2 [.ref lA, .ref fA, .ref bA, .int 0, .ref kA, .int 0, .null]), (lA, zi G 16 z00), (fA, zi G 2 z00), (bA, zi G 4 z00), (kA, zb G 4 z00), (pq, zo 1 [.ref iq, .ref kp]), (iq, zb G 16 iv), (kp, zo 0 [.ref kq]), (kq, zb G 16 k)]) F 0 5 tyX3 in_X3 tyX3_ok nmX3 rfl rfl (by decide) q276 rfl rfl rfl rfl rfl (Nat.le_of_ble_eq_true rfl) dX2_init_2_61 rfl rfl ?_
  refine z_aload_n (n := 65) F 4 dX2_init_2_64 rfl rfl rfl ?_
  refine z_aload (n := 67) F 0 dX2_init_2_65 rfl rfl ?_
  refine z_aload (n := 69) F 3 dX2_init_2_67 rfl rfl ?_
  refine z_pick (ws2 := [(a, zo 2 [.ref lA, .ref fA, .ref bA, .int 0, .ref kA, .int 0, .null]), (lA, zi G 16 z00), (fA, zi G 2 z00), (bA, zi G 4 z00), (kq, zb G 16 k), (iq, zb G 16 iv)] ++ [(kA, zb G 4 z00), (pq, zo 1 [.ref iq, .ref kp]), (kp, zo 0 [.ref kq])]) [0, 1, 2, 3, 8, 6, 4, 5, 7] rfl (by decide) ?_
  refine z_cv (n := 72) (cells2 := 0) (slots2 := 0) (wc := [(a, zo 2 [.ref lA, .ref fA, .ref bA, .int 0, .ref kA, .int 0, .null]), (lA, zi G 16 z00), (fA, zi G 2 z00), (bA, zi G 4 z00), (kq, zb G 16 k), (iq, zb G 16 iv)]) (wr := [(kA, zb G 4 z00), (pq, zo 1 [.ref iq, .ref kp]), (kp, zo 0 [.ref kq])]) F (z_rU F (metX2_setKeyAndIV l G a lA fA bA kq iq (.int 0) (.ref kA) (.int 0) .null z00 z00 z00 k iv) (va_cwU 2 F.hts (z_gU q396 q465 zs4 q398 q11 q399) rfl rfl rfl rfl (by decide +kernel) ⟨Nat.le_of_ble_eq_true rfl, Nat.le_of_ble_eq_true rfl⟩) 0 rfl rfl rfl rfl (Nat.le_of_ble_eq_true rfl) dX2_init_2_69 ⟨Nat.le_of_ble_eq_true rfl, Nat.le_of_ble_eq_true rfl⟩) rfl rfl rfl (fun w4 h4 => ?_)
  obtain rfl := h4
  refine z_w (ws2 := [(a, zo 2 [.ref lA, .ref fA, .ref bA, .int 0, .ref kA, .int 0, .null]), (lA, zi G 16 (zSet (zLd k iv, z00, z00)).1), (fA, zi G 2 (zSet (zLd k iv, z00, z00)).2.1), (bA, zi G 4 (zSet (zLd k iv, z00, z00)).2.2), (kq, zb G 16 k), (iq, zb G 16 iv), (kA, zb G 4 z00), (pq, zo 1 [.ref iq, .ref kp]), (kp, zo 0 [.ref kq])]) rfl ?_
  refine z_pick (ws2 := [(a, zo 2 [.ref lA, .ref fA, .ref bA, .int 0, .ref kA, .int 0, .null]), (lA, zi G 16 (zSet (zLd k iv, z00, z00)).1), (fA, zi G 2 (zSet (zLd k iv, z00, z00)).2.1), (bA, zi G 4 (zSet (zLd k iv, z00, z00)).2.2), (kA, zb G 4 z00), (pq, zo 1 [.ref iq, .ref kp]), (iq, zb G 16 iv), (kp, zo 0 [.ref kq]), (kq, zb G 16 k)]) [0, 1, 2, 3, 6, 7, 5, 8, 4] rfl (by decide) ?_
  refine z_w (ws2 := [(a, zo 2 [.ref lA, .ref fA, .ref bA, .int (zSx (zSig k iv)), .ref kA, .int (zSn (zSig k iv)), .null]), (lA, zi G 16 (zSig k iv).1), (fA, zi G 2 (zSig k iv).2.1), (bA, zi G 4 (zSig k iv).2.2.1), (kA, zb G 4 (zSK (zSig k iv))), (pq, zo 1 [.ref iq, .ref kp]), (iq, zb G 16 iv), (kp, zo 0 [.ref kq]), (kq, zb G 16 k)]) rfl ?_
  refine z_aload_n (n := 73) F 4 dX2_init_2_72 rfl rfl rfl ?_
  refine z_aload_n (n := 74) F 4 dX2_init_2_73 rfl rfl rfl ?_
  refine z_pick (ws2 := [(a, zo 2 [.ref lA, .ref fA, .ref bA, .int (zSx (zSig k iv)), .ref kA, .int (zSn (zSig k iv)), .null]), (lA, zi G 16 (zSig k iv).1), (fA, zi G 2 (zSig k iv).2.1), (bA, zi G 4 (zSig k iv).2.2.1), (kA, zb G 4 (zSK (zSig k iv)))] ++ [(pq, zo 1 [.ref iq, .ref kp]), (iq, zb G 16 iv), (kp, zo 0 [.ref kq]), (kq, zb G 16 k)]) [0, 1, 2, 3, 4, 5, 6, 7, 8] rfl (by decide) ?_
  refine z_cr (n := 77) (cells2 := 5) (slots2 := 33) (wc := [(a, zo 2 [.ref lA, .ref fA, .ref bA, .int (zSx (zSig k iv)), .ref kA, .int (zSn (zSig k iv)), .null]), (lA, zi G 16 (zSig k iv).1), (fA, zi G 2 (zSig k iv).2.1), (bA, zi G 4 (zSig k iv).2.2.1), (kA, zb G 4 (zSK (zSig k iv)))]) (wr := [(pq, zo 1 [.ref iq, .ref kp]), (iq, zb G 16 iv), (kp, zo 0 [.ref kq]), (kq, zb G 16 k)]) F (z_rU F (metX3_copy l G a lA fA bA kA .null (zSig k iv) (zSig_inv k iv).2.2) (va_cwO 0 F.hts (z_gO q432 q435 q433 q436 q437 q12 q438) rfl rfl rfl q446 (by decide +kernel) ⟨Nat.le_of_ble_eq_true rfl, Nat.le_of_ble_eq_true rfl⟩) 0 rfl rfl rfl rfl (Nat.le_of_ble_eq_true rfl) dX2_init_2_74 ⟨Nat.le_of_ble_eq_true rfl, Nat.le_of_ble_eq_true rfl⟩) rfl rfl rfl (fun b w5 h5 => ?_)
  obtain ⟨ylA, yfA, ybA, ykA, rfl⟩ := h5
  refine z_w (ws2 := [(b, zo 2 [.ref ylA, .ref yfA, .ref ybA, .int (zSx (zSig k iv)), .ref ykA, .int (zSn (zSig k iv)), .ref a]), (ylA, zi G 16 (zSig k iv).1), (yfA, zi G 2 (zSig k iv).2.1), (ybA, zi G 4 (zSig k iv).2.2.1), (ykA, zb G 4 (zSK (zSig k iv))), (a, zo 2 [.ref lA, .ref fA, .ref bA, .int (zSx (zSig k iv)), .ref kA, .int (zSn (zSig k iv)), .null]), (lA, zi G 16 (zSig k iv).1), (fA, zi G 2 (zSig k iv).2.1), (bA, zi G 4 (zSig k iv).2.2.1), (kA, zb G 4 (zSK (zSig k iv))), (pq, zo 1 [.ref iq, .ref kp]), (iq, zb G 16 iv), (kp, zo 0 [.ref kq]), (kq, zb G 16 k)]) rfl ?_
  refine z_pick (ws2 := [(a, zo 2 [.ref lA, .ref fA, .ref bA, .int (zSx (zSig k iv)), .ref kA, .int (zSn (zSig k iv)), .null]), (lA, zi G 16 (zSig k iv).1), (fA, zi G 2 (zSig k iv).2.1), (bA, zi G 4 (zSig k iv).2.2.1), (kA, zb G 4 (zSK (zSig k iv))), (b, zo 2 [.ref ylA, .ref yfA, .ref ybA, .int (zSx (zSig k iv)), .ref ykA, .int (zSn (zSig k iv)), .ref a]), (ylA, zi G 16 (zSig k iv).1), (yfA, zi G 2 (zSig k iv).2.1), (ybA, zi G 4 (zSig k iv).2.2.1), (ykA, zb G 4 (zSK (zSig k iv))), (pq, zo 1 [.ref iq, .ref kp]), (iq, zb G 16 iv), (kp, zo 0 [.ref kq]), (kq, zb G 16 k)]) [5, 6, 7, 8, 9, 0, 1, 2, 3, 4, 10, 11, 12, 13] rfl (by decide) ?_
  refine z_castE (n := 80) F 5 rfl q243 dX2_init_2_77 rfl ?_
  refine z_put (n := 83) (ws2 := [(a, zo 2 [.ref lA, .ref fA, .ref bA, .int (zSx (zSig k iv)), .ref kA, .int (zSn (zSig k iv)), .ref b]), (lA, zi G 16 (zSig k iv).1), (fA, zi G 2 (zSig k iv).2.1), (bA, zi G 4 (zSig k iv).2.2.1), (kA, zb G 4 (zSK (zSig k iv))), (b, zo 2 [.ref ylA, .ref yfA, .ref ybA, .int (zSx (zSig k iv)), .ref ykA, .int (zSn (zSig k iv)), .ref a]), (ylA, zi G 16 (zSig k iv).1), (yfA, zi G 2 (zSig k iv).2.1), (ybA, zi G 4 (zSig k iv).2.2.1), (ykA, zb G 4 (zSK (zSig k iv))), (pq, zo 1 [.ref iq, .ref kp]), (iq, zb G 16 iv), (kp, zo 0 [.ref kq]), (kq, zb G 16 k)]) F 0 6 tyX3 in_X3 tyX3_ok nmX3 rfl rfl (by decide) q277 rfl rfl rfl rfl rfl (Nat.le_of_ble_eq_true rfl) dX2_init_2_80 rfl rfl ?_
  exact z_vret F ⟨b, ylA, yfA, ybA, ykA, rfl⟩ (Nat.le_of_ble_eq_true rfl) (Nat.le_of_ble_eq_true rfl) dX2_init_2_83
set_option maxHeartbeats 4000000 in
theorem metX1_init (l : Launch) (G : zG) (d : Nat) : ZMv l G yX1_init cX1_init 1 (zrm 3 9 337) [.ref d] [(d, zo 3 [.null, .int 0, .int 0, .null, .null, .null, .int 0, .null])] (fun w => ∃ e0 kD nD tD oD : Nat, w = [(d, zo 3 [.ref e0, .int 0, .int 0, .ref kD, .ref nD, .ref tD, .int 0, .ref oD]), (kD, zb G 32 z00), (nD, zb G 16 z00), (tD, zb G 256 z00), (oD, zb G 0 z00)]) := by
  refine z_enter "ZucDesk" "<init>" [(0, .ref d)] (by decide) rfl rfl rfl (Nat.le_of_ble_eq_true rfl) ?_
  intro p e s m args below meth c F
  refine z_aload_n (n := 1) F 0 dX1_init_0 rfl rfl rfl ?_
  refine z_objI (n := 4) F q261 (Nat.le_of_ble_eq_true rfl) (Nat.le_of_ble_eq_true rfl) dX1_init_1 rfl ?_
  refine z_aload_n (n := 5) F 0 dX1_init_4 rfl rfl rfl ?_
  refine z_new (n := 8) (cells2 := 1) (slots2 := 7) F 2 [.null, .null, .null, .int 0, .null, .int 0, .null] tyX3 in_X3 tyX3_ok q262 q263 q12 rfl zd2 (Nat.le_of_ble_eq_true rfl) (Nat.le_of_ble_eq_true rfl) dX1_init_5 rfl rfl rfl (fun q1 => ?_)
  refine z_w (ws2 := [(d, zo 3 [.null, .int 0, .int 0, .null, .null, .null, .int 0, .null]), (q1, zo 2 [.null, .null, .null, .int 0, .null, .int 0, .null])]) rfl ?_
  refine z_dup (n := 9) F dX1_init_8 rfl rfl ?_
  refine z_pick (ws2 := [(q1, zo 2 [.null, .null, .null, .int 0, .null, .int 0, .null])] ++ [(d, zo 3 [.null, .int 0, .int 0, .null, .null, .null, .int 0, .null])]) [1, 0] rfl (by decide) ?_
  refine z_cv (n := 12) (cells2 := 5) (slots2 := 33) (wc := [(q1, zo 2 [.null, .null, .null, .int 0, .null, .int 0, .null])]) (wr := [(d, zo 3 [.null, .int 0, .int 0, .null, .null, .null, .int 0, .null])]) F (z_rI F (metX3_init l G q1) (cwI 0 F.hts (lw_meth q266) rfl rfl rfl (F.hts _ q12) (F.hts _ q264) (F.hts _ q265) rfl (by decide +kernel) ⟨Nat.le_of_ble_eq_true rfl, Nat.le_of_ble_eq_true rfl⟩) rfl rfl (Nat.le_of_ble_eq_true rfl) dX1_init_9 ⟨Nat.le_of_ble_eq_true rfl, Nat.le_of_ble_eq_true rfl⟩) rfl rfl rfl (fun w2 h2 => ?_)
  obtain ⟨lA, fA, bA, kA, rfl⟩ := h2
  refine z_w (ws2 := [(q1, zo 2 [.ref lA, .ref fA, .ref bA, .int 0, .ref kA, .int 0, .null]), (lA, zi G 16 z00), (fA, zi G 2 z00), (bA, zi G 4 z00), (kA, zb G 4 z00), (d, zo 3 [.null, .int 0, .int 0, .null, .null, .null, .int 0, .null])]) rfl ?_
  refine z_pick (ws2 := [(d, zo 3 [.null, .int 0, .int 0, .null, .null, .null, .int 0, .null]), (q1, zo 2 [.ref lA, .ref fA, .ref bA, .int 0, .ref kA, .int 0, .null]), (lA, zi G 16 z00), (fA, zi G 2 z00), (bA, zi G 4 z00), (kA, zb G 4 z00)]) [5, 0, 1, 2, 3, 4] rfl (by decide) ?_
  refine z_put (n := 15) (ws2 := [(d, zo 3 [.ref q1, .int 0, .int 0, .null, .null, .null, .int 0, .null]), (q1, zo 2 [.ref lA, .ref fA, .ref bA, .int 0, .ref kA, .int 0, .null]), (lA, zi G 16 z00), (fA, zi G 2 z00), (bA, zi G 4 z00), (kA, zb G 4 z00)]) F 0 0 tyX1 in_X1 tyX1_ok nmX1 rfl rfl (by decide) q294 rfl rfl rfl rfl rfl (Nat.le_of_ble_eq_true rfl) dX1_init_12 rfl rfl ?_
  refine z_aload_n (n := 16) F 0 dX1_init_15 rfl rfl rfl ?_
  refine z_bipush (n := 18) F 32 dX1_init_16 (by decide) rfl ?_
  refine z_newB (n := 20) (cells2 := 6) (slots2 := 65) F 32 (by decide) rfl (Nat.le_of_ble_eq_true rfl) (Nat.le_of_ble_eq_true rfl) (Nat.le_of_ble_eq_true rfl) dX1_init_18 rfl rfl rfl (fun q3 => ?_)
  refine z_w (ws2 := [(d, zo 3 [.ref q1, .int 0, .int 0, .null, .null, .null, .int 0, .null]), (q1, zo 2 [.ref lA, .ref fA, .ref bA, .int 0, .ref kA, .int 0, .null]), (lA, zi G 16 z00), (fA, zi G 2 z00), (bA, zi G 4 z00), (kA, zb G 4 z00), (q3, zb G 32 z00)]) rfl ?_
  refine z_putF (n := 23) (ws2 := [(d, zo 3 [.ref q1, .int 0, .int 0, .ref q3, .null, .null, .int 0, .null]), (q1, zo 2 [.ref lA, .ref fA, .ref bA, .int 0, .ref kA, .int 0, .null]), (lA, zi G 16 z00), (fA, zi G 2 z00), (bA, zi G 4 z00), (kA, zb G 4 z00), (q3, zb G 32 z00)]) F 0 3 tyX1 in_X1 tyX1_ok nmX1 rfl rfl (by decide) q297 rfl rfl rfl rfl rfl rfl rfl (Nat.le_of_ble_eq_true rfl) dX1_init_20 rfl rfl ?_
  refine z_aload_n (n := 24) F 0 dX1_init_23 rfl rfl rfl ?_
  refine z_bipush (n := 26) F 16 dX1_init_24 (by decide) rfl ?_
  refine z_newB (n := 28) (cells2 := 7) (slots2 := 81) F 16 (by decide) rfl (Nat.le_of_ble_eq_true rfl) (Nat.le_of_ble_eq_true rfl) (Nat.le_of_ble_eq_true rfl) dX1_init_26 rfl rfl rfl (fun q4 => ?_)
  refine z_w (ws2 := [(d, zo 3 [.ref q1, .int 0, .int 0, .ref q3, .null, .null, .int 0, .null]), (q1, zo 2 [.ref lA, .ref fA, .ref bA, .int 0, .ref kA, .int 0, .null]), (lA, zi G 16 z00), (fA, zi G 2 z00), (bA, zi G 4 z00), (kA, zb G 4 z00), (q3, zb G 32 z00), (q4, zb G 16 z00)]) rfl ?_
  refine z_putF (n := 31) (ws2 := [(d, zo 3 [.ref q1, .int 0, .int 0, .ref q3, .ref q4, .null, .int 0, .null]), (q1, zo 2 [.ref lA, .ref fA, .ref bA, .int 0, .ref kA, .int 0, .null]), (lA, zi G 16 z00), (fA, zi G 2 z00), (bA, zi G 4 z00), (kA, zb G 4 z00), (q3, zb G 32 z00), (q4, zb G 16 z00)]) F 0 4 tyX1 in_X1 tyX1_ok nmX1 rfl rfl (by decide) q298 rfl rfl rfl rfl rfl rfl rfl (Nat.le_of_ble_eq_true rfl) dX1_init_28 rfl rfl ?_
  refine z_aload_n (n := 32) F 0 dX1_init_31 rfl rfl rfl ?_
  refine z_sipush (n := 35) F 256 dX1_init_32 (by decide) rfl ?_
  refine z_newB (n := 37) (cells2 := 8) (slots2 := 337) F 256 (by decide) rfl (Nat.le_of_ble_eq_true rfl) (Nat.le_of_ble_eq_true rfl) (Nat.le_of_ble_eq_true rfl) dX1_init_35 rfl rfl rfl (fun q5 => ?_)
  refine z_w (ws2 := [(d, zo 3 [.ref q1, .int 0, .int 0, .ref q3, .ref q4, .null, .int 0, .null]), (q1, zo 2 [.ref lA, .ref fA, .ref bA, .int 0, .ref kA, .int 0, .null]), (lA, zi G 16 z00), (fA, zi G 2 z00), (bA, zi G 4 z00), (kA, zb G 4 z00), (q3, zb G 32 z00), (q4, zb G 16 z00), (q5, zb G 256 z00)]) rfl ?_
  refine z_putF (n := 40) (ws2 := [(d, zo 3 [.ref q1, .int 0, .int 0, .ref q3, .ref q4, .ref q5, .int 0, .null]), (q1, zo 2 [.ref lA, .ref fA, .ref bA, .int 0, .ref kA, .int 0, .null]), (lA, zi G 16 z00), (fA, zi G 2 z00), (bA, zi G 4 z00), (kA, zb G 4 z00), (q3, zb G 32 z00), (q4, zb G 16 z00), (q5, zb G 256 z00)]) F 0 5 tyX1 in_X1 tyX1_ok nmX1 rfl rfl (by decide) q299 rfl rfl rfl rfl rfl rfl rfl (Nat.le_of_ble_eq_true rfl) dX1_init_37 rfl rfl ?_
  refine z_aload_n (n := 41) F 0 dX1_init_40 rfl rfl rfl ?_
  refine z_iconst (n := 42) F 0 dX1_init_41 (by decide) rfl ?_
  refine z_newB (n := 44) (cells2 := 9) (slots2 := 337) F 0 (by decide) rfl (Nat.le_of_ble_eq_true rfl) (Nat.le_of_ble_eq_true rfl) (Nat.le_of_ble_eq_true rfl) dX1_init_42 rfl rfl rfl (fun q6 => ?_)
  refine z_w (ws2 := [(d, zo 3 [.ref q1, .int 0, .int 0, .ref q3, .ref q4, .ref q5, .int 0, .null]), (q1, zo 2 [.ref lA, .ref fA, .ref bA, .int 0, .ref kA, .int 0, .null]), (lA, zi G 16 z00), (fA, zi G 2 z00), (bA, zi G 4 z00), (kA, zb G 4 z00), (q3, zb G 32 z00), (q4, zb G 16 z00), (q5, zb G 256 z00), (q6, zb G 0 z00)]) rfl ?_
  refine z_put (n := 47) (ws2 := [(d, zo 3 [.ref q1, .int 0, .int 0, .ref q3, .ref q4, .ref q5, .int 0, .ref q6]), (q1, zo 2 [.ref lA, .ref fA, .ref bA, .int 0, .ref kA, .int 0, .null]), (lA, zi G 16 z00), (fA, zi G 2 z00), (bA, zi G 4 z00), (kA, zb G 4 z00), (q3, zb G 32 z00), (q4, zb G 16 z00), (q5, zb G 256 z00), (q6, zb G 0 z00)]) F 0 7 tyX1 in_X1 tyX1_ok nmX1 rfl rfl (by decide) q301 rfl rfl rfl rfl rfl (Nat.le_of_ble_eq_true rfl) dX1_init_44 rfl rfl ?_
  refine z_pick (ws2 := [(d, zo 3 [.ref q1, .int 0, .int 0, .ref q3, .ref q4, .ref q5, .int 0, .ref q6]), (q3, zb G 32 z00), (q4, zb G 16 z00), (q5, zb G 256 z00), (q6, zb G 0 z00)]) [0, 6, 7, 8, 9] rfl (by decide) ?_
  exact z_vret F ⟨q1, q3, q4, q5, q6, rfl⟩ (Nat.le_of_ble_eq_true rfl) (Nat.le_of_ble_eq_true rfl) dX1_init_47
set_option maxHeartbeats 4000000 in
theorem metX1_word (l : Launch) (G : zG) (q N : Nat) (f : zA) (j : Nat) (x : Int32) (hj : j + 4 ≤ N) (hN : N < 1000) : ZMv l G yX1_word cX1_word 3 (zrm 0 0 0) [.ref q, .int (nI j), .int x] [(q, zb G N f)] (fun w => w = [(q, zb G N (zWd f j x))]) := by
  refine z_enter "ZucDesk" "word" [(0, .ref q), (1, .int (nI j)), (2, .int x)] (by decide) rfl rfl rfl (Nat.le_of_ble_eq_true rfl) ?_
  intro p e s m args below meth c F
  refine z_aload_n (n := 1) F 0 dX1_word_0 rfl rfl rfl ?_
  refine z_iload_n (n := 2) F 1 dX1_word_1 rfl rfl rfl ?_
  refine z_iload_n (n := 3) F 2 dX1_word_2 rfl rfl rfl ?_
  refine z_bipush (n := 5) F 24 dX1_word_3 (by decide) rfl ?_
  refine z_ishr (n := 6) F dX1_word_5 rfl ?_
  refine z_i2b (n := 7) F dX1_word_6 rfl ?_
  refine z_bast (n := 8) (ws2 := [(q, zb G N (upd f j (zb8 (x >>> (24 &&& 31)))))]) F 0 (upd f j (zb8 (x >>> (24 &&& 31)))) rfl (vp_in_nI (by omega) (by omega)) (by rw [nI_clamp (by omega), zb8_b]) dX1_word_7 rfl rfl ?_
  refine z_aload_n (n := 9) F 0 dX1_word_8 rfl rfl rfl ?_
  refine z_iload_n (n := 10) F 1 dX1_word_9 rfl rfl rfl ?_
  refine z_iconst (n := 11) F 1 dX1_word_10 (by decide) rfl ?_
  refine z_iadd (n := 12) F dX1_word_11 rfl ?_
  refine z_re (y := (nI (j + 1))) (nI_add j 1) ?_
  refine z_iload_n (n := 13) F 2 dX1_word_12 rfl rfl rfl ?_
  refine z_bipush (n := 15) F 16 dX1_word_13 (by decide) rfl ?_
  refine z_ishr (n := 16) F dX1_word_15 rfl ?_
  refine z_i2b (n := 17) F dX1_word_16 rfl ?_
  refine z_bast (n := 18) (ws2 := [(q, zb G N (upd (upd f j (zb8 (x >>> (24 &&& 31)))) (j + 1) (zb8 (x >>> (16 &&& 31)))))]) F 0 (upd (upd f j (zb8 (x >>> (24 &&& 31)))) (j + 1) (zb8 (x >>> (16 &&& 31)))) rfl (vp_in_nI (by omega) (by omega)) (by rw [nI_clamp (by omega), zb8_b]) dX1_word_17 rfl rfl ?_
  refine z_aload_n (n := 19) F 0 dX1_word_18 rfl rfl rfl ?_
  refine z_iload_n (n := 20) F 1 dX1_word_19 rfl rfl rfl ?_
  refine z_iconst (n := 21) F 2 dX1_word_20 (by decide) rfl ?_
  refine z_iadd (n := 22) F dX1_word_21 rfl ?_
  refine z_re (y := (nI (j + 2))) (nI_add j 2) ?_
  refine z_iload_n (n := 23) F 2 dX1_word_22 rfl rfl rfl ?_
  refine z_bipush (n := 25) F 8 dX1_word_23 (by decide) rfl ?_
  refine z_ishr (n := 26) F dX1_word_25 rfl ?_
  refine z_i2b (n := 27) F dX1_word_26 rfl ?_
  refine z_bast (n := 28) (ws2 := [(q, zb G N (upd (upd (upd f j (zb8 (x >>> (24 &&& 31)))) (j + 1) (zb8 (x >>> (16 &&& 31)))) (j + 2) (zb8 (x >>> (8 &&& 31)))))]) F 0 (upd (upd (upd f j (zb8 (x >>> (24 &&& 31)))) (j + 1) (zb8 (x >>> (16 &&& 31)))) (j + 2) (zb8 (x >>> (8 &&& 31)))) rfl (vp_in_nI (by omega) (by omega)) (by rw [nI_clamp (by omega), zb8_b]) dX1_word_27 rfl rfl ?_
  refine z_aload_n (n := 29) F 0 dX1_word_28 rfl rfl rfl ?_
  refine z_iload_n (n := 30) F 1 dX1_word_29 rfl rfl rfl ?_
  refine z_iconst (n := 31) F 3 dX1_word_30 (by decide) rfl ?_
  refine z_iadd (n := 32) F dX1_word_31 rfl ?_
  refine z_re (y := (nI (j + 3))) (nI_add j 3) ?_
  refine z_iload_n (n := 33) F 2 dX1_word_32 rfl rfl rfl ?_
  refine z_i2b (n := 34) F dX1_word_33 rfl ?_
  refine z_bast (n := 35) (ws2 := [(q, zb G N (upd (upd (upd (upd f j (zb8 (x >>> (24 &&& 31)))) (j + 1) (zb8 (x >>> (16 &&& 31)))) (j + 2) (zb8 (x >>> (8 &&& 31)))) (j + 3) (zb8 x)))]) F 0 (upd (upd (upd (upd f j (zb8 (x >>> (24 &&& 31)))) (j + 1) (zb8 (x >>> (16 &&& 31)))) (j + 2) (zb8 (x >>> (8 &&& 31)))) (j + 3) (zb8 x)) rfl (vp_in_nI (by omega) (by omega)) (by rw [nI_clamp (by omega), zb8_b]) dX1_word_34 rfl rfl ?_
  exact z_vret F rfl (Nat.le_of_ble_eq_true rfl) (Nat.le_of_ble_eq_true rfl) dX1_word_35
set_option maxHeartbeats 4000000 in
theorem metX1_put (l : Launch) (G : zG) (d kD nD tD oD : Nat) (u0 : Value) (st gv : Int32) (n on : Nat) (K N T O : zA) (x y z u : Int32) (hn : n + 16 ≤ 256) : ZMi l G yX1_put cX1_put 5 .boolean (zrm 1 0 0) [.ref d, .int x, .int y, .int z, .int u] [(d, zo 3 [u0, .int st, .int gv, .ref kD, .ref nD, .ref tD, .int (nI n), .ref oD]), (kD, zb G 32 K), (nD, zb G 16 N), (tD, zb G 256 T), (oD, zb G on O)] (fun r w => r = 1 ∧ w = [(d, zo 3 [u0, .int st, .int gv, .ref kD, .ref nD, .ref tD, .int (nI (n + 16)), .ref oD]), (kD, zb G 32 K), (nD, zb G 16 N), (tD, zb G 256 (zPt T n x y z u)), (oD, zb G on O)]) := by
  refine z_enter "ZucDesk" "put" [(0, .ref d), (1, .int x), (2, .int y), (3, .int z), (4, .int u)] (by decide) rfl rfl rfl (Nat.le_of_ble_eq_true rfl) ?_
  intro p e s m args below meth c F
  refine z_aload_n (n := 1) F 0 dX1_put_0 rfl rfl rfl ?_
  refine z_get (n := 4) F 0 6 in_X1 rfl rfl (by decide) q300 rfl rfl dX1_put_1 rfl ?_
  refine z_aload_n (n := 5) F 0 dX1_put_4 rfl rfl rfl ?_
  refine z_get (n := 8) F 0 5 in_X1 rfl rfl (by decide) q299 rfl rfl dX1_put_5 rfl ?_
  refine z_alenB (n := 9) F 3 256 rfl (by decide) dX1_put_8 rfl ?_
  refine z_bipush (n := 11) F 16 dX1_put_9 (by decide) rfl ?_
  refine z_isub (n := 12) F dX1_put_11 rfl ?_
  refine z_re (y := 240) (by decide) ?_
  refine z_icmp_le_t (tgt := 17) F dX1_put_12 (by decide) (nI_le (a := n) (b := 240) (by omega) (by omega)) ?_
  refine z_aload_n (n := 18) F 0 dX1_put_17 rfl rfl rfl ?_
  refine z_get (n := 21) F 0 5 in_X1 rfl rfl (by decide) q299 rfl rfl dX1_put_18 rfl ?_
  refine z_aload_n (n := 22) F 0 dX1_put_21 rfl rfl rfl ?_
  refine z_get (n := 25) F 0 6 in_X1 rfl rfl (by decide) q300 rfl rfl dX1_put_22 rfl ?_
  refine z_iload_n (n := 26) F 1 dX1_put_25 rfl rfl rfl ?_
  refine z_pick (ws2 := [(tD, zb G 256 T)] ++ [(d, zo 3 [u0, .int st, .int gv, .ref kD, .ref nD, .ref tD, .int (nI n), .ref oD]), (kD, zb G 32 K), (nD, zb G 16 N), (oD, zb G on O)]) [3, 0, 1, 2, 4] rfl (by decide) ?_
  refine z_cv (n := 29) (cells2 := 0) (slots2 := 0) (wc := [(tD, zb G 256 T)]) (wr := [(d, zo 3 [u0, .int st, .int gv, .ref kD, .ref nD, .ref tD, .int (nI n), .ref oD]), (kD, zb G 32 K), (nD, zb G 16 N), (oD, zb G on O)]) F (z_rS F (metX1_word l G tD 256 T n x (by omega) (by omega)) (va_cwS 3 F.hts (lw_S q323 q324 q10 q325) rfl rfl rfl (by decide +kernel) ⟨Nat.le_of_ble_eq_true rfl, Nat.le_of_ble_eq_true rfl⟩) rfl rfl (Nat.le_of_ble_eq_true rfl) dX1_put_26 ⟨Nat.le_of_ble_eq_true rfl, Nat.le_of_ble_eq_true rfl⟩) rfl rfl rfl (fun w1 h1 => ?_)
  obtain rfl := h1
  refine z_w (ws2 := [(tD, zb G 256 (zWd T n x)), (d, zo 3 [u0, .int st, .int gv, .ref kD, .ref nD, .ref tD, .int (nI n), .ref oD]), (kD, zb G 32 K), (nD, zb G 16 N), (oD, zb G on O)]) rfl ?_
  refine z_pick (ws2 := [(d, zo 3 [u0, .int st, .int gv, .ref kD, .ref nD, .ref tD, .int (nI n), .ref oD]), (kD, zb G 32 K), (nD, zb G 16 N), (tD, zb G 256 (zWd T n x)), (oD, zb G on O)]) [1, 2, 3, 0, 4] rfl (by decide) ?_
  refine z_aload_n (n := 30) F 0 dX1_put_29 rfl rfl rfl ?_
  refine z_get (n := 33) F 0 5 in_X1 rfl rfl (by decide) q299 rfl rfl dX1_put_30 rfl ?_
  refine z_aload_n (n := 34) F 0 dX1_put_33 rfl rfl rfl ?_
  refine z_get (n := 37) F 0 6 in_X1 rfl rfl (by decide) q300 rfl rfl dX1_put_34 rfl ?_
  refine z_iconst (n := 38) F 4 dX1_put_37 (by decide) rfl ?_
  refine z_iadd (n := 39) F dX1_put_38 rfl ?_
  refine z_re (y := (nI (n + 4))) (nI_add n 4) ?_
  refine z_iload_n (n := 40) F 2 dX1_put_39 rfl rfl rfl ?_
  refine z_pick (ws2 := [(tD, zb G 256 (zWd T n x))] ++ [(d, zo 3 [u0, .int st, .int gv, .ref kD, .ref nD, .ref tD, .int (nI n), .ref oD]), (kD, zb G 32 K), (nD, zb G 16 N), (oD, zb G on O)]) [3, 0, 1, 2, 4] rfl (by decide) ?_
  refine z_cv (n := 43) (cells2 := 0) (slots2 := 0) (wc := [(tD, zb G 256 (zWd T n x))]) (wr := [(d, zo 3 [u0, .int st, .int gv, .ref kD, .ref nD, .ref tD, .int (nI n), .ref oD]), (kD, zb G 32 K), (nD, zb G 16 N), (oD, zb G on O)]) F (z_rS F (metX1_word l G tD 256 (zWd T n x) (n + 4) y (by omega) (by omega)) (va_cwS 3 F.hts (lw_S q323 q324 q10 q325) rfl rfl rfl (by decide +kernel) ⟨Nat.le_of_ble_eq_true rfl, Nat.le_of_ble_eq_true rfl⟩) rfl rfl (Nat.le_of_ble_eq_true rfl) dX1_put_40 ⟨Nat.le_of_ble_eq_true rfl, Nat.le_of_ble_eq_true rfl⟩) rfl rfl rfl (fun w2 h2 => ?_)
  obtain rfl := h2
  refine z_w (ws2 := [(tD, zb G 256 (zWd (zWd T n x) (n + 4) y)), (d, zo 3 [u0, .int st, .int gv, .ref kD, .ref nD, .ref tD, .int (nI n), .ref oD]), (kD, zb G 32 K), (nD, zb G 16 N), (oD, zb G on O)]) rfl ?_
  refine z_pick (ws2 := [(d, zo 3 [u0, .int st, .int gv, .ref kD, .ref nD, .ref tD, .int (nI n), .ref oD]), (kD, zb G 32 K), (nD, zb G 16 N), (tD, zb G 256 (zWd (zWd T n x) (n + 4) y)), (oD, zb G on O)]) [1, 2, 3, 0, 4] rfl (by decide) ?_
  refine z_aload_n (n := 44) F 0 dX1_put_43 rfl rfl rfl ?_
  refine z_get (n := 47) F 0 5 in_X1 rfl rfl (by decide) q299 rfl rfl dX1_put_44 rfl ?_
  refine z_aload_n (n := 48) F 0 dX1_put_47 rfl rfl rfl ?_
  refine z_get (n := 51) F 0 6 in_X1 rfl rfl (by decide) q300 rfl rfl dX1_put_48 rfl ?_
  refine z_bipush (n := 53) F 8 dX1_put_51 (by decide) rfl ?_
  refine z_iadd (n := 54) F dX1_put_53 rfl ?_
  refine z_re (y := (nI (n + 8))) (nI_add n 8) ?_
  refine z_iload_n (n := 55) F 3 dX1_put_54 rfl rfl rfl ?_
  refine z_pick (ws2 := [(tD, zb G 256 (zWd (zWd T n x) (n + 4) y))] ++ [(d, zo 3 [u0, .int st, .int gv, .ref kD, .ref nD, .ref tD, .int (nI n), .ref oD]), (kD, zb G 32 K), (nD, zb G 16 N), (oD, zb G on O)]) [3, 0, 1, 2, 4] rfl (by decide) ?_
  refine z_cv (n := 58) (cells2 := 0) (slots2 := 0) (wc := [(tD, zb G 256 (zWd (zWd T n x) (n + 4) y))]) (wr := [(d, zo 3 [u0, .int st, .int gv, .ref kD, .ref nD, .ref tD, .int (nI n), .ref oD]), (kD, zb G 32 K), (nD, zb G 16 N), (oD, zb G on O)]) F (z_rS F (metX1_word l G tD 256 (zWd (zWd T n x) (n + 4) y) (n + 8) z (by omega) (by omega)) (va_cwS 3 F.hts (lw_S q323 q324 q10 q325) rfl rfl rfl (by decide +kernel) ⟨Nat.le_of_ble_eq_true rfl, Nat.le_of_ble_eq_true rfl⟩) rfl rfl (Nat.le_of_ble_eq_true rfl) dX1_put_55 ⟨Nat.le_of_ble_eq_true rfl, Nat.le_of_ble_eq_true rfl⟩) rfl rfl rfl (fun w3 h3 => ?_)
  obtain rfl := h3
  refine z_w (ws2 := [(tD, zb G 256 (zWd (zWd (zWd T n x) (n + 4) y) (n + 8) z)), (d, zo 3 [u0, .int st, .int gv, .ref kD, .ref nD, .ref tD, .int (nI n), .ref oD]), (kD, zb G 32 K), (nD, zb G 16 N), (oD, zb G on O)]) rfl ?_
  refine z_pick (ws2 := [(d, zo 3 [u0, .int st, .int gv, .ref kD, .ref nD, .ref tD, .int (nI n), .ref oD]), (kD, zb G 32 K), (nD, zb G 16 N), (tD, zb G 256 (zWd (zWd (zWd T n x) (n + 4) y) (n + 8) z)), (oD, zb G on O)]) [1, 2, 3, 0, 4] rfl (by decide) ?_
  refine z_aload_n (n := 59) F 0 dX1_put_58 rfl rfl rfl ?_
  refine z_get (n := 62) F 0 5 in_X1 rfl rfl (by decide) q299 rfl rfl dX1_put_59 rfl ?_
  refine z_aload_n (n := 63) F 0 dX1_put_62 rfl rfl rfl ?_
  refine z_get (n := 66) F 0 6 in_X1 rfl rfl (by decide) q300 rfl rfl dX1_put_63 rfl ?_
  refine z_bipush (n := 68) F 12 dX1_put_66 (by decide) rfl ?_
  refine z_iadd (n := 69) F dX1_put_68 rfl ?_
  refine z_re (y := (nI (n + 12))) (nI_add n 12) ?_
  refine z_iload (n := 71) F 4 dX1_put_69 rfl rfl ?_
  refine z_pick (ws2 := [(tD, zb G 256 (zWd (zWd (zWd T n x) (n + 4) y) (n + 8) z))] ++ [(d, zo 3 [u0, .int st, .int gv, .ref kD, .ref nD, .ref tD, .int (nI n), .ref oD]), (kD, zb G 32 K), (nD, zb G 16 N), (oD, zb G on O)]) [3, 0, 1, 2, 4] rfl (by decide) ?_
  refine z_cv (n := 74) (cells2 := 0) (slots2 := 0) (wc := [(tD, zb G 256 (zWd (zWd (zWd T n x) (n + 4) y) (n + 8) z))]) (wr := [(d, zo 3 [u0, .int st, .int gv, .ref kD, .ref nD, .ref tD, .int (nI n), .ref oD]), (kD, zb G 32 K), (nD, zb G 16 N), (oD, zb G on O)]) F (z_rS F (metX1_word l G tD 256 (zWd (zWd (zWd T n x) (n + 4) y) (n + 8) z) (n + 12) u (by omega) (by omega)) (va_cwS 3 F.hts (lw_S q323 q324 q10 q325) rfl rfl rfl (by decide +kernel) ⟨Nat.le_of_ble_eq_true rfl, Nat.le_of_ble_eq_true rfl⟩) rfl rfl (Nat.le_of_ble_eq_true rfl) dX1_put_71 ⟨Nat.le_of_ble_eq_true rfl, Nat.le_of_ble_eq_true rfl⟩) rfl rfl rfl (fun w4 h4 => ?_)
  obtain rfl := h4
  refine z_w (ws2 := [(tD, zb G 256 (zWd (zWd (zWd (zWd T n x) (n + 4) y) (n + 8) z) (n + 12) u)), (d, zo 3 [u0, .int st, .int gv, .ref kD, .ref nD, .ref tD, .int (nI n), .ref oD]), (kD, zb G 32 K), (nD, zb G 16 N), (oD, zb G on O)]) rfl ?_
  refine z_pick (ws2 := [(d, zo 3 [u0, .int st, .int gv, .ref kD, .ref nD, .ref tD, .int (nI n), .ref oD]), (kD, zb G 32 K), (nD, zb G 16 N), (tD, zb G 256 (zWd (zWd (zWd (zWd T n x) (n + 4) y) (n + 8) z) (n + 12) u)), (oD, zb G on O)]) [1, 2, 3, 0, 4] rfl (by decide) ?_
  refine z_aload_n (n := 75) F 0 dX1_put_74 rfl rfl rfl ?_
  refine z_dup (n := 76) F dX1_put_75 rfl rfl ?_
  refine z_get (n := 79) F 0 6 in_X1 rfl rfl (by decide) q300 rfl rfl dX1_put_76 rfl ?_
  refine z_bipush (n := 81) F 16 dX1_put_79 (by decide) rfl ?_
  refine z_iadd (n := 82) F dX1_put_81 rfl ?_
  refine z_re (y := (nI (n + 16))) (nI_add n 16) ?_
  refine z_put (n := 85) (ws2 := [(d, zo 3 [u0, .int st, .int gv, .ref kD, .ref nD, .ref tD, .int (nI (n + 16)), .ref oD]), (kD, zb G 32 K), (nD, zb G 16 N), (tD, zb G 256 (zWd (zWd (zWd (zWd T n x) (n + 4) y) (n + 8) z) (n + 12) u)), (oD, zb G on O)]) F 0 6 tyX1 in_X1 tyX1_ok nmX1 rfl rfl (by decide) q300 rfl rfl rfl rfl rfl (Nat.le_of_ble_eq_true rfl) dX1_put_82 rfl rfl ?_
  refine z_iconst (n := 86) F 1 dX1_put_85 (by decide) rfl ?_
  exact z_iret F rfl ⟨rfl, rfl⟩ (Nat.le_of_ble_eq_true rfl) (Nat.le_of_ble_eq_true rfl) dX1_put_86
set_option maxHeartbeats 4000000 in
theorem metX1_from (l : Launch) (G : zG) (d : Nat) (u0 u1 u2 u3 u4 u5 u7 : Value) (n : Nat) (x : Int32) (hn : n < 1000) : ZMi l G yX1_from cX1_from 2 .int (zrm 0 0 0) [.ref d, .int x] [(d, zo 3 [u0, u1, u2, u3, u4, u5, .int (nI n), u7])] (fun r w => r = nI (zmd x (n + 1)) ∧ w = [(d, zo 3 [u0, u1, u2, u3, u4, u5, .int (nI n), u7])]) := by
  refine z_enter "ZucDesk" "from" [(0, .ref d), (1, .int x)] (by decide) rfl rfl rfl (Nat.le_of_ble_eq_true rfl) ?_
  intro p e s m args below meth c F
  refine z_iload_n (n := 1) F 1 dX1_from_0 rfl rfl rfl ?_
  refine z_ldc (n := 3) F q33 dX1_from_1 rfl ?_
  refine z_iand (n := 4) F dX1_from_3 rfl ?_
  refine z_aload_n (n := 5) F 0 dX1_from_4 rfl rfl rfl ?_
  refine z_get (n := 8) F 0 6 in_X1 rfl rfl (by decide) q300 rfl rfl dX1_from_5 rfl ?_
  refine z_iconst (n := 9) F 1 dX1_from_8 (by decide) rfl ?_
  refine z_iadd (n := 10) F dX1_from_9 rfl ?_
  refine z_re (y := (nI (n + 1))) (nI_1 n) ?_
  refine z_irem (n := 11) F dX1_from_10 (nI_ne0 (by omega) (by omega)) rfl ?_
  refine z_re (y := (nI (zmd x (n + 1)))) (zmd_eq x (by omega) (by omega)) ?_
  exact z_iret F rfl ⟨rfl, rfl⟩ (Nat.le_of_ble_eq_true rfl) (Nat.le_of_ble_eq_true rfl) dX1_from_11
set_option maxHeartbeats 4000000 in
theorem metX1_count (l : Launch) (G : zG) (d : Nat) (u0 u1 u2 u3 u4 u5 u7 : Value) (n j : Nat) (x : Int32) (hn : n < 1000) (hj : j ≤ n) : ZMi l G yX1_count cX1_count 3 .int (zrm 0 0 0) [.ref d, .int (nI j), .int x] [(d, zo 3 [u0, u1, u2, u3, u4, u5, .int (nI n), u7])] (fun r w => r = nI (zmd x (n - j + 1)) ∧ w = [(d, zo 3 [u0, u1, u2, u3, u4, u5, .int (nI n), u7])]) := by
  refine z_enter "ZucDesk" "count" [(0, .ref d), (1, .int (nI j)), (2, .int x)] (by decide) rfl rfl rfl (Nat.le_of_ble_eq_true rfl) ?_
  intro p e s m args below meth c F
  refine z_iload_n (n := 1) F 2 dX1_count_0 rfl rfl rfl ?_
  refine z_ldc (n := 3) F q33 dX1_count_1 rfl ?_
  refine z_iand (n := 4) F dX1_count_3 rfl ?_
  refine z_aload_n (n := 5) F 0 dX1_count_4 rfl rfl rfl ?_
  refine z_get (n := 8) F 0 6 in_X1 rfl rfl (by decide) q300 rfl rfl dX1_count_5 rfl ?_
  refine z_iload_n (n := 9) F 1 dX1_count_8 rfl rfl rfl ?_
  refine z_isub (n := 10) F dX1_count_9 rfl ?_
  refine z_re (y := (nI (n - j))) (pk_sub hj) ?_
  refine z_iconst (n := 11) F 1 dX1_count_10 (by decide) rfl ?_
  refine z_iadd (n := 12) F dX1_count_11 rfl ?_
  refine z_re (y := (nI (n - j + 1))) (nI_1 (n - j)) ?_
  refine z_irem (n := 13) F dX1_count_12 (nI_ne0 (by omega) (by omega)) rfl ?_
  refine z_re (y := (nI (zmd x (n - j + 1)))) (zmd_eq x (by omega) (by omega)) ?_
  exact z_iret F rfl ⟨rfl, rfl⟩ (Nat.le_of_ble_eq_true rfl) (Nat.le_of_ble_eq_true rfl) dX1_count_13
set_option maxHeartbeats 4000000 in
theorem metX1_trim (l : Launch) (G : zG) (d : Nat) (u0 u1 u2 u3 u4 u5 u7 : Value) (n : Nat) (x : Int32) (hn : n < 1000) : ZMv l G yX1_trim cX1_trim 2 (zrm 1 0 0) [.ref d, .int x] [(d, zo 3 [u0, u1, u2, u3, u4, u5, .int (nI n), u7])] (fun w => w = [(d, zo 3 [u0, u1, u2, u3, u4, u5, .int (nI (zmd x (n + 1))), u7])]) := by
  refine z_enter "ZucDesk" "trim" [(0, .ref d), (1, .int x)] (by decide) rfl rfl rfl (Nat.le_of_ble_eq_true rfl) ?_
  intro p e s m args below meth c F
  refine z_aload_n (n := 1) F 0 dX1_trim_0 rfl rfl rfl ?_
  refine z_aload_n (n := 2) F 0 dX1_trim_1 rfl rfl rfl ?_
  refine z_iload_n (n := 3) F 1 dX1_trim_2 rfl rfl rfl ?_
  refine z_pick (ws2 := [(d, zo 3 [u0, u1, u2, u3, u4, u5, .int (nI n), u7])] ++ []) [0] rfl (by decide) ?_
  refine z_ci (n := 6) (cells2 := 0) (slots2 := 0) (wc := [(d, zo 3 [u0, u1, u2, u3, u4, u5, .int (nI n), u7])]) (wr := []) F (z_rV F (metX1_from l G d (u0) (u1) (u2) (u3) (u4) (u5) (u7) n x (by omega)) (cwV 1 F.hts (lw_V q28 q30 qs0 q10 q32) rfl rfl rfl (by decide +kernel) ⟨Nat.le_of_ble_eq_true rfl, Nat.le_of_ble_eq_true rfl⟩) 0 rfl rfl rfl rfl (Nat.le_of_ble_eq_true rfl) dX1_trim_3 ⟨Nat.le_of_ble_eq_true rfl, Nat.le_of_ble_eq_true rfl⟩) rfl rfl rfl (fun r1 w1 h1 => ?_)
  obtain ⟨rfl, rfl⟩ := h1
  refine z_w (ws2 := [(d, zo 3 [u0, u1, u2, u3, u4, u5, .int (nI n), u7])]) rfl ?_
  refine z_put (n := 9) (ws2 := [(d, zo 3 [u0, u1, u2, u3, u4, u5, .int (nI (zmd x (n + 1))), u7])]) F 0 6 tyX1 in_X1 tyX1_ok nmX1 rfl rfl (by decide) q300 rfl rfl rfl rfl rfl (Nat.le_of_ble_eq_true rfl) dX1_trim_6 rfl rfl ?_
  exact z_vret F rfl (Nat.le_of_ble_eq_true rfl) (Nat.le_of_ble_eq_true rfl) dX1_trim_9
set_option maxHeartbeats 4000000 in
theorem metX1_key (l : Launch) (G : zG) (d kD : Nat) (u0 u1 u2 u4 u5 u6 u7 : Value) (K : zA) (h : Int32) (j : Nat) (hh : ((h &&& 1) <<< ((4 : Int32) &&& 31)) = nI j) (hj : j ≤ 16) (x y z v : Int32) : ZMv l G yX1_key cX1_key 7 (zrm 1 0 0) [.ref d, .int h, .int x, .int y, .int z, .int v] [(d, zo 3 [u0, u1, u2, .ref kD, u4, u5, u6, u7]), (kD, zb G 32 K)] (fun w => w = [(d, zo 3 [u0, u1, u2, .ref kD, u4, u5, u6, u7]), (kD, zb G 32 (zPt K j x y z v))]) := by
  refine z_enter "ZucDesk" "key" [(0, .ref d), (1, .int h), (2, .int x), (3, .int y), (4, .int z), (5, .int v)] (by decide) rfl rfl rfl (Nat.le_of_ble_eq_true rfl) ?_
  intro p e s m args below meth c F
  refine z_iload_n (n := 1) F 1 dX1_key_0 rfl rfl rfl ?_
  refine z_iconst (n := 2) F 1 dX1_key_1 (by decide) rfl ?_
  refine z_iand (n := 3) F dX1_key_2 rfl ?_
  refine z_iconst (n := 4) F 4 dX1_key_3 (by decide) rfl ?_
  refine z_ishl (n := 5) F dX1_key_4 rfl ?_
  refine z_re (y := (nI j)) hh ?_
  refine z_istore (n := 7) F [(6, .int (nI j)), (0, .ref d), (1, .int h), (2, .int x), (3, .int y), (4, .int z), (5, .int v)] dX1_key_5 (by decide) rfl rfl ?_
  refine z_aload_n (n := 8) F 1 dX1_key_7 rfl rfl rfl ?_
  refine z_get (n := 11) F 0 3 in_X1 rfl rfl (by decide) q297 rfl rfl dX1_key_8 rfl ?_
  refine z_iload (n := 13) F 0 dX1_key_11 rfl rfl ?_
  refine z_iload_n (n := 14) F 3 dX1_key_13 rfl rfl rfl ?_
  refine z_pick (ws2 := [(kD, zb G 32 K)] ++ [(d, zo 3 [u0, u1, u2, .ref kD, u4, u5, u6, u7])]) [1, 0] rfl (by decide) ?_
  refine z_cv (n := 17) (cells2 := 0) (slots2 := 0) (wc := [(kD, zb G 32 K)]) (wr := [(d, zo 3 [u0, u1, u2, .ref kD, u4, u5, u6, u7])]) F (z_rS F (metX1_word l G kD 32 K j x (by omega) (by omega)) (va_cwS 3 F.hts (lw_S q323 q324 q10 q325) rfl rfl rfl (by decide +kernel) ⟨Nat.le_of_ble_eq_true rfl, Nat.le_of_ble_eq_true rfl⟩) rfl rfl (Nat.le_of_ble_eq_true rfl) dX1_key_14 ⟨Nat.le_of_ble_eq_true rfl, Nat.le_of_ble_eq_true rfl⟩) rfl rfl rfl (fun w1 h1 => ?_)
  obtain rfl := h1
  refine z_w (ws2 := [(kD, zb G 32 (zWd K j x)), (d, zo 3 [u0, u1, u2, .ref kD, u4, u5, u6, u7])]) rfl ?_
  refine z_pick (ws2 := [(d, zo 3 [u0, u1, u2, .ref kD, u4, u5, u6, u7]), (kD, zb G 32 (zWd K j x))]) [1, 0] rfl (by decide) ?_
  refine z_aload_n (n := 18) F 1 dX1_key_17 rfl rfl rfl ?_
  refine z_get (n := 21) F 0 3 in_X1 rfl rfl (by decide) q297 rfl rfl dX1_key_18 rfl ?_
  refine z_iload (n := 23) F 0 dX1_key_21 rfl rfl ?_
  refine z_iconst (n := 24) F 4 dX1_key_23 (by decide) rfl ?_
  refine z_iadd (n := 25) F dX1_key_24 rfl ?_
  refine z_re (y := (nI (j + 4))) (nI_add j 4) ?_
  refine z_iload_n (n := 26) F 4 dX1_key_25 rfl rfl rfl ?_
  refine z_pick (ws2 := [(kD, zb G 32 (zWd K j x))] ++ [(d, zo 3 [u0, u1, u2, .ref kD, u4, u5, u6, u7])]) [1, 0] rfl (by decide) ?_
  refine z_cv (n := 29) (cells2 := 0) (slots2 := 0) (wc := [(kD, zb G 32 (zWd K j x))]) (wr := [(d, zo 3 [u0, u1, u2, .ref kD, u4, u5, u6, u7])]) F (z_rS F (metX1_word l G kD 32 (zWd K j x) (j + 4) y (by omega) (by omega)) (va_cwS 3 F.hts (lw_S q323 q324 q10 q325) rfl rfl rfl (by decide +kernel) ⟨Nat.le_of_ble_eq_true rfl, Nat.le_of_ble_eq_true rfl⟩) rfl rfl (Nat.le_of_ble_eq_true rfl) dX1_key_26 ⟨Nat.le_of_ble_eq_true rfl, Nat.le_of_ble_eq_true rfl⟩) rfl rfl rfl (fun w2 h2 => ?_)
  obtain rfl := h2
  refine z_w (ws2 := [(kD, zb G 32 (zWd (zWd K j x) (j + 4) y)), (d, zo 3 [u0, u1, u2, .ref kD, u4, u5, u6, u7])]) rfl ?_
  refine z_pick (ws2 := [(d, zo 3 [u0, u1, u2, .ref kD, u4, u5, u6, u7]), (kD, zb G 32 (zWd (zWd K j x) (j + 4) y))]) [1, 0] rfl (by decide) ?_
  refine z_aload_n (n := 30) F 1 dX1_key_29 rfl rfl rfl ?_
  refine z_get (n := 33) F 0 3 in_X1 rfl rfl (by decide) q297 rfl rfl dX1_key_30 rfl ?_
  refine z_iload (n := 35) F 0 dX1_key_33 rfl rfl ?_
  refine z_bipush (n := 37) F 8 dX1_key_35 (by decide) rfl ?_
  refine z_iadd (n := 38) F dX1_key_37 rfl ?_
  refine z_re (y := (nI (j + 8))) (nI_add j 8) ?_
  refine z_iload (n := 40) F 5 dX1_key_38 rfl rfl ?_
  refine z_pick (ws2 := [(kD, zb G 32 (zWd (zWd K j x) (j + 4) y))] ++ [(d, zo 3 [u0, u1, u2, .ref kD, u4, u5, u6, u7])]) [1, 0] rfl (by decide) ?_
  refine z_cv (n := 43) (cells2 := 0) (slots2 := 0) (wc := [(kD, zb G 32 (zWd (zWd K j x) (j + 4) y))]) (wr := [(d, zo 3 [u0, u1, u2, .ref kD, u4, u5, u6, u7])]) F (z_rS F (metX1_word l G kD 32 (zWd (zWd K j x) (j + 4) y) (j + 8) z (by omega) (by omega)) (va_cwS 3 F.hts (lw_S q323 q324 q10 q325) rfl rfl rfl (by decide +kernel) ⟨Nat.le_of_ble_eq_true rfl, Nat.le_of_ble_eq_true rfl⟩) rfl rfl (Nat.le_of_ble_eq_true rfl) dX1_key_40 ⟨Nat.le_of_ble_eq_true rfl, Nat.le_of_ble_eq_true rfl⟩) rfl rfl rfl (fun w3 h3 => ?_)
  obtain rfl := h3
  refine z_w (ws2 := [(kD, zb G 32 (zWd (zWd (zWd K j x) (j + 4) y) (j + 8) z)), (d, zo 3 [u0, u1, u2, .ref kD, u4, u5, u6, u7])]) rfl ?_
  refine z_pick (ws2 := [(d, zo 3 [u0, u1, u2, .ref kD, u4, u5, u6, u7]), (kD, zb G 32 (zWd (zWd (zWd K j x) (j + 4) y) (j + 8) z))]) [1, 0] rfl (by decide) ?_
  refine z_aload_n (n := 44) F 1 dX1_key_43 rfl rfl rfl ?_
  refine z_get (n := 47) F 0 3 in_X1 rfl rfl (by decide) q297 rfl rfl dX1_key_44 rfl ?_
  refine z_iload (n := 49) F 0 dX1_key_47 rfl rfl ?_
  refine z_bipush (n := 51) F 12 dX1_key_49 (by decide) rfl ?_
  refine z_iadd (n := 52) F dX1_key_51 rfl ?_
  refine z_re (y := (nI (j + 12))) (nI_add j 12) ?_
  refine z_iload (n := 54) F 6 dX1_key_52 rfl rfl ?_
  refine z_pick (ws2 := [(kD, zb G 32 (zWd (zWd (zWd K j x) (j + 4) y) (j + 8) z))] ++ [(d, zo 3 [u0, u1, u2, .ref kD, u4, u5, u6, u7])]) [1, 0] rfl (by decide) ?_
  refine z_cv (n := 57) (cells2 := 0) (slots2 := 0) (wc := [(kD, zb G 32 (zWd (zWd (zWd K j x) (j + 4) y) (j + 8) z))]) (wr := [(d, zo 3 [u0, u1, u2, .ref kD, u4, u5, u6, u7])]) F (z_rS F (metX1_word l G kD 32 (zWd (zWd (zWd K j x) (j + 4) y) (j + 8) z) (j + 12) v (by omega) (by omega)) (va_cwS 3 F.hts (lw_S q323 q324 q10 q325) rfl rfl rfl (by decide +kernel) ⟨Nat.le_of_ble_eq_true rfl, Nat.le_of_ble_eq_true rfl⟩) rfl rfl (Nat.le_of_ble_eq_true rfl) dX1_key_54 ⟨Nat.le_of_ble_eq_true rfl, Nat.le_of_ble_eq_true rfl⟩) rfl rfl rfl (fun w4 h4 => ?_)
  obtain rfl := h4
  refine z_w (ws2 := [(kD, zb G 32 (zWd (zWd (zWd (zWd K j x) (j + 4) y) (j + 8) z) (j + 12) v)), (d, zo 3 [u0, u1, u2, .ref kD, u4, u5, u6, u7])]) rfl ?_
  refine z_pick (ws2 := [(d, zo 3 [u0, u1, u2, .ref kD, u4, u5, u6, u7]), (kD, zb G 32 (zWd (zWd (zWd (zWd K j x) (j + 4) y) (j + 8) z) (j + 12) v))]) [1, 0] rfl (by decide) ?_
  exact z_vret F rfl (Nat.le_of_ble_eq_true rfl) (Nat.le_of_ble_eq_true rfl) dX1_key_57
set_option maxHeartbeats 4000000 in
theorem metX1_nonce (l : Launch) (G : zG) (d nD : Nat) (u0 u1 u2 u3 u5 u6 u7 : Value) (N : zA) (x y z v : Int32) : ZMv l G yX1_nonce cX1_nonce 5 (zrm 1 0 0) [.ref d, .int x, .int y, .int z, .int v] [(d, zo 3 [u0, u1, u2, u3, .ref nD, u5, u6, u7]), (nD, zb G 16 N)] (fun w => w = [(d, zo 3 [u0, u1, u2, u3, .ref nD, u5, u6, u7]), (nD, zb G 16 (zPt N 0 x y z v))]) := by
  refine z_enter "ZucDesk" "nonce" [(0, .ref d), (1, .int x), (2, .int y), (3, .int z), (4, .int v)] (by decide) rfl rfl rfl (Nat.le_of_ble_eq_true rfl) ?_
  intro p e s m args below meth c F
  refine z_aload_n (n := 1) F 0 dX1_nonce_0 rfl rfl rfl ?_
  refine z_get (n := 4) F 0 4 in_X1 rfl rfl (by decide) q298 rfl rfl dX1_nonce_1 rfl ?_
  refine z_iconst (n := 5) F 0 dX1_nonce_4 (by decide) rfl ?_
  refine z_iload_n (n := 6) F 1 dX1_nonce_5 rfl rfl rfl ?_
  refine z_pick (ws2 := [(nD, zb G 16 N)] ++ [(d, zo 3 [u0, u1, u2, u3, .ref nD, u5, u6, u7])]) [1, 0] rfl (by decide) ?_
  refine z_cv (n := 9) (cells2 := 0) (slots2 := 0) (wc := [(nD, zb G 16 N)]) (wr := [(d, zo 3 [u0, u1, u2, u3, .ref nD, u5, u6, u7])]) F (z_rS F (metX1_word l G nD 16 N 0 x (by omega) (by omega)) (va_cwS 3 F.hts (lw_S q323 q324 q10 q325) rfl rfl rfl (by decide +kernel) ⟨Nat.le_of_ble_eq_true rfl, Nat.le_of_ble_eq_true rfl⟩) rfl rfl (Nat.le_of_ble_eq_true rfl) dX1_nonce_6 ⟨Nat.le_of_ble_eq_true rfl, Nat.le_of_ble_eq_true rfl⟩) rfl rfl rfl (fun w1 h1 => ?_)
  obtain rfl := h1
  refine z_w (ws2 := [(nD, zb G 16 (zWd N 0 x)), (d, zo 3 [u0, u1, u2, u3, .ref nD, u5, u6, u7])]) rfl ?_
  refine z_pick (ws2 := [(d, zo 3 [u0, u1, u2, u3, .ref nD, u5, u6, u7]), (nD, zb G 16 (zWd N 0 x))]) [1, 0] rfl (by decide) ?_
  refine z_aload_n (n := 10) F 0 dX1_nonce_9 rfl rfl rfl ?_
  refine z_get (n := 13) F 0 4 in_X1 rfl rfl (by decide) q298 rfl rfl dX1_nonce_10 rfl ?_
  refine z_iconst (n := 14) F 4 dX1_nonce_13 (by decide) rfl ?_
  refine z_iload_n (n := 15) F 2 dX1_nonce_14 rfl rfl rfl ?_
  refine z_pick (ws2 := [(nD, zb G 16 (zWd N 0 x))] ++ [(d, zo 3 [u0, u1, u2, u3, .ref nD, u5, u6, u7])]) [1, 0] rfl (by decide) ?_
  refine z_cv (n := 18) (cells2 := 0) (slots2 := 0) (wc := [(nD, zb G 16 (zWd N 0 x))]) (wr := [(d, zo 3 [u0, u1, u2, u3, .ref nD, u5, u6, u7])]) F (z_rS F (metX1_word l G nD 16 (zWd N 0 x) 4 y (by omega) (by omega)) (va_cwS 3 F.hts (lw_S q323 q324 q10 q325) rfl rfl rfl (by decide +kernel) ⟨Nat.le_of_ble_eq_true rfl, Nat.le_of_ble_eq_true rfl⟩) rfl rfl (Nat.le_of_ble_eq_true rfl) dX1_nonce_15 ⟨Nat.le_of_ble_eq_true rfl, Nat.le_of_ble_eq_true rfl⟩) rfl rfl rfl (fun w2 h2 => ?_)
  obtain rfl := h2
  refine z_w (ws2 := [(nD, zb G 16 (zWd (zWd N 0 x) 4 y)), (d, zo 3 [u0, u1, u2, u3, .ref nD, u5, u6, u7])]) rfl ?_
  refine z_pick (ws2 := [(d, zo 3 [u0, u1, u2, u3, .ref nD, u5, u6, u7]), (nD, zb G 16 (zWd (zWd N 0 x) 4 y))]) [1, 0] rfl (by decide) ?_
  refine z_aload_n (n := 19) F 0 dX1_nonce_18 rfl rfl rfl ?_
  refine z_get (n := 22) F 0 4 in_X1 rfl rfl (by decide) q298 rfl rfl dX1_nonce_19 rfl ?_
  refine z_bipush (n := 24) F 8 dX1_nonce_22 (by decide) rfl ?_
  refine z_iload_n (n := 25) F 3 dX1_nonce_24 rfl rfl rfl ?_
  refine z_pick (ws2 := [(nD, zb G 16 (zWd (zWd N 0 x) 4 y))] ++ [(d, zo 3 [u0, u1, u2, u3, .ref nD, u5, u6, u7])]) [1, 0] rfl (by decide) ?_
  refine z_cv (n := 28) (cells2 := 0) (slots2 := 0) (wc := [(nD, zb G 16 (zWd (zWd N 0 x) 4 y))]) (wr := [(d, zo 3 [u0, u1, u2, u3, .ref nD, u5, u6, u7])]) F (z_rS F (metX1_word l G nD 16 (zWd (zWd N 0 x) 4 y) 8 z (by omega) (by omega)) (va_cwS 3 F.hts (lw_S q323 q324 q10 q325) rfl rfl rfl (by decide +kernel) ⟨Nat.le_of_ble_eq_true rfl, Nat.le_of_ble_eq_true rfl⟩) rfl rfl (Nat.le_of_ble_eq_true rfl) dX1_nonce_25 ⟨Nat.le_of_ble_eq_true rfl, Nat.le_of_ble_eq_true rfl⟩) rfl rfl rfl (fun w3 h3 => ?_)
  obtain rfl := h3
  refine z_w (ws2 := [(nD, zb G 16 (zWd (zWd (zWd N 0 x) 4 y) 8 z)), (d, zo 3 [u0, u1, u2, u3, .ref nD, u5, u6, u7])]) rfl ?_
  refine z_pick (ws2 := [(d, zo 3 [u0, u1, u2, u3, .ref nD, u5, u6, u7]), (nD, zb G 16 (zWd (zWd (zWd N 0 x) 4 y) 8 z))]) [1, 0] rfl (by decide) ?_
  refine z_aload_n (n := 29) F 0 dX1_nonce_28 rfl rfl rfl ?_
  refine z_get (n := 32) F 0 4 in_X1 rfl rfl (by decide) q298 rfl rfl dX1_nonce_29 rfl ?_
  refine z_bipush (n := 34) F 12 dX1_nonce_32 (by decide) rfl ?_
  refine z_iload (n := 36) F 4 dX1_nonce_34 rfl rfl ?_
  refine z_pick (ws2 := [(nD, zb G 16 (zWd (zWd (zWd N 0 x) 4 y) 8 z))] ++ [(d, zo 3 [u0, u1, u2, u3, .ref nD, u5, u6, u7])]) [1, 0] rfl (by decide) ?_
  refine z_cv (n := 39) (cells2 := 0) (slots2 := 0) (wc := [(nD, zb G 16 (zWd (zWd (zWd N 0 x) 4 y) 8 z))]) (wr := [(d, zo 3 [u0, u1, u2, u3, .ref nD, u5, u6, u7])]) F (z_rS F (metX1_word l G nD 16 (zWd (zWd (zWd N 0 x) 4 y) 8 z) 12 v (by omega) (by omega)) (va_cwS 3 F.hts (lw_S q323 q324 q10 q325) rfl rfl rfl (by decide +kernel) ⟨Nat.le_of_ble_eq_true rfl, Nat.le_of_ble_eq_true rfl⟩) rfl rfl (Nat.le_of_ble_eq_true rfl) dX1_nonce_36 ⟨Nat.le_of_ble_eq_true rfl, Nat.le_of_ble_eq_true rfl⟩) rfl rfl rfl (fun w4 h4 => ?_)
  obtain rfl := h4
  refine z_w (ws2 := [(nD, zb G 16 (zWd (zWd (zWd (zWd N 0 x) 4 y) 8 z) 12 v)), (d, zo 3 [u0, u1, u2, u3, .ref nD, u5, u6, u7])]) rfl ?_
  refine z_pick (ws2 := [(d, zo 3 [u0, u1, u2, u3, .ref nD, u5, u6, u7]), (nD, zb G 16 (zWd (zWd (zWd (zWd N 0 x) 4 y) 8 z) 12 v))]) [1, 0] rfl (by decide) ?_
  exact z_vret F rfl (Nat.le_of_ble_eq_true rfl) (Nat.le_of_ble_eq_true rfl) dX1_nonce_39
/-- a desk d that has begun: text T of n bytes, an engine that began with σ0 and has given j bytes, the last outcome O of on bytes -/
def zDP (G : zG) (d : Nat) (T : zA) (n : Nat) (σ0 : zS) (j on : Nat) (O : zA) (w : va_W) : Prop := ∃ (kD nD tD oD en lA fA bA kA b ylA yfA ybA ykA : Nat) (K NN : zA), w = [(d, zo 3 [.ref en, .int 1, .int (nI j), .ref kD, .ref nD, .ref tD, .int (nI n), .ref oD]), (kD, zb G 32 K), (nD, zb G 16 NN), (tD, zb G 256 T), (oD, zb G on O), (en, zo 2 [.ref lA, .ref fA, .ref bA, .int (zSx (zAt σ0 j)), .ref kA, .int (zSn (zAt σ0 j)), .ref b]), (lA, zi G 16 (zAt σ0 j).1), (fA, zi G 2 (zAt σ0 j).2.1), (bA, zi G 4 (zAt σ0 j).2.2.1), (kA, zb G 4 (zSK (zAt σ0 j))), (b, zo 2 [.ref ylA, .ref yfA, .ref ybA, .int (zSx σ0), .ref ykA, .int (zSn σ0), .ref en]), (ylA, zi G 16 σ0.1), (yfA, zi G 2 σ0.2.1), (ybA, zi G 4 σ0.2.2.1), (ykA, zb G 4 (zSK σ0))]
set_option maxHeartbeats 4000000 in
theorem metX1_begin (l : Launch) (G : zG) (d kD nD tD oD : Nat) (u0 : Value) (st gv : Int32) (n on : Nat) (K N T O : zA) (x : Int32) : ZMv l G yX1_begin cX1_begin 5 (zrm 6 16 133) [.ref d, .int x] [(d, zo 3 [u0, .int st, .int gv, .ref kD, .ref nD, .ref tD, .int (nI n), .ref oD]), (kD, zb G 32 K), (nD, zb G 16 N), (tD, zb G 256 T), (oD, zb G on O)] (fun w => zDP G d T n (zSig (zCp K 16) (zCp N 16)) 0 on O w) := by
  refine z_enter "ZucDesk" "begin" [(0, .ref d), (1, .int x)] (by decide) rfl rfl rfl (Nat.le_of_ble_eq_true rfl) ?_
  intro p e s m args below meth c F
  refine z_bipush (n := 2) F 16 dX1_begin_0 (by decide) rfl ?_
  refine z_newB (n := 4) (cells2 := 1) (slots2 := 16) F 16 (by decide) rfl (Nat.le_of_ble_eq_true rfl) (Nat.le_of_ble_eq_true rfl) (Nat.le_of_ble_eq_true rfl) dX1_begin_2 rfl rfl rfl (fun q1 => ?_)
  refine z_w (ws2 := [(d, zo 3 [u0, .int st, .int gv, .ref kD, .ref nD, .ref tD, .int (nI n), .ref oD]), (kD, zb G 32 K), (nD, zb G 16 N), (tD, zb G 256 T), (oD, zb G on O), (q1, zb G 16 z00)]) rfl ?_
  refine z_astore_n (n := 5) F [(2, .ref q1), (0, .ref d), (1, .int x)] dX1_begin_4 rfl (by decide) rfl rfl ?_
  refine z_iconst (n := 6) F 0 dX1_begin_5 (by decide) rfl ?_
  refine z_istore_n (n := 7) F [(3, .int 0), (2, .ref q1), (0, .ref d), (1, .int x)] dX1_begin_6 rfl (by decide) rfl rfl ?_
  refine z_ext (ws2 := [(d, zo 3 [u0, .int st, .int gv, .ref kD, .ref nD, .ref tD, .int (nI n), .ref oD]), (kD, zb G 32 K), (nD, zb G 16 N), (tD, zb G 256 T), (oD, zb G on O), (q1, zb G 16 (zCp K 0))]) 5 (zCp K 0) rfl (zCp_0 K) rfl ?_
  refine zz_loop (fun ws lv => ZW p l e _ s m args below meth c _ G _ _ 1 16 ws 7 lv []) (fun t => [(d, zo 3 [u0, .int st, .int gv, .ref kD, .ref nD, .ref tD, .int (nI n), .ref oD]), (kD, zb G 32 K), (nD, zb G 16 N), (tD, zb G 256 T), (oD, zb G on O), (q1, zb G 16 (zCp K t))]) (fun t => [(3, .int (nI t)), (2, .ref q1), (0, .ref d), (1, .int x)]) 16 ?_ ?_
  · refine z_w (ws2 := [(d, zo 3 [u0, .int st, .int gv, .ref kD, .ref nD, .ref tD, .int (nI n), .ref oD]), (kD, zb G 32 K), (nD, zb G 16 N), (tD, zb G 256 T), (oD, zb G on O), (q1, zb G 16 (zCp K 16))]) rfl ?_
    refine z_l (lv2 := [(3, .int 16), (2, .ref q1), (0, .ref d), (1, .int x)]) rfl ?_
    refine z_iload_n (n := 8) F 0 dX1_begin_7 rfl rfl rfl ?_
    refine z_aload_n (n := 9) F 1 dX1_begin_8 rfl rfl rfl ?_
    refine z_alenB (n := 10) F 5 16 rfl (by decide) dX1_begin_9 rfl ?_
    refine z_icmp_ge_t (tgt := 28) F dX1_begin_10 (by decide) (Int32.le_refl _) ?_
    refine z_bipush (n := 30) F 16 dX1_begin_28 (by decide) rfl ?_
    refine z_newB (n := 32) (cells2 := 2) (slots2 := 32) F 16 (by decide) rfl (Nat.le_of_ble_eq_true rfl) (Nat.le_of_ble_eq_true rfl) (Nat.le_of_ble_eq_true rfl) dX1_begin_30 rfl rfl rfl (fun q2 => ?_)
    refine z_w (ws2 := [(d, zo 3 [u0, .int st, .int gv, .ref kD, .ref nD, .ref tD, .int (nI n), .ref oD]), (kD, zb G 32 K), (nD, zb G 16 N), (tD, zb G 256 T), (oD, zb G on O), (q1, zb G 16 (zCp K 16)), (q2, zb G 16 z00)]) rfl ?_
    refine z_astore_n (n := 33) F [(3, .ref q2), (2, .ref q1), (0, .ref d), (1, .int x)] dX1_begin_32 rfl (by decide) rfl rfl ?_
    refine z_iconst (n := 34) F 0 dX1_begin_33 (by decide) rfl ?_
    refine z_istore (n := 36) F [(4, .int 0), (3, .ref q2), (2, .ref q1), (0, .ref d), (1, .int x)] dX1_begin_34 (by decide) rfl rfl ?_
    refine z_ext (ws2 := [(d, zo 3 [u0, .int st, .int gv, .ref kD, .ref nD, .ref tD, .int (nI n), .ref oD]), (kD, zb G 32 K), (nD, zb G 16 N), (tD, zb G 256 T), (oD, zb G on O), (q1, zb G 16 (zCp K 16)), (q2, zb G 16 (zCp N 0))]) 6 (zCp N 0) rfl (zCp_0 N) rfl ?_
    refine zz_loop (fun ws lv => ZW p l e _ s m args below meth c _ G _ _ 2 32 ws 36 lv []) (fun t => [(d, zo 3 [u0, .int st, .int gv, .ref kD, .ref nD, .ref tD, .int (nI n), .ref oD]), (kD, zb G 32 K), (nD, zb G 16 N), (tD, zb G 256 T), (oD, zb G on O), (q1, zb G 16 (zCp K 16)), (q2, zb G 16 (zCp N t))]) (fun t => [(4, .int (nI t)), (3, .ref q2), (2, .ref q1), (0, .ref d), (1, .int x)]) 16 ?_ ?_
    · refine z_w (ws2 := [(d, zo 3 [u0, .int st, .int gv, .ref kD, .ref nD, .ref tD, .int (nI n), .ref oD]), (kD, zb G 32 K), (nD, zb G 16 N), (tD, zb G 256 T), (oD, zb G on O), (q1, zb G 16 (zCp K 16)), (q2, zb G 16 (zCp N 16))]) rfl ?_
      refine z_l (lv2 := [(4, .int 16), (3, .ref q2), (2, .ref q1), (0, .ref d), (1, .int x)]) rfl ?_
      refine z_iload (n := 38) F 0 dX1_begin_36 rfl rfl ?_
      refine z_bipush (n := 40) F 16 dX1_begin_38 (by decide) rfl ?_
      refine z_icmp_ge_t (tgt := 60) F dX1_begin_40 (by decide) (Int32.le_refl _) ?_
      refine z_new (n := 63) (cells2 := 3) (slots2 := 34) F 1 [.null, .null] tyX4 in_X4 tyX4_ok q342 q343 q13 rfl zd1 (Nat.le_of_ble_eq_true rfl) (Nat.le_of_ble_eq_true rfl) dX1_begin_60 rfl rfl rfl (fun q3 => ?_)
      refine z_w (ws2 := [(d, zo 3 [u0, .int st, .int gv, .ref kD, .ref nD, .ref tD, .int (nI n), .ref oD]), (kD, zb G 32 K), (nD, zb G 16 N), (tD, zb G 256 T), (oD, zb G on O), (q1, zb G 16 (zCp K 16)), (q2, zb G 16 (zCp N 16)), (q3, zo 1 [.null, .null])]) rfl ?_
      refine z_dup (n := 64) F dX1_begin_63 rfl rfl ?_
      refine z_new (n := 67) (cells2 := 4) (slots2 := 35) F 0 [.null] tyX5 in_X5 tyX5_ok q344 q345 q14 rfl zd0 (Nat.le_of_ble_eq_true rfl) (Nat.le_of_ble_eq_true rfl) dX1_begin_64 rfl rfl rfl (fun q4 => ?_)
      refine z_w (ws2 := [(d, zo 3 [u0, .int st, .int gv, .ref kD, .ref nD, .ref tD, .int (nI n), .ref oD]), (kD, zb G 32 K), (nD, zb G 16 N), (tD, zb G 256 T), (oD, zb G on O), (q1, zb G 16 (zCp K 16)), (q2, zb G 16 (zCp N 16)), (q3, zo 1 [.null, .null]), (q4, zo 0 [.null])]) rfl ?_
      refine z_dup (n := 68) F dX1_begin_67 rfl rfl ?_
      refine z_aload_n (n := 69) F 2 dX1_begin_68 rfl rfl rfl ?_
      refine z_pick (ws2 := [(q4, zo 0 [.null]), (q1, zb G 16 (zCp K 16))] ++ [(d, zo 3 [u0, .int st, .int gv, .ref kD, .ref nD, .ref tD, .int (nI n), .ref oD]), (kD, zb G 32 K), (nD, zb G 16 N), (tD, zb G 256 T), (oD, zb G on O), (q2, zb G 16 (zCp N 16)), (q3, zo 1 [.null, .null])]) [8, 5, 0, 1, 2, 3, 4, 6, 7] rfl (by decide) ?_
      refine z_cv (n := 72) (cells2 := 5) (slots2 := 51) (wc := [(q4, zo 0 [.null]), (q1, zb G 16 (zCp K 16))]) (wr := [(d, zo 3 [u0, .int st, .int gv, .ref kD, .ref nD, .ref tD, .int (nI n), .ref oD]), (kD, zb G 32 K), (nD, zb G 16 N), (tD, zb G 256 T), (oD, zb G on O), (q2, zb G 16 (zCp N 16)), (q3, zo 1 [.null, .null])]) F (z_rI F (metX5_init l G q4 q1 (zCp K 16) (zBy_cp K 16)) (cwI 1 F.hts (lw_meth q348) rfl rfl rfl (F.hts _ q14) (F.hts _ q346) (F.hts _ q347) rfl (by decide +kernel) ⟨Nat.le_of_ble_eq_true rfl, Nat.le_of_ble_eq_true rfl⟩) rfl rfl (Nat.le_of_ble_eq_true rfl) dX1_begin_69 ⟨Nat.le_of_ble_eq_true rfl, Nat.le_of_ble_eq_true rfl⟩) rfl rfl rfl (fun w5 h5 => ?_)
      obtain ⟨kk, rfl⟩ := h5
      refine z_w (ws2 := [(q4, zo 0 [.ref kk]), (q1, zb G 16 (zCp K 16)), (kk, zb G 16 (zCp K 16)), (d, zo 3 [u0, .int st, .int gv, .ref kD, .ref nD, .ref tD, .int (nI n), .ref oD]), (kD, zb G 32 K), (nD, zb G 16 N), (tD, zb G 256 T), (oD, zb G on O), (q2, zb G 16 (zCp N 16)), (q3, zo 1 [.null, .null])]) rfl ?_
      refine z_aload_n (n := 73) F 1 dX1_begin_72 rfl rfl rfl ?_
      refine z_pick (ws2 := [(q3, zo 1 [.null, .null]), (q2, zb G 16 (zCp N 16))] ++ [(q4, zo 0 [.ref kk]), (q1, zb G 16 (zCp K 16)), (kk, zb G 16 (zCp K 16)), (d, zo 3 [u0, .int st, .int gv, .ref kD, .ref nD, .ref tD, .int (nI n), .ref oD]), (kD, zb G 32 K), (nD, zb G 16 N), (tD, zb G 256 T), (oD, zb G on O)]) [9, 8, 0, 1, 2, 3, 4, 5, 6, 7] rfl (by decide) ?_
      refine z_cv (n := 76) (cells2 := 6) (slots2 := 67) (wc := [(q3, zo 1 [.null, .null]), (q2, zb G 16 (zCp N 16))]) (wr := [(q4, zo 0 [.ref kk]), (q1, zb G 16 (zCp K 16)), (kk, zb G 16 (zCp K 16)), (d, zo 3 [u0, .int st, .int gv, .ref kD, .ref nD, .ref tD, .int (nI n), .ref oD]), (kD, zb G 32 K), (nD, zb G 16 N), (tD, zb G 256 T), (oD, zb G on O)]) F (z_rI F (metX4_init l G q3 q4 q2 (zCp N 16) (zBy_cp N 16)) (cwI 2 F.hts (lw_meth q363) rfl rfl rfl (F.hts _ q13) (F.hts _ q361) (F.hts _ q362) rfl (by decide +kernel) ⟨Nat.le_of_ble_eq_true rfl, Nat.le_of_ble_eq_true rfl⟩) rfl rfl (Nat.le_of_ble_eq_true rfl) dX1_begin_73 ⟨Nat.le_of_ble_eq_true rfl, Nat.le_of_ble_eq_true rfl⟩) rfl rfl rfl (fun w6 h6 => ?_)
      obtain ⟨vv, rfl⟩ := h6
      refine z_w (ws2 := [(q3, zo 1 [.ref vv, .ref q4]), (q2, zb G 16 (zCp N 16)), (vv, zb G 16 (zCp N 16)), (q4, zo 0 [.ref kk]), (q1, zb G 16 (zCp K 16)), (kk, zb G 16 (zCp K 16)), (d, zo 3 [u0, .int st, .int gv, .ref kD, .ref nD, .ref tD, .int (nI n), .ref oD]), (kD, zb G 32 K), (nD, zb G 16 N), (tD, zb G 256 T), (oD, zb G on O)]) rfl ?_
      refine z_pick (ws2 := [(d, zo 3 [u0, .int st, .int gv, .ref kD, .ref nD, .ref tD, .int (nI n), .ref oD]), (kD, zb G 32 K), (nD, zb G 16 N), (tD, zb G 256 T), (oD, zb G on O), (q3, zo 1 [.ref vv, .ref q4]), (vv, zb G 16 (zCp N 16)), (q4, zo 0 [.ref kk]), (kk, zb G 16 (zCp K 16))]) [6, 7, 8, 9, 10, 0, 2, 3, 5] rfl (by decide) ?_
      refine z_astore (n := 78) F [(4, .ref q3), (3, .ref q2), (2, .ref q1), (0, .ref d), (1, .int x)] dX1_begin_76 (by decide) rfl rfl ?_
      refine z_aload_n (n := 79) F 3 dX1_begin_78 rfl rfl rfl ?_
      refine z_new (n := 82) (cells2 := 7) (slots2 := 74) F 2 [.null, .null, .null, .int 0, .null, .int 0, .null] tyX3 in_X3 tyX3_ok q262 q263 q12 rfl zd2 (Nat.le_of_ble_eq_true rfl) (Nat.le_of_ble_eq_true rfl) dX1_begin_79 rfl rfl rfl (fun q7 => ?_)
      refine z_w (ws2 := [(d, zo 3 [u0, .int st, .int gv, .ref kD, .ref nD, .ref tD, .int (nI n), .ref oD]), (kD, zb G 32 K), (nD, zb G 16 N), (tD, zb G 256 T), (oD, zb G on O), (q3, zo 1 [.ref vv, .ref q4]), (vv, zb G 16 (zCp N 16)), (q4, zo 0 [.ref kk]), (kk, zb G 16 (zCp K 16)), (q7, zo 2 [.null, .null, .null, .int 0, .null, .int 0, .null])]) rfl ?_
      refine z_dup (n := 83) F dX1_begin_82 rfl rfl ?_
      refine z_pick (ws2 := [(q7, zo 2 [.null, .null, .null, .int 0, .null, .int 0, .null])] ++ [(d, zo 3 [u0, .int st, .int gv, .ref kD, .ref nD, .ref tD, .int (nI n), .ref oD]), (kD, zb G 32 K), (nD, zb G 16 N), (tD, zb G 256 T), (oD, zb G on O), (q3, zo 1 [.ref vv, .ref q4]), (vv, zb G 16 (zCp N 16)), (q4, zo 0 [.ref kk]), (kk, zb G 16 (zCp K 16))]) [9, 0, 1, 2, 3, 4, 5, 6, 7, 8] rfl (by decide) ?_
      refine z_cv (n := 86) (cells2 := 11) (slots2 := 100) (wc := [(q7, zo 2 [.null, .null, .null, .int 0, .null, .int 0, .null])]) (wr := [(d, zo 3 [u0, .int st, .int gv, .ref kD, .ref nD, .ref tD, .int (nI n), .ref oD]), (kD, zb G 32 K), (nD, zb G 16 N), (tD, zb G 256 T), (oD, zb G on O), (q3, zo 1 [.ref vv, .ref q4]), (vv, zb G 16 (zCp N 16)), (q4, zo 0 [.ref kk]), (kk, zb G 16 (zCp K 16))]) F (z_rI F (metX3_init l G q7) (cwI 0 F.hts (lw_meth q266) rfl rfl rfl (F.hts _ q12) (F.hts _ q264) (F.hts _ q265) rfl (by decide +kernel) ⟨Nat.le_of_ble_eq_true rfl, Nat.le_of_ble_eq_true rfl⟩) rfl rfl (Nat.le_of_ble_eq_true rfl) dX1_begin_83 ⟨Nat.le_of_ble_eq_true rfl, Nat.le_of_ble_eq_true rfl⟩) rfl rfl rfl (fun w8 h8 => ?_)
      obtain ⟨lA, fA, bA, kA, rfl⟩ := h8
      refine z_w (ws2 := [(q7, zo 2 [.ref lA, .ref fA, .ref bA, .int 0, .ref kA, .int 0, .null]), (lA, zi G 16 z00), (fA, zi G 2 z00), (bA, zi G 4 z00), (kA, zb G 4 z00), (d, zo 3 [u0, .int st, .int gv, .ref kD, .ref nD, .ref tD, .int (nI n), .ref oD]), (kD, zb G 32 K), (nD, zb G 16 N), (tD, zb G 256 T), (oD, zb G on O), (q3, zo 1 [.ref vv, .ref q4]), (vv, zb G 16 (zCp N 16)), (q4, zo 0 [.ref kk]), (kk, zb G 16 (zCp K 16))]) rfl ?_
      refine z_pick (ws2 := [(d, zo 3 [u0, .int st, .int gv, .ref kD, .ref nD, .ref tD, .int (nI n), .ref oD]), (kD, zb G 32 K), (nD, zb G 16 N), (tD, zb G 256 T), (oD, zb G on O), (q7, zo 2 [.ref lA, .ref fA, .ref bA, .int 0, .ref kA, .int 0, .null]), (lA, zi G 16 z00), (fA, zi G 2 z00), (bA, zi G 4 z00), (kA, zb G 4 z00), (q3, zo 1 [.ref vv, .ref q4]), (vv, zb G 16 (zCp N 16)), (q4, zo 0 [.ref kk]), (kk, zb G 16 (zCp K 16))]) [5, 6, 7, 8, 9, 0, 1, 2, 3, 4, 10, 11, 12, 13] rfl (by decide) ?_
      refine z_put (n := 89) (ws2 := [(d, zo 3 [.ref q7, .int st, .int gv, .ref kD, .ref nD, .ref tD, .int (nI n), .ref oD]), (kD, zb G 32 K), (nD, zb G 16 N), (tD, zb G 256 T), (oD, zb G on O), (q7, zo 2 [.ref lA, .ref fA, .ref bA, .int 0, .ref kA, .int 0, .null]), (lA, zi G 16 z00), (fA, zi G 2 z00), (bA, zi G 4 z00), (kA, zb G 4 z00), (q3, zo 1 [.ref vv, .ref q4]), (vv, zb G 16 (zCp N 16)), (q4, zo 0 [.ref kk]), (kk, zb G 16 (zCp K 16))]) F 0 0 tyX1 in_X1 tyX1_ok nmX1 rfl rfl (by decide) q294 rfl rfl rfl rfl rfl (Nat.le_of_ble_eq_true rfl) dX1_begin_86 rfl rfl ?_
      refine z_aload_n (n := 90) F 3 dX1_begin_89 rfl rfl rfl ?_
      refine z_get (n := 93) F 0 0 in_X1 rfl rfl (by decide) q294 rfl rfl dX1_begin_90 rfl ?_
      refine z_iconst (n := 94) F 1 dX1_begin_93 (by decide) rfl ?_
      refine z_aload (n := 96) F 0 dX1_begin_94 rfl rfl ?_
      refine z_pick (ws2 := [(q7, zo 2 [.ref lA, .ref fA, .ref bA, .int 0, .ref kA, .int 0, .null]), (lA, zi G 16 z00), (fA, zi G 2 z00), (bA, zi G 4 z00), (kA, zb G 4 z00), (q3, zo 1 [.ref vv, .ref q4]), (vv, zb G 16 (zCp N 16)), (q4, zo 0 [.ref kk]), (kk, zb G 16 (zCp K 16))] ++ [(d, zo 3 [.ref q7, .int st, .int gv, .ref kD, .ref nD, .ref tD, .int (nI n), .ref oD]), (kD, zb G 32 K), (nD, zb G 16 N), (tD, zb G 256 T), (oD, zb G on O)]) [5, 6, 7, 8, 9, 10, 11, 12, 13, 0, 1, 2, 3, 4] rfl (by decide) ?_
      refine z_cv (n := 99) (cells2 := 16) (slots2 := 133) (wc := [(q7, zo 2 [.ref lA, .ref fA, .ref bA, .int 0, .ref kA, .int 0, .null]), (lA, zi G 16 z00), (fA, zi G 2 z00), (bA, zi G 4 z00), (kA, zb G 4 z00), (q3, zo 1 [.ref vv, .ref q4]), (vv, zb G 16 (zCp N 16)), (q4, zo 0 [.ref kk]), (kk, zb G 16 (zCp K 16))]) (wr := [(d, zo 3 [.ref q7, .int st, .int gv, .ref kD, .ref nD, .ref tD, .int (nI n), .ref oD]), (kD, zb G 32 K), (nD, zb G 16 N), (tD, zb G 256 T), (oD, zb G on O)]) F (z_rU F (metX2_init_2 l G q7 lA fA bA kA q3 vv q4 kk (zCp K 16) (zCp N 16)) (va_cwU 2 F.hts (z_gU q376 q377 q379 q380 q11 q381) rfl rfl rfl rfl (by decide +kernel) ⟨Nat.le_of_ble_eq_true rfl, Nat.le_of_ble_eq_true rfl⟩) 0 rfl rfl rfl rfl (Nat.le_of_ble_eq_true rfl) dX1_begin_96 ⟨Nat.le_of_ble_eq_true rfl, Nat.le_of_ble_eq_true rfl⟩) rfl rfl rfl (fun w9 h9 => ?_)
      obtain ⟨b, ylA, yfA, ybA, ykA, rfl⟩ := h9
      refine z_w (ws2 := [(q7, zo 2 [.ref lA, .ref fA, .ref bA, .int (zSx (zSig (zCp K 16) (zCp N 16))), .ref kA, .int (zSn (zSig (zCp K 16) (zCp N 16))), .ref b]), (lA, zi G 16 (zSig (zCp K 16) (zCp N 16)).1), (fA, zi G 2 (zSig (zCp K 16) (zCp N 16)).2.1), (bA, zi G 4 (zSig (zCp K 16) (zCp N 16)).2.2.1), (kA, zb G 4 (zSK (zSig (zCp K 16) (zCp N 16)))), (b, zo 2 [.ref ylA, .ref yfA, .ref ybA, .int (zSx (zSig (zCp K 16) (zCp N 16))), .ref ykA, .int (zSn (zSig (zCp K 16) (zCp N 16))), .ref q7]), (ylA, zi G 16 (zSig (zCp K 16) (zCp N 16)).1), (yfA, zi G 2 (zSig (zCp K 16) (zCp N 16)).2.1), (ybA, zi G 4 (zSig (zCp K 16) (zCp N 16)).2.2.1), (ykA, zb G 4 (zSK (zSig (zCp K 16) (zCp N 16)))), (q3, zo 1 [.ref vv, .ref q4]), (vv, zb G 16 (zCp N 16)), (q4, zo 0 [.ref kk]), (kk, zb G 16 (zCp K 16)), (d, zo 3 [.ref q7, .int st, .int gv, .ref kD, .ref nD, .ref tD, .int (nI n), .ref oD]), (kD, zb G 32 K), (nD, zb G 16 N), (tD, zb G 256 T), (oD, zb G on O)]) rfl ?_
      refine z_pick (ws2 := [(d, zo 3 [.ref q7, .int st, .int gv, .ref kD, .ref nD, .ref tD, .int (nI n), .ref oD]), (kD, zb G 32 K), (nD, zb G 16 N), (tD, zb G 256 T), (oD, zb G on O), (q7, zo 2 [.ref lA, .ref fA, .ref bA, .int (zSx (zSig (zCp K 16) (zCp N 16))), .ref kA, .int (zSn (zSig (zCp K 16) (zCp N 16))), .ref b]), (lA, zi G 16 (zSig (zCp K 16) (zCp N 16)).1), (fA, zi G 2 (zSig (zCp K 16) (zCp N 16)).2.1), (bA, zi G 4 (zSig (zCp K 16) (zCp N 16)).2.2.1), (kA, zb G 4 (zSK (zSig (zCp K 16) (zCp N 16)))), (b, zo 2 [.ref ylA, .ref yfA, .ref ybA, .int (zSx (zSig (zCp K 16) (zCp N 16))), .ref ykA, .int (zSn (zSig (zCp K 16) (zCp N 16))), .ref q7]), (ylA, zi G 16 (zSig (zCp K 16) (zCp N 16)).1), (yfA, zi G 2 (zSig (zCp K 16) (zCp N 16)).2.1), (ybA, zi G 4 (zSig (zCp K 16) (zCp N 16)).2.2.1), (ykA, zb G 4 (zSK (zSig (zCp K 16) (zCp N 16))))]) [14, 15, 16, 17, 18, 0, 1, 2, 3, 4, 5, 6, 7, 8, 9] rfl (by decide) ?_
      refine z_aload_n (n := 100) F 3 dX1_begin_99 rfl rfl rfl ?_
      refine z_iconst (n := 101) F 1 dX1_begin_100 (by decide) rfl ?_
      refine z_put (n := 104) (ws2 := [(d, zo 3 [.ref q7, .int 1, .int gv, .ref kD, .ref nD, .ref tD, .int (nI n), .ref oD]), (kD, zb G 32 K), (nD, zb G 16 N), (tD, zb G 256 T), (oD, zb G on O), (q7, zo 2 [.ref lA, .ref fA, .ref bA, .int (zSx (zSig (zCp K 16) (zCp N 16))), .ref kA, .int (zSn (zSig (zCp K 16) (zCp N 16))), .ref b]), (lA, zi G 16 (zSig (zCp K 16) (zCp N 16)).1), (fA, zi G 2 (zSig (zCp K 16) (zCp N 16)).2.1), (bA, zi G 4 (zSig (zCp K 16) (zCp N 16)).2.2.1), (kA, zb G 4 (zSK (zSig (zCp K 16) (zCp N 16)))), (b, zo 2 [.ref ylA, .ref yfA, .ref ybA, .int (zSx (zSig (zCp K 16) (zCp N 16))), .ref ykA, .int (zSn (zSig (zCp K 16) (zCp N 16))), .ref q7]), (ylA, zi G 16 (zSig (zCp K 16) (zCp N 16)).1), (yfA, zi G 2 (zSig (zCp K 16) (zCp N 16)).2.1), (ybA, zi G 4 (zSig (zCp K 16) (zCp N 16)).2.2.1), (ykA, zb G 4 (zSK (zSig (zCp K 16) (zCp N 16))))]) F 0 1 tyX1 in_X1 tyX1_ok nmX1 rfl rfl (by decide) q295 rfl rfl rfl rfl rfl (Nat.le_of_ble_eq_true rfl) dX1_begin_101 rfl rfl ?_
      refine z_aload_n (n := 105) F 3 dX1_begin_104 rfl rfl rfl ?_
      refine z_iconst (n := 106) F 0 dX1_begin_105 (by decide) rfl ?_
      refine z_put (n := 109) (ws2 := [(d, zo 3 [.ref q7, .int 1, .int 0, .ref kD, .ref nD, .ref tD, .int (nI n), .ref oD]), (kD, zb G 32 K), (nD, zb G 16 N), (tD, zb G 256 T), (oD, zb G on O), (q7, zo 2 [.ref lA, .ref fA, .ref bA, .int (zSx (zSig (zCp K 16) (zCp N 16))), .ref kA, .int (zSn (zSig (zCp K 16) (zCp N 16))), .ref b]), (lA, zi G 16 (zSig (zCp K 16) (zCp N 16)).1), (fA, zi G 2 (zSig (zCp K 16) (zCp N 16)).2.1), (bA, zi G 4 (zSig (zCp K 16) (zCp N 16)).2.2.1), (kA, zb G 4 (zSK (zSig (zCp K 16) (zCp N 16)))), (b, zo 2 [.ref ylA, .ref yfA, .ref ybA, .int (zSx (zSig (zCp K 16) (zCp N 16))), .ref ykA, .int (zSn (zSig (zCp K 16) (zCp N 16))), .ref q7]), (ylA, zi G 16 (zSig (zCp K 16) (zCp N 16)).1), (yfA, zi G 2 (zSig (zCp K 16) (zCp N 16)).2.1), (ybA, zi G 4 (zSig (zCp K 16) (zCp N 16)).2.2.1), (ykA, zb G 4 (zSK (zSig (zCp K 16) (zCp N 16))))]) F 0 2 tyX1 in_X1 tyX1_ok nmX1 rfl rfl (by decide) q296 rfl rfl rfl rfl rfl (Nat.le_of_ble_eq_true rfl) dX1_begin_106 rfl rfl ?_
      exact z_vret F ⟨kD, nD, tD, oD, q7, lA, fA, bA, kA, b, ylA, yfA, ybA, ykA, K, N, rfl⟩ (Nat.le_of_ble_eq_true rfl) (Nat.le_of_ble_eq_true rfl) dX1_begin_109
    · intro t ht hnext
      refine z_w (ws2 := [(d, zo 3 [u0, .int st, .int gv, .ref kD, .ref nD, .ref tD, .int (nI n), .ref oD]), (kD, zb G 32 K), (nD, zb G 16 N), (tD, zb G 256 T), (oD, zb G on O), (q1, zb G 16 (zCp K 16)), (q2, zb G 16 (zCp N t))]) rfl ?_
      refine z_l (lv2 := [(4, .int (nI t)), (3, .ref q2), (2, .ref q1), (0, .ref d), (1, .int x)]) rfl ?_
      refine z_iload (n := 38) F 0 dX1_begin_36 rfl rfl ?_
      refine z_bipush (n := 40) F 16 dX1_begin_38 (by decide) rfl ?_
      refine z_icmp_ge_f (tgt := 60) (n := 43) F dX1_begin_40 (by decide) (nI_ge (b := 16) ht (by omega)) rfl ?_
      refine z_aload_n (n := 44) F 1 dX1_begin_43 rfl rfl rfl ?_
      refine z_iload (n := 46) F 0 dX1_begin_44 rfl rfl ?_
      refine z_aload_n (n := 47) F 3 dX1_begin_46 rfl rfl rfl ?_
      refine z_get (n := 50) F 0 4 in_X1 rfl rfl (by decide) q298 rfl rfl dX1_begin_47 rfl ?_
      refine z_iload (n := 52) F 0 dX1_begin_50 rfl rfl ?_
      refine z_bald (n := 53) F 2 (N t) rfl (vp_in_nI (by omega) (by omega)) (congrArg N (nI_clamp (by omega))) dX1_begin_52 rfl ?_
      refine z_bast (n := 54) (ws2 := [(d, zo 3 [u0, .int st, .int gv, .ref kD, .ref nD, .ref tD, .int (nI n), .ref oD]), (kD, zb G 32 K), (nD, zb G 16 N), (tD, zb G 256 T), (oD, zb G on O), (q1, zb G 16 (zCp K 16)), (q2, zb G 16 (zCp N (t + 1)))]) F 6 (zCp N (t + 1)) rfl (vp_in_nI (by omega) (by omega)) (zCp_up N (by omega)) dX1_begin_53 rfl rfl ?_
      refine z_iinc (n := 57) F 0 (nI (t + 1)) [(4, .int (nI (t + 1))), (3, .ref q2), (2, .ref q1), (0, .ref d), (1, .int x)] dX1_begin_54 rfl (nI_1 t) (by decide) rfl rfl ?_
      refine z_goto (tgt := 36) F dX1_begin_57 (by decide) ?_
      exact hnext
  · intro t ht hnext
    refine z_w (ws2 := [(d, zo 3 [u0, .int st, .int gv, .ref kD, .ref nD, .ref tD, .int (nI n), .ref oD]), (kD, zb G 32 K), (nD, zb G 16 N), (tD, zb G 256 T), (oD, zb G on O), (q1, zb G 16 (zCp K t))]) rfl ?_
    refine z_l (lv2 := [(3, .int (nI t)), (2, .ref q1), (0, .ref d), (1, .int x)]) rfl ?_
    refine z_iload_n (n := 8) F 0 dX1_begin_7 rfl rfl rfl ?_
    refine z_aload_n (n := 9) F 1 dX1_begin_8 rfl rfl rfl ?_
    refine z_alenB (n := 10) F 5 16 rfl (by decide) dX1_begin_9 rfl ?_
    refine z_icmp_ge_f (tgt := 28) (n := 13) F dX1_begin_10 (by decide) (nI_ge (b := 16) ht (by omega)) rfl ?_
    refine z_aload_n (n := 14) F 1 dX1_begin_13 rfl rfl rfl ?_
    refine z_iload_n (n := 15) F 0 dX1_begin_14 rfl rfl rfl ?_
    refine z_aload_n (n := 16) F 2 dX1_begin_15 rfl rfl rfl ?_
    refine z_get (n := 19) F 0 3 in_X1 rfl rfl (by decide) q297 rfl rfl dX1_begin_16 rfl ?_
    refine z_iload_n (n := 20) F 0 dX1_begin_19 rfl rfl rfl ?_
    refine z_bald (n := 21) F 1 (K t) rfl (vp_in_nI (by omega) (by omega)) (congrArg K (nI_clamp (by omega))) dX1_begin_20 rfl ?_
    refine z_bast (n := 22) (ws2 := [(d, zo 3 [u0, .int st, .int gv, .ref kD, .ref nD, .ref tD, .int (nI n), .ref oD]), (kD, zb G 32 K), (nD, zb G 16 N), (tD, zb G 256 T), (oD, zb G on O), (q1, zb G 16 (zCp K (t + 1)))]) F 5 (zCp K (t + 1)) rfl (vp_in_nI (by omega) (by omega)) (zCp_up K (by omega)) dX1_begin_21 rfl rfl ?_
    refine z_iinc (n := 25) F 0 (nI (t + 1)) [(3, .int (nI (t + 1))), (2, .ref q1), (0, .ref d), (1, .int x)] dX1_begin_22 rfl (nI_1 t) (by decide) rfl rfl ?_
    refine z_goto (tgt := 7) F dX1_begin_25 (by decide) ?_
    exact hnext
set_option maxHeartbeats 4000000 in
theorem metX1_run (l : Launch) (G : zG) (d n on j : Nat) (T O : zA) (σ0 : zS) (w0 : va_W) (hw : zDP G d T n σ0 j on O w0) (h0 : zInv 0 σ0) (hj : j ≤ 500) (f0 N : Nat) (hn : n ≤ 128) (hf : f0 + N ≤ n) : ZMi l G yX1_run cX1_run 6 .int (zrm 7 1 256) [.ref d, .int (nI f0), .int (nI N)] w0 (fun r w => r = nI N ∧ zDP G d T n σ0 (j + N) N (zOt (zAt σ0 j) T f0 N) w) := by
  obtain ⟨kD, nD, tD, oD, en, lA, fA, bA, kA, b, ylA, yfA, ybA, ykA, K, NN, rfl⟩ := hw
  refine z_enter "ZucDesk" "run" [(0, .ref d), (1, .int (nI f0)), (2, .int (nI N))] (by decide) rfl rfl rfl (Nat.le_of_ble_eq_true rfl) ?_
  intro p e s m args below meth c F
  have hi : zInv j (zAt σ0 j) := zAt_inv h0 j (by omega)
  refine z_aload_n (n := 1) F 0 dX1_run_0 rfl rfl rfl ?_
  refine z_get (n := 4) F 0 1 in_X1 rfl rfl (by decide) q295 rfl rfl dX1_run_1 rfl ?_
  refine z_if_ne_t (tgt := 9) F dX1_run_4 (by decide) (by decide) ?_
  refine z_aload_n (n := 10) F 0 dX1_run_9 rfl rfl rfl ?_
  refine z_iload_n (n := 11) F 1 dX1_run_10 rfl rfl rfl ?_
  refine z_pick (ws2 := [(d, zo 3 [.ref en, .int 1, .int (nI j), .ref kD, .ref nD, .ref tD, .int (nI n), .ref oD])] ++ [(kD, zb G 32 K), (nD, zb G 16 NN), (tD, zb G 256 T), (oD, zb G on O), (en, zo 2 [.ref lA, .ref fA, .ref bA, .int (zSx (zAt σ0 j)), .ref kA, .int (zSn (zAt σ0 j)), .ref b]), (lA, zi G 16 (zAt σ0 j).1), (fA, zi G 2 (zAt σ0 j).2.1), (bA, zi G 4 (zAt σ0 j).2.2.1), (kA, zb G 4 (zSK (zAt σ0 j))), (b, zo 2 [.ref ylA, .ref yfA, .ref ybA, .int (zSx σ0), .ref ykA, .int (zSn σ0), .ref en]), (ylA, zi G 16 σ0.1), (yfA, zi G 2 σ0.2.1), (ybA, zi G 4 σ0.2.2.1), (ykA, zb G 4 (zSK σ0))]) [0, 1, 2, 3, 4, 5, 6, 7, 8, 9, 10, 11, 12, 13, 14] rfl (by decide) ?_
  refine z_ci (n := 14) (cells2 := 0) (slots2 := 0) (wc := [(d, zo 3 [.ref en, .int 1, .int (nI j), .ref kD, .ref nD, .ref tD, .int (nI n), .ref oD])]) (wr := [(kD, zb G 32 K), (nD, zb G 16 NN), (tD, zb G 256 T), (oD, zb G on O), (en, zo 2 [.ref lA, .ref fA, .ref bA, .int (zSx (zAt σ0 j)), .ref kA, .int (zSn (zAt σ0 j)), .ref b]), (lA, zi G 16 (zAt σ0 j).1), (fA, zi G 2 (zAt σ0 j).2.1), (bA, zi G 4 (zAt σ0 j).2.2.1), (kA, zb G 4 (zSK (zAt σ0 j))), (b, zo 2 [.ref ylA, .ref yfA, .ref ybA, .int (zSx σ0), .ref ykA, .int (zSn σ0), .ref en]), (ylA, zi G 16 σ0.1), (yfA, zi G 2 σ0.2.1), (ybA, zi G 4 σ0.2.2.1), (ykA, zb G 4 (zSK σ0))]) F (z_rV F (metX1_from l G d (.ref en) (.int 1) (.int (nI j)) (.ref kD) (.ref nD) (.ref tD) (.ref oD) n (nI f0) (by omega)) (cwV 1 F.hts (lw_V q28 q30 qs0 q10 q32) rfl rfl rfl (by decide +kernel) ⟨Nat.le_of_ble_eq_true rfl, Nat.le_of_ble_eq_true rfl⟩) 0 rfl rfl rfl rfl (Nat.le_of_ble_eq_true rfl) dX1_run_11 ⟨Nat.le_of_ble_eq_true rfl, Nat.le_of_ble_eq_true rfl⟩) rfl rfl rfl (fun r1 w1 h1 => ?_)
  obtain ⟨rfl, rfl⟩ := h1
  refine z_w (ws2 := [(d, zo 3 [.ref en, .int 1, .int (nI j), .ref kD, .ref nD, .ref tD, .int (nI n), .ref oD]), (kD, zb G 32 K), (nD, zb G 16 NN), (tD, zb G 256 T), (oD, zb G on O), (en, zo 2 [.ref lA, .ref fA, .ref bA, .int (zSx (zAt σ0 j)), .ref kA, .int (zSn (zAt σ0 j)), .ref b]), (lA, zi G 16 (zAt σ0 j).1), (fA, zi G 2 (zAt σ0 j).2.1), (bA, zi G 4 (zAt σ0 j).2.2.1), (kA, zb G 4 (zSK (zAt σ0 j))), (b, zo 2 [.ref ylA, .ref yfA, .ref ybA, .int (zSx σ0), .ref ykA, .int (zSn σ0), .ref en]), (ylA, zi G 16 σ0.1), (yfA, zi G 2 σ0.2.1), (ybA, zi G 4 σ0.2.2.1), (ykA, zb G 4 (zSK σ0))]) rfl ?_
  refine z_re (y := (nI f0)) (zmd_id (by omega) (by omega)) ?_
  refine z_istore_n (n := 15) F [(3, .int (nI f0)), (0, .ref d), (1, .int (nI f0)), (2, .int (nI N))] dX1_run_14 rfl (by decide) rfl rfl ?_
  refine z_aload_n (n := 16) F 1 dX1_run_15 rfl rfl rfl ?_
  refine z_iload_n (n := 17) F 0 dX1_run_16 rfl rfl rfl ?_
  refine z_iload_n (n := 18) F 3 dX1_run_17 rfl rfl rfl ?_
  refine z_pick (ws2 := [(d, zo 3 [.ref en, .int 1, .int (nI j), .ref kD, .ref nD, .ref tD, .int (nI n), .ref oD])] ++ [(kD, zb G 32 K), (nD, zb G 16 NN), (tD, zb G 256 T), (oD, zb G on O), (en, zo 2 [.ref lA, .ref fA, .ref bA, .int (zSx (zAt σ0 j)), .ref kA, .int (zSn (zAt σ0 j)), .ref b]), (lA, zi G 16 (zAt σ0 j).1), (fA, zi G 2 (zAt σ0 j).2.1), (bA, zi G 4 (zAt σ0 j).2.2.1), (kA, zb G 4 (zSK (zAt σ0 j))), (b, zo 2 [.ref ylA, .ref yfA, .ref ybA, .int (zSx σ0), .ref ykA, .int (zSn σ0), .ref en]), (ylA, zi G 16 σ0.1), (yfA, zi G 2 σ0.2.1), (ybA, zi G 4 σ0.2.2.1), (ykA, zb G 4 (zSK σ0))]) [0, 1, 2, 3, 4, 5, 6, 7, 8, 9, 10, 11, 12, 13, 14] rfl (by decide) ?_
  refine z_ci (n := 21) (cells2 := 0) (slots2 := 0) (wc := [(d, zo 3 [.ref en, .int 1, .int (nI j), .ref kD, .ref nD, .ref tD, .int (nI n), .ref oD])]) (wr := [(kD, zb G 32 K), (nD, zb G 16 NN), (tD, zb G 256 T), (oD, zb G on O), (en, zo 2 [.ref lA, .ref fA, .ref bA, .int (zSx (zAt σ0 j)), .ref kA, .int (zSn (zAt σ0 j)), .ref b]), (lA, zi G 16 (zAt σ0 j).1), (fA, zi G 2 (zAt σ0 j).2.1), (bA, zi G 4 (zAt σ0 j).2.2.1), (kA, zb G 4 (zSK (zAt σ0 j))), (b, zo 2 [.ref ylA, .ref yfA, .ref ybA, .int (zSx σ0), .ref ykA, .int (zSn σ0), .ref en]), (ylA, zi G 16 σ0.1), (yfA, zi G 2 σ0.2.1), (ybA, zi G 4 σ0.2.2.1), (ykA, zb G 4 (zSK σ0))]) F (z_rV F (metX1_count l G d (.ref en) (.int 1) (.int (nI j)) (.ref kD) (.ref nD) (.ref tD) (.ref oD) n f0 (nI N) (by omega) (by omega)) (cwV 2 F.hts (lw_V q34 q36 qs1 q10 q37) rfl rfl rfl (by decide +kernel) ⟨Nat.le_of_ble_eq_true rfl, Nat.le_of_ble_eq_true rfl⟩) 0 rfl rfl rfl rfl (Nat.le_of_ble_eq_true rfl) dX1_run_18 ⟨Nat.le_of_ble_eq_true rfl, Nat.le_of_ble_eq_true rfl⟩) rfl rfl rfl (fun r2 w2 h2 => ?_)
  obtain ⟨rfl, rfl⟩ := h2
  refine z_w (ws2 := [(d, zo 3 [.ref en, .int 1, .int (nI j), .ref kD, .ref nD, .ref tD, .int (nI n), .ref oD]), (kD, zb G 32 K), (nD, zb G 16 NN), (tD, zb G 256 T), (oD, zb G on O), (en, zo 2 [.ref lA, .ref fA, .ref bA, .int (zSx (zAt σ0 j)), .ref kA, .int (zSn (zAt σ0 j)), .ref b]), (lA, zi G 16 (zAt σ0 j).1), (fA, zi G 2 (zAt σ0 j).2.1), (bA, zi G 4 (zAt σ0 j).2.2.1), (kA, zb G 4 (zSK (zAt σ0 j))), (b, zo 2 [.ref ylA, .ref yfA, .ref ybA, .int (zSx σ0), .ref ykA, .int (zSn σ0), .ref en]), (ylA, zi G 16 σ0.1), (yfA, zi G 2 σ0.2.1), (ybA, zi G 4 σ0.2.2.1), (ykA, zb G 4 (zSK σ0))]) rfl ?_
  refine z_re (y := (nI N)) (zmd_id (by omega) (by omega)) ?_
  refine z_istore (n := 23) F [(4, .int (nI N)), (3, .int (nI f0)), (0, .ref d), (1, .int (nI f0)), (2, .int (nI N))] dX1_run_21 (by decide) rfl rfl ?_
  refine z_aload_n (n := 24) F 2 dX1_run_23 rfl rfl rfl ?_
  refine z_get (n := 27) F 0 2 in_X1 rfl rfl (by decide) q296 rfl rfl dX1_run_24 rfl ?_
  refine z_iload (n := 29) F 0 dX1_run_27 rfl rfl ?_
  refine z_iadd (n := 30) F dX1_run_29 rfl ?_
  refine z_re (y := (nI (j + N))) (nI_add j N) ?_
  refine z_sipush (n := 33) F 1024 dX1_run_30 (by decide) rfl ?_
  refine z_icmp_le_t (tgt := 39) F dX1_run_33 (by decide) (nI_le (a := j + N) (b := 1024) (by omega) (by omega)) ?_
  refine z_aload_n (n := 40) F 2 dX1_run_39 rfl rfl rfl ?_
  refine z_dup (n := 41) F dX1_run_40 rfl rfl ?_
  refine z_get (n := 44) F 0 2 in_X1 rfl rfl (by decide) q296 rfl rfl dX1_run_41 rfl ?_
  refine z_iload (n := 46) F 0 dX1_run_44 rfl rfl ?_
  refine z_iadd (n := 47) F dX1_run_46 rfl ?_
  refine z_re (y := (nI (j + N))) (nI_add j N) ?_
  refine z_put (n := 50) (ws2 := [(d, zo 3 [.ref en, .int 1, .int (nI (j + N)), .ref kD, .ref nD, .ref tD, .int (nI n), .ref oD]), (kD, zb G 32 K), (nD, zb G 16 NN), (tD, zb G 256 T), (oD, zb G on O), (en, zo 2 [.ref lA, .ref fA, .ref bA, .int (zSx (zAt σ0 j)), .ref kA, .int (zSn (zAt σ0 j)), .ref b]), (lA, zi G 16 (zAt σ0 j).1), (fA, zi G 2 (zAt σ0 j).2.1), (bA, zi G 4 (zAt σ0 j).2.2.1), (kA, zb G 4 (zSK (zAt σ0 j))), (b, zo 2 [.ref ylA, .ref yfA, .ref ybA, .int (zSx σ0), .ref ykA, .int (zSn σ0), .ref en]), (ylA, zi G 16 σ0.1), (yfA, zi G 2 σ0.2.1), (ybA, zi G 4 σ0.2.2.1), (ykA, zb G 4 (zSK σ0))]) F 0 2 tyX1 in_X1 tyX1_ok nmX1 rfl rfl (by decide) q296 rfl rfl rfl rfl rfl (Nat.le_of_ble_eq_true rfl) dX1_run_47 rfl rfl ?_
  refine z_iload (n := 52) F 0 dX1_run_50 rfl rfl ?_
  refine z_newB (n := 54) (cells2 := 1) (slots2 := (0 + N)) F N (nI_pos (by omega)) (nI_clamp (by omega)) (by omega) (Nat.le_of_ble_eq_true rfl) (by show 0 + N ≤ 256; omega) dX1_run_52 rfl rfl rfl (fun q3 => ?_)
  refine z_w (ws2 := [(d, zo 3 [.ref en, .int 1, .int (nI (j + N)), .ref kD, .ref nD, .ref tD, .int (nI n), .ref oD]), (kD, zb G 32 K), (nD, zb G 16 NN), (tD, zb G 256 T), (oD, zb G on O), (en, zo 2 [.ref lA, .ref fA, .ref bA, .int (zSx (zAt σ0 j)), .ref kA, .int (zSn (zAt σ0 j)), .ref b]), (lA, zi G 16 (zAt σ0 j).1), (fA, zi G 2 (zAt σ0 j).2.1), (bA, zi G 4 (zAt σ0 j).2.2.1), (kA, zb G 4 (zSK (zAt σ0 j))), (b, zo 2 [.ref ylA, .ref yfA, .ref ybA, .int (zSx σ0), .ref ykA, .int (zSn σ0), .ref en]), (ylA, zi G 16 σ0.1), (yfA, zi G 2 σ0.2.1), (ybA, zi G 4 σ0.2.2.1), (ykA, zb G 4 (zSK σ0)), (q3, zb G N z00)]) rfl ?_
  refine z_astore (n := 56) F [(5, .ref q3), (4, .int (nI N)), (3, .int (nI f0)), (0, .ref d), (1, .int (nI f0)), (2, .int (nI N))] dX1_run_54 (by decide) rfl rfl ?_
  refine z_aload_n (n := 57) F 3 dX1_run_56 rfl rfl rfl ?_
  refine z_get (n := 60) F 0 0 in_X1 rfl rfl (by decide) q294 rfl rfl dX1_run_57 rfl ?_
  refine z_aload_n (n := 61) F 3 dX1_run_60 rfl rfl rfl ?_
  refine z_get (n := 64) F 0 5 in_X1 rfl rfl (by decide) q299 rfl rfl dX1_run_61 rfl ?_
  refine z_iload_n (n := 65) F 2 dX1_run_64 rfl rfl rfl ?_
  refine z_iload (n := 67) F 1 dX1_run_65 rfl rfl ?_
  refine z_aload (n := 69) F 0 dX1_run_67 rfl rfl ?_
  refine z_iconst (n := 70) F 0 dX1_run_69 (by decide) rfl ?_
  refine z_pick (ws2 := [(en, zo 2 [.ref lA, .ref fA, .ref bA, .int (zSx (zAt σ0 j)), .ref kA, .int (zSn (zAt σ0 j)), .ref b]), (lA, zi G 16 (zAt σ0 j).1), (fA, zi G 2 (zAt σ0 j).2.1), (bA, zi G 4 (zAt σ0 j).2.2.1), (kA, zb G 4 (zSK (zAt σ0 j))), (tD, zb G 256 T), (q3, zb G N z00)] ++ [(d, zo 3 [.ref en, .int 1, .int (nI (j + N)), .ref kD, .ref nD, .ref tD, .int (nI n), .ref oD]), (kD, zb G 32 K), (nD, zb G 16 NN), (oD, zb G on O), (b, zo 2 [.ref ylA, .ref yfA, .ref ybA, .int (zSx σ0), .ref ykA, .int (zSn σ0), .ref en]), (ylA, zi G 16 σ0.1), (yfA, zi G 2 σ0.2.1), (ybA, zi G 4 σ0.2.2.1), (ykA, zb G 4 (zSK σ0))]) [5, 6, 7, 8, 9, 3, 15, 0, 1, 2, 4, 10, 11, 12, 13, 14] rfl (by decide) ?_
  refine z_ci (n := 73) (cells2 := 1) (slots2 := ((0 + N) + 0)) (wc := [(en, zo 2 [.ref lA, .ref fA, .ref bA, .int (zSx (zAt σ0 j)), .ref kA, .int (zSn (zAt σ0 j)), .ref b]), (lA, zi G 16 (zAt σ0 j).1), (fA, zi G 2 (zAt σ0 j).2.1), (bA, zi G 4 (zAt σ0 j).2.2.1), (kA, zb G 4 (zSK (zAt σ0 j))), (tD, zb G 256 T), (q3, zb G N z00)]) (wr := [(d, zo 3 [.ref en, .int 1, .int (nI (j + N)), .ref kD, .ref nD, .ref tD, .int (nI n), .ref oD]), (kD, zb G 32 K), (nD, zb G 16 NN), (oD, zb G on O), (b, zo 2 [.ref ylA, .ref yfA, .ref ybA, .int (zSx σ0), .ref ykA, .int (zSn σ0), .ref en]), (ylA, zi G 16 σ0.1), (yfA, zi G 2 σ0.2.1), (ybA, zi G 4 σ0.2.2.1), (ykA, zb G 4 (zSK σ0))]) F (z_rU F (metX2_processBytes l G en lA fA bA kA b tD q3 (zAt σ0 j) T j f0 N 256 (by omega) (by omega) (by omega) hi) (va_cwU 5 F.hts (z_gU q38 q39 q41 q42 q11 q43) rfl rfl rfl rfl (by decide +kernel) ⟨Nat.le_of_ble_eq_true rfl, Nat.le_of_ble_eq_true rfl⟩) 0 rfl rfl rfl rfl (Nat.le_of_ble_eq_true rfl) dX1_run_70 ⟨Nat.le_of_ble_eq_true rfl, (by show 0 + N + 0 ≤ 256; omega)⟩) rfl rfl rfl (fun r4 w4 h4 => ?_)
  obtain ⟨rfl, rfl⟩ := h4
  refine z_w (ws2 := [(en, zo 2 [.ref lA, .ref fA, .ref bA, .int (zSx (zAt (zAt σ0 j) N)), .ref kA, .int (zSn (zAt (zAt σ0 j) N)), .ref b]), (lA, zi G 16 (zAt (zAt σ0 j) N).1), (fA, zi G 2 (zAt (zAt σ0 j) N).2.1), (bA, zi G 4 (zAt (zAt σ0 j) N).2.2.1), (kA, zb G 4 (zSK (zAt (zAt σ0 j) N))), (tD, zb G 256 T), (q3, zb G N (zOt (zAt σ0 j) T f0 N)), (d, zo 3 [.ref en, .int 1, .int (nI (j + N)), .ref kD, .ref nD, .ref tD, .int (nI n), .ref oD]), (kD, zb G 32 K), (nD, zb G 16 NN), (oD, zb G on O), (b, zo 2 [.ref ylA, .ref yfA, .ref ybA, .int (zSx σ0), .ref ykA, .int (zSn σ0), .ref en]), (ylA, zi G 16 σ0.1), (yfA, zi G 2 σ0.2.1), (ybA, zi G 4 σ0.2.2.1), (ykA, zb G 4 (zSK σ0))]) rfl ?_
  refine z_pick (ws2 := [(d, zo 3 [.ref en, .int 1, .int (nI (j + N)), .ref kD, .ref nD, .ref tD, .int (nI n), .ref oD]), (kD, zb G 32 K), (nD, zb G 16 NN), (tD, zb G 256 T), (oD, zb G on O), (en, zo 2 [.ref lA, .ref fA, .ref bA, .int (zSx (zAt (zAt σ0 j) N)), .ref kA, .int (zSn (zAt (zAt σ0 j) N)), .ref b]), (lA, zi G 16 (zAt (zAt σ0 j) N).1), (fA, zi G 2 (zAt (zAt σ0 j) N).2.1), (bA, zi G 4 (zAt (zAt σ0 j) N).2.2.1), (kA, zb G 4 (zSK (zAt (zAt σ0 j) N))), (b, zo 2 [.ref ylA, .ref yfA, .ref ybA, .int (zSx σ0), .ref ykA, .int (zSn σ0), .ref en]), (ylA, zi G 16 σ0.1), (yfA, zi G 2 σ0.2.1), (ybA, zi G 4 σ0.2.2.1), (ykA, zb G 4 (zSK σ0)), (q3, zb G N (zOt (zAt σ0 j) T f0 N))]) [7, 8, 9, 5, 10, 0, 1, 2, 3, 4, 11, 12, 13, 14, 15, 6] rfl (by decide) ?_
  refine z_pop (n := 74) F dX1_run_73 rfl rfl ?_
  refine z_aload_n (n := 75) F 3 dX1_run_74 rfl rfl rfl ?_
  refine z_aload (n := 77) F 0 dX1_run_75 rfl rfl ?_
  refine z_put (n := 80) (ws2 := [(d, zo 3 [.ref en, .int 1, .int (nI (j + N)), .ref kD, .ref nD, .ref tD, .int (nI n), .ref q3]), (kD, zb G 32 K), (nD, zb G 16 NN), (tD, zb G 256 T), (oD, zb G on O), (en, zo 2 [.ref lA, .ref fA, .ref bA, .int (zSx (zAt (zAt σ0 j) N)), .ref kA, .int (zSn (zAt (zAt σ0 j) N)), .ref b]), (lA, zi G 16 (zAt (zAt σ0 j) N).1), (fA, zi G 2 (zAt (zAt σ0 j) N).2.1), (bA, zi G 4 (zAt (zAt σ0 j) N).2.2.1), (kA, zb G 4 (zSK (zAt (zAt σ0 j) N))), (b, zo 2 [.ref ylA, .ref yfA, .ref ybA, .int (zSx σ0), .ref ykA, .int (zSn σ0), .ref en]), (ylA, zi G 16 σ0.1), (yfA, zi G 2 σ0.2.1), (ybA, zi G 4 σ0.2.2.1), (ykA, zb G 4 (zSK σ0)), (q3, zb G N (zOt (zAt σ0 j) T f0 N))]) F 0 7 tyX1 in_X1 tyX1_ok nmX1 rfl rfl (by decide) q301 rfl rfl rfl rfl rfl (Nat.le_of_ble_eq_true rfl) dX1_run_77 rfl rfl ?_
  refine z_iload (n := 82) F 1 dX1_run_80 rfl rfl ?_
  refine z_pick (ws2 := [(d, zo 3 [.ref en, .int 1, .int (nI (j + N)), .ref kD, .ref nD, .ref tD, .int (nI n), .ref q3]), (kD, zb G 32 K), (nD, zb G 16 NN), (tD, zb G 256 T), (q3, zb G N (zOt (zAt σ0 j) T f0 N)), (en, zo 2 [.ref lA, .ref fA, .ref bA, .int (zSx (zAt (zAt σ0 j) N)), .ref kA, .int (zSn (zAt (zAt σ0 j) N)), .ref b]), (lA, zi G 16 (zAt (zAt σ0 j) N).1), (fA, zi G 2 (zAt (zAt σ0 j) N).2.1), (bA, zi G 4 (zAt (zAt σ0 j) N).2.2.1), (kA, zb G 4 (zSK (zAt (zAt σ0 j) N))), (b, zo 2 [.ref ylA, .ref yfA, .ref ybA, .int (zSx σ0), .ref ykA, .int (zSn σ0), .ref en]), (ylA, zi G 16 σ0.1), (yfA, zi G 2 σ0.2.1), (ybA, zi G 4 σ0.2.2.1), (ykA, zb G 4 (zSK σ0))]) [0, 1, 2, 3, 15, 5, 6, 7, 8, 9, 10, 11, 12, 13, 14] rfl (by decide) ?_
  exact z_iret F rfl ⟨rfl, ⟨kD, nD, tD, q3, en, lA, fA, bA, kA, b, ylA, yfA, ybA, ykA, K, NN, (by rw [zAt_add])⟩⟩ (Nat.le_of_ble_eq_true rfl) (by show 0 + N + 0 ≤ 256; omega) dX1_run_82
set_option maxHeartbeats 4000000 in
theorem metX1_one (l : Launch) (G : zG) (d n on j : Nat) (T O : zA) (σ0 : zS) (w0 : va_W) (hw : zDP G d T n σ0 j on O w0) (h0 : zInv 0 σ0) (hj : j ≤ 500) (x : Int32) : ZMi l G yX1_one cX1_one 2 .int (zrm 6 0 0) [.ref d, .int x] w0 (fun r w => r = zOut (zAt σ0 j) (zb8 x) &&& 255 ∧ zDP G d T n σ0 (j + 1) on O w) := by
  obtain ⟨kD, nD, tD, oD, en, lA, fA, bA, kA, b, ylA, yfA, ybA, ykA, K, NN, rfl⟩ := hw
  refine z_enter "ZucDesk" "one" [(0, .ref d), (1, .int x)] (by decide) rfl rfl rfl (Nat.le_of_ble_eq_true rfl) ?_
  intro p e s m args below meth c F
  have hi : zInv j (zAt σ0 j) := zAt_inv h0 j (by omega)
  refine z_aload_n (n := 1) F 0 dX1_one_0 rfl rfl rfl ?_
  refine z_get (n := 4) F 0 1 in_X1 rfl rfl (by decide) q295 rfl rfl dX1_one_1 rfl ?_
  refine z_if_ne_t (tgt := 9) F dX1_one_4 (by decide) (by decide) ?_
  refine z_aload_n (n := 10) F 0 dX1_one_9 rfl rfl rfl ?_
  refine z_get (n := 13) F 0 2 in_X1 rfl rfl (by decide) q296 rfl rfl dX1_one_10 rfl ?_
  refine z_sipush (n := 16) F 1024 dX1_one_13 (by decide) rfl ?_
  refine z_icmp_lt_t (tgt := 22) F dX1_one_16 (by decide) (nI_lt (a := j) (b := 1024) (by omega) (by omega)) ?_
  refine z_aload_n (n := 23) F 0 dX1_one_22 rfl rfl rfl ?_
  refine z_dup (n := 24) F dX1_one_23 rfl rfl ?_
  refine z_get (n := 27) F 0 2 in_X1 rfl rfl (by decide) q296 rfl rfl dX1_one_24 rfl ?_
  refine z_iconst (n := 28) F 1 dX1_one_27 (by decide) rfl ?_
  refine z_iadd (n := 29) F dX1_one_28 rfl ?_
  refine z_re (y := (nI (j + 1))) (nI_1 j) ?_
  refine z_put (n := 32) (ws2 := [(d, zo 3 [.ref en, .int 1, .int (nI (j + 1)), .ref kD, .ref nD, .ref tD, .int (nI n), .ref oD]), (kD, zb G 32 K), (nD, zb G 16 NN), (tD, zb G 256 T), (oD, zb G on O), (en, zo 2 [.ref lA, .ref fA, .ref bA, .int (zSx (zAt σ0 j)), .ref kA, .int (zSn (zAt σ0 j)), .ref b]), (lA, zi G 16 (zAt σ0 j).1), (fA, zi G 2 (zAt σ0 j).2.1), (bA, zi G 4 (zAt σ0 j).2.2.1), (kA, zb G 4 (zSK (zAt σ0 j))), (b, zo 2 [.ref ylA, .ref yfA, .ref ybA, .int (zSx σ0), .ref ykA, .int (zSn σ0), .ref en]), (ylA, zi G 16 σ0.1), (yfA, zi G 2 σ0.2.1), (ybA, zi G 4 σ0.2.2.1), (ykA, zb G 4 (zSK σ0))]) F 0 2 tyX1 in_X1 tyX1_ok nmX1 rfl rfl (by decide) q296 rfl rfl rfl rfl rfl (Nat.le_of_ble_eq_true rfl) dX1_one_29 rfl rfl ?_
  refine z_aload_n (n := 33) F 0 dX1_one_32 rfl rfl rfl ?_
  refine z_get (n := 36) F 0 0 in_X1 rfl rfl (by decide) q294 rfl rfl dX1_one_33 rfl ?_
  refine z_iload_n (n := 37) F 1 dX1_one_36 rfl rfl rfl ?_
  refine z_i2b (n := 38) F dX1_one_37 rfl ?_
  refine z_pick (ws2 := [(en, zo 2 [.ref lA, .ref fA, .ref bA, .int (zSx (zAt σ0 j)), .ref kA, .int (zSn (zAt σ0 j)), .ref b]), (lA, zi G 16 (zAt σ0 j).1), (fA, zi G 2 (zAt σ0 j).2.1), (bA, zi G 4 (zAt σ0 j).2.2.1), (kA, zb G 4 (zSK (zAt σ0 j)))] ++ [(d, zo 3 [.ref en, .int 1, .int (nI (j + 1)), .ref kD, .ref nD, .ref tD, .int (nI n), .ref oD]), (kD, zb G 32 K), (nD, zb G 16 NN), (tD, zb G 256 T), (oD, zb G on O), (b, zo 2 [.ref ylA, .ref yfA, .ref ybA, .int (zSx σ0), .ref ykA, .int (zSn σ0), .ref en]), (ylA, zi G 16 σ0.1), (yfA, zi G 2 σ0.2.1), (ybA, zi G 4 σ0.2.2.1), (ykA, zb G 4 (zSK σ0))]) [5, 6, 7, 8, 9, 0, 1, 2, 3, 4, 10, 11, 12, 13, 14] rfl (by decide) ?_
  refine z_ci (n := 41) (cells2 := 0) (slots2 := 0) (wc := [(en, zo 2 [.ref lA, .ref fA, .ref bA, .int (zSx (zAt σ0 j)), .ref kA, .int (zSn (zAt σ0 j)), .ref b]), (lA, zi G 16 (zAt σ0 j).1), (fA, zi G 2 (zAt σ0 j).2.1), (bA, zi G 4 (zAt σ0 j).2.2.1), (kA, zb G 4 (zSK (zAt σ0 j)))]) (wr := [(d, zo 3 [.ref en, .int 1, .int (nI (j + 1)), .ref kD, .ref nD, .ref tD, .int (nI n), .ref oD]), (kD, zb G 32 K), (nD, zb G 16 NN), (tD, zb G 256 T), (oD, zb G on O), (b, zo 2 [.ref ylA, .ref yfA, .ref ybA, .int (zSx σ0), .ref ykA, .int (zSn σ0), .ref en]), (ylA, zi G 16 σ0.1), (yfA, zi G 2 σ0.2.1), (ybA, zi G 4 σ0.2.2.1), (ykA, zb G 4 (zSK σ0))]) F (z_rU F (metX2_returnByte l G en lA fA bA kA (.ref b) (zAt σ0 j) (zb8 x) j (by omega) hi) (va_cwU 1 F.hts (z_gU q223 q224 q226 q153 q11 q157) rfl rfl rfl rfl (by decide +kernel) ⟨Nat.le_of_ble_eq_true rfl, Nat.le_of_ble_eq_true rfl⟩) 0 rfl rfl rfl rfl (Nat.le_of_ble_eq_true rfl) dX1_one_38 ⟨Nat.le_of_ble_eq_true rfl, Nat.le_of_ble_eq_true rfl⟩) rfl rfl rfl (fun r1 w1 h1 => ?_)
  obtain ⟨rfl, rfl⟩ := h1
  refine z_w (ws2 := [(en, zo 2 [.ref lA, .ref fA, .ref bA, .int (zSx (zAdv (zAt σ0 j))), .ref kA, .int (zSn (zAdv (zAt σ0 j))), .ref b]), (lA, zi G 16 (zAdv (zAt σ0 j)).1), (fA, zi G 2 (zAdv (zAt σ0 j)).2.1), (bA, zi G 4 (zAdv (zAt σ0 j)).2.2.1), (kA, zb G 4 (zSK (zAdv (zAt σ0 j)))), (d, zo 3 [.ref en, .int 1, .int (nI (j + 1)), .ref kD, .ref nD, .ref tD, .int (nI n), .ref oD]), (kD, zb G 32 K), (nD, zb G 16 NN), (tD, zb G 256 T), (oD, zb G on O), (b, zo 2 [.ref ylA, .ref yfA, .ref ybA, .int (zSx σ0), .ref ykA, .int (zSn σ0), .ref en]), (ylA, zi G 16 σ0.1), (yfA, zi G 2 σ0.2.1), (ybA, zi G 4 σ0.2.2.1), (ykA, zb G 4 (zSK σ0))]) rfl ?_
  refine z_pick (ws2 := [(d, zo 3 [.ref en, .int 1, .int (nI (j + 1)), .ref kD, .ref nD, .ref tD, .int (nI n), .ref oD]), (kD, zb G 32 K), (nD, zb G 16 NN), (tD, zb G 256 T), (oD, zb G on O), (en, zo 2 [.ref lA, .ref fA, .ref bA, .int (zSx (zAdv (zAt σ0 j))), .ref kA, .int (zSn (zAdv (zAt σ0 j))), .ref b]), (lA, zi G 16 (zAdv (zAt σ0 j)).1), (fA, zi G 2 (zAdv (zAt σ0 j)).2.1), (bA, zi G 4 (zAdv (zAt σ0 j)).2.2.1), (kA, zb G 4 (zSK (zAdv (zAt σ0 j)))), (b, zo 2 [.ref ylA, .ref yfA, .ref ybA, .int (zSx σ0), .ref ykA, .int (zSn σ0), .ref en]), (ylA, zi G 16 σ0.1), (yfA, zi G 2 σ0.2.1), (ybA, zi G 4 σ0.2.2.1), (ykA, zb G 4 (zSK σ0))]) [5, 6, 7, 8, 9, 0, 1, 2, 3, 4, 10, 11, 12, 13, 14] rfl (by decide) ?_
  refine z_sipush (n := 44) F 255 dX1_one_41 (by decide) rfl ?_
  refine z_iand (n := 45) F dX1_one_44 rfl ?_
  exact z_iret F rfl ⟨rfl, ⟨kD, nD, tD, oD, en, lA, fA, bA, kA, b, ylA, yfA, ybA, ykA, K, NN, rfl⟩⟩ (Nat.le_of_ble_eq_true rfl) (Nat.le_of_ble_eq_true rfl) dX1_one_45
set_option maxHeartbeats 4000000 in
theorem metX1_again (l : Launch) (G : zG) (d n on j : Nat) (T O : zA) (σ0 : zS) (w0 : va_W) (hw : zDP G d T n σ0 j on O w0) (h0 : zInv 0 σ0) (hj : j ≤ 500) : ZMv l G yX1_again cX1_again 1 (zrm 3 0 0) [.ref d] w0 (fun w => zDP G d T n σ0 0 on O w) := by
  obtain ⟨kD, nD, tD, oD, en, lA, fA, bA, kA, b, ylA, yfA, ybA, ykA, K, NN, rfl⟩ := hw
  refine z_enter "ZucDesk" "again" [(0, .ref d)] (by decide) rfl rfl rfl (Nat.le_of_ble_eq_true rfl) ?_
  intro p e s m args below meth c F
  refine z_aload_n (n := 1) F 0 dX1_again_0 rfl rfl rfl ?_
  refine z_get (n := 4) F 0 1 in_X1 rfl rfl (by decide) q295 rfl rfl dX1_again_1 rfl ?_
  refine z_if_eq_f (tgt := 19) (n := 7) F dX1_again_4 (by decide) (by decide) rfl ?_
  refine z_aload_n (n := 8) F 0 dX1_again_7 rfl rfl rfl ?_
  refine z_get (n := 11) F 0 0 in_X1 rfl rfl (by decide) q294 rfl rfl dX1_again_8 rfl ?_
  refine z_pick (ws2 := [(en, zo 2 [.ref lA, .ref fA, .ref bA, .int (zSx (zAt σ0 j)), .ref kA, .int (zSn (zAt σ0 j)), .ref b]), (lA, zi G 16 (zAt σ0 j).1), (fA, zi G 2 (zAt σ0 j).2.1), (bA, zi G 4 (zAt σ0 j).2.2.1), (kA, zb G 4 (zSK (zAt σ0 j))), (b, zo 2 [.ref ylA, .ref yfA, .ref ybA, .int (zSx σ0), .ref ykA, .int (zSn σ0), .ref en]), (ylA, zi G 16 σ0.1), (yfA, zi G 2 σ0.2.1), (ybA, zi G 4 σ0.2.2.1), (ykA, zb G 4 (zSK σ0))] ++ [(d, zo 3 [.ref en, .int 1, .int (nI j), .ref kD, .ref nD, .ref tD, .int (nI n), .ref oD]), (kD, zb G 32 K), (nD, zb G 16 NN), (tD, zb G 256 T), (oD, zb G on O)]) [5, 6, 7, 8, 9, 10, 11, 12, 13, 14, 0, 1, 2, 3, 4] rfl (by decide) ?_
  refine z_cv (n := 14) (cells2 := 0) (slots2 := 0) (wc := [(en, zo 2 [.ref lA, .ref fA, .ref bA, .int (zSx (zAt σ0 j)), .ref kA, .int (zSn (zAt σ0 j)), .ref b]), (lA, zi G 16 (zAt σ0 j).1), (fA, zi G 2 (zAt σ0 j).2.1), (bA, zi G 4 (zAt σ0 j).2.2.1), (kA, zb G 4 (zSK (zAt σ0 j))), (b, zo 2 [.ref ylA, .ref yfA, .ref ybA, .int (zSx σ0), .ref ykA, .int (zSn σ0), .ref en]), (ylA, zi G 16 σ0.1), (yfA, zi G 2 σ0.2.1), (ybA, zi G 4 σ0.2.2.1), (ykA, zb G 4 (zSK σ0))]) (wr := [(d, zo 3 [.ref en, .int 1, .int (nI j), .ref kD, .ref nD, .ref tD, .int (nI n), .ref oD]), (kD, zb G 32 K), (nD, zb G 16 NN), (tD, zb G 256 T), (oD, zb G on O)]) F (z_rU F (metX2_reset l G en lA fA bA kA b ylA yfA ybA ykA (.ref en) (zAt σ0 j) σ0 h0.2.2) (va_cwU 0 F.hts (z_gU q231 q232 q234 q235 q11 q236) rfl rfl rfl rfl (by decide +kernel) ⟨Nat.le_of_ble_eq_true rfl, Nat.le_of_ble_eq_true rfl⟩) 0 rfl rfl rfl rfl (Nat.le_of_ble_eq_true rfl) dX1_again_11 ⟨Nat.le_of_ble_eq_true rfl, Nat.le_of_ble_eq_true rfl⟩) rfl rfl rfl (fun w1 h1 => ?_)
  obtain rfl := h1
  refine z_w (ws2 := [(en, zo 2 [.ref lA, .ref fA, .ref bA, .int (zSx σ0), .ref kA, .int (zSn σ0), .ref b]), (lA, zi G 16 σ0.1), (fA, zi G 2 σ0.2.1), (bA, zi G 4 σ0.2.2.1), (kA, zb G 4 (zSK σ0)), (b, zo 2 [.ref ylA, .ref yfA, .ref ybA, .int (zSx σ0), .ref ykA, .int (zSn σ0), .ref en]), (ylA, zi G 16 σ0.1), (yfA, zi G 2 σ0.2.1), (ybA, zi G 4 σ0.2.2.1), (ykA, zb G 4 (zSK σ0)), (d, zo 3 [.ref en, .int 1, .int (nI j), .ref kD, .ref nD, .ref tD, .int (nI n), .ref oD]), (kD, zb G 32 K), (nD, zb G 16 NN), (tD, zb G 256 T), (oD, zb G on O)]) rfl ?_
  refine z_pick (ws2 := [(d, zo 3 [.ref en, .int 1, .int (nI j), .ref kD, .ref nD, .ref tD, .int (nI n), .ref oD]), (kD, zb G 32 K), (nD, zb G 16 NN), (tD, zb G 256 T), (oD, zb G on O), (en, zo 2 [.ref lA, .ref fA, .ref bA, .int (zSx σ0), .ref kA, .int (zSn σ0), .ref b]), (lA, zi G 16 σ0.1), (fA, zi G 2 σ0.2.1), (bA, zi G 4 σ0.2.2.1), (kA, zb G 4 (zSK σ0)), (b, zo 2 [.ref ylA, .ref yfA, .ref ybA, .int (zSx σ0), .ref ykA, .int (zSn σ0), .ref en]), (ylA, zi G 16 σ0.1), (yfA, zi G 2 σ0.2.1), (ybA, zi G 4 σ0.2.2.1), (ykA, zb G 4 (zSK σ0))]) [10, 11, 12, 13, 14, 0, 1, 2, 3, 4, 5, 6, 7, 8, 9] rfl (by decide) ?_
  refine z_aload_n (n := 15) F 0 dX1_again_14 rfl rfl rfl ?_
  refine z_iconst (n := 16) F 0 dX1_again_15 (by decide) rfl ?_
  refine z_put (n := 19) (ws2 := [(d, zo 3 [.ref en, .int 1, .int 0, .ref kD, .ref nD, .ref tD, .int (nI n), .ref oD]), (kD, zb G 32 K), (nD, zb G 16 NN), (tD, zb G 256 T), (oD, zb G on O), (en, zo 2 [.ref lA, .ref fA, .ref bA, .int (zSx σ0), .ref kA, .int (zSn σ0), .ref b]), (lA, zi G 16 σ0.1), (fA, zi G 2 σ0.2.1), (bA, zi G 4 σ0.2.2.1), (kA, zb G 4 (zSK σ0)), (b, zo 2 [.ref ylA, .ref yfA, .ref ybA, .int (zSx σ0), .ref ykA, .int (zSn σ0), .ref en]), (ylA, zi G 16 σ0.1), (yfA, zi G 2 σ0.2.1), (ybA, zi G 4 σ0.2.2.1), (ykA, zb G 4 (zSK σ0))]) F 0 2 tyX1 in_X1 tyX1_ok nmX1 rfl rfl (by decide) q296 rfl rfl rfl rfl rfl (Nat.le_of_ble_eq_true rfl) dX1_again_16 rfl rfl ?_
  exact z_vret F ⟨kD, nD, tD, oD, en, lA, fA, bA, kA, b, ylA, yfA, ybA, ykA, K, NN, rfl⟩ (Nat.le_of_ble_eq_true rfl) (Nat.le_of_ble_eq_true rfl) dX1_again_19
set_option maxHeartbeats 4000000 in
theorem metX1_out (l : Launch) (G : zG) (d n on j : Nat) (T O : zA) (σ0 : zS) (w0 : va_W) (hw : zDP G d T n σ0 j on O w0) (h0 : zInv 0 σ0) (hj : j ≤ 500) (i : Nat) (hio : i < on) (hon : on < 1000) : ZMi l G yX1_out cX1_out 2 .int (zrm 0 0 0) [.ref d, .int (nI i)] w0 (fun r w => r = O i &&& 255 ∧ zDP G d T n σ0 j on O w) := by
  obtain ⟨kD, nD, tD, oD, en, lA, fA, bA, kA, b, ylA, yfA, ybA, ykA, K, NN, rfl⟩ := hw
  refine z_enter "ZucDesk" "out" [(0, .ref d), (1, .int (nI i))] (by decide) rfl rfl rfl (Nat.le_of_ble_eq_true rfl) ?_
  intro p e s m args below meth c F
  refine z_aload_n (n := 1) F 0 dX1_out_0 rfl rfl rfl ?_
  refine z_get (n := 4) F 0 7 in_X1 rfl rfl (by decide) q301 rfl rfl dX1_out_1 rfl ?_
  refine z_alenB (n := 5) F 4 (nI on) rfl rfl dX1_out_4 rfl ?_
  refine z_if_ne_t (tgt := 12) F dX1_out_5 (by decide) (nI_ne0 (by omega) (by omega)) ?_
  refine z_aload_n (n := 13) F 0 dX1_out_12 rfl rfl rfl ?_
  refine z_get (n := 16) F 0 7 in_X1 rfl rfl (by decide) q301 rfl rfl dX1_out_13 rfl ?_
  refine z_iload_n (n := 17) F 1 dX1_out_16 rfl rfl rfl ?_
  refine z_ldc (n := 19) F q33 dX1_out_17 rfl ?_
  refine z_iand (n := 20) F dX1_out_19 rfl ?_
  refine z_aload_n (n := 21) F 0 dX1_out_20 rfl rfl rfl ?_
  refine z_get (n := 24) F 0 7 in_X1 rfl rfl (by decide) q301 rfl rfl dX1_out_21 rfl ?_
  refine z_alenB (n := 25) F 4 (nI on) rfl rfl dX1_out_24 rfl ?_
  refine z_irem (n := 26) F dX1_out_25 (nI_ne0 (by omega) (by omega)) rfl ?_
  refine z_re (y := (nI i)) ((zmd_eq (nI i) (by omega) (by omega)).trans (zmd_id (by omega) hio)) ?_
  refine z_bald (n := 27) F 4 (O i) rfl (vp_in_nI hio (by omega)) (congrArg O (nI_clamp (by omega))) dX1_out_26 rfl ?_
  refine z_sipush (n := 30) F 255 dX1_out_27 (by decide) rfl ?_
  refine z_iand (n := 31) F dX1_out_30 rfl ?_
  exact z_iret F rfl ⟨rfl, ⟨kD, nD, tD, oD, en, lA, fA, bA, kA, b, ylA, yfA, ybA, ykA, K, NN, rfl⟩⟩ (Nat.le_of_ble_eq_true rfl) (Nat.le_of_ble_eq_true rfl) dX1_out_31
end
section
/-! ZUC: the specification's first example, step by step in the kernel (printed by gen/known.py) -/
set_option maxRecDepth 100000
def zf (l : List Int32) : zA := fun j => l.getD j 0
theorem zf_upd (l : List Int32) {k : Nat} (h : k < l.length) (v : Int32) : upd (zf l) k v = zf (l.set k v) := by
  funext j
  simp only [upd, zf, List.getD_eq_getElem?_getD]
  by_cases e : j = k
  · subst e; rw [if_pos rfl, List.getElem?_set_self h]; rfl
  · rw [if_neg e, List.getElem?_set_ne (Ne.symm e)]
theorem zf_00 (k : Nat) : z00 = zf (List.replicate k 0) := by
  funext j
  simp only [z00, zf, List.getD_eq_getElem?_getD, List.getElem?_replicate]
  by_cases h : j < k
  · rw [if_pos h]; rfl
  · rw [if_neg h]; rfl
theorem zf_sh (l : List Int32) (h : l.length = 16) (f : Int32) : zSh (zf l) f = zf (l.drop 1 ++ [f]) := by
  funext j
  simp only [zSh, upd, zSk, zf, List.getD_eq_getElem?_getD]
  by_cases h1 : j = 15
  · subst h1
    rw [if_pos rfl, List.getElem?_append_right (by simp [h])]
    simp [h]
  · rw [if_neg h1]
    by_cases h2 : j < 15
    · rw [if_pos h2, List.getElem?_append_left (by simp [h]; omega), List.getElem?_drop, Nat.add_comm]
    · rw [if_neg h2, List.getElem?_eq_none (by omega), List.getElem?_eq_none (by simp [h]; omega)]
abbrev zL3 : Type := List Int32 × List Int32 × List Int32
def zt3 (t : zL3) : zT3 := (zf t.1, zf t.2.1, zf t.2.2)
def zBl (L : List Int32) : List Int32 := [zB0 (zf L), zBx (zf L 11) (zf L 9), zBx (zf L 7) (zf L 5), zBx (zf L 2) (zf L 0)]
def zFl (B F : List Int32) : List Int32 := [zSS (zUf (zf B) (zf F)), zSS (zVf (zf B) (zf F))]
theorem zf_bit (L B : List Int32) (h : B.length = 4) : zBit (zf L) (zf B) = zf (zBl L) := by
  match B, h with
  | [a, b, c, d], _ =>
    unfold zBit
    rw [zf_upd _ (by simp), zf_upd _ (by simp), zf_upd _ (by simp), zf_upd _ (by simp)]
    rfl
theorem zf_fn (B F : List Int32) (h : F.length = 2) : zFn (zf B) (zf F) = zf (zFl B F) := by
  match F, h with
  | [a, b], _ =>
    unfold zFn
    rw [zf_upd _ (by simp), zf_upd _ (by simp)]
    rfl
def zRdl (t : zL3) : zL3 := (t.1.drop 1 ++ [zAddM (zFbk (zf t.1)) (zush (zWf (zf (zBl t.1)) (zf t.2.1)) 1)], zFl (zBl t.1) t.2.1, zBl t.1)
def zWkl (t : zL3) : zL3 := (t.1.drop 1 ++ [zFbk (zf t.1)], zFl (zBl t.1) t.2.1, zBl t.1)
def zOk3 (t : zL3) : Prop := t.1.length = 16 ∧ t.2.1.length = 2 ∧ t.2.2.length = 4
theorem zRdl_eq (t : zL3) (h : zOk3 t) : zRd (zt3 t) = zt3 (zRdl t) := by
  obtain ⟨h1, h2, h3⟩ := h
  simp only [zRd, zt3, zRdl, zIni]
  rw [zf_bit _ _ h3, zf_fn _ _ h2, zf_sh _ h1]
theorem zWkl_eq (t : zL3) (h : zOk3 t) : zWk (zt3 t) = zt3 (zWkl t) := by
  obtain ⟨h1, h2, h3⟩ := h
  simp only [zWk, zt3, zWkl, zWork]
  rw [zf_bit _ _ h3, zf_fn _ _ h2, zf_sh _ h1]
theorem zRds_next {s : zT3} {k : Nat} {t u : zL3} (h : zRds s k = zt3 t) (hk : zOk3 t) (e : zRdl t = u) : zRds s (k + 1) = zt3 u := by
  show zRd (zRds s k) = _
  rw [h, zRdl_eq t hk, e]
def zK0 : zT3 := (zLd (zCp z00 16) (zCp z00 16), z00, z00)
theorem zk_ld : zLd (zCp z00 16) (zCp z00 16) = zf [4511488, 2538496, 6449920, 1269248, 5736704, 3531264, 7419136, 634624, 5076992, 3085056, 7062528, 1765632, 6170112, 3951872, 7903744, 4697088] := by
  funext j
  by_cases h : j < 16
  · have hh : ∀ i : Fin 16, zLd (zCp z00 16) (zCp z00 16) i.val = zf [4511488, 2538496, 6449920, 1269248, 5736704, 3531264, 7419136, 634624, 5076992, 3085056, 7062528, 1765632, 6170112, 3951872, 7903744, 4697088] i.val := by decide +kernel
    exact hh ⟨j, h⟩
  · simp only [zLd, zf, List.getD_eq_getElem?_getD]
    rw [if_neg h, List.getElem?_eq_none (by simp; omega)]
    rfl
theorem zk_0 : zRds zK0 0 = zt3 ([4511488, 2538496, 6449920, 1269248, 5736704, 3531264, 7419136, 634624, 5076992, 3085056, 7062528, 1765632, 6170112, 3951872, 7903744, 4697088], [0, 0], [0, 0, 0, 0]) := by
  show zK0 = _
  unfold zK0 zt3
  rw [zk_ld, zf_00 2]
  refine congrArg (Prod.mk _) (congrArg (Prod.mk _) ?_)
  rw [← zf_00 2, zf_00 4]
  rfl
theorem zk_1 : zRds zK0 1 = zt3 ([2538496, 6449920, 1269248, 5736704, 3531264, 7419136, 634624, 5076992, 3085056, 7062528, 1765632, 6170112, 3951872, 7903744, 4697088, 1164167963], [1736581441, 1654891871], [9411072, (-251658146), (-1358954389), 1795162249]) := zRds_next zk_0 ⟨rfl, rfl, rfl⟩ (by decide +kernel)
theorem zk_2 : zRds zK0 2 = zt3 ([6449920, 1269248, 5736704, 3531264, 7419136, 634624, 5076992, 3085056, 7062528, 1765632, 6170112, 3951872, 7903744, 4697088, 1164167963, 677718543], [1196043902, 295605435], [(-1966625792), 637534423, 2013266146, 1577058381]) := zRds_next zk_1 ⟨rfl, rfl, rfl⟩ (by decide +kernel)
theorem zk_3 : zRds zK0 3 = zt3 ([1269248, 5736704, 3531264, 7419136, 634624, 5076992, 3085056, 7062528, 1765632, 6170112, 3951872, 7903744, 4697088, 1164167963, 677718543, 1952773956], [(-1030322267), (-373888175)], [1355467547, 1291845685, 318767123, (-1996488508)]) := zRds_next zk_2 ⟨rfl, rfl, rfl⟩ (by decide +kernel)
theorem zk_4 : zRds zK0 4 = zt3 ([5736704, 3531264, 7419136, 634624, 5076992, 3085056, 7062528, 1765632, 6170112, 3951872, 7903744, 4697088, 1164167963, 677718543, 1952773956, 1062618298], [700609267, (-1934852259)], [(-389469681), (-1711275844), (-1006632806), (-503316442)]) := zRds_next zk_3 ⟨rfl, rfl, rfl⟩ (by decide +kernel)
theorem zk_5 : zRds zK0 5 = zt3 ([3531264, 7419136, 634624, 5076992, 3085056, 7062528, 1765632, 6170112, 3951872, 7903744, 4697088, 1164167963, 677718543, 1952773956, 1062618298, 6952012], [746956373, 606444720], [2125264708, (-1409286024), (-251658146), 889192623]) := zRds_next zk_4 ⟨rfl, rfl, rfl⟩ (by decide +kernel)
theorem zk_6 : zRds zK0 6 = zt3 ([7419136, 634624, 5076992, 3085056, 7062528, 1765632, 6170112, 3951872, 7903744, 4697088, 1164167963, 677718543, 1952773956, 1062618298, 6952012, 117672859], [(-872692288), 1153502010], [13911226, (-887422735), 637534423, (-1358954389)]) := zRds_next zk_5 ⟨rfl, rfl, rfl⟩ (by decide +kernel)
theorem zk_7 : zRds zK0 7 = zt3 ([634624, 5076992, 3085056, 7062528, 1765632, 6170112, 3951872, 7903744, 4697088, 1164167963, 677718543, 1952773956, 1062618298, 6952012, 117672859, 1773735467], [(-528234285), 2059368057], [235344972, 705626255, 1291845685, 2013266146]) := zRds_next zk_6 ⟨rfl, rfl, rfl⟩ (by decide +kernel)
theorem zk_8 : zRds zK0 8 = zt3 ([5076992, 3085056, 7062528, 1765632, 6170112, 3951872, 7903744, 4697088, 1164167963, 677718543, 1952773956, 1062618298, 6952012, 117672859, 1773735467, 1655247850], [343807220, (-1234573523)], [(-747467877), (-146502969), (-1711275844), 318767123]) := zRds_next zk_7 ⟨rfl, rfl, rfl⟩ (by decide +kernel)
theorem zk_9 : zRds zK0 9 = zt3 ([3085056, 7062528, 1765632, 6170112, 3951872, 7903744, 4697088, 1164167963, 677718543, 1952773956, 1062618298, 6952012, 117672859, 1773735467, 1655247850, 2069437632], [(-1742195552), (-258615660)], [(-984478165), 1153061066, (-1409286024), (-1006632806)]) := zRds_next zk_8 ⟨rfl, rfl, rfl⟩ (by decide +kernel)
theorem zk_10 : zRds zK0 10 = zt3 ([7062528, 1765632, 6170112, 3951872, 7903744, 4697088, 1164167963, 677718543, 1952773956, 1062618298, 6952012, 117672859, 1773735467, 1655247850, 2069437632, 1893863751], [(-515430442), (-803055511)], [(-156101654), 340584649, (-887422735), (-251658146)]) := zRds_next zk_9 ⟨rfl, rfl, rfl⟩ (by decide +kernel)
theorem zk_11 : zRds zK0 11 = zt3 ([1765632, 6170112, 3951872, 7903744, 4697088, 1164167963, 677718543, 1952773956, 1062618298, 6952012, 117672859, 1773735467, 1655247850, 2069437632, 1893863751, 779891423], [448230500, (-1980165564)], [(-507241280), (-1952743764), 705626255, 637534423]) := zRds_next zk_10 ⟨rfl, rfl, rfl⟩ (by decide +kernel)
theorem zk_12 : zRds zK0 12 = zt3 ([6170112, 3951872, 7903744, 4697088, 1164167963, 677718543, 1952773956, 1062618298, 6952012, 117672859, 1773735467, 1655247850, 2069437632, 1893863751, 779891423, 159617645], [861424753, (-1692789896)], [1559761223, 237699284, (-146502969), 1291845685]) := zRds_next zk_11 ⟨rfl, rfl, rfl⟩ (by decide +kernel)
theorem zk_13 : zRds zK0 13 = zt3 ([3951872, 7903744, 4697088, 1164167963, 677718543, 1952773956, 1062618298, 6952012, 117672859, 1773735467, 1655247850, 2069437632, 1893863751, 779891423, 159617645, 523917021], [1835188577, 1301950544], [319238879, 334106119, 1153061066, (-1711275844)]) := zRds_next zk_12 ⟨rfl, rfl, rfl⟩ (by decide +kernel)
theorem zk_14 : zRds zK0 14 = zt3 ([7903744, 4697088, 1164167963, 677718543, 1952773956, 1062618298, 6952012, 117672859, 1773735467, 1655247850, 2069437632, 1893863751, 779891423, 159617645, 523917021, 1012702916], [956638711, (-1162142459)], [1047827053, 482399090, 340584649, (-1409286024)]) := zRds_next zk_13 ⟨rfl, rfl, rfl⟩ (by decide +kernel)
theorem zk_15 : zRds zK0 15 = zt3 ([4697088, 1164167963, 677718543, 1952773956, 1062618298, 6952012, 117672859, 1773735467, 1655247850, 2069437632, 1893863751, 779891423, 159617645, 523917021, 1012702916, 2012751721], [334462578, 850305851], [2025412317, 289916242, (-1952743764), (-887422735)]) := zRds_next zk_14 ⟨rfl, rfl, rfl⟩ (by decide +kernel)
theorem zk_16 : zRds zK0 16 = zt3 ([1164167963, 677718543, 1952773956, 1062618298, 6952012, 117672859, 1773735467, 1655247850, 2069437632, 1893863751, 779891423, 159617645, 523917021, 1012702916, 2012751721, 359564839], [1464158331, (-415493031)], [(-269443388), 853538482, 237699284, 705626255]) := zRds_next zk_15 ⟨rfl, rfl, rfl⟩ (by decide +kernel)
theorem zk_17 : zRds zK0 17 = zt3 ([677718543, 1952773956, 1062618298, 6952012, 117672859, 1773735467, 1655247850, 2069437632, 1893863751, 779891423, 159617645, 523917021, 1012702916, 2012751721, 359564839, 2095143819], [(-1890373575), 1332665467], [719136617, (-1838292540), 334106119, (-146502969)]) := zRds_next zk_16 ⟨rfl, rfl, rfl⟩ (by decide +kernel)
theorem zk_18 : zRds zK0 18 = zt3 ([1952773956, 1062618298, 6952012, 117672859, 1773735467, 1655247850, 2069437632, 1893863751, 779891423, 159617645, 523917021, 1012702916, 2012751721, 359564839, 2095143819, 1954324676], [(-1494706764), (-1916939361)], [(-104692185), 1457347832, 482399090, 1153061066]) := zRds_next zk_17 ⟨rfl, rfl, rfl⟩ (by decide +kernel)
theorem zk_19 : zRds zK0 19 = zt3 ([1062618298, 6952012, 117672859, 1773735467, 1655247850, 2069437632, 1893863751, 779891423, 159617645, 523917021, 1012702916, 2012751721, 359564839, 2095143819, 1954324676, 1650056459], [27330723, 626486570], [(-386311285), (-1631317241), 289916242, 340584649]) := zRds_next zk_18 ⟨rfl, rfl, rfl⟩ (by decide +kernel)
theorem zk_20 : zRds zK0 20 = zt3 ([6952012, 117672859, 1773735467, 1655247850, 2069437632, 1893863751, 779891423, 159617645, 523917021, 1012702916, 2012751721, 359564839, 2095143819, 1954324676, 1650056459, 1202277419], [(-96528414), (-389087416)], [(-994860860), 661208692, 853538482, (-1952743764)]) := zRds_next zk_19 ⟨rfl, rfl, rfl⟩ (by decide +kernel)
theorem zk_21 : zRds zK0 21 = zt3 ([117672859, 1773735467, 1655247850, 2069437632, 1893863751, 779891423, 159617645, 523917021, 1012702916, 2012751721, 359564839, 2095143819, 1954324676, 1650056459, 1202277419, 982108206], [(-1604098226), (-1951041640)], [(-1890394869), (-2044233543), (-1838292540), 237699284]) := zRds_next zk_20 ⟨rfl, rfl, rfl⟩ (by decide +kernel)
theorem zk_22 : zRds zK0 22 = zt3 ([1773735467, 1655247850, 2069437632, 1893863751, 779891423, 159617645, 523917021, 1012702916, 2012751721, 359564839, 2095143819, 1954324676, 1650056459, 1202277419, 982108206, 850670588], [(-389959986), (-814697165)], [1964198955, 1535897584, 1457347832, 334106119]) := zRds_next zk_21 ⟨rfl, rfl, rfl⟩ (by decide +kernel)
theorem zk_23 : zRds zK0 23 = zt3 ([1655247850, 2069437632, 1893863751, 779891423, 159617645, 523917021, 1012702916, 2012751721, 359564839, 2095143819, 1954324676, 1650056459, 1202277419, 982108206, 850670588, 589209919], [(-1907175165), 1109566053], [1701365806, (-1597756707), (-1631317241), 482399090]) := zRds_next zk_22 ⟨rfl, rfl, rfl⟩ (by decide +kernel)
theorem zk_24 : zRds zK0 24 = zt3 ([2069437632, 1893863751, 779891423, 159617645, 523917021, 1012702916, 2012751721, 359564839, 2095143819, 1954324676, 1650056459, 1202277419, 982108206, 850670588, 589209919, 829496898], [(-2063482552), (-67255621)], [1178416124, (-586417726), 661208692, 289916242]) := zRds_next zk_23 ⟨rfl, rfl, rfl⟩ (by decide +kernel)
theorem zk_25 : zRds zK0 25 = zt3 ([1893863751, 779891423, 159617645, 523917021, 1012702916, 2012751721, 359564839, 2095143819, 1954324676, 1650056459, 1202277419, 982108206, 850670588, 589209919, 829496898, 1288497493], [1212089427, (-1239833733)], [1659019583, 1277946105, (-2044233543), 853538482]) := zRds_next zk_24 ⟨rfl, rfl, rfl⟩ (by decide +kernel)
theorem zk_26 : zRds zK0 26 = zt3 ([779891423, 159617645, 523917021, 1012702916, 2012751721, 359564839, 2095143819, 1954324676, 1650056459, 1202277419, 982108206, 850670588, 589209919, 829496898, 1288497493, 1068893982], [913766491, 348055226], [(-1718018494), (-936459085), 1535897584, (-1838292540)]) := zRds_next zk_25 ⟨rfl, rfl, rfl⟩ (by decide +kernel)
theorem zk_27 : zRds zK0 27 = zt3 ([159617645, 523917021, 1012702916, 2012751721, 359564839, 2095143819, 1954324676, 1650056459, 1202277419, 982108206, 850670588, 589209919, 829496898, 1288497493, 1068893982, 371012882], [171467671, 60012168], [2137844053, 872189778, (-1597756707), 1457347832]) := zRds_next zk_26 ⟨rfl, rfl, rfl⟩ (by decide +kernel)
theorem zk_28 : zRds zK0 28 = zt3 ([523917021, 1012702916, 2012751721, 359564839, 2095143819, 1954324676, 1650056459, 1202277419, 982108206, 850670588, 589209919, 829496898, 1288497493, 1068893982, 371012882, 1897181494], [(-610022606), 653957837], [742000414, (-1589676781), (-586417726), (-1631317241)]) := zRds_next zk_27 ⟨rfl, rfl, rfl⟩ (by decide +kernel)
theorem zk_29 : zRds zK0 29 = zt3 ([1012702916, 2012751721, 359564839, 2095143819, 1954324676, 1650056459, 1202277419, 982108206, 850670588, 589209919, 829496898, 1288497493, 1068893982, 371012882, 1897181494, 1364513874], [(-2087992164), 1285737850], [(-500615918), 507667816, 1277946105, 661208692]) := zRds_next zk_28 ⟨rfl, rfl, rfl⟩ (by decide +kernel)
theorem zk_30 : zRds zK0 30 = zt3 ([2012751721, 359564839, 2095143819, 1954324676, 1650056459, 1202277419, 982108206, 850670588, 589209919, 829496898, 1288497493, 1068893982, 371012882, 1897181494, 1364513874, 2026281588], [363548594, (-2085077211)], [(-1565937354), (-380287427), (-936459085), (-2044233543)]) := zRds_next zk_29 ⟨rfl, rfl, rfl⟩ (by decide +kernel)
theorem zk_31 : zRds zK0 31 = zt3 ([359564839, 2095143819, 1954324676, 1650056459, 1202277419, 982108206, 850670588, 589209919, 829496898, 1288497493, 1068893982, 371012882, 1897181494, 1364513874, 2026281588, 1327938155], [1563959515, 1477449527], [(-242363310), 119431906, 872189778, 1535897584]) := zRds_next zk_30 ⟨rfl, rfl, rfl⟩ (by decide +kernel)
theorem zk_32 : zRds zK0 32 = zt3 ([2095143819, 1954324676, 1650056459, 1202277419, 982108206, 850670588, 589209919, 829496898, 1288497493, 1068893982, 371012882, 1897181494, 1364513874, 2026281588, 1327938155, 1041993066], [349164620, (-1938954240)], [(-1639081356), 890411417, (-1589676781), (-1597756707)]) := zRds_next zk_31 ⟨rfl, rfl, rfl⟩ (by decide +kernel)
theorem zk_set : zSet zK0 = zt3 ([1954324676, 1650056459, 1202277419, 982108206, 850670588, 589209919, 829496898, 1288497493, 1068893982, 371012882, 1897181494, 1364513874, 2026281588, 1327938155, 1041993066, 2131288385], [890421072, (-1601043373)], [2084026987, (-1321828500), 507667816, (-586417726)]) := by
  show zWk (zRds zK0 32) = _
  rw [zk_32, zWkl_eq _ ⟨rfl, rfl, rfl⟩]
  exact congrArg zt3 (by decide +kernel)
abbrev zLS : Type := List Int32 × List Int32 × List Int32 × Int32 × List Int32 × Int32
def zsl (s : zLS) : zS := (zf s.1, zf s.2.1, zf s.2.2.1, s.2.2.2.1, zf s.2.2.2.2.1, s.2.2.2.2.2)
def zNwl (s : zLS) : Int32 := zWf (zf (zBl s.1)) (zf s.2.1) ^^^ zf (zBl s.1) 3
def zEl (v : Int32) : List Int32 := [zb8 (v >>> ((24 : Int32) &&& 31)), zb8 (v >>> ((16 : Int32) &&& 31)), zb8 (v >>> ((8 : Int32) &&& 31)), zb8 v]
def zGenl (s : zLS) : zLS := (s.1.drop 1 ++ [zFbk (zf s.1)], zFl (zBl s.1) s.2.1, zBl s.1, s.2.2.2.1, zEl (zNwl s), s.2.2.2.2.2 + 1)
def zPrepl (s : zLS) : zLS := if s.2.2.2.1 = 0 then zGenl s else s
def zAdvl (s : zLS) : zLS := ((zPrepl s).1, (zPrepl s).2.1, (zPrepl s).2.2.1, zInc s.2.2.2.1, (zPrepl s).2.2.2.2.1, (zPrepl s).2.2.2.2.2)
def zOk4 (s : zLS) : Prop := s.1.length = 16 ∧ s.2.1.length = 2 ∧ s.2.2.1.length = 4 ∧ s.2.2.2.2.1.length = 4
theorem zf_enc (K : List Int32) (h : K.length = 4) (v : Int32) : zEnc (zf K) v = zf (zEl v) := by
  match K, h with
  | [a, b, c, d], _ =>
    unfold zEnc
    rw [zf_upd _ (by simp), zf_upd _ (by simp), zf_upd _ (by simp), zf_upd _ (by simp)]
    rfl
theorem zGenl_eq (s : zLS) (h : zOk4 s) : zGen (zsl s) = zsl (zGenl s) := by
  obtain ⟨h1, h2, h3, h4⟩ := h
  simp only [zGen, zsl, zGenl, zWork, zNw, zNwl]
  rw [zf_bit _ _ h3, zf_fn _ _ h2, zf_sh _ h1, zf_enc _ h4]
theorem zPrepl_eq (s : zLS) (h : zOk4 s) : zPrep (zsl s) = zsl (zPrepl s) := by
  unfold zPrep zPrepl
  by_cases e : s.2.2.2.1 = 0
  · rw [if_pos e, if_pos (show zSx (zsl s) = 0 from e)]; exact zGenl_eq s h
  · rw [if_neg e, if_neg (show ¬ zSx (zsl s) = 0 from e)]
theorem zAdvl_eq (s : zLS) (h : zOk4 s) : zAdv (zsl s) = zsl (zAdvl s) := by
  unfold zAdv
  rw [zPrepl_eq s h]
  rfl
theorem zAt_next {σ : zS} {k : Nat} {s u : zLS} (h : zAt σ k = zsl s) (hk : zOk4 s) (e : zAdvl s = u) : zAt σ (k + 1) = zsl u := by
  show zAdv (zAt σ k) = _
  rw [h, zAdvl_eq s hk, e]
theorem zOut_lit {σ : zS} {k : Nat} {s : zLS} (h : zAt σ k = zsl s) (hk : zOk4 s) (b v : Int32) (e : zb8 (zf (zPrepl s).2.2.2.2.1 s.2.2.2.1.toNatClampNeg ^^^ b) &&& 255 = v) : zOut (zAt σ k) b &&& 255 = v := by
  rw [h]
  unfold zOut zKey
  rw [zPrepl_eq s hk]
  exact e
def zKs : zS := zSig (zCp z00 16) (zCp z00 16)
theorem zy_0 : zAt zKs 0 = zsl ([1954324676, 1650056459, 1202277419, 982108206, 850670588, 589209919, 829496898, 1288497493, 1068893982, 371012882, 1897181494, 1364513874, 2026281588, 1327938155, 1041993066, 2131288385], [890421072, (-1601043373)], [2084026987, (-1321828500), 507667816, (-586417726)], 0, [0, 0, 0, 0], 0) := by
  show zSig (zCp z00 16) (zCp z00 16) = _
  have e : zSet (zLd (zCp z00 16) (zCp z00 16), z00, z00) = zt3 ([1954324676, 1650056459, 1202277419, 982108206, 850670588, 589209919, 829496898, 1288497493, 1068893982, 371012882, 1897181494, 1364513874, 2026281588, 1327938155, 1041993066, 2131288385], [890421072, (-1601043373)], [2084026987, (-1321828500), 507667816, (-586417726)]) := zk_set
  unfold zSig zsl
  rw [e, zf_00 4]
  rfl
theorem zx_0 : zOut (zAt zKs 0) 0 &&& 255 = 39 := zOut_lit zy_0 ⟨rfl, rfl, rfl, rfl⟩ 0 39 (by decide +kernel)
theorem zy_1 : zAt zKs 1 = zsl ([1650056459, 1202277419, 982108206, 850670588, 589209919, 829496898, 1288497493, 1068893982, 371012882, 1897181494, 1364513874, 2026281588, 1327938155, 1041993066, 2131288385, 1027095812], [(-940671213), 202352663], [(-32404118), (-732812230), (-380287427), 1277946105], 1, [39, (-66), (-34), 116], 1) := zAt_next zy_0 ⟨rfl, rfl, rfl, rfl⟩ (by decide +kernel)
theorem zx_1 : zOut (zAt zKs 1) 0 &&& 255 = 190 := zOut_lit zy_1 ⟨rfl, rfl, rfl, rfl⟩ 0 190 (by decide +kernel)
theorem zy_2 : zAt zKs 2 = zsl ([1650056459, 1202277419, 982108206, 850670588, 589209919, 829496898, 1288497493, 1068893982, 371012882, 1897181494, 1364513874, 2026281588, 1327938155, 1041993066, 2131288385, 1027095812], [(-940671213), 202352663], [(-32404118), (-732812230), (-380287427), 1277946105], 2, [39, (-66), (-34), 116], 1) := zAt_next zy_1 ⟨rfl, rfl, rfl, rfl⟩ (by decide +kernel)
theorem zx_2 : zOut (zAt zKs 2) 0 &&& 255 = 222 := zOut_lit zy_2 ⟨rfl, rfl, rfl, rfl⟩ 0 222 (by decide +kernel)
theorem zy_3 : zAt zKs 3 = zsl ([1650056459, 1202277419, 982108206, 850670588, 589209919, 829496898, 1288497493, 1068893982, 371012882, 1897181494, 1364513874, 2026281588, 1327938155, 1041993066, 2131288385, 1027095812], [(-940671213), 202352663], [(-32404118), (-732812230), (-380287427), 1277946105], 3, [39, (-66), (-34), 116], 1) := zAt_next zy_2 ⟨rfl, rfl, rfl, rfl⟩ (by decide +kernel)
theorem zx_3 : zOut (zAt zKs 3) 0 &&& 255 = 116 := zOut_lit zy_3 ⟨rfl, rfl, rfl, rfl⟩ 0 116 (by decide +kernel)
theorem zy_4 : zAt zKs 4 = zsl ([1650056459, 1202277419, 982108206, 850670588, 589209919, 829496898, 1288497493, 1068893982, 371012882, 1897181494, 1364513874, 2026281588, 1327938155, 1041993066, 2131288385, 1027095812], [(-940671213), 202352663], [(-32404118), (-732812230), (-380287427), 1277946105], 0, [39, (-66), (-34), 116], 1) := zAt_next zy_3 ⟨rfl, rfl, rfl, rfl⟩ (by decide +kernel)
theorem zx_4 : zOut (zAt zKs 4) 0 &&& 255 = 1 := zOut_lit zy_4 ⟨rfl, rfl, rfl, rfl⟩ 0 1 (by decide +kernel)
theorem zy_5 : zAt zKs 5 = zsl ([1202277419, 982108206, 850670588, 589209919, 829496898, 1288497493, 1068893982, 371012882, 1897181494, 1364513874, 2026281588, 1327938155, 1041993066, 2131288385, 1027095812, 332846976], [(-572113497), (-1176671679)], [2054218049, (-1703615959), 119431906, (-936459085)], 1, [1, (-128), (-126), (-38)], 2) := zAt_next zy_4 ⟨rfl, rfl, rfl, rfl⟩ (by decide +kernel)
theorem zx_5 : zOut (zAt zKs 5) 0 &&& 255 = 128 := zOut_lit zy_5 ⟨rfl, rfl, rfl, rfl⟩ 0 128 (by decide +kernel)
theorem zy_6 : zAt zKs 6 = zsl ([1202277419, 982108206, 850670588, 589209919, 829496898, 1288497493, 1068893982, 371012882, 1897181494, 1364513874, 2026281588, 1327938155, 1041993066, 2131288385, 1027095812, 332846976], [(-572113497), (-1176671679)], [2054218049, (-1703615959), 119431906, (-936459085)], 2, [1, (-128), (-126), (-38)], 2) := zAt_next zy_5 ⟨rfl, rfl, rfl, rfl⟩ (by decide +kernel)
theorem zx_6 : zOut (zAt zKs 6) 0 &&& 255 = 130 := zOut_lit zy_6 ⟨rfl, rfl, rfl, rfl⟩ 0 130 (by decide +kernel)
theorem zy_7 : zAt zKs 7 = zsl ([1202277419, 982108206, 850670588, 589209919, 829496898, 1288497493, 1068893982, 371012882, 1897181494, 1364513874, 2026281588, 1327938155, 1041993066, 2131288385, 1027095812, 332846976], [(-572113497), (-1176671679)], [2054218049, (-1703615959), 119431906, (-936459085)], 3, [1, (-128), (-126), (-38)], 2) := zAt_next zy_6 ⟨rfl, rfl, rfl, rfl⟩ (by decide +kernel)
theorem zx_7 : zOut (zAt zKs 7) 0 &&& 255 = 218 := zOut_lit zy_7 ⟨rfl, rfl, rfl, rfl⟩ 0 218 (by decide +kernel)
def zxk : zA := fun j => ([39, 190, 222, 116, 1, 128, 130, 218] : List Int32).getD j 0
theorem zKnown : ∀ i : Nat, i < 8 → zOt zKs (zPt z00 0 0 0 0 0) 0 8 i &&& 255 = zxk i := by
  intro i hi
  have e : zOt zKs (zPt z00 0 0 0 0 0) 0 8 i = zOut (zAt zKs i) (zPt z00 0 0 0 0 0 i) := by
    unfold zOt
    rw [if_pos hi, Nat.zero_add]
  have e0 : zPt z00 0 0 0 0 0 i = 0 := by
    have hh : ∀ q : Fin 8, zPt z00 0 0 0 0 0 q.val = 0 := by decide +kernel
    exact hh ⟨i, hi⟩
  rw [e, e0]
  match i, hi with
  | 0, _ => exact zx_0
  | 1, _ => exact zx_1
  | 2, _ => exact zx_2
  | 3, _ => exact zx_3
  | 4, _ => exact zx_4
  | 5, _ => exact zx_5
  | 6, _ => exact zx_6
  | 7, _ => exact zx_7
end
section
/-! ZUC: the law's own numbers: bytes of words, xor, the text out of the script -/
set_option maxRecDepth 100000
def zC (G : zG) (k : Nat) : Int32 := if k < zgL G then zgx G k else 0
/-- byte r of a word, the first the highest -/
def zby (w : Int32) (r : Nat) : Int32 := if r = 0 then zb8 (w >>> ((24 : Int32) &&& 31)) else if r = 1 then zb8 (w >>> ((16 : Int32) &&& 31)) else if r = 2 then zb8 (w >>> ((8 : Int32) &&& 31)) else zb8 w
theorem zWd_at (f : zA) (j : Nat) (w : Int32) (i : Nat) : zWd f j w i = if j ≤ i ∧ i < j + 4 then zby w (i - j) else f i := by
  simp only [zWd, upd, zby]
  by_cases h3 : i = j + 3
  · subst h3
    rw [if_pos rfl, if_pos (by omega), if_neg (by omega), if_neg (by omega), if_neg (by omega)]
  · rw [if_neg h3]
    by_cases h2 : i = j + 2
    · subst h2
      rw [if_pos rfl, if_pos (by omega), if_neg (by omega), if_neg (by omega), if_pos (by omega)]
    · rw [if_neg h2]
      by_cases h1 : i = j + 1
      · subst h1
        rw [if_pos rfl, if_pos (by omega), if_neg (by omega), if_pos (by omega)]
      · rw [if_neg h1]
        by_cases h0 : i = j
        · subst h0
          rw [if_pos rfl, if_pos (by omega), if_pos (by omega)]
        · rw [if_neg h0, if_neg (by omega)]
def zTB (G : zG) (i : Nat) : Int32 := zby (zC G (20 + i / 4)) (i % 4)
def zTxt (G : zG) (t : Nat) : zA := fun i => if i < 16 * t then zTB G i else 0
theorem zTxt_0 (G : zG) : ∀ j : Nat, j < 256 → z00 j = zTxt G 0 j := fun j _ => by simp [zTxt, z00]
theorem zTxt_up (G : zG) (t i : Nat) : zPt (zTxt G t) (16 * t) (zC G (20 + 4 * t)) (zC G (20 + 4 * t + 1)) (zC G (20 + 4 * t + 2)) (zC G (20 + 4 * t + 3)) i = zTxt G (t + 1) i := by
  simp only [zPt, zWd_at, zTxt, zTB]
  by_cases h3 : 16 * t + 12 ≤ i ∧ i < 16 * t + 12 + 4
  · rw [if_pos h3, if_pos (by omega), show i / 4 = 4 * t + 3 by omega, show i % 4 = i - (16 * t + 12) by omega]; rfl
  · rw [if_neg h3]
    by_cases h2 : 16 * t + 8 ≤ i ∧ i < 16 * t + 8 + 4
    · rw [if_pos h2, if_pos (by omega), show i / 4 = 4 * t + 2 by omega, show i % 4 = i - (16 * t + 8) by omega]; rfl
    · rw [if_neg h2]
      by_cases h1 : 16 * t + 4 ≤ i ∧ i < 16 * t + 4 + 4
      · rw [if_pos h1, if_pos (by omega), show i / 4 = 4 * t + 1 by omega, show i % 4 = i - (16 * t + 4) by omega]; rfl
      · rw [if_neg h1]
        by_cases h0 : 16 * t ≤ i ∧ i < 16 * t + 4
        · rw [if_pos h0, if_pos (by omega), show i / 4 = 4 * t by omega, show i % 4 = i - 16 * t by omega]
        · rw [if_neg h0]
          by_cases h : i < 16 * t
          · rw [if_pos h, if_pos (by omega)]
          · rw [if_neg h, if_neg (by omega)]
theorem zb8_mod {x y : Int32} (h : x.toBitVec.toNat % 256 = y.toBitVec.toNat % 256) : zb8 x = zb8 y := by
  have e : x.toInt8 = y.toInt8 := by
    apply Int8.toBitVec_inj.mp
    apply BitVec.eq_of_toNat_eq
    show (x.toBitVec.signExtend 8).toNat = (y.toBitVec.signExtend 8).toNat
    rw [BitVec.signExtend_eq_setWidth_of_le _ (by decide), BitVec.signExtend_eq_setWidth_of_le _ (by decide), BitVec.toNat_setWidth, BitVec.toNat_setWidth]
    exact h
  unfold zb8
  rw [e]
theorem z255 (x : Int32) : (x &&& 255).toBitVec.toNat = x.toBitVec.toNat % 256 := by
  rw [pk_and x (m := 255) 8 rfl, pk_tn (by omega)]
theorem zb8_and (x : Int32) : zb8 (x &&& 255) = zb8 x := zb8_mod (by rw [z255, Nat.mod_mod])
theorem zb8_toNat (x : Int32) : (zb8 x).toBitVec.toNat % 256 = x.toBitVec.toNat % 256 := by
  show ((x.toBitVec.signExtend 8).signExtend 32).toNat % 256 = _
  have e : ((x.toBitVec.signExtend 8).signExtend 32).setWidth 8 = x.toBitVec.setWidth 8 := by
    apply BitVec.eq_of_getElem_eq
    intro i hi
    simp only [BitVec.getElem_setWidth, BitVec.getLsbD_signExtend]
    have h1 : i < 32 := by omega
    simp [hi, h1]
  have e2 := congrArg BitVec.toNat e
  rwa [BitVec.toNat_setWidth, BitVec.toNat_setWidth] at e2
theorem zand_eq {x y : Int32} (h : x.toBitVec.toNat % 256 = y.toBitVec.toNat % 256) : x &&& 255 = y &&& 255 := by
  rw [pk_and x (m := 255) 8 rfl, pk_and y (m := 255) 8 rfl]
  exact congrArg nI h
theorem zb8_255 (x : Int32) : zb8 x &&& 255 = x &&& 255 := zand_eq (zb8_toNat x)
theorem zand_and (x : Int32) : (x &&& 255) &&& 255 = x &&& 255 := zand_eq (by rw [z255, Nat.mod_mod])
theorem zxor_255 (x y : Int32) : (x ^^^ y) &&& 255 = (x &&& 255) ^^^ (y &&& 255) := by
  apply Int32.toBitVec_inj.mp
  apply BitVec.eq_of_getElem_eq
  intro i hi
  simp only [Int32.toBitVec_and, Int32.toBitVec_xor, BitVec.getElem_and, BitVec.getElem_xor]
  cases x.toBitVec[i] <;> cases y.toBitVec[i] <;> simp
theorem zxor_can (a b : Int32) : a ^^^ (a ^^^ b) = b := by
  apply Int32.toBitVec_inj.mp
  apply BitVec.eq_of_getElem_eq
  intro i hi
  simp only [Int32.toBitVec_xor, BitVec.getElem_xor]
  cases a.toBitVec[i] <;> cases b.toBitVec[i] <;> rfl
/-- a byte that went through one key byte and back -/
theorem zback (k b : Int32) : zb8 (k ^^^ zb8 (zb8 (k ^^^ zb8 b) &&& 255)) &&& 255 = b &&& 255 := by
  rw [zb8_and, zb8_b, zb8_255, zxor_255, zb8_255, zxor_255, zb8_255, zxor_can]
theorem zshr_mod (w s : Int32) (k : Nat) (hs : (s.toBitVec.smod 32).toNat = k) (hk : k = 24 ∨ k = 16 ∨ k = 8) : (w >>> s).toBitVec.toNat % 256 = w.toBitVec.toNat / 2 ^ k % 256 := by
  have h := pk_shr w s k hs
  have hx : ∀ v : Int32, v.toInt = v.toBitVec.toInt := fun _ => rfl
  rw [hx, hx, BitVec.toInt_eq_toNat_cond, BitVec.toInt_eq_toNat_cond, Int.shiftRight_eq_div_pow] at h
  have l1 := (w >>> s).toBitVec.isLt
  have l2 := w.toBitVec.isLt
  rcases hk with rfl | rfl | rfl <;> (split at h <;> split at h <;> omega)
theorem zush_toNat (w : Int32) (k : Nat) (hk : k < 32) : (zush w (nI k)).toBitVec.toNat = w.toBitVec.toNat / 2 ^ k := by
  refine pk_ushr w (nI k) k ?_
  have hh : ∀ q : Fin 32, (((nI q.val).toUInt32 &&& Int32.toUInt32 31).toBitVec % 32).toNat = q.val := by decide +kernel
  exact hh ⟨k, hk⟩
/-- the law's byte i: what it reads out of the script -/
def zbb (G : zG) (i : Nat) : Int32 := zush (zC G (20 + i / 4)) (nI (24 - 8 * (i % 4))) &&& 255
theorem zbb_by (w : Int32) {r : Nat} (hr : r < 4) : zb8 (zush w (nI (24 - 8 * r)) &&& 255) = zby w r := by
  rw [zb8_and]
  match r, hr with
  | 0, _ => exact zb8_mod ((congrArg (· % 256) (zush_toNat w 24 (by decide))).trans (zshr_mod w ((24 : Int32) &&& 31) 24 rfl (by decide)).symm)
  | 1, _ => exact zb8_mod ((congrArg (· % 256) (zush_toNat w 16 (by decide))).trans (zshr_mod w ((16 : Int32) &&& 31) 16 rfl (by decide)).symm)
  | 2, _ => exact zb8_mod ((congrArg (· % 256) (zush_toNat w 8 (by decide))).trans (zshr_mod w ((8 : Int32) &&& 31) 8 rfl (by decide)).symm)
  | 3, _ => exact zb8_mod ((congrArg (· % 256) (zush_toNat w 0 (by decide))).trans (by simp))
theorem zbb_T (G : zG) (i : Nat) : zb8 (zbb G i) = zTB G i := zbb_by _ (Nat.mod_lt _ (by decide))
theorem zbb_255 (G : zG) (i : Nat) : zbb G i &&& 255 = zbb G i := zand_and _
theorem zTxt_at (G : zG) {i : Nat} (h : i < 128) : zTxt G 8 i = zb8 (zbb G i) := by
  rw [zbb_T]
  unfold zTxt
  rw [if_pos (by omega)]
theorem zOt_at (σ : zS) (T : zA) (f0 : Nat) {N t : Nat} (h : t < N) : zOt σ T f0 N t = zOut (zAt σ t) (T (f0 + t)) := by
  unfold zOt
  rw [if_pos h]
/-- phase 2: a piece against the whole -/
theorem z_ph2 (σ : zS) (T : zA) {a i n size : Nat} (hi : i < n) (hn : a + n ≤ size) : zOt (zAt σ a) T a n i &&& 255 = zOt (zAt σ 0) T 0 size (a + i) &&& 255 := by
  rw [zOt_at _ _ _ hi, zOt_at _ _ _ (by omega), zAt_add, zAt_add, Nat.zero_add]
/-- phase 3: byte by byte against the whole -/
theorem z_ph3 (G : zG) (σ : zS) {i size : Nat} (hi : i < size) (hs : size ≤ 128) : zOut (zAt σ i) (zb8 (zbb G i)) &&& 255 = zOt (zAt σ 0) (zTxt G 8) 0 size i &&& 255 := by
  rw [zOt_at _ _ _ hi, zAt_add, Nat.zero_add, zTxt_at G (by omega)]
/-- phase 3 and 4: and back -/
theorem z_ph4 (G : zG) (σ : zS) {i size : Nat} (hi : i < size) (hs : size ≤ 128) : zOut (zAt σ i) (zb8 (zOt (zAt σ 0) (zTxt G 8) 0 size i &&& 255)) &&& 255 = zbb G i := by
  rw [← z_ph3 G σ hi hs]
  unfold zOut
  rw [zback, zbb_255]
end
section
/-! ZUC: the law's own methods: cell, made, known (printed by gen/core5.py) -/
set_option maxRecDepth 100000
theorem zz_loopI (K : Nat → va_W → Prop) (I : va_W → Prop) (N : Nat) (hend : ∀ x, I x → K N x) (hs : ∀ t x, t < N → I x → (∀ y, I y → K (t + 1) y) → K t x) : ∀ x, I x → K 0 x := by
  have h : ∀ k : Nat, k ≤ N → ∀ x, I x → K (N - k) x := by
    intro k
    induction k with
    | zero => intro _; exact hend
    | succ k ih =>
      intro hk x hx
      have h1 := ih (by omega)
      have e : N - k = (N - (k + 1)) + 1 := by omega
      rw [e] at h1
      exact hs _ x (by omega) hx h1
  have h0 := h N (Nat.le_refl N)
  rwa [Nat.sub_self] at h0
theorem zDP_at {G : zG} {d : Nat} {T : zA} {n : Nat} {σ0 : zS} {j on : Nat} {O : zA} {w : va_W} (hw : zDP G d T n σ0 j on O w) : ∃ fs : List Value, w[0]? = some (d, zo 3 fs) := by
  obtain ⟨kD, nD, tD, oD, en, lA, fA, bA, kA, b, ylA, yfA, ybA, ykA, K, NN, rfl⟩ := hw
  exact ⟨_, rfl⟩
def zMadeS (G : zG) : zS := zSig (zCp (zPt (zPt z00 0 (zC G 0) (zC G 1) (zC G 2) (zC G 3)) 16 (zC G 4) (zC G 5) (zC G 6) (zC G 7)) 16) (zCp (zPt z00 0 (zC G 8) (zC G 9) (zC G 10) (zC G 11)) 16)
theorem zC_in {G : zG} (h : zgL G ≤ 60) {k : Nat} (hk : k < 1000) (q : nI (zgL G) ≤ nI k) : (0 : Int32) = zC G k := by
  unfold zC
  rw [if_neg]
  have := (nI_leI (by omega) (by omega)).mp q
  omega
theorem zC_out {G : zG} (h : zgL G ≤ 60) {k : Nat} (hk : k < 1000) (q : ¬ nI (zgL G) ≤ nI k) : k < zgL G ∧ zgx G k = zC G k := by
  have h1 : k < zgL G := by
    rcases Nat.lt_or_ge k (zgL G) with h2 | h2
    · exact h2
    · exact absurd ((nI_leI (by omega) (by omega)).mpr h2) q
  exact ⟨h1, by unfold zC; rw [if_pos h1]⟩
theorem zxk_ok : ∀ j : Nat, j < 8 → upd (upd (upd (upd (upd (upd (upd (upd z00 0 39) 1 190) 2 222) 3 116) 4 1) 5 128) 6 130) 7 218 j = zxk j := by
  intro j hj
  have hh : ∀ q : Fin 8, upd (upd (upd (upd (upd (upd (upd (upd z00 0 39) 1 190) 2 222) 3 116) 4 1) 5 128) 6 130) 7 218 q.val = zxk q.val := by decide +kernel
  exact hh ⟨j, hj⟩
set_option maxHeartbeats 4000000 in
theorem metX0_cell (l : Launch) (G : zG) (k : Nat) (hk : k < 1000) : ZMi l G yX0_cell cX0_cell 2 .int (zrm 0 0 0) [.ref (zgb G), .int (nI k)] [] (fun r w => r = zC G k ∧ w = []) := by
  refine z_enter "ZucDeskLaw" "cell" [(0, .ref (zgb G)), (1, .int (nI k))] (by decide) rfl rfl rfl (Nat.le_of_ble_eq_true rfl) ?_
  intro p e s m args below meth c F
  have hL := F.hE.2.2.2.2.2
  refine z_iload_n (n := 1) F 1 dX0_cell_0 rfl rfl rfl ?_
  refine z_aload_n (n := 2) F 0 dX0_cell_1 rfl rfl rfl ?_
  refine z_slen (n := 3) F dX0_cell_2 rfl ?_
  refine z_icmp_ge (tgt := 12) (n := 6) F dX0_cell_3 (by decide) rfl (fun q => ?_) (fun q => ?_)
  · refine z_iconst (n := 13) F 0 dX0_cell_12 (by decide) rfl ?_
    exact z_iret F rfl ⟨zC_in hL hk q, rfl⟩ (Nat.le_of_ble_eq_true rfl) (Nat.le_of_ble_eq_true rfl) dX0_cell_13
  · obtain ⟨h1, h2⟩ := zC_out hL hk q
    refine z_aload_n (n := 7) F 0 dX0_cell_6 rfl rfl rfl ?_
    refine z_iload_n (n := 8) F 1 dX0_cell_7 rfl rfl rfl ?_
    refine z_sld (n := 9) F (zC G k) (vp_in_nI h1 (by omega)) (by rw [nI_clamp (by omega)]; exact h2) dX0_cell_8 rfl ?_
    refine z_goto (tgt := 13) F dX0_cell_9 (by decide) ?_
    exact z_iret F rfl ⟨rfl, rfl⟩ (Nat.le_of_ble_eq_true rfl) (Nat.le_of_ble_eq_true rfl) dX0_cell_13
set_option maxHeartbeats 4000000 in
theorem metX0_made (l : Launch) (G : zG)  : ZMr l G yX0_made cX0_made 3 (.object "ZucDesk") (zrm 7 26 478) [.ref (zgb G)] [] (fun r w => zDP G r (zTxt G 8) (zmd (zC G 13) 129) (zMadeS G) 0 0 z00 w) := by
  refine z_enter "ZucDeskLaw" "made" [(0, .ref (zgb G))] (by decide) rfl rfl rfl (Nat.le_of_ble_eq_true rfl) ?_
  intro p e s m args below meth c F
  refine z_new (n := 3) (cells2 := 1) (slots2 := 8) F 3 [.null, .int 0, .int 0, .null, .null, .null, .int 0, .null] tyX1 in_X1 tyX1_ok q257 q31 q10 rfl zd3 (Nat.le_of_ble_eq_true rfl) (Nat.le_of_ble_eq_true rfl) dX0_made_0 rfl rfl rfl (fun d => ?_)
  refine z_w (ws2 := [(d, zo 3 [.null, .int 0, .int 0, .null, .null, .null, .int 0, .null])]) rfl ?_
  refine z_dup (n := 4) F dX0_made_3 rfl rfl ?_
  refine z_pick (ws2 := [(d, zo 3 [.null, .int 0, .int 0, .null, .null, .null, .int 0, .null])] ++ []) [0] rfl (by decide) ?_
  refine z_cv (n := 7) (cells2 := 10) (slots2 := 345) (wc := [(d, zo 3 [.null, .int 0, .int 0, .null, .null, .null, .int 0, .null])]) (wr := []) F (z_rI F (metX1_init l G d) (cwI 0 F.hts (lw_meth q260) rfl rfl rfl (F.hts _ q10) (F.hts _ q258) (F.hts _ q259) rfl (by decide +kernel) ⟨Nat.le_of_ble_eq_true rfl, Nat.le_of_ble_eq_true rfl⟩) rfl rfl (Nat.le_of_ble_eq_true rfl) dX0_made_4 ⟨Nat.le_of_ble_eq_true rfl, Nat.le_of_ble_eq_true rfl⟩) rfl rfl rfl (fun w2 h2 => ?_)
  obtain ⟨e0, kD, nD, tD, oD, rfl⟩ := h2
  refine z_w (ws2 := [(d, zo 3 [.ref e0, .int 0, .int 0, .ref kD, .ref nD, .ref tD, .int 0, .ref oD]), (kD, zb G 32 z00), (nD, zb G 16 z00), (tD, zb G 256 z00), (oD, zb G 0 z00)]) rfl ?_
  refine z_astore_n (n := 8) F [(1, .ref d), (0, .ref (zgb G))] dX0_made_7 rfl (by decide) rfl rfl ?_
  refine z_bipush (n := 10) F 20 dX0_made_8 (by decide) rfl ?_
  refine z_istore_n (n := 11) F [(2, .int 20), (1, .ref d), (0, .ref (zgb G))] dX0_made_10 rfl (by decide) rfl rfl ?_
  refine z_ext (ws2 := [(d, zo 3 [.ref e0, .int 0, .int 0, .ref kD, .ref nD, .ref tD, .int (nI (16 * 0)), .ref oD]), (kD, zb G 32 z00), (nD, zb G 16 z00), (tD, zb G 256 (zTxt G 0)), (oD, zb G 0 z00)]) 3 (zTxt G 0) rfl (zTxt_0 G) rfl ?_
  refine zz_loop (fun ws lv => ZW p l e _ s m args below meth c _ G _ _ 10 345 ws 11 lv []) (fun t => [(d, zo 3 [.ref e0, .int 0, .int 0, .ref kD, .ref nD, .ref tD, .int (nI (16 * t)), .ref oD]), (kD, zb G 32 z00), (nD, zb G 16 z00), (tD, zb G 256 (zTxt G t)), (oD, zb G 0 z00)]) (fun t => [(2, .int (nI (20 + 4 * t))), (1, .ref d), (0, .ref (zgb G))]) 8 ?_ ?_
  · refine z_w (ws2 := [(d, zo 3 [.ref e0, .int 0, .int 0, .ref kD, .ref nD, .ref tD, .int (nI (16 * 8)), .ref oD]), (kD, zb G 32 z00), (nD, zb G 16 z00), (tD, zb G 256 (zTxt G 8)), (oD, zb G 0 z00)]) rfl ?_
    refine z_l (lv2 := [(2, .int 52), (1, .ref d), (0, .ref (zgb G))]) rfl ?_
    refine z_iload_n (n := 12) F 0 dX0_made_11 rfl rfl rfl ?_
    refine z_bipush (n := 14) F 52 dX0_made_12 (by decide) rfl ?_
    refine z_icmp_ge_t (tgt := 54) F dX0_made_14 (by decide) (by decide) ?_
    refine z_aload_n (n := 55) F 1 dX0_made_54 rfl rfl rfl ?_
    refine z_aload_n (n := 56) F 2 dX0_made_55 rfl rfl rfl ?_
    refine z_bipush (n := 58) F 13 dX0_made_56 (by decide) rfl ?_
    refine z_pick (ws2 := [] ++ [(d, zo 3 [.ref e0, .int 0, .int 0, .ref kD, .ref nD, .ref tD, .int (nI (16 * 8)), .ref oD]), (kD, zb G 32 z00), (nD, zb G 16 z00), (tD, zb G 256 (zTxt G 8)), (oD, zb G 0 z00)]) [0, 1, 2, 3, 4] rfl (by decide) ?_
    refine z_ci (n := 61) (cells2 := 10) (slots2 := 345) (wc := []) (wr := [(d, zo 3 [.ref e0, .int 0, .int 0, .ref kD, .ref nD, .ref tD, .int (nI (16 * 8)), .ref oD]), (kD, zb G 32 z00), (nD, zb G 16 z00), (tD, zb G 256 (zTxt G 8)), (oD, zb G 0 z00)]) F (z_rS F (metX0_cell l G 13 (by omega)) (va_cwS 2 F.hts (lw_S q251 q252 q9 q253) rfl rfl rfl (by decide +kernel) ⟨Nat.le_of_ble_eq_true rfl, Nat.le_of_ble_eq_true rfl⟩) rfl rfl (Nat.le_of_ble_eq_true rfl) dX0_made_58 ⟨Nat.le_of_ble_eq_true rfl, Nat.le_of_ble_eq_true rfl⟩) rfl rfl rfl (fun r3 w3 h3 => ?_)
    obtain ⟨rfl, rfl⟩ := h3
    refine z_w (ws2 := [(d, zo 3 [.ref e0, .int 0, .int 0, .ref kD, .ref nD, .ref tD, .int (nI (16 * 8)), .ref oD]), (kD, zb G 32 z00), (nD, zb G 16 z00), (tD, zb G 256 (zTxt G 8)), (oD, zb G 0 z00)]) rfl ?_
    refine z_pick (ws2 := [(d, zo 3 [.ref e0, .int 0, .int 0, .ref kD, .ref nD, .ref tD, .int (nI (16 * 8)), .ref oD])] ++ [(kD, zb G 32 z00), (nD, zb G 16 z00), (tD, zb G 256 (zTxt G 8)), (oD, zb G 0 z00)]) [0, 1, 2, 3, 4] rfl (by decide) ?_
    refine z_cv (n := 64) (cells2 := 10) (slots2 := 345) (wc := [(d, zo 3 [.ref e0, .int 0, .int 0, .ref kD, .ref nD, .ref tD, .int (nI (16 * 8)), .ref oD])]) (wr := [(kD, zb G 32 z00), (nD, zb G 16 z00), (tD, zb G 256 (zTxt G 8)), (oD, zb G 0 z00)]) F (z_rV F (metX1_trim l G d (.ref e0) (.int 0) (.int 0) (.ref kD) (.ref nD) (.ref tD) (.ref oD) (16 * 8) (zC G 13) (by omega)) (cwV 1 F.hts (lw_V q326 q327 q328 q10 q329) rfl rfl rfl (by decide +kernel) ⟨Nat.le_of_ble_eq_true rfl, Nat.le_of_ble_eq_true rfl⟩) 0 rfl rfl rfl rfl (Nat.le_of_ble_eq_true rfl) dX0_made_61 ⟨Nat.le_of_ble_eq_true rfl, Nat.le_of_ble_eq_true rfl⟩) rfl rfl rfl (fun w4 h4 => ?_)
    obtain rfl := h4
    refine z_w (ws2 := [(d, zo 3 [.ref e0, .int 0, .int 0, .ref kD, .ref nD, .ref tD, .int (nI (zmd (zC G 13) ((16 * 8) + 1))), .ref oD]), (kD, zb G 32 z00), (nD, zb G 16 z00), (tD, zb G 256 (zTxt G 8)), (oD, zb G 0 z00)]) rfl ?_
    refine z_w (ws2 := [(d, zo 3 [.ref e0, .int 0, .int 0, .ref kD, .ref nD, .ref tD, .int (nI (zmd (zC G 13) 129)), .ref oD]), (kD, zb G 32 z00), (nD, zb G 16 z00), (tD, zb G 256 (zTxt G 8)), (oD, zb G 0 z00)]) rfl ?_
    refine z_aload_n (n := 65) F 1 dX0_made_64 rfl rfl rfl ?_
    refine z_iconst (n := 66) F 0 dX0_made_65 (by decide) rfl ?_
    refine z_aload_n (n := 67) F 2 dX0_made_66 rfl rfl rfl ?_
    refine z_iconst (n := 68) F 0 dX0_made_67 (by decide) rfl ?_
    refine z_pick (ws2 := [] ++ [(d, zo 3 [.ref e0, .int 0, .int 0, .ref kD, .ref nD, .ref tD, .int (nI (zmd (zC G 13) 129)), .ref oD]), (kD, zb G 32 z00), (nD, zb G 16 z00), (tD, zb G 256 (zTxt G 8)), (oD, zb G 0 z00)]) [0, 1, 2, 3, 4] rfl (by decide) ?_
    refine z_ci (n := 71) (cells2 := 10) (slots2 := 345) (wc := []) (wr := [(d, zo 3 [.ref e0, .int 0, .int 0, .ref kD, .ref nD, .ref tD, .int (nI (zmd (zC G 13) 129)), .ref oD]), (kD, zb G 32 z00), (nD, zb G 16 z00), (tD, zb G 256 (zTxt G 8)), (oD, zb G 0 z00)]) F (z_rS F (metX0_cell l G 0 (by omega)) (va_cwS 2 F.hts (lw_S q251 q252 q9 q253) rfl rfl rfl (by decide +kernel) ⟨Nat.le_of_ble_eq_true rfl, Nat.le_of_ble_eq_true rfl⟩) rfl rfl (Nat.le_of_ble_eq_true rfl) dX0_made_68 ⟨Nat.le_of_ble_eq_true rfl, Nat.le_of_ble_eq_true rfl⟩) rfl rfl rfl (fun r5 w5 h5 => ?_)
    obtain ⟨rfl, rfl⟩ := h5
    refine z_w (ws2 := [(d, zo 3 [.ref e0, .int 0, .int 0, .ref kD, .ref nD, .ref tD, .int (nI (zmd (zC G 13) 129)), .ref oD]), (kD, zb G 32 z00), (nD, zb G 16 z00), (tD, zb G 256 (zTxt G 8)), (oD, zb G 0 z00)]) rfl ?_
    refine z_aload_n (n := 72) F 2 dX0_made_71 rfl rfl rfl ?_
    refine z_iconst (n := 73) F 1 dX0_made_72 (by decide) rfl ?_
    refine z_pick (ws2 := [] ++ [(d, zo 3 [.ref e0, .int 0, .int 0, .ref kD, .ref nD, .ref tD, .int (nI (zmd (zC G 13) 129)), .ref oD]), (kD, zb G 32 z00), (nD, zb G 16 z00), (tD, zb G 256 (zTxt G 8)), (oD, zb G 0 z00)]) [0, 1, 2, 3, 4] rfl (by decide) ?_
    refine z_ci (n := 76) (cells2 := 10) (slots2 := 345) (wc := []) (wr := [(d, zo 3 [.ref e0, .int 0, .int 0, .ref kD, .ref nD, .ref tD, .int (nI (zmd (zC G 13) 129)), .ref oD]), (kD, zb G 32 z00), (nD, zb G 16 z00), (tD, zb G 256 (zTxt G 8)), (oD, zb G 0 z00)]) F (z_rS F (metX0_cell l G 1 (by omega)) (va_cwS 2 F.hts (lw_S q251 q252 q9 q253) rfl rfl rfl (by decide +kernel) ⟨Nat.le_of_ble_eq_true rfl, Nat.le_of_ble_eq_true rfl⟩) rfl rfl (Nat.le_of_ble_eq_true rfl) dX0_made_73 ⟨Nat.le_of_ble_eq_true rfl, Nat.le_of_ble_eq_true rfl⟩) rfl rfl rfl (fun r6 w6 h6 => ?_)
    obtain ⟨rfl, rfl⟩ := h6
    refine z_w (ws2 := [(d, zo 3 [.ref e0, .int 0, .int 0, .ref kD, .ref nD, .ref tD, .int (nI (zmd (zC G 13) 129)), .ref oD]), (kD, zb G 32 z00), (nD, zb G 16 z00), (tD, zb G 256 (zTxt G 8)), (oD, zb G 0 z00)]) rfl ?_
    refine z_aload_n (n := 77) F 2 dX0_made_76 rfl rfl rfl ?_
    refine z_iconst (n := 78) F 2 dX0_made_77 (by decide) rfl ?_
    refine z_pick (ws2 := [] ++ [(d, zo 3 [.ref e0, .int 0, .int 0, .ref kD, .ref nD, .ref tD, .int (nI (zmd (zC G 13) 129)), .ref oD]), (kD, zb G 32 z00), (nD, zb G 16 z00), (tD, zb G 256 (zTxt G 8)), (oD, zb G 0 z00)]) [0, 1, 2, 3, 4] rfl (by decide) ?_
    refine z_ci (n := 81) (cells2 := 10) (slots2 := 345) (wc := []) (wr := [(d, zo 3 [.ref e0, .int 0, .int 0, .ref kD, .ref nD, .ref tD, .int (nI (zmd (zC G 13) 129)), .ref oD]), (kD, zb G 32 z00), (nD, zb G 16 z00), (tD, zb G 256 (zTxt G 8)), (oD, zb G 0 z00)]) F (z_rS F (metX0_cell l G 2 (by omega)) (va_cwS 2 F.hts (lw_S q251 q252 q9 q253) rfl rfl rfl (by decide +kernel) ⟨Nat.le_of_ble_eq_true rfl, Nat.le_of_ble_eq_true rfl⟩) rfl rfl (Nat.le_of_ble_eq_true rfl) dX0_made_78 ⟨Nat.le_of_ble_eq_true rfl, Nat.le_of_ble_eq_true rfl⟩) rfl rfl rfl (fun r7 w7 h7 => ?_)
    obtain ⟨rfl, rfl⟩ := h7
    refine z_w (ws2 := [(d, zo 3 [.ref e0, .int 0, .int 0, .ref kD, .ref nD, .ref tD, .int (nI (zmd (zC G 13) 129)), .ref oD]), (kD, zb G 32 z00), (nD, zb G 16 z00), (tD, zb G 256 (zTxt G 8)), (oD, zb G 0 z00)]) rfl ?_
    refine z_aload_n (n := 82) F 2 dX0_made_81 rfl rfl rfl ?_
    refine z_iconst (n := 83) F 3 dX0_made_82 (by decide) rfl ?_
    refine z_pick (ws2 := [] ++ [(d, zo 3 [.ref e0, .int 0, .int 0, .ref kD, .ref nD, .ref tD, .int (nI (zmd (zC G 13) 129)), .ref oD]), (kD, zb G 32 z00), (nD, zb G 16 z00), (tD, zb G 256 (zTxt G 8)), (oD, zb G 0 z00)]) [0, 1, 2, 3, 4] rfl (by decide) ?_
    refine z_ci (n := 86) (cells2 := 10) (slots2 := 345) (wc := []) (wr := [(d, zo 3 [.ref e0, .int 0, .int 0, .ref kD, .ref nD, .ref tD, .int (nI (zmd (zC G 13) 129)), .ref oD]), (kD, zb G 32 z00), (nD, zb G 16 z00), (tD, zb G 256 (zTxt G 8)), (oD, zb G 0 z00)]) F (z_rS F (metX0_cell l G 3 (by omega)) (va_cwS 2 F.hts (lw_S q251 q252 q9 q253) rfl rfl rfl (by decide +kernel) ⟨Nat.le_of_ble_eq_true rfl, Nat.le_of_ble_eq_true rfl⟩) rfl rfl (Nat.le_of_ble_eq_true rfl) dX0_made_83 ⟨Nat.le_of_ble_eq_true rfl, Nat.le_of_ble_eq_true rfl⟩) rfl rfl rfl (fun r8 w8 h8 => ?_)
    obtain ⟨rfl, rfl⟩ := h8
    refine z_w (ws2 := [(d, zo 3 [.ref e0, .int 0, .int 0, .ref kD, .ref nD, .ref tD, .int (nI (zmd (zC G 13) 129)), .ref oD]), (kD, zb G 32 z00), (nD, zb G 16 z00), (tD, zb G 256 (zTxt G 8)), (oD, zb G 0 z00)]) rfl ?_
    refine z_pick (ws2 := [(d, zo 3 [.ref e0, .int 0, .int 0, .ref kD, .ref nD, .ref tD, .int (nI (zmd (zC G 13) 129)), .ref oD]), (kD, zb G 32 z00)] ++ [(nD, zb G 16 z00), (tD, zb G 256 (zTxt G 8)), (oD, zb G 0 z00)]) [0, 1, 2, 3, 4] rfl (by decide) ?_
    refine z_cv (n := 89) (cells2 := 10) (slots2 := 345) (wc := [(d, zo 3 [.ref e0, .int 0, .int 0, .ref kD, .ref nD, .ref tD, .int (nI (zmd (zC G 13) 129)), .ref oD]), (kD, zb G 32 z00)]) (wr := [(nD, zb G 16 z00), (tD, zb G 256 (zTxt G 8)), (oD, zb G 0 z00)]) F (z_rV F (metX1_key l G d kD (.ref e0) (.int 0) (.int 0) (.ref nD) (.ref tD) (.int (nI (zmd (zC G 13) 129))) (.ref oD) z00 0 0 (by decide) (by decide) (zC G 0) (zC G 1) (zC G 2) (zC G 3)) (cwV 5 F.hts (lw_V q330 q331 q332 q10 q333) rfl rfl rfl (by decide +kernel) ⟨Nat.le_of_ble_eq_true rfl, Nat.le_of_ble_eq_true rfl⟩) 0 rfl rfl rfl rfl (Nat.le_of_ble_eq_true rfl) dX0_made_86 ⟨Nat.le_of_ble_eq_true rfl, Nat.le_of_ble_eq_true rfl⟩) rfl rfl rfl (fun w9 h9 => ?_)
    obtain rfl := h9
    refine z_w (ws2 := [(d, zo 3 [.ref e0, .int 0, .int 0, .ref kD, .ref nD, .ref tD, .int (nI (zmd (zC G 13) 129)), .ref oD]), (kD, zb G 32 (zPt z00 0 (zC G 0) (zC G 1) (zC G 2) (zC G 3))), (nD, zb G 16 z00), (tD, zb G 256 (zTxt G 8)), (oD, zb G 0 z00)]) rfl ?_
    refine z_aload_n (n := 90) F 1 dX0_made_89 rfl rfl rfl ?_
    refine z_iconst (n := 91) F 1 dX0_made_90 (by decide) rfl ?_
    refine z_aload_n (n := 92) F 2 dX0_made_91 rfl rfl rfl ?_
    refine z_iconst (n := 93) F 4 dX0_made_92 (by decide) rfl ?_
    refine z_pick (ws2 := [] ++ [(d, zo 3 [.ref e0, .int 0, .int 0, .ref kD, .ref nD, .ref tD, .int (nI (zmd (zC G 13) 129)), .ref oD]), (kD, zb G 32 (zPt z00 0 (zC G 0) (zC G 1) (zC G 2) (zC G 3))), (nD, zb G 16 z00), (tD, zb G 256 (zTxt G 8)), (oD, zb G 0 z00)]) [0, 1, 2, 3, 4] rfl (by decide) ?_
    refine z_ci (n := 96) (cells2 := 10) (slots2 := 345) (wc := []) (wr := [(d, zo 3 [.ref e0, .int 0, .int 0, .ref kD, .ref nD, .ref tD, .int (nI (zmd (zC G 13) 129)), .ref oD]), (kD, zb G 32 (zPt z00 0 (zC G 0) (zC G 1) (zC G 2) (zC G 3))), (nD, zb G 16 z00), (tD, zb G 256 (zTxt G 8)), (oD, zb G 0 z00)]) F (z_rS F (metX0_cell l G 4 (by omega)) (va_cwS 2 F.hts (lw_S q251 q252 q9 q253) rfl rfl rfl (by decide +kernel) ⟨Nat.le_of_ble_eq_true rfl, Nat.le_of_ble_eq_true rfl⟩) rfl rfl (Nat.le_of_ble_eq_true rfl) dX0_made_93 ⟨Nat.le_of_ble_eq_true rfl, Nat.le_of_ble_eq_true rfl⟩) rfl rfl rfl (fun r10 w10 h10 => ?_)
    obtain ⟨rfl, rfl⟩ := h10
    refine z_w (ws2 := [(d, zo 3 [.ref e0, .int 0, .int 0, .ref kD, .ref nD, .ref tD, .int (nI (zmd (zC G 13) 129)), .ref oD]), (kD, zb G 32 (zPt z00 0 (zC G 0) (zC G 1) (zC G 2) (zC G 3))), (nD, zb G 16 z00), (tD, zb G 256 (zTxt G 8)), (oD, zb G 0 z00)]) rfl ?_
    refine z_aload_n (n := 97) F 2 dX0_made_96 rfl rfl rfl ?_
    refine z_iconst (n := 98) F 5 dX0_made_97 (by decide) rfl ?_
    refine z_pick (ws2 := [] ++ [(d, zo 3 [.ref e0, .int 0, .int 0, .ref kD, .ref nD, .ref tD, .int (nI (zmd (zC G 13) 129)), .ref oD]), (kD, zb G 32 (zPt z00 0 (zC G 0) (zC G 1) (zC G 2) (zC G 3))), (nD, zb G 16 z00), (tD, zb G 256 (zTxt G 8)), (oD, zb G 0 z00)]) [0, 1, 2, 3, 4] rfl (by decide) ?_
    refine z_ci (n := 101) (cells2 := 10) (slots2 := 345) (wc := []) (wr := [(d, zo 3 [.ref e0, .int 0, .int 0, .ref kD, .ref nD, .ref tD, .int (nI (zmd (zC G 13) 129)), .ref oD]), (kD, zb G 32 (zPt z00 0 (zC G 0) (zC G 1) (zC G 2) (zC G 3))), (nD, zb G 16 z00), (tD, zb G 256 (zTxt G 8)), (oD, zb G 0 z00)]) F (z_rS F (metX0_cell l G 5 (by omega)) (va_cwS 2 F.hts (lw_S q251 q252 q9 q253) rfl rfl rfl (by decide +kernel) ⟨Nat.le_of_ble_eq_true rfl, Nat.le_of_ble_eq_true rfl⟩) rfl rfl (Nat.le_of_ble_eq_true rfl) dX0_made_98 ⟨Nat.le_of_ble_eq_true rfl, Nat.le_of_ble_eq_true rfl⟩) rfl rfl rfl (fun r11 w11 h11 => ?_)
    obtain ⟨rfl, rfl⟩ := h11
    refine z_w (ws2 := [(d, zo 3 [.ref e0, .int 0, .int 0, .ref kD, .ref nD, .ref tD, .int (nI (zmd (zC G 13) 129)), .ref oD]), (kD, zb G 32 (zPt z00 0 (zC G 0) (zC G 1) (zC G 2) (zC G 3))), (nD, zb G 16 z00), (tD, zb G 256 (zTxt G 8)), (oD, zb G 0 z00)]) rfl ?_
    refine z_aload_n (n := 102) F 2 dX0_made_101 rfl rfl rfl ?_
    refine z_bipush (n := 104) F 6 dX0_made_102 (by decide) rfl ?_
    refine z_pick (ws2 := [] ++ [(d, zo 3 [.ref e0, .int 0, .int 0, .ref kD, .ref nD, .ref tD, .int (nI (zmd (zC G 13) 129)), .ref oD]), (kD, zb G 32 (zPt z00 0 (zC G 0) (zC G 1) (zC G 2) (zC G 3))), (nD, zb G 16 z00), (tD, zb G 256 (zTxt G 8)), (oD, zb G 0 z00)]) [0, 1, 2, 3, 4] rfl (by decide) ?_
    refine z_ci (n := 107) (cells2 := 10) (slots2 := 345) (wc := []) (wr := [(d, zo 3 [.ref e0, .int 0, .int 0, .ref kD, .ref nD, .ref tD, .int (nI (zmd (zC G 13) 129)), .ref oD]), (kD, zb G 32 (zPt z00 0 (zC G 0) (zC G 1) (zC G 2) (zC G 3))), (nD, zb G 16 z00), (tD, zb G 256 (zTxt G 8)), (oD, zb G 0 z00)]) F (z_rS F (metX0_cell l G 6 (by omega)) (va_cwS 2 F.hts (lw_S q251 q252 q9 q253) rfl rfl rfl (by decide +kernel) ⟨Nat.le_of_ble_eq_true rfl, Nat.le_of_ble_eq_true rfl⟩) rfl rfl (Nat.le_of_ble_eq_true rfl) dX0_made_104 ⟨Nat.le_of_ble_eq_true rfl, Nat.le_of_ble_eq_true rfl⟩) rfl rfl rfl (fun r12 w12 h12 => ?_)
    obtain ⟨rfl, rfl⟩ := h12
    refine z_w (ws2 := [(d, zo 3 [.ref e0, .int 0, .int 0, .ref kD, .ref nD, .ref tD, .int (nI (zmd (zC G 13) 129)), .ref oD]), (kD, zb G 32 (zPt z00 0 (zC G 0) (zC G 1) (zC G 2) (zC G 3))), (nD, zb G 16 z00), (tD, zb G 256 (zTxt G 8)), (oD, zb G 0 z00)]) rfl ?_
    refine z_aload_n (n := 108) F 2 dX0_made_107 rfl rfl rfl ?_
    refine z_bipush (n := 110) F 7 dX0_made_108 (by decide) rfl ?_
    refine z_pick (ws2 := [] ++ [(d, zo 3 [.ref e0, .int 0, .int 0, .ref kD, .ref nD, .ref tD, .int (nI (zmd (zC G 13) 129)), .ref oD]), (kD, zb G 32 (zPt z00 0 (zC G 0) (zC G 1) (zC G 2) (zC G 3))), (nD, zb G 16 z00), (tD, zb G 256 (zTxt G 8)), (oD, zb G 0 z00)]) [0, 1, 2, 3, 4] rfl (by decide) ?_
    refine z_ci (n := 113) (cells2 := 10) (slots2 := 345) (wc := []) (wr := [(d, zo 3 [.ref e0, .int 0, .int 0, .ref kD, .ref nD, .ref tD, .int (nI (zmd (zC G 13) 129)), .ref oD]), (kD, zb G 32 (zPt z00 0 (zC G 0) (zC G 1) (zC G 2) (zC G 3))), (nD, zb G 16 z00), (tD, zb G 256 (zTxt G 8)), (oD, zb G 0 z00)]) F (z_rS F (metX0_cell l G 7 (by omega)) (va_cwS 2 F.hts (lw_S q251 q252 q9 q253) rfl rfl rfl (by decide +kernel) ⟨Nat.le_of_ble_eq_true rfl, Nat.le_of_ble_eq_true rfl⟩) rfl rfl (Nat.le_of_ble_eq_true rfl) dX0_made_110 ⟨Nat.le_of_ble_eq_true rfl, Nat.le_of_ble_eq_true rfl⟩) rfl rfl rfl (fun r13 w13 h13 => ?_)
    obtain ⟨rfl, rfl⟩ := h13
    refine z_w (ws2 := [(d, zo 3 [.ref e0, .int 0, .int 0, .ref kD, .ref nD, .ref tD, .int (nI (zmd (zC G 13) 129)), .ref oD]), (kD, zb G 32 (zPt z00 0 (zC G 0) (zC G 1) (zC G 2) (zC G 3))), (nD, zb G 16 z00), (tD, zb G 256 (zTxt G 8)), (oD, zb G 0 z00)]) rfl ?_
    refine z_pick (ws2 := [(d, zo 3 [.ref e0, .int 0, .int 0, .ref kD, .ref nD, .ref tD, .int (nI (zmd (zC G 13) 129)), .ref oD]), (kD, zb G 32 (zPt z00 0 (zC G 0) (zC G 1) (zC G 2) (zC G 3)))] ++ [(nD, zb G 16 z00), (tD, zb G 256 (zTxt G 8)), (oD, zb G 0 z00)]) [0, 1, 2, 3, 4] rfl (by decide) ?_
    refine z_cv (n := 116) (cells2 := 10) (slots2 := 345) (wc := [(d, zo 3 [.ref e0, .int 0, .int 0, .ref kD, .ref nD, .ref tD, .int (nI (zmd (zC G 13) 129)), .ref oD]), (kD, zb G 32 (zPt z00 0 (zC G 0) (zC G 1) (zC G 2) (zC G 3)))]) (wr := [(nD, zb G 16 z00), (tD, zb G 256 (zTxt G 8)), (oD, zb G 0 z00)]) F (z_rV F (metX1_key l G d kD (.ref e0) (.int 0) (.int 0) (.ref nD) (.ref tD) (.int (nI (zmd (zC G 13) 129))) (.ref oD) (zPt z00 0 (zC G 0) (zC G 1) (zC G 2) (zC G 3)) 1 16 (by decide) (by decide) (zC G 4) (zC G 5) (zC G 6) (zC G 7)) (cwV 5 F.hts (lw_V q330 q331 q332 q10 q333) rfl rfl rfl (by decide +kernel) ⟨Nat.le_of_ble_eq_true rfl, Nat.le_of_ble_eq_true rfl⟩) 0 rfl rfl rfl rfl (Nat.le_of_ble_eq_true rfl) dX0_made_113 ⟨Nat.le_of_ble_eq_true rfl, Nat.le_of_ble_eq_true rfl⟩) rfl rfl rfl (fun w14 h14 => ?_)
    obtain rfl := h14
    refine z_w (ws2 := [(d, zo 3 [.ref e0, .int 0, .int 0, .ref kD, .ref nD, .ref tD, .int (nI (zmd (zC G 13) 129)), .ref oD]), (kD, zb G 32 (zPt (zPt z00 0 (zC G 0) (zC G 1) (zC G 2) (zC G 3)) 16 (zC G 4) (zC G 5) (zC G 6) (zC G 7))), (nD, zb G 16 z00), (tD, zb G 256 (zTxt G 8)), (oD, zb G 0 z00)]) rfl ?_
    refine z_aload_n (n := 117) F 1 dX0_made_116 rfl rfl rfl ?_
    refine z_aload_n (n := 118) F 2 dX0_made_117 rfl rfl rfl ?_
    refine z_bipush (n := 120) F 8 dX0_made_118 (by decide) rfl ?_
    refine z_pick (ws2 := [] ++ [(d, zo 3 [.ref e0, .int 0, .int 0, .ref kD, .ref nD, .ref tD, .int (nI (zmd (zC G 13) 129)), .ref oD]), (kD, zb G 32 (zPt (zPt z00 0 (zC G 0) (zC G 1) (zC G 2) (zC G 3)) 16 (zC G 4) (zC G 5) (zC G 6) (zC G 7))), (nD, zb G 16 z00), (tD, zb G 256 (zTxt G 8)), (oD, zb G 0 z00)]) [0, 1, 2, 3, 4] rfl (by decide) ?_
    refine z_ci (n := 123) (cells2 := 10) (slots2 := 345) (wc := []) (wr := [(d, zo 3 [.ref e0, .int 0, .int 0, .ref kD, .ref nD, .ref tD, .int (nI (zmd (zC G 13) 129)), .ref oD]), (kD, zb G 32 (zPt (zPt z00 0 (zC G 0) (zC G 1) (zC G 2) (zC G 3)) 16 (zC G 4) (zC G 5) (zC G 6) (zC G 7))), (nD, zb G 16 z00), (tD, zb G 256 (zTxt G 8)), (oD, zb G 0 z00)]) F (z_rS F (metX0_cell l G 8 (by omega)) (va_cwS 2 F.hts (lw_S q251 q252 q9 q253) rfl rfl rfl (by decide +kernel) ⟨Nat.le_of_ble_eq_true rfl, Nat.le_of_ble_eq_true rfl⟩) rfl rfl (Nat.le_of_ble_eq_true rfl) dX0_made_120 ⟨Nat.le_of_ble_eq_true rfl, Nat.le_of_ble_eq_true rfl⟩) rfl rfl rfl (fun r15 w15 h15 => ?_)
    obtain ⟨rfl, rfl⟩ := h15
    refine z_w (ws2 := [(d, zo 3 [.ref e0, .int 0, .int 0, .ref kD, .ref nD, .ref tD, .int (nI (zmd (zC G 13) 129)), .ref oD]), (kD, zb G 32 (zPt (zPt z00 0 (zC G 0) (zC G 1) (zC G 2) (zC G 3)) 16 (zC G 4) (zC G 5) (zC G 6) (zC G 7))), (nD, zb G 16 z00), (tD, zb G 256 (zTxt G 8)), (oD, zb G 0 z00)]) rfl ?_
    refine z_aload_n (n := 124) F 2 dX0_made_123 rfl rfl rfl ?_
    refine z_bipush (n := 126) F 9 dX0_made_124 (by decide) rfl ?_
    refine z_pick (ws2 := [] ++ [(d, zo 3 [.ref e0, .int 0, .int 0, .ref kD, .ref nD, .ref tD, .int (nI (zmd (zC G 13) 129)), .ref oD]), (kD, zb G 32 (zPt (zPt z00 0 (zC G 0) (zC G 1) (zC G 2) (zC G 3)) 16 (zC G 4) (zC G 5) (zC G 6) (zC G 7))), (nD, zb G 16 z00), (tD, zb G 256 (zTxt G 8)), (oD, zb G 0 z00)]) [0, 1, 2, 3, 4] rfl (by decide) ?_
    refine z_ci (n := 129) (cells2 := 10) (slots2 := 345) (wc := []) (wr := [(d, zo 3 [.ref e0, .int 0, .int 0, .ref kD, .ref nD, .ref tD, .int (nI (zmd (zC G 13) 129)), .ref oD]), (kD, zb G 32 (zPt (zPt z00 0 (zC G 0) (zC G 1) (zC G 2) (zC G 3)) 16 (zC G 4) (zC G 5) (zC G 6) (zC G 7))), (nD, zb G 16 z00), (tD, zb G 256 (zTxt G 8)), (oD, zb G 0 z00)]) F (z_rS F (metX0_cell l G 9 (by omega)) (va_cwS 2 F.hts (lw_S q251 q252 q9 q253) rfl rfl rfl (by decide +kernel) ⟨Nat.le_of_ble_eq_true rfl, Nat.le_of_ble_eq_true rfl⟩) rfl rfl (Nat.le_of_ble_eq_true rfl) dX0_made_126 ⟨Nat.le_of_ble_eq_true rfl, Nat.le_of_ble_eq_true rfl⟩) rfl rfl rfl (fun r16 w16 h16 => ?_)
    obtain ⟨rfl, rfl⟩ := h16
    refine z_w (ws2 := [(d, zo 3 [.ref e0, .int 0, .int 0, .ref kD, .ref nD, .ref tD, .int (nI (zmd (zC G 13) 129)), .ref oD]), (kD, zb G 32 (zPt (zPt z00 0 (zC G 0) (zC G 1) (zC G 2) (zC G 3)) 16 (zC G 4) (zC G 5) (zC G 6) (zC G 7))), (nD, zb G 16 z00), (tD, zb G 256 (zTxt G 8)), (oD, zb G 0 z00)]) rfl ?_
    refine z_aload_n (n := 130) F 2 dX0_made_129 rfl rfl rfl ?_
    refine z_bipush (n := 132) F 10 dX0_made_130 (by decide) rfl ?_
    refine z_pick (ws2 := [] ++ [(d, zo 3 [.ref e0, .int 0, .int 0, .ref kD, .ref nD, .ref tD, .int (nI (zmd (zC G 13) 129)), .ref oD]), (kD, zb G 32 (zPt (zPt z00 0 (zC G 0) (zC G 1) (zC G 2) (zC G 3)) 16 (zC G 4) (zC G 5) (zC G 6) (zC G 7))), (nD, zb G 16 z00), (tD, zb G 256 (zTxt G 8)), (oD, zb G 0 z00)]) [0, 1, 2, 3, 4] rfl (by decide) ?_
    refine z_ci (n := 135) (cells2 := 10) (slots2 := 345) (wc := []) (wr := [(d, zo 3 [.ref e0, .int 0, .int 0, .ref kD, .ref nD, .ref tD, .int (nI (zmd (zC G 13) 129)), .ref oD]), (kD, zb G 32 (zPt (zPt z00 0 (zC G 0) (zC G 1) (zC G 2) (zC G 3)) 16 (zC G 4) (zC G 5) (zC G 6) (zC G 7))), (nD, zb G 16 z00), (tD, zb G 256 (zTxt G 8)), (oD, zb G 0 z00)]) F (z_rS F (metX0_cell l G 10 (by omega)) (va_cwS 2 F.hts (lw_S q251 q252 q9 q253) rfl rfl rfl (by decide +kernel) ⟨Nat.le_of_ble_eq_true rfl, Nat.le_of_ble_eq_true rfl⟩) rfl rfl (Nat.le_of_ble_eq_true rfl) dX0_made_132 ⟨Nat.le_of_ble_eq_true rfl, Nat.le_of_ble_eq_true rfl⟩) rfl rfl rfl (fun r17 w17 h17 => ?_)
    obtain ⟨rfl, rfl⟩ := h17
    refine z_w (ws2 := [(d, zo 3 [.ref e0, .int 0, .int 0, .ref kD, .ref nD, .ref tD, .int (nI (zmd (zC G 13) 129)), .ref oD]), (kD, zb G 32 (zPt (zPt z00 0 (zC G 0) (zC G 1) (zC G 2) (zC G 3)) 16 (zC G 4) (zC G 5) (zC G 6) (zC G 7))), (nD, zb G 16 z00), (tD, zb G 256 (zTxt G 8)), (oD, zb G 0 z00)]) rfl ?_
    refine z_aload_n (n := 136) F 2 dX0_made_135 rfl rfl rfl ?_
    refine z_bipush (n := 138) F 11 dX0_made_136 (by decide) rfl ?_
    refine z_pick (ws2 := [] ++ [(d, zo 3 [.ref e0, .int 0, .int 0, .ref kD, .ref nD, .ref tD, .int (nI (zmd (zC G 13) 129)), .ref oD]), (kD, zb G 32 (zPt (zPt z00 0 (zC G 0) (zC G 1) (zC G 2) (zC G 3)) 16 (zC G 4) (zC G 5) (zC G 6) (zC G 7))), (nD, zb G 16 z00), (tD, zb G 256 (zTxt G 8)), (oD, zb G 0 z00)]) [0, 1, 2, 3, 4] rfl (by decide) ?_
    refine z_ci (n := 141) (cells2 := 10) (slots2 := 345) (wc := []) (wr := [(d, zo 3 [.ref e0, .int 0, .int 0, .ref kD, .ref nD, .ref tD, .int (nI (zmd (zC G 13) 129)), .ref oD]), (kD, zb G 32 (zPt (zPt z00 0 (zC G 0) (zC G 1) (zC G 2) (zC G 3)) 16 (zC G 4) (zC G 5) (zC G 6) (zC G 7))), (nD, zb G 16 z00), (tD, zb G 256 (zTxt G 8)), (oD, zb G 0 z00)]) F (z_rS F (metX0_cell l G 11 (by omega)) (va_cwS 2 F.hts (lw_S q251 q252 q9 q253) rfl rfl rfl (by decide +kernel) ⟨Nat.le_of_ble_eq_true rfl, Nat.le_of_ble_eq_true rfl⟩) rfl rfl (Nat.le_of_ble_eq_true rfl) dX0_made_138 ⟨Nat.le_of_ble_eq_true rfl, Nat.le_of_ble_eq_true rfl⟩) rfl rfl rfl (fun r18 w18 h18 => ?_)
    obtain ⟨rfl, rfl⟩ := h18
    refine z_w (ws2 := [(d, zo 3 [.ref e0, .int 0, .int 0, .ref kD, .ref nD, .ref tD, .int (nI (zmd (zC G 13) 129)), .ref oD]), (kD, zb G 32 (zPt (zPt z00 0 (zC G 0) (zC G 1) (zC G 2) (zC G 3)) 16 (zC G 4) (zC G 5) (zC G 6) (zC G 7))), (nD, zb G 16 z00), (tD, zb G 256 (zTxt G 8)), (oD, zb G 0 z00)]) rfl ?_
    refine z_pick (ws2 := [(d, zo 3 [.ref e0, .int 0, .int 0, .ref kD, .ref nD, .ref tD, .int (nI (zmd (zC G 13) 129)), .ref oD]), (nD, zb G 16 z00)] ++ [(kD, zb G 32 (zPt (zPt z00 0 (zC G 0) (zC G 1) (zC G 2) (zC G 3)) 16 (zC G 4) (zC G 5) (zC G 6) (zC G 7))), (tD, zb G 256 (zTxt G 8)), (oD, zb G 0 z00)]) [0, 2, 1, 3, 4] rfl (by decide) ?_
    refine z_cv (n := 144) (cells2 := 10) (slots2 := 345) (wc := [(d, zo 3 [.ref e0, .int 0, .int 0, .ref kD, .ref nD, .ref tD, .int (nI (zmd (zC G 13) 129)), .ref oD]), (nD, zb G 16 z00)]) (wr := [(kD, zb G 32 (zPt (zPt z00 0 (zC G 0) (zC G 1) (zC G 2) (zC G 3)) 16 (zC G 4) (zC G 5) (zC G 6) (zC G 7))), (tD, zb G 256 (zTxt G 8)), (oD, zb G 0 z00)]) F (z_rV F (metX1_nonce l G d nD (.ref e0) (.int 0) (.int 0) (.ref kD) (.ref tD) (.int (nI (zmd (zC G 13) 129))) (.ref oD) z00 (zC G 8) (zC G 9) (zC G 10) (zC G 11)) (cwV 4 F.hts (lw_V q334 q335 q336 q10 q337) rfl rfl rfl (by decide +kernel) ⟨Nat.le_of_ble_eq_true rfl, Nat.le_of_ble_eq_true rfl⟩) 0 rfl rfl rfl rfl (Nat.le_of_ble_eq_true rfl) dX0_made_141 ⟨Nat.le_of_ble_eq_true rfl, Nat.le_of_ble_eq_true rfl⟩) rfl rfl rfl (fun w19 h19 => ?_)
    obtain rfl := h19
    refine z_w (ws2 := [(d, zo 3 [.ref e0, .int 0, .int 0, .ref kD, .ref nD, .ref tD, .int (nI (zmd (zC G 13) 129)), .ref oD]), (nD, zb G 16 (zPt z00 0 (zC G 8) (zC G 9) (zC G 10) (zC G 11))), (kD, zb G 32 (zPt (zPt z00 0 (zC G 0) (zC G 1) (zC G 2) (zC G 3)) 16 (zC G 4) (zC G 5) (zC G 6) (zC G 7))), (tD, zb G 256 (zTxt G 8)), (oD, zb G 0 z00)]) rfl ?_
    refine z_pick (ws2 := [(d, zo 3 [.ref e0, .int 0, .int 0, .ref kD, .ref nD, .ref tD, .int (nI (zmd (zC G 13) 129)), .ref oD]), (kD, zb G 32 (zPt (zPt z00 0 (zC G 0) (zC G 1) (zC G 2) (zC G 3)) 16 (zC G 4) (zC G 5) (zC G 6) (zC G 7))), (nD, zb G 16 (zPt z00 0 (zC G 8) (zC G 9) (zC G 10) (zC G 11))), (tD, zb G 256 (zTxt G 8)), (oD, zb G 0 z00)]) [0, 2, 1, 3, 4] rfl (by decide) ?_
    refine z_aload_n (n := 145) F 1 dX0_made_144 rfl rfl rfl ?_
    refine z_aload_n (n := 146) F 2 dX0_made_145 rfl rfl rfl ?_
    refine z_bipush (n := 148) F 12 dX0_made_146 (by decide) rfl ?_
    refine z_pick (ws2 := [] ++ [(d, zo 3 [.ref e0, .int 0, .int 0, .ref kD, .ref nD, .ref tD, .int (nI (zmd (zC G 13) 129)), .ref oD]), (kD, zb G 32 (zPt (zPt z00 0 (zC G 0) (zC G 1) (zC G 2) (zC G 3)) 16 (zC G 4) (zC G 5) (zC G 6) (zC G 7))), (nD, zb G 16 (zPt z00 0 (zC G 8) (zC G 9) (zC G 10) (zC G 11))), (tD, zb G 256 (zTxt G 8)), (oD, zb G 0 z00)]) [0, 1, 2, 3, 4] rfl (by decide) ?_
    refine z_ci (n := 151) (cells2 := 10) (slots2 := 345) (wc := []) (wr := [(d, zo 3 [.ref e0, .int 0, .int 0, .ref kD, .ref nD, .ref tD, .int (nI (zmd (zC G 13) 129)), .ref oD]), (kD, zb G 32 (zPt (zPt z00 0 (zC G 0) (zC G 1) (zC G 2) (zC G 3)) 16 (zC G 4) (zC G 5) (zC G 6) (zC G 7))), (nD, zb G 16 (zPt z00 0 (zC G 8) (zC G 9) (zC G 10) (zC G 11))), (tD, zb G 256 (zTxt G 8)), (oD, zb G 0 z00)]) F (z_rS F (metX0_cell l G 12 (by omega)) (va_cwS 2 F.hts (lw_S q251 q252 q9 q253) rfl rfl rfl (by decide +kernel) ⟨Nat.le_of_ble_eq_true rfl, Nat.le_of_ble_eq_true rfl⟩) rfl rfl (Nat.le_of_ble_eq_true rfl) dX0_made_148 ⟨Nat.le_of_ble_eq_true rfl, Nat.le_of_ble_eq_true rfl⟩) rfl rfl rfl (fun r20 w20 h20 => ?_)
    obtain ⟨rfl, rfl⟩ := h20
    refine z_w (ws2 := [(d, zo 3 [.ref e0, .int 0, .int 0, .ref kD, .ref nD, .ref tD, .int (nI (zmd (zC G 13) 129)), .ref oD]), (kD, zb G 32 (zPt (zPt z00 0 (zC G 0) (zC G 1) (zC G 2) (zC G 3)) 16 (zC G 4) (zC G 5) (zC G 6) (zC G 7))), (nD, zb G 16 (zPt z00 0 (zC G 8) (zC G 9) (zC G 10) (zC G 11))), (tD, zb G 256 (zTxt G 8)), (oD, zb G 0 z00)]) rfl ?_
    refine z_cv (n := 154) (cells2 := 26) (slots2 := 478) (wc := [(d, zo 3 [.ref e0, .int 0, .int 0, .ref kD, .ref nD, .ref tD, .int (nI (zmd (zC G 13) 129)), .ref oD]), (kD, zb G 32 (zPt (zPt z00 0 (zC G 0) (zC G 1) (zC G 2) (zC G 3)) 16 (zC G 4) (zC G 5) (zC G 6) (zC G 7))), (nD, zb G 16 (zPt z00 0 (zC G 8) (zC G 9) (zC G 10) (zC G 11))), (tD, zb G 256 (zTxt G 8)), (oD, zb G 0 z00)]) (wr := []) F (z_rV F (metX1_begin l G d kD nD tD oD (.ref e0) 0 0 (zmd (zC G 13) 129) 0 (zPt (zPt z00 0 (zC G 0) (zC G 1) (zC G 2) (zC G 3)) 16 (zC G 4) (zC G 5) (zC G 6) (zC G 7)) (zPt z00 0 (zC G 8) (zC G 9) (zC G 10) (zC G 11)) (zTxt G 8) z00 (zC G 12)) (cwV 1 F.hts (lw_V q338 q339 q340 q10 q341) rfl rfl rfl (by decide +kernel) ⟨Nat.le_of_ble_eq_true rfl, Nat.le_of_ble_eq_true rfl⟩) 0 rfl rfl rfl rfl (Nat.le_of_ble_eq_true rfl) dX0_made_151 ⟨Nat.le_of_ble_eq_true rfl, Nat.le_of_ble_eq_true rfl⟩) rfl rfl rfl (fun wb h21 => ?_)
    have hw := h21
    refine z_w (ws2 := wb) (List.append_nil _) ?_
    refine z_aload_n (n := 155) F 1 dX0_made_154 rfl rfl rfl ?_
    exact z_aret F (Or.inl ⟨_, rfl⟩) hw (Nat.le_of_ble_eq_true rfl) (Nat.le_of_ble_eq_true rfl) dX0_made_155
  · intro t ht hnext
    refine z_w (ws2 := [(d, zo 3 [.ref e0, .int 0, .int 0, .ref kD, .ref nD, .ref tD, .int (nI (16 * t)), .ref oD]), (kD, zb G 32 z00), (nD, zb G 16 z00), (tD, zb G 256 (zTxt G t)), (oD, zb G 0 z00)]) rfl ?_
    refine z_l (lv2 := [(2, .int (nI (20 + 4 * t))), (1, .ref d), (0, .ref (zgb G))]) rfl ?_
    refine z_iload_n (n := 12) F 0 dX0_made_11 rfl rfl rfl ?_
    refine z_bipush (n := 14) F 52 dX0_made_12 (by decide) rfl ?_
    refine z_icmp_ge_f (tgt := 54) (n := 17) F dX0_made_14 (by decide) (nI_ge (a := 20 + 4 * t) (b := 52) (by omega) (by decide)) rfl ?_
    refine z_aload_n (n := 18) F 1 dX0_made_17 rfl rfl rfl ?_
    refine z_aload_n (n := 19) F 2 dX0_made_18 rfl rfl rfl ?_
    refine z_iload_n (n := 20) F 0 dX0_made_19 rfl rfl rfl ?_
    refine z_pick (ws2 := [] ++ [(d, zo 3 [.ref e0, .int 0, .int 0, .ref kD, .ref nD, .ref tD, .int (nI (16 * t)), .ref oD]), (kD, zb G 32 z00), (nD, zb G 16 z00), (tD, zb G 256 (zTxt G t)), (oD, zb G 0 z00)]) [0, 1, 2, 3, 4] rfl (by decide) ?_
    refine z_ci (n := 23) (cells2 := 10) (slots2 := 345) (wc := []) (wr := [(d, zo 3 [.ref e0, .int 0, .int 0, .ref kD, .ref nD, .ref tD, .int (nI (16 * t)), .ref oD]), (kD, zb G 32 z00), (nD, zb G 16 z00), (tD, zb G 256 (zTxt G t)), (oD, zb G 0 z00)]) F (z_rS F (metX0_cell l G (20 + 4 * t) (by omega)) (va_cwS 2 F.hts (lw_S q251 q252 q9 q253) rfl rfl rfl (by decide +kernel) ⟨Nat.le_of_ble_eq_true rfl, Nat.le_of_ble_eq_true rfl⟩) rfl rfl (Nat.le_of_ble_eq_true rfl) dX0_made_20 ⟨Nat.le_of_ble_eq_true rfl, Nat.le_of_ble_eq_true rfl⟩) rfl rfl rfl (fun r22 w22 h22 => ?_)
    obtain ⟨rfl, rfl⟩ := h22
    refine z_w (ws2 := [(d, zo 3 [.ref e0, .int 0, .int 0, .ref kD, .ref nD, .ref tD, .int (nI (16 * t)), .ref oD]), (kD, zb G 32 z00), (nD, zb G 16 z00), (tD, zb G 256 (zTxt G t)), (oD, zb G 0 z00)]) rfl ?_
    refine z_aload_n (n := 24) F 2 dX0_made_23 rfl rfl rfl ?_
    refine z_iload_n (n := 25) F 0 dX0_made_24 rfl rfl rfl ?_
    refine z_iconst (n := 26) F 1 dX0_made_25 (by decide) rfl ?_
    refine z_iadd (n := 27) F dX0_made_26 rfl ?_
    refine z_re (y := (nI (20 + 4 * t + 1))) (nI_add (20 + 4 * t) 1) ?_
    refine z_pick (ws2 := [] ++ [(d, zo 3 [.ref e0, .int 0, .int 0, .ref kD, .ref nD, .ref tD, .int (nI (16 * t)), .ref oD]), (kD, zb G 32 z00), (nD, zb G 16 z00), (tD, zb G 256 (zTxt G t)), (oD, zb G 0 z00)]) [0, 1, 2, 3, 4] rfl (by decide) ?_
    refine z_ci (n := 30) (cells2 := 10) (slots2 := 345) (wc := []) (wr := [(d, zo 3 [.ref e0, .int 0, .int 0, .ref kD, .ref nD, .ref tD, .int (nI (16 * t)), .ref oD]), (kD, zb G 32 z00), (nD, zb G 16 z00), (tD, zb G 256 (zTxt G t)), (oD, zb G 0 z00)]) F (z_rS F (metX0_cell l G (20 + 4 * t + 1) (by omega)) (va_cwS 2 F.hts (lw_S q251 q252 q9 q253) rfl rfl rfl (by decide +kernel) ⟨Nat.le_of_ble_eq_true rfl, Nat.le_of_ble_eq_true rfl⟩) rfl rfl (Nat.le_of_ble_eq_true rfl) dX0_made_27 ⟨Nat.le_of_ble_eq_true rfl, Nat.le_of_ble_eq_true rfl⟩) rfl rfl rfl (fun r23 w23 h23 => ?_)
    obtain ⟨rfl, rfl⟩ := h23
    refine z_w (ws2 := [(d, zo 3 [.ref e0, .int 0, .int 0, .ref kD, .ref nD, .ref tD, .int (nI (16 * t)), .ref oD]), (kD, zb G 32 z00), (nD, zb G 16 z00), (tD, zb G 256 (zTxt G t)), (oD, zb G 0 z00)]) rfl ?_
    refine z_aload_n (n := 31) F 2 dX0_made_30 rfl rfl rfl ?_
    refine z_iload_n (n := 32) F 0 dX0_made_31 rfl rfl rfl ?_
    refine z_iconst (n := 33) F 2 dX0_made_32 (by decide) rfl ?_
    refine z_iadd (n := 34) F dX0_made_33 rfl ?_
    refine z_re (y := (nI (20 + 4 * t + 2))) (nI_add (20 + 4 * t) 2) ?_
    refine z_pick (ws2 := [] ++ [(d, zo 3 [.ref e0, .int 0, .int 0, .ref kD, .ref nD, .ref tD, .int (nI (16 * t)), .ref oD]), (kD, zb G 32 z00), (nD, zb G 16 z00), (tD, zb G 256 (zTxt G t)), (oD, zb G 0 z00)]) [0, 1, 2, 3, 4] rfl (by decide) ?_
    refine z_ci (n := 37) (cells2 := 10) (slots2 := 345) (wc := []) (wr := [(d, zo 3 [.ref e0, .int 0, .int 0, .ref kD, .ref nD, .ref tD, .int (nI (16 * t)), .ref oD]), (kD, zb G 32 z00), (nD, zb G 16 z00), (tD, zb G 256 (zTxt G t)), (oD, zb G 0 z00)]) F (z_rS F (metX0_cell l G (20 + 4 * t + 2) (by omega)) (va_cwS 2 F.hts (lw_S q251 q252 q9 q253) rfl rfl rfl (by decide +kernel) ⟨Nat.le_of_ble_eq_true rfl, Nat.le_of_ble_eq_true rfl⟩) rfl rfl (Nat.le_of_ble_eq_true rfl) dX0_made_34 ⟨Nat.le_of_ble_eq_true rfl, Nat.le_of_ble_eq_true rfl⟩) rfl rfl rfl (fun r24 w24 h24 => ?_)
    obtain ⟨rfl, rfl⟩ := h24
    refine z_w (ws2 := [(d, zo 3 [.ref e0, .int 0, .int 0, .ref kD, .ref nD, .ref tD, .int (nI (16 * t)), .ref oD]), (kD, zb G 32 z00), (nD, zb G 16 z00), (tD, zb G 256 (zTxt G t)), (oD, zb G 0 z00)]) rfl ?_
    refine z_aload_n (n := 38) F 2 dX0_made_37 rfl rfl rfl ?_
    refine z_iload_n (n := 39) F 0 dX0_made_38 rfl rfl rfl ?_
    refine z_iconst (n := 40) F 3 dX0_made_39 (by decide) rfl ?_
    refine z_iadd (n := 41) F dX0_made_40 rfl ?_
    refine z_re (y := (nI (20 + 4 * t + 3))) (nI_add (20 + 4 * t) 3) ?_
    refine z_pick (ws2 := [] ++ [(d, zo 3 [.ref e0, .int 0, .int 0, .ref kD, .ref nD, .ref tD, .int (nI (16 * t)), .ref oD]), (kD, zb G 32 z00), (nD, zb G 16 z00), (tD, zb G 256 (zTxt G t)), (oD, zb G 0 z00)]) [0, 1, 2, 3, 4] rfl (by decide) ?_
    refine z_ci (n := 44) (cells2 := 10) (slots2 := 345) (wc := []) (wr := [(d, zo 3 [.ref e0, .int 0, .int 0, .ref kD, .ref nD, .ref tD, .int (nI (16 * t)), .ref oD]), (kD, zb G 32 z00), (nD, zb G 16 z00), (tD, zb G 256 (zTxt G t)), (oD, zb G 0 z00)]) F (z_rS F (metX0_cell l G (20 + 4 * t + 3) (by omega)) (va_cwS 2 F.hts (lw_S q251 q252 q9 q253) rfl rfl rfl (by decide +kernel) ⟨Nat.le_of_ble_eq_true rfl, Nat.le_of_ble_eq_true rfl⟩) rfl rfl (Nat.le_of_ble_eq_true rfl) dX0_made_41 ⟨Nat.le_of_ble_eq_true rfl, Nat.le_of_ble_eq_true rfl⟩) rfl rfl rfl (fun r25 w25 h25 => ?_)
    obtain ⟨rfl, rfl⟩ := h25
    refine z_w (ws2 := [(d, zo 3 [.ref e0, .int 0, .int 0, .ref kD, .ref nD, .ref tD, .int (nI (16 * t)), .ref oD]), (kD, zb G 32 z00), (nD, zb G 16 z00), (tD, zb G 256 (zTxt G t)), (oD, zb G 0 z00)]) rfl ?_
    refine z_pick (ws2 := [(d, zo 3 [.ref e0, .int 0, .int 0, .ref kD, .ref nD, .ref tD, .int (nI (16 * t)), .ref oD]), (kD, zb G 32 z00), (nD, zb G 16 z00), (tD, zb G 256 (zTxt G t)), (oD, zb G 0 z00)] ++ []) [0, 1, 2, 3, 4] rfl (by decide) ?_
    refine z_ci (n := 47) (cells2 := 10) (slots2 := 345) (wc := [(d, zo 3 [.ref e0, .int 0, .int 0, .ref kD, .ref nD, .ref tD, .int (nI (16 * t)), .ref oD]), (kD, zb G 32 z00), (nD, zb G 16 z00), (tD, zb G 256 (zTxt G t)), (oD, zb G 0 z00)]) (wr := []) F (z_rV F (metX1_put l G d kD nD tD oD (.ref e0) 0 0 (16 * t) 0 z00 z00 (zTxt G t) z00 (zC G (20 + 4 * t)) (zC G (20 + 4 * t + 1)) (zC G (20 + 4 * t + 2)) (zC G (20 + 4 * t + 3)) (by omega)) (cwV 4 F.hts (lw_V q319 q320 q321 q10 q322) rfl rfl rfl (by decide +kernel) ⟨Nat.le_of_ble_eq_true rfl, Nat.le_of_ble_eq_true rfl⟩) 0 rfl rfl rfl rfl (Nat.le_of_ble_eq_true rfl) dX0_made_44 ⟨Nat.le_of_ble_eq_true rfl, Nat.le_of_ble_eq_true rfl⟩) rfl rfl rfl (fun r26 w26 h26 => ?_)
    obtain ⟨rfl, rfl⟩ := h26
    refine z_w (ws2 := [(d, zo 3 [.ref e0, .int 0, .int 0, .ref kD, .ref nD, .ref tD, .int (nI ((16 * t) + 16)), .ref oD]), (kD, zb G 32 z00), (nD, zb G 16 z00), (tD, zb G 256 (zPt (zTxt G t) (16 * t) (zC G (20 + 4 * t)) (zC G (20 + 4 * t + 1)) (zC G (20 + 4 * t + 2)) (zC G (20 + 4 * t + 3)))), (oD, zb G 0 z00)]) rfl ?_
    refine z_pop (n := 48) F dX0_made_47 rfl rfl ?_
    refine z_ext (ws2 := [(d, zo 3 [.ref e0, .int 0, .int 0, .ref kD, .ref nD, .ref tD, .int (nI (16 * (t + 1))), .ref oD]), (kD, zb G 32 z00), (nD, zb G 16 z00), (tD, zb G 256 (zTxt G (t + 1))), (oD, zb G 0 z00)]) 3 (zTxt G (t + 1)) rfl (fun j _ => zTxt_up G t j) rfl ?_
    refine z_iinc (n := 51) F 0 (nI (20 + 4 * (t + 1))) [(2, .int (nI (20 + 4 * (t + 1)))), (1, .ref d), (0, .ref (zgb G))] dX0_made_48 rfl (by rw [show 20 + 4 * (t + 1) = 20 + 4 * t + 4 by omega]; exact nI_add (20 + 4 * t) 4) (by decide) rfl rfl ?_
    refine z_goto (tgt := 11) F dX0_made_51 (by decide) ?_
    exact hnext
set_option maxHeartbeats 4000000 in
theorem metX0_known (l : Launch) (G : zG)  : ZMi l G yX0_known cX0_known 3 .boolean (zrm 8 28 742) [] [] (fun r w => r = 1 ∧ w = []) := by
  refine z_enter "ZucDeskLaw" "known" [] (by decide) rfl rfl rfl (Nat.le_of_ble_eq_true rfl) ?_
  intro p e s m args below meth c F
  refine z_new (n := 3) (cells2 := 1) (slots2 := 8) F 3 [.null, .int 0, .int 0, .null, .null, .null, .int 0, .null] tyX1 in_X1 tyX1_ok q257 q31 q10 rfl zd3 (Nat.le_of_ble_eq_true rfl) (Nat.le_of_ble_eq_true rfl) dX0_known_0 rfl rfl rfl (fun d => ?_)
  refine z_w (ws2 := [(d, zo 3 [.null, .int 0, .int 0, .null, .null, .null, .int 0, .null])]) rfl ?_
  refine z_dup (n := 4) F dX0_known_3 rfl rfl ?_
  refine z_pick (ws2 := [(d, zo 3 [.null, .int 0, .int 0, .null, .null, .null, .int 0, .null])] ++ []) [0] rfl (by decide) ?_
  refine z_cv (n := 7) (cells2 := 10) (slots2 := 345) (wc := [(d, zo 3 [.null, .int 0, .int 0, .null, .null, .null, .int 0, .null])]) (wr := []) F (z_rI F (metX1_init l G d) (cwI 0 F.hts (lw_meth q260) rfl rfl rfl (F.hts _ q10) (F.hts _ q258) (F.hts _ q259) rfl (by decide +kernel) ⟨Nat.le_of_ble_eq_true rfl, Nat.le_of_ble_eq_true rfl⟩) rfl rfl (Nat.le_of_ble_eq_true rfl) dX0_known_4 ⟨Nat.le_of_ble_eq_true rfl, Nat.le_of_ble_eq_true rfl⟩) rfl rfl rfl (fun w2 h2 => ?_)
  obtain ⟨e0, kD, nD, tD, oD, rfl⟩ := h2
  refine z_w (ws2 := [(d, zo 3 [.ref e0, .int 0, .int 0, .ref kD, .ref nD, .ref tD, .int 0, .ref oD]), (kD, zb G 32 z00), (nD, zb G 16 z00), (tD, zb G 256 z00), (oD, zb G 0 z00)]) rfl ?_
  refine z_astore_n (n := 8) F [(0, .ref d)] dX0_known_7 rfl (by decide) rfl rfl ?_
  refine z_aload_n (n := 9) F 0 dX0_known_8 rfl rfl rfl ?_
  refine z_iconst (n := 10) F 0 dX0_known_9 (by decide) rfl ?_
  refine z_iconst (n := 11) F 0 dX0_known_10 (by decide) rfl ?_
  refine z_iconst (n := 12) F 0 dX0_known_11 (by decide) rfl ?_
  refine z_iconst (n := 13) F 0 dX0_known_12 (by decide) rfl ?_
  refine z_pick (ws2 := [(d, zo 3 [.ref e0, .int 0, .int 0, .ref kD, .ref nD, .ref tD, .int 0, .ref oD]), (kD, zb G 32 z00), (nD, zb G 16 z00), (tD, zb G 256 z00), (oD, zb G 0 z00)] ++ []) [0, 1, 2, 3, 4] rfl (by decide) ?_
  refine z_ci (n := 16) (cells2 := 10) (slots2 := 345) (wc := [(d, zo 3 [.ref e0, .int 0, .int 0, .ref kD, .ref nD, .ref tD, .int 0, .ref oD]), (kD, zb G 32 z00), (nD, zb G 16 z00), (tD, zb G 256 z00), (oD, zb G 0 z00)]) (wr := []) F (z_rV F (metX1_put l G d kD nD tD oD (.ref e0) 0 0 0 0 z00 z00 z00 z00 0 0 0 0 (by omega)) (cwV 4 F.hts (lw_V q319 q320 q321 q10 q322) rfl rfl rfl (by decide +kernel) ⟨Nat.le_of_ble_eq_true rfl, Nat.le_of_ble_eq_true rfl⟩) 0 rfl rfl rfl rfl (Nat.le_of_ble_eq_true rfl) dX0_known_13 ⟨Nat.le_of_ble_eq_true rfl, Nat.le_of_ble_eq_true rfl⟩) rfl rfl rfl (fun r3 w3 h3 => ?_)
  obtain ⟨rfl, rfl⟩ := h3
  refine z_w (ws2 := [(d, zo 3 [.ref e0, .int 0, .int 0, .ref kD, .ref nD, .ref tD, .int (nI (0 + 16)), .ref oD]), (kD, zb G 32 z00), (nD, zb G 16 z00), (tD, zb G 256 (zPt z00 0 0 0 0 0)), (oD, zb G 0 z00)]) rfl ?_
  refine z_pop (n := 17) F dX0_known_16 rfl rfl ?_
  refine z_aload_n (n := 18) F 0 dX0_known_17 rfl rfl rfl ?_
  refine z_bipush (n := 20) F 8 dX0_known_18 (by decide) rfl ?_
  refine z_pick (ws2 := [(d, zo 3 [.ref e0, .int 0, .int 0, .ref kD, .ref nD, .ref tD, .int (nI (0 + 16)), .ref oD])] ++ [(kD, zb G 32 z00), (nD, zb G 16 z00), (tD, zb G 256 (zPt z00 0 0 0 0 0)), (oD, zb G 0 z00)]) [0, 1, 2, 3, 4] rfl (by decide) ?_
  refine z_cv (n := 23) (cells2 := 10) (slots2 := 345) (wc := [(d, zo 3 [.ref e0, .int 0, .int 0, .ref kD, .ref nD, .ref tD, .int (nI (0 + 16)), .ref oD])]) (wr := [(kD, zb G 32 z00), (nD, zb G 16 z00), (tD, zb G 256 (zPt z00 0 0 0 0 0)), (oD, zb G 0 z00)]) F (z_rV F (metX1_trim l G d (.ref e0) (.int 0) (.int 0) (.ref kD) (.ref nD) (.ref tD) (.ref oD) (0 + 16) 8 (by omega)) (cwV 1 F.hts (lw_V q326 q327 q328 q10 q329) rfl rfl rfl (by decide +kernel) ⟨Nat.le_of_ble_eq_true rfl, Nat.le_of_ble_eq_true rfl⟩) 0 rfl rfl rfl rfl (Nat.le_of_ble_eq_true rfl) dX0_known_20 ⟨Nat.le_of_ble_eq_true rfl, Nat.le_of_ble_eq_true rfl⟩) rfl rfl rfl (fun w4 h4 => ?_)
  obtain rfl := h4
  refine z_w (ws2 := [(d, zo 3 [.ref e0, .int 0, .int 0, .ref kD, .ref nD, .ref tD, .int (nI (zmd 8 ((0 + 16) + 1))), .ref oD]), (kD, zb G 32 z00), (nD, zb G 16 z00), (tD, zb G 256 (zPt z00 0 0 0 0 0)), (oD, zb G 0 z00)]) rfl ?_
  refine z_w (ws2 := [(d, zo 3 [.ref e0, .int 0, .int 0, .ref kD, .ref nD, .ref tD, .int (nI 8), .ref oD]), (kD, zb G 32 z00), (nD, zb G 16 z00), (tD, zb G 256 (zPt z00 0 0 0 0 0)), (oD, zb G 0 z00)]) rfl ?_
  refine z_aload_n (n := 24) F 0 dX0_known_23 rfl rfl rfl ?_
  refine z_iconst (n := 25) F 0 dX0_known_24 (by decide) rfl ?_
  refine z_cv (n := 28) (cells2 := 26) (slots2 := 478) (wc := [(d, zo 3 [.ref e0, .int 0, .int 0, .ref kD, .ref nD, .ref tD, .int (nI 8), .ref oD]), (kD, zb G 32 z00), (nD, zb G 16 z00), (tD, zb G 256 (zPt z00 0 0 0 0 0)), (oD, zb G 0 z00)]) (wr := []) F (z_rV F (metX1_begin l G d kD nD tD oD (.ref e0) 0 0 8 0 z00 z00 (zPt z00 0 0 0 0 0) z00 0) (cwV 1 F.hts (lw_V q338 q339 q340 q10 q341) rfl rfl rfl (by decide +kernel) ⟨Nat.le_of_ble_eq_true rfl, Nat.le_of_ble_eq_true rfl⟩) 0 rfl rfl rfl rfl (Nat.le_of_ble_eq_true rfl) dX0_known_25 ⟨Nat.le_of_ble_eq_true rfl, Nat.le_of_ble_eq_true rfl⟩) rfl rfl rfl (fun wb h5 => ?_)
  have hw := h5
  refine z_w (ws2 := wb) (List.append_nil _) ?_
  refine z_aload_n (n := 29) F 0 dX0_known_28 rfl rfl rfl ?_
  refine z_iconst (n := 30) F 0 dX0_known_29 (by decide) rfl ?_
  refine z_bipush (n := 32) F 8 dX0_known_30 (by decide) rfl ?_
  obtain ⟨fs1, he1⟩ := zDP_at hw
  refine z_w (ws2 := wb ++ []) (List.append_nil _).symm ?_
  refine z_ci (n := 35) (cells2 := 27) (slots2 := 734) (wc := wb) (wr := []) F (z_rV F (metX1_run l G d 8 0 0 (zPt z00 0 0 0 0 0) z00 zKs wb hw (zSig_inv _ _) (by decide) 0 8 (by decide) (by decide)) (cwV 2 F.hts (lw_V q24 q25 q26 q10 q27) rfl rfl rfl (by decide +kernel) ⟨Nat.le_of_ble_eq_true rfl, Nat.le_of_ble_eq_true rfl⟩) 0 he1 rfl rfl rfl (Nat.le_of_ble_eq_true rfl) dX0_known_32 ⟨Nat.le_of_ble_eq_true rfl, Nat.le_of_ble_eq_true rfl⟩) rfl rfl rfl (fun r6 wr h6 => ?_)
  obtain ⟨rfl, hw2⟩ := h6
  refine z_w (ws2 := wr) (List.append_nil _) ?_
  refine z_pop (n := 36) F dX0_known_35 rfl rfl ?_
  refine z_bipush (n := 38) F 8 dX0_known_36 (by decide) rfl ?_
  refine z_newI (n := 40) (cells2 := 28) (slots2 := 742) F 8 (by decide) rfl (Nat.le_of_ble_eq_true rfl) (Nat.le_of_ble_eq_true rfl) (Nat.le_of_ble_eq_true rfl) dX0_known_38 rfl rfl rfl (fun xq => ?_)
  refine z_perm (ws2 := ((xq, zi G 8 z00) :: wr)) (List.perm_append_singleton _ _) ?_
  refine z_dup (n := 41) F dX0_known_40 rfl rfl ?_
  refine z_iconst (n := 42) F 0 dX0_known_41 (by decide) rfl ?_
  refine z_bipush (n := 44) F 39 dX0_known_42 (by decide) rfl ?_
  refine z_iast (n := 45) (ws2 := ((xq, zi G 8 (upd z00 0 39)) :: wr)) F 0 (upd z00 0 39) rfl zn8_0 rfl dX0_known_44 rfl rfl ?_
  refine z_dup (n := 46) F dX0_known_45 rfl rfl ?_
  refine z_iconst (n := 47) F 1 dX0_known_46 (by decide) rfl ?_
  refine z_sipush (n := 50) F 190 dX0_known_47 (by decide) rfl ?_
  refine z_iast (n := 51) (ws2 := ((xq, zi G 8 (upd (upd z00 0 39) 1 190)) :: wr)) F 0 (upd (upd z00 0 39) 1 190) rfl zn8_1 rfl dX0_known_50 rfl rfl ?_
  refine z_dup (n := 52) F dX0_known_51 rfl rfl ?_
  refine z_iconst (n := 53) F 2 dX0_known_52 (by decide) rfl ?_
  refine z_sipush (n := 56) F 222 dX0_known_53 (by decide) rfl ?_
  refine z_iast (n := 57) (ws2 := ((xq, zi G 8 (upd (upd (upd z00 0 39) 1 190) 2 222)) :: wr)) F 0 (upd (upd (upd z00 0 39) 1 190) 2 222) rfl zn8_2 rfl dX0_known_56 rfl rfl ?_
  refine z_dup (n := 58) F dX0_known_57 rfl rfl ?_
  refine z_iconst (n := 59) F 3 dX0_known_58 (by decide) rfl ?_
  refine z_bipush (n := 61) F 116 dX0_known_59 (by decide) rfl ?_
  refine z_iast (n := 62) (ws2 := ((xq, zi G 8 (upd (upd (upd (upd z00 0 39) 1 190) 2 222) 3 116)) :: wr)) F 0 (upd (upd (upd (upd z00 0 39) 1 190) 2 222) 3 116) rfl zn8_3 rfl dX0_known_61 rfl rfl ?_
  refine z_dup (n := 63) F dX0_known_62 rfl rfl ?_
  refine z_iconst (n := 64) F 4 dX0_known_63 (by decide) rfl ?_
  refine z_iconst (n := 65) F 1 dX0_known_64 (by decide) rfl ?_
  refine z_iast (n := 66) (ws2 := ((xq, zi G 8 (upd (upd (upd (upd (upd z00 0 39) 1 190) 2 222) 3 116) 4 1)) :: wr)) F 0 (upd (upd (upd (upd (upd z00 0 39) 1 190) 2 222) 3 116) 4 1) rfl zn8_4 rfl dX0_known_65 rfl rfl ?_
  refine z_dup (n := 67) F dX0_known_66 rfl rfl ?_
  refine z_iconst (n := 68) F 5 dX0_known_67 (by decide) rfl ?_
  refine z_sipush (n := 71) F 128 dX0_known_68 (by decide) rfl ?_
  refine z_iast (n := 72) (ws2 := ((xq, zi G 8 (upd (upd (upd (upd (upd (upd z00 0 39) 1 190) 2 222) 3 116) 4 1) 5 128)) :: wr)) F 0 (upd (upd (upd (upd (upd (upd z00 0 39) 1 190) 2 222) 3 116) 4 1) 5 128) rfl zn8_5 rfl dX0_known_71 rfl rfl ?_
  refine z_dup (n := 73) F dX0_known_72 rfl rfl ?_
  refine z_bipush (n := 75) F 6 dX0_known_73 (by decide) rfl ?_
  refine z_sipush (n := 78) F 130 dX0_known_75 (by decide) rfl ?_
  refine z_iast (n := 79) (ws2 := ((xq, zi G 8 (upd (upd (upd (upd (upd (upd (upd z00 0 39) 1 190) 2 222) 3 116) 4 1) 5 128) 6 130)) :: wr)) F 0 (upd (upd (upd (upd (upd (upd (upd z00 0 39) 1 190) 2 222) 3 116) 4 1) 5 128) 6 130) rfl zn8_6 rfl dX0_known_78 rfl rfl ?_
  refine z_dup (n := 80) F dX0_known_79 rfl rfl ?_
  refine z_bipush (n := 82) F 7 dX0_known_80 (by decide) rfl ?_
  refine z_sipush (n := 85) F 218 dX0_known_82 (by decide) rfl ?_
  refine z_iast (n := 86) (ws2 := ((xq, zi G 8 (upd (upd (upd (upd (upd (upd (upd (upd z00 0 39) 1 190) 2 222) 3 116) 4 1) 5 128) 6 130) 7 218)) :: wr)) F 0 (upd (upd (upd (upd (upd (upd (upd (upd z00 0 39) 1 190) 2 222) 3 116) 4 1) 5 128) 6 130) 7 218) rfl zn8_7 rfl dX0_known_85 rfl rfl ?_
  refine z_astore_n (n := 87) F [(1, .ref xq), (0, .ref d)] dX0_known_86 rfl (by decide) rfl rfl ?_
  refine z_iconst (n := 88) F 0 dX0_known_87 (by decide) rfl ?_
  refine z_istore_n (n := 89) F [(2, .int 0), (1, .ref xq), (0, .ref d)] dX0_known_88 rfl (by decide) rfl rfl ?_
  refine z_ext (ws2 := ((xq, zi G 8 zxk) :: wr)) 0 zxk rfl zxk_ok rfl ?_
  refine zz_loopI (fun t x => ZW p l e _ s m args below meth c _ G _ _ 28 742 ((xq, zi G 8 zxk) :: x) 89 [(2, .int (nI t)), (1, .ref xq), (0, .ref d)] []) (zDP G d (zPt z00 0 0 0 0 0) 8 zKs 8 8 (zOt zKs (zPt z00 0 0 0 0 0) 0 8)) 8 (fun x hx => ?_) (fun t x ht hx hnext => ?_) wr hw2
  · refine z_l (lv2 := [(2, .int (nI 8)), (1, .ref xq), (0, .ref d)]) rfl ?_
    refine z_iload_n (n := 90) F 0 dX0_known_89 rfl rfl rfl ?_
    refine z_bipush (n := 92) F 8 dX0_known_90 (by decide) rfl ?_
    refine z_icmp_ge_t (tgt := 114) F dX0_known_92 (by decide) (Int32.le_refl _) ?_
    refine z_iconst (n := 115) F 1 dX0_known_114 (by decide) rfl ?_
    refine z_pick (ws2 := []) [] rfl rfl ?_
    exact z_iret F rfl ⟨rfl, rfl⟩ (Nat.le_of_ble_eq_true rfl) (Nat.le_of_ble_eq_true rfl) dX0_known_115
  · refine z_l (lv2 := [(2, .int (nI t)), (1, .ref xq), (0, .ref d)]) rfl ?_
    refine z_iload_n (n := 90) F 0 dX0_known_89 rfl rfl rfl ?_
    refine z_bipush (n := 92) F 8 dX0_known_90 (by decide) rfl ?_
    refine z_icmp_ge_f (tgt := 114) (n := 95) F dX0_known_92 (by decide) (nI_ge (b := 8) ht (by decide)) rfl ?_
    refine z_aload_n (n := 96) F 2 dX0_known_95 rfl rfl rfl ?_
    refine z_iload_n (n := 97) F 0 dX0_known_96 rfl rfl rfl ?_
    obtain ⟨fs2, he2⟩ := zDP_at hx
    refine z_perm (ws2 := x ++ [(xq, zi G 8 zxk)]) (List.perm_append_singleton _ _).symm ?_
    refine z_ci (n := 100) (cells2 := 28) (slots2 := 742) (wc := x) (wr := [(xq, zi G 8 zxk)]) F (z_rV F (metX1_out l G d 8 8 8 (zPt z00 0 0 0 0 0) (zOt zKs (zPt z00 0 0 0 0 0) 0 8) zKs x hx (zSig_inv _ _) (by decide) t ht (by decide)) (cwV 1 F.hts (lw_V q247 q248 q249 q10 q250) rfl rfl rfl (by decide +kernel) ⟨Nat.le_of_ble_eq_true rfl, Nat.le_of_ble_eq_true rfl⟩) 0 he2 rfl rfl rfl (Nat.le_of_ble_eq_true rfl) dX0_known_97 ⟨Nat.le_of_ble_eq_true rfl, Nat.le_of_ble_eq_true rfl⟩) rfl rfl rfl (fun r7 x2 h7 => ?_)
    obtain ⟨rfl, hx2⟩ := h7
    refine z_perm (ws2 := (xq, zi G 8 zxk) :: x2) (List.perm_append_singleton _ _) ?_
    refine z_aload_n (n := 101) F 1 dX0_known_100 rfl rfl rfl ?_
    refine z_iload_n (n := 102) F 0 dX0_known_101 rfl rfl rfl ?_
    refine z_iald (n := 103) F 0 (zxk t) rfl (vp_in_nI ht (by decide)) (congrArg zxk (nI_clamp (by omega))) dX0_known_102 rfl ?_
    refine z_icmp_eq_t (tgt := 108) F dX0_known_103 (by decide) (zKnown t ht) ?_
    refine z_iinc (n := 111) F 0 (nI (t + 1)) [(2, .int (nI (t + 1))), (1, .ref xq), (0, .ref d)] dX0_known_108 rfl (nI_1 t) (by decide) rfl rfl ?_
    refine z_goto (tgt := 89) F dX0_known_111 (by decide) ?_
    exact hnext x2 hx2
end
section
/-! THE CLAIM OUT OF ONE WALK OF THE LAW'S BODY. Your part is whole_start (and what it stands on); all else here is the same for every law, but numbers. -/
def R_law : String := "ZucDeskLaw"
def lw_P (b : Addr) (xs : List Int32) (args : Array Value) (s : State) : Prop := args = #[.ref b] ∧ s.IntsAt b xs ∧ xs.length ≤ 60 ∧ (Jvm.Cond.and given_1 narrow_1).before args s = true
def lw_Q (_ : Array Value) (s : State) (o : Outcome) (t : State) : Prop := o = .returned (some (.int 1)) ∧ Framed s o t [] 600120 7301170
def lw_Z (below : List Frame) (a : Array Value) (s : State) : State → Prop := fun t => ∃ o, t.status = .running ∧ Ended t below o ∧ lw_Q a s o t
/-- the law's own end, with 1 on the stack, nothing written that was there before, its room as the claim has it -/
theorem lw_ret {p : Program} {l : Launch} {e : Env} {s : State} {m : MethodId} {below : List Frame} {meth : Method} {c : Code} {b : Nat} (hx : p.tables.exec = Jvm.exec) (hb : c.code = code) (hr : meth.sig.returnType = ret) (hlocks : meth.locks = false) {pc : Nat} {H : Heap} {ls : Array Slot} (hdg : decode code pc = .ok (.ireturn, 1)) : W p l e room_1 s m #[Value.ref b] below meth c H [] 600120 7301170 (lw_Z below #[Value.ref b] s) (F0 m pc ls [.int 1]) := by
  intro T hT X
  obtain ⟨fs, hret, hrun, hended, hW, hframe⟩ := X.leave (v := some (.int 1)) (hlocks := hlocks) (fun h => by rw [hr] at h; cases h)
  have hmeth' : T.vm.method? m = some meth := X.method'
  refine ⟨T.setFrames fs, ?_, .returned (some (.int 1)), hrun, hended, rfl, ⟨_, rfl⟩, hW, hframe⟩
  jvm_step X.here [X.here.top, hx, hb, hdg, hmeth', hr, ret, narrow_b1]
  (try refine ⟨rfl, ?_⟩); (try refine ⟨rfl, ?_⟩)
  first | (intro acts; rw [hret _ acts rfl rfl rfl]) | rw [hret _ _ rfl rfl rfl]
  exact Steps.refl _
/-- what holds at the law's entry: the machine, the code, the tables' words (any of lw_tbl by 'hts w (by decide +kernel)'), the script of L ints xs at the cell b, what the Statement gives of the start (any of its parts by flat_of_before) -/
def lw_At (p : Program) (s : State) (m : MethodId) (meth : Method) (c : Code) (b L : Nat) (xs : Nat → Int32) : Prop :=
  p.tables.exec = Jvm.exec ∧ c.code = code ∧ meth.sig.returnType = ret ∧ c.maxLocals = 10 ∧ s.vm.findClass R_law = some m.cls ∧ (∀ w ∈ lw_tbl, w.before #[Value.ref b] s = true) ∧ va_X b L xs s s.heap ∧ b < s.heap.size ∧ meth.locks = false ∧ (Jvm.Cond.and given_1 narrow_1).before #[Value.ref b] s = true
/-! ZUC: the law's start, and the walk of its body (printed by gen/core6.py) -/
set_option maxRecDepth 100000
/-- the claim's premises, laid out -/
def zPrl : List Cond := flatC (Jvm.Cond.and given_1 narrow_1)
theorem zpl_S0 : (zPrl.drop 9).take 256 = (List.range 256).map (fun j => Cond.eq (.elem (.static "Zuc128CoreEngine" "S0" "[B") (.int (Int32.ofNat j))) (.int (zS0 j))) := by decide +kernel
theorem zpl_S1 : (zPrl.drop 268).take 256 = (List.range 256).map (fun j => Cond.eq (.elem (.static "Zuc128CoreEngine" "S1" "[B") (.int (Int32.ofNat j))) (.int (zS1 j))) := by decide +kernel
theorem zpl_EK : (zPrl.drop 527).take 16 = (List.range 16).map (fun j => Cond.eq (.elem (.static "Zuc128CoreEngine" "EK_d" "[S") (.int (Int32.ofNat j))) (.int (zEK j))) := by decide +kernel
theorem zpl_in {a N : Nat} {f : Nat → Cond} (h : (zPrl.drop a).take N = (List.range N).map f) {j : Nat} (hj : j < N) : f j ∈ zPrl := by
  have h1 : f j ∈ (zPrl.drop a).take N := by
    rw [h]
    exact List.mem_map.mpr ⟨j, List.mem_range.mpr hj, rfl⟩
  exact List.mem_of_mem_drop (List.mem_of_mem_take h1)
theorem z_tabs0 {args : Array Value} {s : State} {nm d : String} {ty : FieldType} {N a : Nat} {f : zA} (hN : N < 2 ^ 31) (hs : ∀ w ∈ zPrl, w.before args s = true) (hts : ∀ w ∈ lw_tbl, w.before args s = true) (A : Nat → Prop) (hA : ∀ q : Nat, q < s.heap.size → ¬ A q)
    (hl : Cond.laysStatic "Zuc128CoreEngine" nm d ∈ lw_tbl) (h1 : Cond.arrayOf (.static "Zuc128CoreEngine" nm d) ty ∈ zPrl) (h2 : Cond.eq (.length (.static "Zuc128CoreEngine" nm d)) (.int (Int32.ofNat N)) ∈ zPrl)
    (h3 : (zPrl.drop a).take N = (List.range N).map (fun j => Cond.eq (.elem (.static "Zuc128CoreEngine" nm d) (.int (Int32.ofNat j))) (.int (f j)))) :
    ∃ t : Nat, va_Z "Zuc128CoreEngine" nm d (.ref t) A s s.heap ∧ va_T ty t N (fun j => .int (f j)) A s s.heap := by
  obtain ⟨t, h5, h6⟩ := va_Tof (f := fun j => .int (f j)) hN (hs _ h1) (va_eqt (hs _ h2)) (fun j hj => va_eqt (hs _ (zpl_in h3 hj))) hA
  exact ⟨t, va_Zof (hts _ hl) (hts _ (lw_all_tbl q11)) h5 hA, h6⟩
theorem z_arr0 {args : Array Value} {s : State} {ty : FieldType} (h : (Cond.arrayClass ty).before args s = true) : ∃ cA : ClassId, ArrOfT s cA ty ∧ s.vm.findClass ("[" ++ ty.toString) = some cA := by
  obtain ⟨cA, kA, comp, h1, h2, h3⟩ := Cond.arrayClass_spec h
  exact ⟨cA, fun n z => ⟨fun k h => (by cases h), kA, h2, comp, h3⟩, h1⟩
theorem z_law0 {p : Program} {s : State} {m : MethodId} {meth : Method} {c : Code} {b L : Nat} {xs : zA} (hL : L ≤ 60) (C0 : lw_At p s m meth c b L xs) : ∃ G : zG, zgb G = b ∧ zFix p s m #[Value.ref b] meth c code 10 "ZucDeskLaw" meth.name ret G (fun q => s.heap.size ≤ q) := by
  obtain ⟨hx, hb, hr, hml, hown, hts, hX, hbl, hlk, hgv⟩ := C0
  have hs : ∀ w ∈ zPrl, w.before #[Value.ref b] s = true := flat_of_before _ hgv
  have hA : ∀ q : Nat, q < s.heap.size → ¬ (fun q => s.heap.size ≤ q) q := fun q h1 h2 => absurd h2 (Nat.not_le_of_lt h1)
  obtain ⟨c0, i0, k0⟩ := u_known (C := RX5) (T := TX5) (N := 1) (n := 1) hts (fun w h => lw_all_tbl (in_X5 w h)) (hts _ (lw_all_tbl q345))
  obtain ⟨c1, i1, k1⟩ := u_known (C := RX4) (T := TX4) (N := 2) (n := 2) hts (fun w h => lw_all_tbl (in_X4 w h)) (hts _ (lw_all_tbl q343))
  obtain ⟨c2, i2, k2⟩ := u_known (C := RX3) (T := TX3) (N := 7) (n := 7) hts (fun w h => lw_all_tbl (in_X3 w h)) (hts _ (lw_all_tbl q263))
  obtain ⟨c3, i3, k3⟩ := u_known (C := RX1) (T := TX1) (N := 8) (n := 8) hts (fun w h => lw_all_tbl (in_X1 w h)) (hts _ (lw_all_tbl q31))
  obtain ⟨cI, aI, fI⟩ := z_arr0 (hts _ (lw_all_tbl q293))
  obtain ⟨cB, aB, fB⟩ := z_arr0 (hts _ (lw_all_tbl q114))
  obtain ⟨t0, z0, y0⟩ := z_tabs0 (ty := .byte) (N := 256) (f := zS0) (by decide) hs hts (fun q => s.heap.size ≤ q) hA q198 (List.mem_of_getElem? (i := 7) (by decide +kernel)) (List.mem_of_getElem? (i := 8) (by decide +kernel)) zpl_S0
  obtain ⟨t1, z1, y1⟩ := z_tabs0 (ty := .byte) (N := 256) (f := zS1) (by decide) hs hts (fun q => s.heap.size ≤ q) hA q200 (List.mem_of_getElem? (i := 266) (by decide +kernel)) (List.mem_of_getElem? (i := 267) (by decide +kernel)) zpl_S1
  obtain ⟨t2, z2, y2⟩ := z_tabs0 (ty := .short) (N := 16) (f := zEK) (by decide) hs hts (fun q => s.heap.size ≤ q) hA q424 (List.mem_of_getElem? (i := 525) (by decide +kernel)) (List.mem_of_getElem? (i := 526) (by decide +kernel)) zpl_EK
  refine ⟨((fun k => if k = 0 then c0 else if k = 1 then c1 else if k = 2 then c2 else c3, fun k => if k = 0 then i0 else if k = 1 then i1 else if k = 2 then i2 else i3), cI, cB, t0, t1, t2, b, L, xs), rfl, hx, hb, hml, hown, fun w h => hts w (lw_all_tbl h), ⟨?_, ?_⟩, fun q h => h, ⟨⟨z0, y0⟩, ⟨z1, y1⟩, ⟨z2, y2⟩, va_Nw.of rfl (hts _ q467), ⟨hX, hbl, hA b hbl⟩, hL⟩, hlk, rfl, hr⟩
  · intro k q hq
    match k, hq with
    | 0, hq => cases hq; exact k0
    | 1, hq => cases hq; exact k1
    | 2, hq => cases hq; exact k2
    | 3, hq => cases hq; exact k3
    | k + 4, hq => simp [zCl] at hq
  · intro k q hq
    match k, hq with
    | 0, hq => cases hq; exact ⟨aI, fI⟩
    | 1, hq => cases hq; exact ⟨aB, fB⟩
    | k + 2, hq => simp at hq
end
section
/-! ZUC: the walk of the law's body (printed by gen/core6.py) -/
set_option maxRecDepth 100000
theorem zp2 (a b r : va_W) : (a ++ (b ++ r)).Perm (b ++ (a ++ r)) := by
  rw [← List.append_assoc, ← List.append_assoc]
  exact (List.perm_append_comm).append_right r
theorem zp3 (a b c r : va_W) : (a ++ (b ++ (c ++ r))).Perm (c ++ (a ++ (b ++ r))) := ((zp2 b c r).append_left a).trans (zp2 a c (b ++ r))
theorem zp4 (a b c d : va_W) : (a ++ (b ++ (c ++ d))).Perm (d ++ (a ++ (b ++ c))) := by
  have h := zp3 a b c d
  have h1 : (a ++ (b ++ (c ++ d))) = (a ++ (b ++ c)) ++ d := by simp
  rw [h1]
  exact List.perm_append_comm
theorem zpr (k b p w : va_W) : (k ++ (b ++ (p ++ (w ++ [])))).Perm (w ++ (p ++ (b ++ k))) := by
  rw [List.append_nil]
  refine (zp4 k b p w).trans ?_
  refine List.Perm.append_left w ?_
  exact (zp3 k b p []).symm.symm.trans (by
    simp only [List.append_nil]
    exact List.Perm.append_left p List.perm_append_comm) |> fun h => by simpa using h
/-- the law's end -/
theorem z_lawend {p : Program} {l : Launch} {e : Env} {s : State} {m : MethodId} {below : List Frame} {meth : Method} {c : Code} {nm : String} {G : zG} {b cells slots pc : Nat} {ws : va_W} {lv : List (Nat × Value)} (F : zFix p s m #[Value.ref b] meth c code 10 "ZucDeskLaw" nm ret G (fun q => s.heap.size ≤ q)) (hdg : decode code pc = .ok (.ireturn, 1)) (h1 : cells ≤ 600120) (h2 : slots ≤ 7301170) :
    ZW p l e room_1 s m #[Value.ref b] below meth c 10 G (fun q => s.heap.size ≤ q) (lw_Z below #[Value.ref b] s) cells slots ws pc lv [.int 1] := by
  intro H locs ls hP hD hS hl
  refine W.widen h1 h2 ?_
  refine va_forget (fun q hq => hS.2.2 q hq) ?_
  exact lw_ret F.hx F.hb F.hret F.hlk hdg
set_option maxHeartbeats 4000000 in
theorem z_p4 {p : Program} {l : Launch} {e : Env} {s : State} {m : MethodId} {below : List Frame} {meth : Method} {c : Code} {nm : String} {G : zG} (F : zFix p s m #[Value.ref (zgb G)] meth c code 10 "ZucDeskLaw" nm ret G (fun q => s.heap.size ≤ q)) (n dW dP dB dK : Nat) (hn : n ≤ 128) (P K : va_W) : ∀ (r i : Nat), i + r = n → ∀ (W B : va_W), zDP G dW (zTxt G 8) n (zMadeS G) (0 + n) n (zOt (zAt (zMadeS G) 0) (zTxt G 8) 0 n) W → zDP G dB (zTxt G 8) n (zMadeS G) i 0 z00 B → ZW p l e room_1 s m #[Value.ref (zgb G)] below meth c 10 G (fun q => s.heap.size ≤ q) (lw_Z below #[Value.ref (zgb G)] s) 2000 200000 (W ++ (P ++ (B ++ K))) 254 [(7, .int (nI i)), (0, .ref (zgb G)), (1, .ref dW), (2, .ref dP), (3, .ref dB), (4, .ref dK), (5, .int (nI n))] [] := by
  intro r
  induction r with
  | zero =>
    intro i hi W B hW hB
    have e1 : n = i := by omega
    subst e1
    refine z_iload (n := 256) F 0 dL_law_254 rfl rfl ?_
    refine z_iload (n := 258) F 6 dL_law_256 rfl rfl ?_
    refine z_icmp_ge_t (tgt := 308) F dL_law_258 (by decide) (Int32.le_refl _) ?_
    refine z_iconst (n := 309) F 1 dL_law_308 (by decide) rfl ?_
    exact z_lawend F dL_law_309 (Nat.le_of_ble_eq_true rfl) (Nat.le_of_ble_eq_true rfl)
  | succ r ih =>
    intro i hi W B hW hB
    refine z_iload (n := 256) F 0 dL_law_254 rfl rfl ?_
    refine z_iload (n := 258) F 6 dL_law_256 rfl rfl ?_
    refine z_icmp_ge_f (tgt := 308) (n := 261) F dL_law_258 (by decide) (nI_ge (b := n) (by omega) (by omega)) rfl ?_
    refine z_aload_n (n := 262) F 4 dL_law_261 rfl rfl rfl ?_
    refine z_aload_n (n := 263) F 2 dL_law_262 rfl rfl rfl ?_
    refine z_iload (n := 265) F 0 dL_law_263 rfl rfl ?_
    obtain ⟨fs1, he1⟩ := zDP_at hW
    refine z_ci (n := 268) (cells2 := 2000) (slots2 := 200000) (wc := W) (wr := (P ++ (B ++ K))) F (z_rV F (metX1_out l G dW n n (0 + n) (zTxt G 8) (zOt (zAt (zMadeS G) 0) (zTxt G 8) 0 n) (zMadeS G) W hW (zSig_inv _ _) (by omega) i (by omega) (by omega)) (cwV 1 F.hts (lw_V q247 q248 q249 q10 q250) rfl rfl rfl (by decide +kernel) ⟨Nat.le_of_ble_eq_true rfl, Nat.le_of_ble_eq_true rfl⟩) 0 he1 rfl rfl rfl (Nat.le_of_ble_eq_true rfl) dL_law_265 ⟨Nat.le_of_ble_eq_true rfl, Nat.le_of_ble_eq_true rfl⟩) rfl rfl rfl (fun r2 W2 h2 => ?_)
    obtain ⟨rfl, hW2⟩ := h2
    obtain ⟨fs3, he3⟩ := zDP_at hB
    refine z_perm (ws2 := B ++ (W2 ++ (P ++ K))) (zp3 _ _ _ _) ?_
    refine z_ci (n := 271) (cells2 := 2000) (slots2 := 200000) (wc := B) (wr := (W2 ++ (P ++ K))) F (z_rV F (metX1_one l G dB n 0 i (zTxt G 8) z00 (zMadeS G) B hB (zSig_inv _ _) (by omega) ((zOt (zAt (zMadeS G) 0) (zTxt G 8) 0 n) i &&& 255)) (cwV 1 F.hts (lw_V q219 q220 q221 q10 q222) rfl rfl rfl (by decide +kernel) ⟨Nat.le_of_ble_eq_true rfl, Nat.le_of_ble_eq_true rfl⟩) 0 he3 rfl rfl rfl (Nat.le_of_ble_eq_true rfl) dL_law_268 ⟨Nat.le_of_ble_eq_true rfl, Nat.le_of_ble_eq_true rfl⟩) rfl rfl rfl (fun r4 B2 h4 => ?_)
    obtain ⟨rfl, hB2⟩ := h4
    refine z_perm (ws2 := (W2 ++ (P ++ (B2 ++ K)))) (zp3 _ _ _ _).symm ?_
    refine z_aload_n (n := 272) F 1 dL_law_271 rfl rfl rfl ?_
    refine z_bipush (n := 274) F 20 dL_law_272 (by decide) rfl ?_
    refine z_iload (n := 276) F 0 dL_law_274 rfl rfl ?_
    refine z_iconst (n := 277) F 4 dL_law_276 (by decide) rfl ?_
    refine z_idiv (n := 278) F dL_law_277 (by decide) rfl ?_
    refine z_re (y := (nI (i / 4))) (pk_div (a := i) (d := 4) (by omega) (by decide) (by decide)) ?_
    refine z_iadd (n := 279) F dL_law_278 rfl ?_
    refine z_re (y := (nI (20 + i / 4))) (nI_add 20 (i / 4)) ?_
    refine z_w (ws2 := [] ++ (W2 ++ (P ++ (B2 ++ K)))) rfl ?_
    refine z_ci (n := 282) (cells2 := 2000) (slots2 := 200000) (wc := []) (wr := (W2 ++ (P ++ (B2 ++ K)))) F (z_rS F (metX0_cell l G (20 + i / 4) (by omega)) (va_cwS 2 F.hts (lw_S q251 q252 q9 q253) rfl rfl rfl (by decide +kernel) ⟨Nat.le_of_ble_eq_true rfl, Nat.le_of_ble_eq_true rfl⟩) rfl rfl (Nat.le_of_ble_eq_true rfl) dL_law_279 ⟨Nat.le_of_ble_eq_true rfl, Nat.le_of_ble_eq_true rfl⟩) rfl rfl rfl (fun r5 w5 h5 => ?_)
    obtain ⟨rfl, rfl⟩ := h5
    refine z_w (ws2 := (W2 ++ (P ++ (B2 ++ K)))) rfl ?_
    refine z_bipush (n := 284) F 24 dL_law_282 (by decide) rfl ?_
    refine z_bipush (n := 286) F 8 dL_law_284 (by decide) rfl ?_
    refine z_iload (n := 288) F 0 dL_law_286 rfl rfl ?_
    refine z_iconst (n := 289) F 4 dL_law_288 (by decide) rfl ?_
    refine z_irem (n := 290) F dL_law_289 (by decide) rfl ?_
    refine z_re (y := (nI (i % 4))) (pk_rem (a := i) (d := 4) (by omega) (by decide) (by decide)) ?_
    refine z_imul (n := 291) F dL_law_290 rfl ?_
    refine z_re (y := (nI (8 * (i % 4)))) (pk_mul 8 (i % 4)) ?_
    refine z_isub (n := 292) F dL_law_291 rfl ?_
    refine z_re (y := (nI (24 - 8 * (i % 4)))) (pk_sub (a := 24) (b := 8 * (i % 4)) (by omega)) ?_
    refine z_iushr (n := 293) F dL_law_292 rfl ?_
    refine z_sipush (n := 296) F 255 dL_law_293 (by decide) rfl ?_
    refine z_iand (n := 297) F dL_law_296 rfl ?_
    refine z_re (y := (zbb G i)) rfl ?_
    refine z_icmp_eq_t (tgt := 302) F dL_law_297 (by decide) (z_ph4 G (zMadeS G) (by omega) hn) ?_
    refine z_iinc (n := 305) F 0 (nI (i + 1)) [(7, .int (nI (i + 1))), (0, .ref (zgb G)), (1, .ref dW), (2, .ref dP), (3, .ref dB), (4, .ref dK), (5, .int (nI n))] dL_law_302 rfl (nI_1 i) (by decide) rfl rfl ?_
    refine z_goto (tgt := 254) F dL_law_305 (by decide) ?_
    exact ih (i + 1) (by omega) W2 B2 hW2 hB2
set_option maxHeartbeats 4000000 in
theorem z_p3 {p : Program} {l : Launch} {e : Env} {s : State} {m : MethodId} {below : List Frame} {meth : Method} {c : Code} {nm : String} {G : zG} (F : zFix p s m #[Value.ref (zgb G)] meth c code 10 "ZucDeskLaw" nm ret G (fun q => s.heap.size ≤ q)) (n dW dP dB dK : Nat) (hn : n ≤ 128) (P : va_W) : ∀ (r i : Nat), i + r = n → ∀ (W B K : va_W), zDP G dW (zTxt G 8) n (zMadeS G) (0 + n) n (zOt (zAt (zMadeS G) 0) (zTxt G 8) 0 n) W → zDP G dB (zTxt G 8) n (zMadeS G) i 0 z00 B → zDP G dK (zTxt G 8) n (zMadeS G) i 0 z00 K → ZW p l e room_1 s m #[Value.ref (zgb G)] below meth c 10 G (fun q => s.heap.size ≤ q) (lw_Z below #[Value.ref (zgb G)] s) 2000 200000 (W ++ (P ++ (B ++ K))) 173 [(7, .int (nI i)), (0, .ref (zgb G)), (1, .ref dW), (2, .ref dP), (3, .ref dB), (4, .ref dK), (5, .int (nI n))] [] := by
  intro r
  induction r with
  | zero =>
    intro i hi W B K hW hB hK
    have e1 : n = i := by omega
    subst e1
    refine z_iload (n := 175) F 0 dL_law_173 rfl rfl ?_
    refine z_iload (n := 177) F 6 dL_law_175 rfl rfl ?_
    refine z_icmp_ge_t (tgt := 247) F dL_law_177 (by decide) (Int32.le_refl _) ?_
    refine z_aload_n (n := 248) F 4 dL_law_247 rfl rfl rfl ?_
    obtain ⟨fs1, he1⟩ := zDP_at hB
    refine z_perm (ws2 := B ++ (W ++ (P ++ K))) (zp3 _ _ _ _) ?_
    refine z_cv (n := 251) (cells2 := 2000) (slots2 := 200000) (wc := B) (wr := (W ++ (P ++ K))) F (z_rV F (metX1_again l G dB n 0 n (zTxt G 8) z00 (zMadeS G) B hB (zSig_inv _ _) (by omega)) (cwV 0 F.hts (lw_V q227 q228 q229 q10 q230) rfl rfl rfl (by decide +kernel) ⟨Nat.le_of_ble_eq_true rfl, Nat.le_of_ble_eq_true rfl⟩) 0 he1 rfl rfl rfl (Nat.le_of_ble_eq_true rfl) dL_law_248 ⟨Nat.le_of_ble_eq_true rfl, Nat.le_of_ble_eq_true rfl⟩) rfl rfl rfl (fun B2 h2 => ?_)
    have hB2 := h2
    refine z_perm (ws2 := (W ++ (P ++ (B2 ++ K)))) (zp3 _ _ _ _).symm ?_
    refine z_iconst (n := 252) F 0 dL_law_251 (by decide) rfl ?_
    refine z_istore (n := 254) F [(7, .int 0), (0, .ref (zgb G)), (1, .ref dW), (2, .ref dP), (3, .ref dB), (4, .ref dK), (5, .int (nI n))] dL_law_252 (by decide) rfl rfl ?_
    refine z_lsub (lv2 := [(7, .int 0), (0, .ref (zgb G)), (1, .ref dW), (2, .ref dP), (3, .ref dB), (4, .ref dK), (5, .int (nI n))]) [0, 1, 2, 3, 4, 5, 6] rfl ?_
    exact z_p4 F n dW dP dB dK hn P K n 0 (by omega) W B2 hW hB2
  | succ r ih =>
    intro i hi W B K hW hB hK
    refine z_iload (n := 175) F 0 dL_law_173 rfl rfl ?_
    refine z_iload (n := 177) F 6 dL_law_175 rfl rfl ?_
    refine z_icmp_ge_f (tgt := 247) (n := 180) F dL_law_177 (by decide) (nI_ge (b := n) (by omega) (by omega)) rfl ?_
    refine z_aload_n (n := 181) F 1 dL_law_180 rfl rfl rfl ?_
    refine z_bipush (n := 183) F 20 dL_law_181 (by decide) rfl ?_
    refine z_iload (n := 185) F 0 dL_law_183 rfl rfl ?_
    refine z_iconst (n := 186) F 4 dL_law_185 (by decide) rfl ?_
    refine z_idiv (n := 187) F dL_law_186 (by decide) rfl ?_
    refine z_re (y := (nI (i / 4))) (pk_div (a := i) (d := 4) (by omega) (by decide) (by decide)) ?_
    refine z_iadd (n := 188) F dL_law_187 rfl ?_
    refine z_re (y := (nI (20 + i / 4))) (nI_add 20 (i / 4)) ?_
    refine z_w (ws2 := [] ++ (W ++ (P ++ (B ++ K)))) rfl ?_
    refine z_ci (n := 191) (cells2 := 2000) (slots2 := 200000) (wc := []) (wr := (W ++ (P ++ (B ++ K)))) F (z_rS F (metX0_cell l G (20 + i / 4) (by omega)) (va_cwS 2 F.hts (lw_S q251 q252 q9 q253) rfl rfl rfl (by decide +kernel) ⟨Nat.le_of_ble_eq_true rfl, Nat.le_of_ble_eq_true rfl⟩) rfl rfl (Nat.le_of_ble_eq_true rfl) dL_law_188 ⟨Nat.le_of_ble_eq_true rfl, Nat.le_of_ble_eq_true rfl⟩) rfl rfl rfl (fun r3 w3 h3 => ?_)
    obtain ⟨rfl, rfl⟩ := h3
    refine z_w (ws2 := (W ++ (P ++ (B ++ K)))) rfl ?_
    refine z_bipush (n := 193) F 24 dL_law_191 (by decide) rfl ?_
    refine z_bipush (n := 195) F 8 dL_law_193 (by decide) rfl ?_
    refine z_iload (n := 197) F 0 dL_law_195 rfl rfl ?_
    refine z_iconst (n := 198) F 4 dL_law_197 (by decide) rfl ?_
    refine z_irem (n := 199) F dL_law_198 (by decide) rfl ?_
    refine z_re (y := (nI (i % 4))) (pk_rem (a := i) (d := 4) (by omega) (by decide) (by decide)) ?_
    refine z_imul (n := 200) F dL_law_199 rfl ?_
    refine z_re (y := (nI (8 * (i % 4)))) (pk_mul 8 (i % 4)) ?_
    refine z_isub (n := 201) F dL_law_200 rfl ?_
    refine z_re (y := (nI (24 - 8 * (i % 4)))) (pk_sub (a := 24) (b := 8 * (i % 4)) (by omega)) ?_
    refine z_iushr (n := 202) F dL_law_201 rfl ?_
    refine z_sipush (n := 205) F 255 dL_law_202 (by decide) rfl ?_
    refine z_iand (n := 206) F dL_law_205 rfl ?_
    refine z_re (y := (zbb G i)) rfl ?_
    refine z_istore (n := 208) F [(8, .int (zbb G i)), (7, .int (nI i)), (0, .ref (zgb G)), (1, .ref dW), (2, .ref dP), (3, .ref dB), (4, .ref dK), (5, .int (nI n))] dL_law_206 (by decide) rfl rfl ?_
    refine z_aload_n (n := 209) F 5 dL_law_208 rfl rfl rfl ?_
    refine z_iload (n := 211) F 0 dL_law_209 rfl rfl ?_
    obtain ⟨fs4, he4⟩ := zDP_at hB
    refine z_perm (ws2 := B ++ (W ++ (P ++ K))) (zp3 _ _ _ _) ?_
    refine z_ci (n := 214) (cells2 := 2000) (slots2 := 200000) (wc := B) (wr := (W ++ (P ++ K))) F (z_rV F (metX1_one l G dB n 0 i (zTxt G 8) z00 (zMadeS G) B hB (zSig_inv _ _) (by omega) (zbb G i)) (cwV 1 F.hts (lw_V q219 q220 q221 q10 q222) rfl rfl rfl (by decide +kernel) ⟨Nat.le_of_ble_eq_true rfl, Nat.le_of_ble_eq_true rfl⟩) 0 he4 rfl rfl rfl (Nat.le_of_ble_eq_true rfl) dL_law_211 ⟨Nat.le_of_ble_eq_true rfl, Nat.le_of_ble_eq_true rfl⟩) rfl rfl rfl (fun r5 B2 h5 => ?_)
    obtain ⟨rfl, hB2⟩ := h5
    refine z_perm (ws2 := (W ++ (P ++ (B2 ++ K)))) (zp3 _ _ _ _).symm ?_
    refine z_re (y := ((zOt (zAt (zMadeS G) 0) (zTxt G 8) 0 n) i &&& 255)) (z_ph3 G (zMadeS G) (by omega) hn) ?_
    refine z_istore (n := 216) F [(9, .int ((zOt (zAt (zMadeS G) 0) (zTxt G 8) 0 n) i &&& 255)), (8, .int (zbb G i)), (7, .int (nI i)), (0, .ref (zgb G)), (1, .ref dW), (2, .ref dP), (3, .ref dB), (4, .ref dK), (5, .int (nI n))] dL_law_214 (by decide) rfl rfl ?_
    refine z_iload (n := 218) F 0 dL_law_216 rfl rfl ?_
    refine z_aload_n (n := 219) F 4 dL_law_218 rfl rfl rfl ?_
    refine z_iload (n := 221) F 2 dL_law_219 rfl rfl ?_
    obtain ⟨fs6, he6⟩ := zDP_at hW
    refine z_ci (n := 224) (cells2 := 2000) (slots2 := 200000) (wc := W) (wr := (P ++ (B2 ++ K))) F (z_rV F (metX1_out l G dW n n (0 + n) (zTxt G 8) (zOt (zAt (zMadeS G) 0) (zTxt G 8) 0 n) (zMadeS G) W hW (zSig_inv _ _) (by omega) i (by omega) (by omega)) (cwV 1 F.hts (lw_V q247 q248 q249 q10 q250) rfl rfl rfl (by decide +kernel) ⟨Nat.le_of_ble_eq_true rfl, Nat.le_of_ble_eq_true rfl⟩) 0 he6 rfl rfl rfl (Nat.le_of_ble_eq_true rfl) dL_law_221 ⟨Nat.le_of_ble_eq_true rfl, Nat.le_of_ble_eq_true rfl⟩) rfl rfl rfl (fun r7 W2 h7 => ?_)
    obtain ⟨rfl, hW2⟩ := h7
    refine z_icmp_ne_f (tgt := 239) (n := 227) F dL_law_224 (by decide) rfl rfl ?_
    refine z_aload (n := 229) F 7 dL_law_227 rfl rfl ?_
    refine z_iload (n := 231) F 0 dL_law_229 rfl rfl ?_
    obtain ⟨fs8, he8⟩ := zDP_at hK
    refine z_perm (ws2 := K ++ (W2 ++ (P ++ B2))) (zp4 _ _ _ _) ?_
    refine z_ci (n := 234) (cells2 := 2000) (slots2 := 200000) (wc := K) (wr := (W2 ++ (P ++ B2))) F (z_rV F (metX1_one l G dK n 0 i (zTxt G 8) z00 (zMadeS G) K hK (zSig_inv _ _) (by omega) ((zOt (zAt (zMadeS G) 0) (zTxt G 8) 0 n) i &&& 255)) (cwV 1 F.hts (lw_V q219 q220 q221 q10 q222) rfl rfl rfl (by decide +kernel) ⟨Nat.le_of_ble_eq_true rfl, Nat.le_of_ble_eq_true rfl⟩) 0 he8 rfl rfl rfl (Nat.le_of_ble_eq_true rfl) dL_law_231 ⟨Nat.le_of_ble_eq_true rfl, Nat.le_of_ble_eq_true rfl⟩) rfl rfl rfl (fun r9 K2 h9 => ?_)
    obtain ⟨rfl, hK2⟩ := h9
    refine z_perm (ws2 := (W2 ++ (P ++ (B2 ++ K2)))) (zp4 _ _ _ _).symm ?_
    refine z_re (y := (zbb G i)) (z_ph4 G (zMadeS G) (by omega) hn) ?_
    refine z_iload (n := 236) F 1 dL_law_234 rfl rfl ?_
    refine z_icmp_eq_t (tgt := 241) F dL_law_236 (by decide) rfl ?_
    refine z_iinc (n := 244) F 2 (nI (i + 1)) [(7, .int (nI (i + 1))), (9, .int ((zOt (zAt (zMadeS G) 0) (zTxt G 8) 0 n) i &&& 255)), (8, .int (zbb G i)), (0, .ref (zgb G)), (1, .ref dW), (2, .ref dP), (3, .ref dB), (4, .ref dK), (5, .int (nI n))] dL_law_241 rfl (nI_1 i) (by decide) rfl rfl ?_
    refine z_goto (tgt := 173) F dL_law_244 (by decide) ?_
    refine z_lsub (lv2 := [(7, .int (nI (i + 1))), (0, .ref (zgb G)), (1, .ref dW), (2, .ref dP), (3, .ref dB), (4, .ref dK), (5, .int (nI n))]) [0, 3, 4, 5, 6, 7, 8] rfl ?_
    exact ih (i + 1) (by omega) W2 B2 K2 hW2 hB2 hK2
set_option maxHeartbeats 4000000 in
theorem z_p2i {p : Program} {l : Launch} {e : Env} {s : State} {m : MethodId} {below : List Frame} {meth : Method} {c : Code} {nm : String} {G : zG} (F : zFix p s m #[Value.ref (zgb G)] meth c code 10 "ZucDeskLaw" nm ret G (fun q => s.heap.size ≤ q)) (n dW dP dB dK ce sl a q : Nat) (k7 : Int32) (hn : n ≤ 128) (haq : a + q ≤ n) (hce : ce ≤ 600120) (hsl : sl ≤ 7301170) (B K : va_W) (hk : ∀ W P : va_W, zDP G dW (zTxt G 8) n (zMadeS G) (0 + n) n (zOt (zAt (zMadeS G) 0) (zTxt G 8) 0 n) W → zDP G dP (zTxt G 8) n (zMadeS G) (a + q) q (zOt (zAt (zMadeS G) a) (zTxt G 8) a q) P → ZW p l e room_1 s m #[Value.ref (zgb G)] below meth c 10 G (fun q => s.heap.size ≤ q) (lw_Z below #[Value.ref (zgb G)] s) ce sl (W ++ (P ++ (B ++ K))) 157 [(8, .int (nI q)), (7, .int k7), (6, .int (nI a)), (0, .ref (zgb G)), (1, .ref dW), (2, .ref dP), (3, .ref dB), (4, .ref dK), (5, .int (nI n))] []) : ∀ (r i : Nat), i + r = q → ∀ (W P : va_W), zDP G dW (zTxt G 8) n (zMadeS G) (0 + n) n (zOt (zAt (zMadeS G) 0) (zTxt G 8) 0 n) W → zDP G dP (zTxt G 8) n (zMadeS G) (a + q) q (zOt (zAt (zMadeS G) a) (zTxt G 8) a q) P → ZW p l e room_1 s m #[Value.ref (zgb G)] below meth c 10 G (fun q => s.heap.size ≤ q) (lw_Z below #[Value.ref (zgb G)] s) ce sl (W ++ (P ++ (B ++ K))) 124 [(9, .int (nI i)), (8, .int (nI q)), (7, .int k7), (6, .int (nI a)), (0, .ref (zgb G)), (1, .ref dW), (2, .ref dP), (3, .ref dB), (4, .ref dK), (5, .int (nI n))] [] := by
  intro r
  induction r with
  | zero =>
    intro i hi W P hW hP
    have e1 : q = i := by omega
    subst e1
    refine z_iload (n := 126) F 0 dL_law_124 rfl rfl ?_
    refine z_iload (n := 128) F 1 dL_law_126 rfl rfl ?_
    refine z_icmp_ge_t (tgt := 157) F dL_law_128 (by decide) (Int32.le_refl _) ?_
    refine z_lsub (lv2 := [(8, .int (nI q)), (7, .int k7), (6, .int (nI a)), (0, .ref (zgb G)), (1, .ref dW), (2, .ref dP), (3, .ref dB), (4, .ref dK), (5, .int (nI n))]) [1, 2, 3, 4, 5, 6, 7, 8, 9] rfl ?_
    exact hk W P hW hP
  | succ r ih =>
    intro i hi W P hW hP
    refine z_iload (n := 126) F 0 dL_law_124 rfl rfl ?_
    refine z_iload (n := 128) F 1 dL_law_126 rfl rfl ?_
    refine z_icmp_ge_f (tgt := 157) (n := 131) F dL_law_128 (by decide) (nI_ge (b := q) (by omega) (by omega)) rfl ?_
    refine z_aload_n (n := 132) F 6 dL_law_131 rfl rfl rfl ?_
    refine z_iload (n := 134) F 0 dL_law_132 rfl rfl ?_
    obtain ⟨fs1, he1⟩ := zDP_at hP
    refine z_perm (ws2 := P ++ (W ++ (B ++ K))) (zp2 _ _ _) ?_
    refine z_ci (n := 137) (cells2 := (ce + 0)) (slots2 := (sl + 0)) (wc := P) (wr := (W ++ (B ++ K))) F (z_rV F (metX1_out l G dP n q (a + q) (zTxt G 8) (zOt (zAt (zMadeS G) a) (zTxt G 8) a q) (zMadeS G) P hP (zSig_inv _ _) (by omega) i (by omega) (by omega)) (cwV 1 F.hts (lw_V q247 q248 q249 q10 q250) rfl rfl rfl (by decide +kernel) ⟨Nat.le_of_ble_eq_true rfl, Nat.le_of_ble_eq_true rfl⟩) 0 he1 rfl rfl rfl (Nat.le_of_ble_eq_true rfl) dL_law_134 ⟨(by show ce + 0 ≤ 600120; omega), (by show sl + 0 ≤ 7301170; omega)⟩) rfl rfl rfl (fun r2 P2 h2 => ?_)
    obtain ⟨rfl, hP2⟩ := h2
    refine z_perm (ws2 := (W ++ (P2 ++ (B ++ K)))) (zp2 _ _ _).symm ?_
    refine z_aload_n (n := 138) F 5 dL_law_137 rfl rfl rfl ?_
    refine z_iload (n := 140) F 3 dL_law_138 rfl rfl ?_
    refine z_iload (n := 142) F 0 dL_law_140 rfl rfl ?_
    refine z_iadd (n := 143) F dL_law_142 rfl ?_
    refine z_re (y := (nI (a + i))) (nI_add a i) ?_
    obtain ⟨fs3, he3⟩ := zDP_at hW
    refine z_ci (n := 146) (cells2 := (ce + 0)) (slots2 := (sl + 0)) (wc := W) (wr := (P2 ++ (B ++ K))) F (z_rV F (metX1_out l G dW n n (0 + n) (zTxt G 8) (zOt (zAt (zMadeS G) 0) (zTxt G 8) 0 n) (zMadeS G) W hW (zSig_inv _ _) (by omega) (a + i) (by omega) (by omega)) (cwV 1 F.hts (lw_V q247 q248 q249 q10 q250) rfl rfl rfl (by decide +kernel) ⟨Nat.le_of_ble_eq_true rfl, Nat.le_of_ble_eq_true rfl⟩) 0 he3 rfl rfl rfl (Nat.le_of_ble_eq_true rfl) dL_law_143 ⟨(by show ce + 0 ≤ 600120; omega), (by show sl + 0 ≤ 7301170; omega)⟩) rfl rfl rfl (fun r4 W2 h4 => ?_)
    obtain ⟨rfl, hW2⟩ := h4
    refine z_icmp_eq_t (tgt := 151) F dL_law_146 (by decide) (z_ph2 (zMadeS G) _ (by omega) haq) ?_
    refine z_iinc (n := 154) F 0 (nI (i + 1)) [(9, .int (nI (i + 1))), (8, .int (nI q)), (7, .int k7), (6, .int (nI a)), (0, .ref (zgb G)), (1, .ref dW), (2, .ref dP), (3, .ref dB), (4, .ref dK), (5, .int (nI n))] dL_law_151 rfl (nI_1 i) (by decide) rfl rfl ?_
    refine z_goto (tgt := 124) F dL_law_154 (by decide) ?_
    exact ih (i + 1) (by omega) W2 P2 hW2 hP2
set_option maxHeartbeats 4000000 in
theorem z_p2 {p : Program} {l : Launch} {e : Env} {s : State} {m : MethodId} {below : List Frame} {meth : Method} {c : Code} {nm : String} {G : zG} (F : zFix p s m #[Value.ref (zgb G)] meth c code 10 "ZucDeskLaw" nm ret G (fun q => s.heap.size ≤ q)) (n dW dP dB dK : Nat) (hn : n ≤ 128) (B K : va_W) (hB : zDP G dB (zTxt G 8) n (zMadeS G) 0 0 z00 B) (hK : zDP G dK (zTxt G 8) n (zMadeS G) 0 0 z00 K) : ∀ (r t : Nat), t + r = 5 → ∀ (a on : Nat) (O : zA) (W P : va_W), a ≤ n → zDP G dW (zTxt G 8) n (zMadeS G) (0 + n) n (zOt (zAt (zMadeS G) 0) (zTxt G 8) 0 n) W → zDP G dP (zTxt G 8) n (zMadeS G) a on O P → ZW p l e room_1 s m #[Value.ref (zgb G)] below meth c 10 G (fun q => s.heap.size ≤ q) (lw_Z below #[Value.ref (zgb G)] s) (1000 + t) (100000 + 256 * t) (W ++ (P ++ (B ++ K))) 65 [(7, .int (nI (14 + t))), (6, .int (nI a)), (0, .ref (zgb G)), (1, .ref dW), (2, .ref dP), (3, .ref dB), (4, .ref dK), (5, .int (nI n))] [] := by
  intro r
  induction r with
  | zero =>
    intro t ht a on O W P ha hW hP
    have e1 : t = 5 := by omega
    subst e1
    refine z_iload (n := 67) F 0 dL_law_65 rfl rfl ?_
    refine z_bipush (n := 69) F 19 dL_law_67 (by decide) rfl ?_
    refine z_icmp_ge_t (tgt := 170) F dL_law_69 (by decide) (by decide) ?_
    refine z_iconst (n := 171) F 0 dL_law_170 (by decide) rfl ?_
    refine z_istore (n := 173) F [(7, .int 0), (6, .int (nI a)), (0, .ref (zgb G)), (1, .ref dW), (2, .ref dP), (3, .ref dB), (4, .ref dK), (5, .int (nI n))] dL_law_171 (by decide) rfl rfl ?_
    refine z_lsub (lv2 := [(7, .int 0), (0, .ref (zgb G)), (1, .ref dW), (2, .ref dP), (3, .ref dB), (4, .ref dK), (5, .int (nI n))]) [0, 2, 3, 4, 5, 6, 7] rfl ?_
    refine z_wide (cells2 := 2000) (slots2 := 200000) (by decide) (by decide) ?_
    exact z_p3 F n dW dP dB dK hn P n 0 (by omega) W B K hW hB hK
  | succ r ih =>
    intro t ht a on O W P ha hW hP
    have tail : ∀ q : Nat, a + q ≤ n → ZW p l e room_1 s m #[Value.ref (zgb G)] below meth c 10 G (fun q => s.heap.size ≤ q) (lw_Z below #[Value.ref (zgb G)] s) (1000 + t) (100000 + 256 * t) (W ++ (P ++ (B ++ K))) 104 [(7, .int (nI (14 + t))), (6, .int (nI a)), (0, .ref (zgb G)), (1, .ref dW), (2, .ref dP), (3, .ref dB), (4, .ref dK), (5, .int (nI n))] [.int (nI q)] := by
      intro q haq
      refine z_istore (n := 106) F [(8, .int (nI q)), (7, .int (nI (14 + t))), (6, .int (nI a)), (0, .ref (zgb G)), (1, .ref dW), (2, .ref dP), (3, .ref dB), (4, .ref dK), (5, .int (nI n))] dL_law_104 (by decide) rfl rfl ?_
      refine z_aload_n (n := 107) F 5 dL_law_106 rfl rfl rfl ?_
      refine z_iload (n := 109) F 2 dL_law_107 rfl rfl ?_
      refine z_iload (n := 111) F 0 dL_law_109 rfl rfl ?_
      obtain ⟨fs1, he1⟩ := zDP_at hP
      refine z_perm (ws2 := P ++ (W ++ (B ++ K))) (zp2 _ _ _) ?_
      refine z_ci (n := 114) (cells2 := ((1000 + t) + 1)) (slots2 := ((100000 + 256 * t) + 256)) (wc := P) (wr := (W ++ (B ++ K))) F (z_rV F (metX1_run l G dP n on a (zTxt G 8) O (zMadeS G) P hP (zSig_inv _ _) (by omega) a q hn haq) (cwV 2 F.hts (lw_V q24 q25 q26 q10 q27) rfl rfl rfl (by decide +kernel) ⟨Nat.le_of_ble_eq_true rfl, Nat.le_of_ble_eq_true rfl⟩) 0 he1 rfl rfl rfl (Nat.le_of_ble_eq_true rfl) dL_law_111 ⟨(by show 1000 + t + 1 ≤ 600120; omega), (by show 100000 + 256 * t + 256 ≤ 7301170; omega)⟩) rfl rfl rfl (fun r2 P2 h2 => ?_)
      obtain ⟨rfl, hP2⟩ := h2
      refine z_perm (ws2 := (W ++ (P2 ++ (B ++ K)))) (zp2 _ _ _).symm ?_
      refine z_iload (n := 116) F 0 dL_law_114 rfl rfl ?_
      refine z_icmp_eq_t (tgt := 121) F dL_law_116 (by decide) rfl ?_
      refine z_iconst (n := 122) F 0 dL_law_121 (by decide) rfl ?_
      refine z_istore (n := 124) F [(9, .int 0), (8, .int (nI q)), (7, .int (nI (14 + t))), (6, .int (nI a)), (0, .ref (zgb G)), (1, .ref dW), (2, .ref dP), (3, .ref dB), (4, .ref dK), (5, .int (nI n))] dL_law_122 (by decide) rfl rfl ?_
      refine z_lsub (lv2 := [(9, .int 0), (8, .int (nI q)), (7, .int (nI (14 + t))), (6, .int (nI a)), (0, .ref (zgb G)), (1, .ref dW), (2, .ref dP), (3, .ref dB), (4, .ref dK), (5, .int (nI n))]) [0, 1, 2, 3, 4, 5, 6, 7, 8, 9] rfl ?_
      refine z_p2i F n dW dP dB dK ((1000 + t) + 1) ((100000 + 256 * t) + 256) a q (nI (14 + t)) hn haq (by omega) (by omega) B K (fun W3 P3 hW3 hP3 => ?_) q 0 (by omega) W P2 hW hP2
      refine z_iload (n := 159) F 2 dL_law_157 rfl rfl ?_
      refine z_iload (n := 161) F 0 dL_law_159 rfl rfl ?_
      refine z_iadd (n := 162) F dL_law_161 rfl ?_
      refine z_re (y := (nI (a + q))) (nI_add a q) ?_
      refine z_istore (n := 164) F [(6, .int (nI (a + q))), (8, .int (nI q)), (7, .int (nI (14 + t))), (0, .ref (zgb G)), (1, .ref dW), (2, .ref dP), (3, .ref dB), (4, .ref dK), (5, .int (nI n))] dL_law_162 (by decide) rfl rfl ?_
      refine z_iinc (n := 167) F 2 (nI (14 + (t + 1))) [(7, .int (nI (14 + (t + 1)))), (6, .int (nI (a + q))), (8, .int (nI q)), (0, .ref (zgb G)), (1, .ref dW), (2, .ref dP), (3, .ref dB), (4, .ref dK), (5, .int (nI n))] dL_law_164 rfl (nI_1 (14 + t)) (by decide) rfl rfl ?_
      refine z_goto (tgt := 65) F dL_law_167 (by decide) ?_
      refine z_lsub (lv2 := [(7, .int (nI (14 + (t + 1)))), (6, .int (nI (a + q))), (0, .ref (zgb G)), (1, .ref dW), (2, .ref dP), (3, .ref dB), (4, .ref dK), (5, .int (nI n))]) [0, 1, 3, 4, 5, 6, 7, 8] rfl ?_
      refine z_wide (cells2 := (1000 + (t + 1))) (slots2 := (100000 + 256 * (t + 1))) (by omega) (by omega) ?_
      exact ih (t + 1) (by omega) (a + q) q _ W3 P3 haq hW3 hP3
    refine z_iload (n := 67) F 0 dL_law_65 rfl rfl ?_
    refine z_bipush (n := 69) F 19 dL_law_67 (by decide) rfl ?_
    refine z_icmp_ge_f (tgt := 170) (n := 72) F dL_law_69 (by decide) (nI_ge (b := 19) (by omega) (by omega)) rfl ?_
    refine z_iload (n := 74) F 0 dL_law_72 rfl rfl ?_
    refine z_bipush (n := 76) F 18 dL_law_74 (by decide) rfl ?_
    refine z_icmp_ne (tgt := 87) (n := 79) F dL_law_76 (by decide) rfl (fun _ => ?_) (fun _ => ?_)
    · refine z_aload_n (n := 88) F 2 dL_law_87 rfl rfl rfl ?_
      refine z_iload (n := 90) F 0 dL_law_88 rfl rfl ?_
      refine z_w (ws2 := [] ++ (W ++ (P ++ (B ++ K)))) rfl ?_
      refine z_ci (n := 93) (cells2 := ((1000 + t) + 0)) (slots2 := ((100000 + 256 * t) + 0)) (wc := []) (wr := (W ++ (P ++ (B ++ K)))) F (z_rS F (metX0_cell l G (14 + t) (by omega)) (va_cwS 2 F.hts (lw_S q251 q252 q9 q253) rfl rfl rfl (by decide +kernel) ⟨Nat.le_of_ble_eq_true rfl, Nat.le_of_ble_eq_true rfl⟩) rfl rfl (Nat.le_of_ble_eq_true rfl) dL_law_90 ⟨(by show 1000 + t + 0 ≤ 600120; omega), (by show 100000 + 256 * t + 0 ≤ 7301170; omega)⟩) rfl rfl rfl (fun r3 w3 h3 => ?_)
      obtain ⟨rfl, rfl⟩ := h3
      refine z_w (ws2 := (W ++ (P ++ (B ++ K)))) rfl ?_
      refine z_ldc (n := 95) F q459 dL_law_93 rfl ?_
      refine z_iand (n := 96) F dL_law_95 rfl ?_
      refine z_iload (n := 98) F 7 dL_law_96 rfl rfl ?_
      refine z_iload (n := 100) F 1 dL_law_98 rfl rfl ?_
      refine z_isub (n := 101) F dL_law_100 rfl ?_
      refine z_re (y := (nI (n - a))) (pk_sub ha) ?_
      refine z_iconst (n := 102) F 1 dL_law_101 (by decide) rfl ?_
      refine z_iadd (n := 103) F dL_law_102 rfl ?_
      refine z_re (y := (nI (n - a + 1))) (nI_1 (n - a)) ?_
      refine z_irem (n := 104) F dL_law_103 (nI_ne0 (by omega) (by omega)) rfl ?_
      refine z_re (y := (nI (zmd (zC G (14 + t)) (n - a + 1)))) (zmd_eq _ (by omega) (by omega)) ?_
      exact tail _ (by have h9 := Nat.mod_lt ((zC G (14 + t)).toBitVec.toNat % 2147483648) (show n - a + 1 > 0 by omega); unfold zmd; omega)
    · refine z_iload (n := 81) F 7 dL_law_79 rfl rfl ?_
      refine z_iload (n := 83) F 1 dL_law_81 rfl rfl ?_
      refine z_isub (n := 84) F dL_law_83 rfl ?_
      refine z_re (y := (nI (n - a))) (pk_sub ha) ?_
      refine z_goto (tgt := 104) F dL_law_84 (by decide) ?_
      exact tail (n - a) (by omega)
set_option maxHeartbeats 4000000 in
theorem z_body {p : Program} {l : Launch} {e : Env} {s : State} {m : MethodId} {below : List Frame} {meth : Method} {c : Code} {nm : String} {G : zG} (F : zFix p s m #[Value.ref (zgb G)] meth c code 10 "ZucDeskLaw" nm ret G (fun q => s.heap.size ≤ q)) : ZW p l e room_1 s m #[Value.ref (zgb G)] below meth c 10 G (fun q => s.heap.size ≤ q) (lw_Z below #[Value.ref (zgb G)] s) 0 0 [] 0 [(0, .ref (zgb G))] [] := by
  have hL := F.hE.2.2.2.2.2
  refine z_w (ws2 := [] ++ []) rfl ?_
  refine z_ci (n := 3) (cells2 := 28) (slots2 := 742) (wc := []) (wr := []) F (z_rS F (metX0_known l G) (va_cwS 0 F.hts (lw_S q456 q457 q9 q458) rfl rfl rfl (by decide +kernel) ⟨Nat.le_of_ble_eq_true rfl, Nat.le_of_ble_eq_true rfl⟩) rfl rfl (Nat.le_of_ble_eq_true rfl) dL_law_0 ⟨Nat.le_of_ble_eq_true rfl, Nat.le_of_ble_eq_true rfl⟩) rfl rfl rfl (fun r1 w1 h1 => ?_)
  obtain ⟨rfl, rfl⟩ := h1
  refine z_w (ws2 := []) rfl ?_
  refine z_if_ne_t (tgt := 8) F dL_law_3 (by decide) (by decide) ?_
  refine z_aload_n (n := 9) F 0 dL_law_8 rfl rfl rfl ?_
  refine z_w (ws2 := [] ++ []) rfl ?_
  refine z_cr (n := 12) (cells2 := 54) (slots2 := 1220) (wc := []) (wr := []) F (z_rS F (metX0_made l G) (va_cwS 1 F.hts (lw_S q254 q255 q9 q256) rfl rfl rfl (by decide +kernel) ⟨Nat.le_of_ble_eq_true rfl, Nat.le_of_ble_eq_true rfl⟩) rfl rfl (Nat.le_of_ble_eq_true rfl) dL_law_9 ⟨Nat.le_of_ble_eq_true rfl, Nat.le_of_ble_eq_true rfl⟩) rfl rfl rfl (fun dW W h2 => ?_)
  have hW := h2
  refine z_astore_n (n := 13) F [(1, .ref dW), (0, .ref (zgb G))] dL_law_12 rfl (by decide) rfl rfl ?_
  refine z_aload_n (n := 14) F 1 dL_law_13 rfl rfl rfl ?_
  refine z_w (ws2 := [] ++ (W ++ [])) rfl ?_
  refine z_cr (n := 17) (cells2 := 80) (slots2 := 1698) (wc := []) (wr := (W ++ [])) F (z_rS F (metX0_made l G) (va_cwS 1 F.hts (lw_S q254 q255 q9 q256) rfl rfl rfl (by decide +kernel) ⟨Nat.le_of_ble_eq_true rfl, Nat.le_of_ble_eq_true rfl⟩) rfl rfl (Nat.le_of_ble_eq_true rfl) dL_law_14 ⟨Nat.le_of_ble_eq_true rfl, Nat.le_of_ble_eq_true rfl⟩) rfl rfl rfl (fun dP P h3 => ?_)
  have hP := h3
  refine z_astore_n (n := 18) F [(2, .ref dP), (1, .ref dW), (0, .ref (zgb G))] dL_law_17 rfl (by decide) rfl rfl ?_
  refine z_aload_n (n := 19) F 2 dL_law_18 rfl rfl rfl ?_
  refine z_w (ws2 := [] ++ (P ++ (W ++ []))) rfl ?_
  refine z_cr (n := 22) (cells2 := 106) (slots2 := 2176) (wc := []) (wr := (P ++ (W ++ []))) F (z_rS F (metX0_made l G) (va_cwS 1 F.hts (lw_S q254 q255 q9 q256) rfl rfl rfl (by decide +kernel) ⟨Nat.le_of_ble_eq_true rfl, Nat.le_of_ble_eq_true rfl⟩) rfl rfl (Nat.le_of_ble_eq_true rfl) dL_law_19 ⟨Nat.le_of_ble_eq_true rfl, Nat.le_of_ble_eq_true rfl⟩) rfl rfl rfl (fun dB B h4 => ?_)
  have hB := h4
  refine z_astore_n (n := 23) F [(3, .ref dB), (2, .ref dP), (1, .ref dW), (0, .ref (zgb G))] dL_law_22 rfl (by decide) rfl rfl ?_
  refine z_aload_n (n := 24) F 3 dL_law_23 rfl rfl rfl ?_
  refine z_w (ws2 := [] ++ (B ++ (P ++ (W ++ [])))) rfl ?_
  refine z_cr (n := 27) (cells2 := 132) (slots2 := 2654) (wc := []) (wr := (B ++ (P ++ (W ++ [])))) F (z_rS F (metX0_made l G) (va_cwS 1 F.hts (lw_S q254 q255 q9 q256) rfl rfl rfl (by decide +kernel) ⟨Nat.le_of_ble_eq_true rfl, Nat.le_of_ble_eq_true rfl⟩) rfl rfl (Nat.le_of_ble_eq_true rfl) dL_law_24 ⟨Nat.le_of_ble_eq_true rfl, Nat.le_of_ble_eq_true rfl⟩) rfl rfl rfl (fun dK K h5 => ?_)
  have hK := h5
  refine z_perm (ws2 := (W ++ (P ++ (B ++ K)))) (zpr K B P W) ?_
  refine z_astore (n := 29) F [(4, .ref dK), (3, .ref dB), (2, .ref dP), (1, .ref dW), (0, .ref (zgb G))] dL_law_27 (by decide) rfl rfl ?_
  refine z_aload_n (n := 30) F 4 dL_law_29 rfl rfl rfl ?_
  refine z_bipush (n := 32) F 13 dL_law_30 (by decide) rfl ?_
  refine z_w (ws2 := [] ++ (W ++ (P ++ (B ++ K)))) rfl ?_
  refine z_ci (n := 35) (cells2 := 132) (slots2 := 2654) (wc := []) (wr := (W ++ (P ++ (B ++ K)))) F (z_rS F (metX0_cell l G 13 (by omega)) (va_cwS 2 F.hts (lw_S q251 q252 q9 q253) rfl rfl rfl (by decide +kernel) ⟨Nat.le_of_ble_eq_true rfl, Nat.le_of_ble_eq_true rfl⟩) rfl rfl (Nat.le_of_ble_eq_true rfl) dL_law_32 ⟨Nat.le_of_ble_eq_true rfl, Nat.le_of_ble_eq_true rfl⟩) rfl rfl rfl (fun r6 w6 h6 => ?_)
  obtain ⟨rfl, rfl⟩ := h6
  refine z_w (ws2 := (W ++ (P ++ (B ++ K)))) rfl ?_
  refine z_ldc (n := 37) F q459 dL_law_35 rfl ?_
  refine z_iand (n := 38) F dL_law_37 rfl ?_
  refine z_sipush (n := 41) F 129 dL_law_38 (by decide) rfl ?_
  refine z_irem (n := 42) F dL_law_41 (by decide) rfl ?_
  refine z_re (y := (nI (zmd (zC G 13) 129))) (zmd_eq (zC G 13) (n := 129) (by decide) (by decide)) ?_
  have hn : zmd (zC G 13) 129 ≤ 128 := Nat.le_of_lt_succ (Nat.mod_lt _ (by decide))
  generalize zmd (zC G 13) 129 = n at hW hP hB hK hn ⊢
  refine z_istore (n := 44) F [(5, .int (nI n)), (4, .ref dK), (3, .ref dB), (2, .ref dP), (1, .ref dW), (0, .ref (zgb G))] dL_law_42 (by decide) rfl rfl ?_
  refine z_aload_n (n := 45) F 4 dL_law_44 rfl rfl rfl ?_
  refine z_iconst (n := 46) F 0 dL_law_45 (by decide) rfl ?_
  refine z_iload (n := 48) F 0 dL_law_46 rfl rfl ?_
  obtain ⟨fs7, he7⟩ := zDP_at hW
  refine z_ci (n := 51) (cells2 := 133) (slots2 := 2910) (wc := W) (wr := (P ++ (B ++ K))) F (z_rV F (metX1_run l G dW n 0 0 (zTxt G 8) z00 (zMadeS G) W hW (zSig_inv _ _) (by decide) 0 n hn (by omega)) (cwV 2 F.hts (lw_V q24 q25 q26 q10 q27) rfl rfl rfl (by decide +kernel) ⟨Nat.le_of_ble_eq_true rfl, Nat.le_of_ble_eq_true rfl⟩) 0 he7 rfl rfl rfl (Nat.le_of_ble_eq_true rfl) dL_law_48 ⟨Nat.le_of_ble_eq_true rfl, Nat.le_of_ble_eq_true rfl⟩) rfl rfl rfl (fun r8 W2 h8 => ?_)
  obtain ⟨rfl, hW2⟩ := h8
  refine z_iload (n := 53) F 0 dL_law_51 rfl rfl ?_
  refine z_icmp_eq_t (tgt := 58) F dL_law_53 (by decide) rfl ?_
  refine z_iconst (n := 59) F 0 dL_law_58 (by decide) rfl ?_
  refine z_istore (n := 61) F [(6, .int 0), (5, .int (nI n)), (4, .ref dK), (3, .ref dB), (2, .ref dP), (1, .ref dW), (0, .ref (zgb G))] dL_law_59 (by decide) rfl rfl ?_
  refine z_bipush (n := 63) F 14 dL_law_61 (by decide) rfl ?_
  refine z_istore (n := 65) F [(7, .int 14), (6, .int 0), (5, .int (nI n)), (4, .ref dK), (3, .ref dB), (2, .ref dP), (1, .ref dW), (0, .ref (zgb G))] dL_law_63 (by decide) rfl rfl ?_
  refine z_lsub (lv2 := [(7, .int (nI (14 + 0))), (6, .int (nI 0)), (0, .ref (zgb G)), (1, .ref dW), (2, .ref dP), (3, .ref dB), (4, .ref dK), (5, .int (nI n))]) [0, 1, 7, 6, 5, 4, 3, 2] rfl ?_
  refine z_wide (cells2 := 1000 + 0) (slots2 := 100000 + 256 * 0) (by decide) (by decide) ?_
  exact z_p2 F n dW dP dB dK hn B K hB hK 5 0 (by decide) 0 0 z00 W2 P (Nat.zero_le _) hW2 hP
/-- YOUR PART: from the entry, for every script of at most 60 ints, the law comes to its end with true -/
theorem whole_start {p : Program} {e : Env} {s : State} {m : MethodId} {below : List Frame} {meth : Method} {c : Code} (l : Launch) (hflags : l.flags = flags0) {b L : Nat} {xs : Nat → Int32} (hL : L ≤ 60) (C0 : lw_At p s m meth c b L xs) : W p l e room_1 s m #[Value.ref b] below meth c s.heap [] 0 0 (lw_Z below #[Value.ref b] s) (entryFrame m ([Value.ref b] : List Value).toArray 10) := by
  obtain ⟨G, hG, F⟩ := z_law0 hL C0
  subst hG
  have hl := lv_entry ([.ref (zgb G)]) (n := 10) (Nat.le_of_ble_eq_true rfl)
  rw [lg_entry_eq]
  exact z_body (l := l) (e := e) (below := below) F s.heap [] _ (fun k q h => by simp at h) ⟨fun i j x y h => by simp at h, fun k q h => by simp at h⟩ va_S.rf hl
end
section
/-! THE CLAIM OUT OF ONE WALK: the end (the skeleton's rows) -/
-- ===== YOUR PART ENDS =====
set_option maxHeartbeats 4000000 in
theorem lw_walk (l : Launch) (hflags : l.flags = flags0) (b : Addr) (xs : List Int32) : MetFree l x (headSpec (Jvm.Cond.code x code maxLocals ret :: tables_1) room_1) (lw_P b xs) (fun _ _ _ _ _ => True) lw_Q := by
  refine MetFree.of_bodyS (code := code) (maxLocals := maxLocals) (ret := ret) (by decide) ?_ ?_
  · intro args s m h hn
    obtain ⟨meth, c, h1, h2, h3, h4, h5, h6, -, -⟩ := Cond.code_spec hn (atoms_spec (ws := Jvm.Cond.code x code maxLocals ret :: tables_1) h _ List.mem_cons_self)
    exact ⟨meth, c, h1, h2, h3, h4, h5, h6⟩
  · intro p e s m args below meth c s₁ B hml0 hP _
    obtain ⟨rfl, hx, hbd, hgv⟩ := hP
    obtain ⟨scr, harrAt, hlist, hof, hsmall⟩ := hx
    obtain ⟨hcb, hkn, -, -⟩ := State.arrayAt?_spec harrAt
    have hown : s.vm.findClass R_law = some m.cls := findClass_of_methodNamed B.named
    have hts0 : ∀ c ∈ (Jvm.Cond.code x code maxLocals ret :: tables_1), c.before #[Value.ref b] s = true := atoms_spec (ws := Jvm.Cond.code x code maxLocals ret :: tables_1) B.pre
    have hts : ∀ w ∈ lw_tbl, w.before #[Value.ref b] s = true := z_hts (fun w hw => hts0 w (List.mem_cons_of_mem _ hw))
    have hml : c.maxLocals = 10 := B.maxLocals_eq (hts0 _ List.mem_cons_self)
    have X₀ : Stand p l e room_1 s m #[Value.ref b] below meth c s₁ [] 0 0 := Stand.of_body B
    have hh0 : s₁.heap = s.heap := by rw [B.state]; rfl
    have hsz : scr.slots.size = xs.length := by rw [← Array.length_toList, hlist, List.length_map]
    have hval : ∀ j : Nat, j < xs.length → scr.slots[j]? = some (.int (xs.getD j 0)) := fun j hj => by
      rw [← Array.getElem?_toList, hlist]
      simp [hj]
    have hbl : b < s.heap.size := (Array.getElem?_eq_some_iff.mp hcb).1
    have hX : va_X b xs.length (fun j => xs.getD j 0) s s.heap := ⟨scr, hcb, hof, hkn, hsz, hval⟩
    have K : W p l e room_1 s m #[Value.ref b] below meth c s₁.heap [] 0 0 (lw_Z below #[Value.ref b] s) (entryFrame m ([Value.ref b] : List Value).toArray 10) := by
      rw [hh0]
      exact whole_start l hflags hbd ⟨B.exec, B.bytes, B.returns, hml, hown, hts, hX, hbl, B.notSynchronized, hgv⟩
    obtain ⟨t, a1, o, b1, b2, b3⟩ := K s₁ rfl X₀
    exact ⟨t, o, a1, b1, b2, b3⟩
theorem lw_pre_spec {args : Array Value} {s : State} (h : (Jvm.Cond.and given_1 narrow_1).before args s = true) (hr : rest_1_c.before args s = true) : ∃ (b : Addr) (xs : List Int32), lw_P b xs args s := by
  have hs := flat_of_before _ h
  have hq := flat_of_before _ hr
  have hc : (Cond.count 1).before args s = true := hs _ (by decide +kernel)
  have harr : (Cond.arrayOf (.arg 0) .int).before args s = true := hs _ (by decide +kernel)
  have hle : (Cond.le (.length (.arg 0)) (.int 60)).before args s = true := hs _ (by decide +kernel)
  have hlen : (Cond.isInt (.length (.arg 0))).before args s = true := hq _ (by decide +kernel)
  have hall : (Cond.all (.arg 0) (.isInt (.elem (.arg 0) (.index 0)))).before args s = true := hq _ (by decide +kernel)
  obtain ⟨b, xs, hb, hx⟩ := State.ints_of_pre rfl harr hlen hall
  have hsm : xs.length < 2 ^ 31 := hx.choose_spec.2.2.2
  have hev : (Term.length (.arg 0)).eval args s none [] s = some (.int xs.length.toInt32) := hx.length_eval hb
  have hv := Cond.le_ints hev (show (Term.int 60).eval args s none [] s = some (.int 60) from rfl)
  have hd : xs.length.toInt32 ≤ 60 := by
    simpa [Cond.before, Cond.holds, hv] using hle
  have hN : xs.length ≤ 60 := (Int32.ofNat_le_ofNat hsm (by decide)).mp (show Int32.ofNat xs.length ≤ Int32.ofNat 60 from hd)
  exact ⟨b, xs, Cond.one_arg hc (show args[0]? = some (.ref b) from hb), hx, hN, h⟩
theorem lw_comes (l : Launch) (hflags : l.flags = flags0) : Comes l x (Jvm.Cond.code x code maxLocals ret :: tables_1) room_1 (fun tb e args s => Calls_1 tb e args s ∧ rest_1 tb e args s ∧ Pre_1 tb e args s)
    (fun _ _ args s o t => lw_Q args s o t) := by
  intro p e ha hc hk s m args below hf hfit hheap happ hpre
  obtain ⟨b, xs, hP⟩ := lw_pre_spec hpre.2.2 hpre.2.1
  obtain ⟨k, o, h1, h2, h3, hQ⟩ := lw_walk l hflags b xs p e ha hc hk s m args below hf ((Spec.applies_iff_loose hf).mp happ).1 hP trivial
  exact ⟨k, o, h1, h2, h3, hQ⟩
theorem lw_frame {s t : State} {o : Outcome} {args : Array Value} (h : Framed s o t [] 600120 7301170) :
    Framed s o t (fieldLocs frame_1_writes args s ++ arrayLocs frame_1_arrays args s ++ staticLocs frame_1_statics s) 600120 7301170 := h
theorem lw_limb (L : Cond) (hL : ∀ (args : Array Value) (s t : State), L.after args s (.returned (some (.int 1))) t = true) :
    ArmFor flags0 classFile x code maxLocals ret World_1 tables_1 room_1 Calls_1 rest_1 Pre_1
      (fun tb e a s o t => postC L tb e a s o t ∧ Framed s o t (fieldLocs frame_1_writes a s ++ arrayLocs frame_1_arrays a s ++ staticLocs frame_1_statics s) 600120 7301170) := by
  intro l hflags _ _ p e ha hc hk s m args below hf hfit hheap happ hpre
  obtain ⟨k, o, h1, h2, h3, rfl, hF⟩ := lw_comes l hflags p e ha hc hk s m args below hf hfit hheap happ hpre
  exact ⟨k, _, h1, h2, h3, hL args s _, lw_frame hF⟩
theorem i_vc : Claimed_1_1 ∧ Claimed_1_2 := ⟨lw_limb limb_1_1 (fun args s t => by simp [limb_1_1, Cond.after, Cond.holds, Cond.value]), lw_limb limb_1_2 (fun args s t => Cond.after_iff.mpr (by
  first | (rw [show limb_1_2 = Cond.eq .result (.int 1) from rfl, Cond.eq_ints (x := 1) (y := 1) rfl rfl]; simp; done) | (simp [limb_1_2, Cond.value, Term.eval]; done)))⟩
end
