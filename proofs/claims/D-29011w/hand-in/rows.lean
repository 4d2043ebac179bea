section
-- ===== PART A: goes FIRST, ahead of the names: the tables' words, and 'selects' of the private methods out of them =====
/-- a private method of a class that the tables say can be made, by its rows of tables_1 -/
def lw_okq (q : MethodName × Nat) : Prop := (q.1.cls ≠ "java/lang/invoke/MethodHandle" ∧ q.1.cls ≠ "java/lang/invoke/VarHandle") ∧ Cond.instantiable q.1.cls q.2 ∈ tables_1 ∧ Cond.privateMethod q.1 ∈ tables_1 ∧ Cond.instanceMethod q.1 ∈ tables_1
set_option maxRecDepth 100000
theorem lw_t1 {w : Cond} (h : w ∈ tables_1_1) : w ∈ tables_1 := List.mem_append_left _ h
theorem lw_t2 {w : Cond} (h : w ∈ tables_1_2) : w ∈ tables_1 := List.mem_append_right _ (List.mem_append_left _ h)
theorem lw_t3 {w : Cond} (h : w ∈ tables_1_3) : w ∈ tables_1 := List.mem_append_right _ (List.mem_append_right _ h)
theorem lw_p0 : lw_okq (⟨"java/lang/Throwable", "fillInStackTrace", "(I)Ljava/lang/Throwable;"⟩, 6) := ⟨⟨by decide +kernel, by decide +kernel⟩, lw_t1 (List.mem_of_getElem? (i := 131) rfl), lw_t1 (List.mem_of_getElem? (i := 129) rfl), lw_t1 (List.mem_of_getElem? (i := 130) rfl)⟩
theorem lw_p1 : lw_okq (⟨"IndirectHeapModel", "head", "()I"⟩, 2) := ⟨⟨by decide +kernel, by decide +kernel⟩, lw_t3 (List.mem_of_getElem? (i := 42) rfl), lw_t3 (List.mem_of_getElem? (i := 72) rfl), lw_t3 (List.mem_of_getElem? (i := 73) rfl)⟩
def lw_privs_1 : List (MethodName × Nat) := [(⟨"java/lang/Throwable", "fillInStackTrace", "(I)Ljava/lang/Throwable;"⟩, 6), (⟨"IndirectHeapModel", "head", "()I"⟩, 2)]
theorem lw_r1 : ∀ q ∈ lw_privs_1, lw_okq q := List.forall_mem_cons.mpr ⟨lw_p0, List.forall_mem_cons.mpr ⟨lw_p1, fun _ h => absurd h List.not_mem_nil⟩⟩
def lw_privs : List (MethodName × Nat) := lw_privs_1
def lw_tbl : List Cond := k2_sels lw_privs ++ tables_1
theorem lw_privs_ok : ∀ q ∈ lw_privs, lw_okq q := lw_r1
-- ===== ONE list of words for every method: the tables' words that hold all through a run =====
def lw_all : List Cond := lw_tbl.filter goodWord
/-- a word of the tables by its place: claim/WORDS.tsv -/
theorem lw_w {w : Cond} (i : Nat) (h : lw_tbl[i]? = some w) (g : goodWord w = true) : w ∈ lw_all := List.mem_filter.mpr ⟨List.mem_of_getElem? h, g⟩
theorem lw_all_tbl {w : Cond} (h : w ∈ lw_all) : w ∈ lw_tbl := (List.mem_filter.mp h).1
theorem lw_self : GoodIn lw_all lw_all := fun w h => ⟨h, good_of_word (List.mem_filter.mp h).2⟩
/-- a class's field words, by their places -/
theorem lw_in (ws : List Cond) (ps : List Nat) (hp : ws = ps.filterMap (fun i => lw_tbl[i]?)) (hg : ws.all goodWord = true) : ∀ w ∈ ws, w ∈ lw_all := by
  intro w h
  have h1 := List.all_eq_true.mp hg w h
  rw [hp] at h
  obtain ⟨i, -, hi⟩ := List.mem_filterMap.mp h
  exact lw_w i hi h1
/-- the words of a contract for the method y with code b, L locals, answer r -/
abbrev ws_ (y : MethodName) (b : ByteArray) (L : Nat) (r : Option FieldType) : List Cond := Cond.code y b L r :: lw_all
theorem lw_meth {y : MethodName} {b : ByteArray} {L : Nat} {r : Option FieldType} (h : Cond.code y b L r ∈ lw_all) : GoodIn lw_all (ws_ y b L r) := by
  intro w hw
  rcases List.mem_cons.mp hw with e | e
  · rw [e]
    exact lw_self _ h
  · exact lw_self _ e
theorem lw_app {a c : List Cond} (ha : ∀ w ∈ a, w ∈ lw_all) (hc : GoodIn lw_all c) : GoodIn lw_all (a ++ c) := by
  intro w hw
  rcases List.mem_append.mp hw with e | e
  · exact lw_self w (ha w e)
  · exact hc w e
/-- what a call through an object asks: cwV n hts (lw_V ..) -/
theorem lw_V {own : String} {idx : Nat} {C : String} {y : MethodName} {b : ByteArray} {L : Nat} {r : Option FieldType} (h1 : Cond.methodLink own idx y ∈ lw_all) (h2 : Cond.instanceMethod y ∈ lw_all) (h3 : Cond.selects C y y ∈ lw_all) (h4 : Cond.initialized C ∈ lw_all) (h5 : Cond.code y b L r ∈ lw_all) : GoodIn lw_all (wsV own idx C y (ws_ y b L r)) := by
  refine lw_app ?_ (lw_meth h5)
  intro w hw
  simp only [List.mem_cons, List.not_mem_nil, or_false] at hw
  rcases hw with e | e | e | e
  · rw [e]; exact h1
  · rw [e]; exact h2
  · rw [e]; exact h3
  · rw [e]; exact h4
/-- what a static call asks: va_cwS n hts (lw_S ..) -/
theorem lw_S {own : String} {idx : Nat} {y : MethodName} {b : ByteArray} {L : Nat} {r : Option FieldType} (h1 : Cond.methodLink own idx y ∈ lw_all) (h2 : Cond.static y ∈ lw_all) (h3 : Cond.initialized y.cls ∈ lw_all) (h4 : Cond.code y b L r ∈ lw_all) : GoodIn lw_all (va_wsS own idx y (ws_ y b L r)) := by
  refine lw_app ?_ (lw_meth h4)
  intro w hw
  simp only [List.mem_cons, List.not_mem_nil, or_false] at hw
  rcases hw with e | e | e
  · rw [e]; exact h1
  · rw [e]; exact h2
  · rw [e]; exact h3
/-- the words of a contract for a method WITH HANDLERS (hh: its table) -/
abbrev wsW_ (y : MethodName) (b : ByteArray) (L : Nat) (r : Option FieldType) (hh : List (Nat × Nat × Nat × Nat)) : List Cond := Cond.codeWith y b L r hh :: lw_all
theorem lw_methW {y : MethodName} {b : ByteArray} {L : Nat} {r : Option FieldType} {hh : List (Nat × Nat × Nat × Nat)} (h : Cond.codeWith y b L r hh ∈ lw_all) : GoodIn lw_all (wsW_ y b L r hh) := by
  intro w hw
  rcases List.mem_cons.mp hw with e | e
  · rw [e]
    exact lw_self _ h
  · exact lw_self _ e
/-- any list of words by their places (lw_in), good -/
theorem lw_good {ws : List Cond} (h : ∀ w ∈ ws, w ∈ lw_all) : GoodIn lw_all ws := fun w hw => lw_self w (h w hw)
/-- what a call of a method with handlers asks: vx_cwVW n hts (lw_VW ..), vx_cwSW n hts (lw_SW ..) -/
theorem lw_VW {own : String} {idx : Nat} {C : String} {y : MethodName} {b : ByteArray} {L : Nat} {r : Option FieldType} {hh : List (Nat × Nat × Nat × Nat)} (h1 : Cond.methodLink own idx y ∈ lw_all) (h2 : Cond.instanceMethod y ∈ lw_all) (h3 : Cond.selects C y y ∈ lw_all) (h4 : Cond.initialized C ∈ lw_all) (h5 : Cond.codeWith y b L r hh ∈ lw_all) : GoodIn lw_all (wsV own idx C y (wsW_ y b L r hh)) := by
  refine lw_app ?_ (lw_methW h5)
  intro w hw
  simp only [List.mem_cons, List.not_mem_nil, or_false] at hw
  rcases hw with e | e | e | e
  · rw [e]; exact h1
  · rw [e]; exact h2
  · rw [e]; exact h3
  · rw [e]; exact h4
theorem lw_SW {own : String} {idx : Nat} {y : MethodName} {b : ByteArray} {L : Nat} {r : Option FieldType} {hh : List (Nat × Nat × Nat × Nat)} (h1 : Cond.methodLink own idx y ∈ lw_all) (h2 : Cond.static y ∈ lw_all) (h3 : Cond.initialized y.cls ∈ lw_all) (h4 : Cond.codeWith y b L r hh ∈ lw_all) : GoodIn lw_all (va_wsS own idx y (wsW_ y b L r hh)) := by
  refine lw_app ?_ (lw_methW h4)
  intro w hw
  simp only [List.mem_cons, List.not_mem_nil, or_false] at hw
  rcases hw with e | e | e
  · rw [e]; exact h1
  · rw [e]; exact h2
  · rw [e]; exact h3
/-- a word by its place in its run of the tables -/
theorem lw_at {r : List Cond} (hr : ∀ w ∈ r, w ∈ lw_tbl) {w : Cond} (i : Nat) (h : r[i]? = some w) : w ∈ lw_tbl := hr w (List.mem_of_getElem? h)
theorem lw_g {w : Cond} (h : w ∈ lw_tbl) (g : goodWord w = true) : w ∈ lw_all := List.mem_filter.mpr ⟨h, g⟩
theorem lw_ms : ∀ w ∈ k2_sels lw_privs, w ∈ lw_tbl := fun w h => show w ∈ k2_sels lw_privs ++ tables_1 from List.mem_append_left _ h
theorem lw_m1 : ∀ w ∈ tables_1_1, w ∈ lw_tbl := fun w h => show w ∈ k2_sels lw_privs ++ tables_1 from List.mem_append_right (k2_sels lw_privs) (show w ∈ tables_1 from List.mem_append_left _ h)
theorem lw_m2 : ∀ w ∈ tables_1_2, w ∈ lw_tbl := fun w h => show w ∈ k2_sels lw_privs ++ tables_1 from List.mem_append_right (k2_sels lw_privs) (show w ∈ tables_1 from List.mem_append_right _ (List.mem_append_left _ h))
theorem lw_m3 : ∀ w ∈ tables_1_3, w ∈ lw_tbl := fun w h => show w ∈ k2_sels lw_privs ++ tables_1 from List.mem_append_right (k2_sels lw_privs) (show w ∈ tables_1 from List.mem_append_right _ (List.mem_append_right _ h))
theorem qs0 : (Cond.selects "java/lang/Throwable" ⟨"java/lang/Throwable", "fillInStackTrace", "(I)Ljava/lang/Throwable;"⟩ ⟨"java/lang/Throwable", "fillInStackTrace", "(I)Ljava/lang/Throwable;"⟩) ∈ lw_all := lw_g (lw_at lw_ms 0 rfl) rfl
theorem qs1 : (Cond.selects "IndirectHeapModel" ⟨"IndirectHeapModel", "head", "()I"⟩ ⟨"IndirectHeapModel", "head", "()I"⟩) ∈ lw_all := lw_g (lw_at lw_ms 1 rfl) rfl
end
section
/-! THE PURE LAW of an indirect binary heap of keys below 64: no program in sight -/
/-- the heap's array of keys, as ints -/
def hN (hp : Nat → Nat) : Nat → Int32 := fun j => nI (hp j)
theorem hN_at (hp : Nat → Nat) (k : Nat) : hN hp k = nI (hp k) := rfl
theorem hN_up (hp : Nat → Nat) (k t : Nat) : upd (hN hp) k (nI t) = hN (va_up hp k t) := by
  funext j
  by_cases h : j = k <;> simp [upd, hN, va_up, h]
theorem hN_0 : (fun _ => (0 : Int32)) = hN (fun _ => 0) := by
  funext j
  exact nI_0.symm
theorem au_s {f : Nat → Nat} {k x : Nat} : va_up f k x k = x := if_pos rfl
theorem au_n {f : Nat → Nat} {k j x : Nat} (h : j ≠ k) : va_up f k x j = f j := if_neg h
theorem au_e {f : Nat → Nat} {k j x : Nat} : va_up f k x j = if j = k then x else f j := rfl
theorem ud_e {f : Nat → Int32} {k j : Nat} {x : Int32} : upd f k x j = if j = k then x else f j := rfl
theorem nI_inj {a b : Nat} (ha : a < 64) (hb : b < 64) (h : nI a = nI b) : a = b := (nI_eq (Nat.lt_of_lt_of_le ha (by decide)) (Nat.lt_of_lt_of_le hb (by decide))).mp h
theorem nI_nm1 {a : Nat} (ha : a < 64) : nI a ≠ -1 := by
  intro h
  have h1 := nI_pos (n := a) (by omega)
  rw [h] at h1
  exact h1 (by decide)
/-- the keys M sit in places 0 .. sz-1 of hp, and fi holds their places; fi is -1 at other keys -/
def DI (M : Nat → Prop) (sz : Nat) (hp : Nat → Nat) (fi : Nat → Int32) : Prop :=
  (∀ j, hp j < 64) ∧ (∀ j, j < sz → fi (hp j) = nI j) ∧ (∀ j, j < sz → M (hp j)) ∧ (∀ k, M k → ∃ j, j < sz ∧ hp j = k) ∧ (∀ k, k < 64 → ¬ M k → fi k = -1)
/-- the same with a hole at place i, whose key e is out -/
def DH (M : Nat → Prop) (sz e i : Nat) (hp : Nat → Nat) (fi : Nat → Int32) : Prop :=
  (∀ j, hp j < 64) ∧ (∀ j, j < sz → j ≠ i → fi (hp j) = nI j ∧ hp j ≠ e) ∧ M e ∧ e < 64 ∧ (∀ j, j < sz → j ≠ i → M (hp j)) ∧ (∀ k, M k → k = e ∨ ∃ j, j < sz ∧ j ≠ i ∧ hp j = k) ∧ (∀ k, k < 64 → ¬ M k → fi k = -1)
theorem DI.inj {M : Nat → Prop} {sz : Nat} {hp : Nat → Nat} {fi : Nat → Int32} (h : DI M sz hp fi) (hs : sz ≤ 64) {a b : Nat} (ha : a < sz) (hb : b < sz) (e : hp a = hp b) : a = b := by
  have h1 := h.2.1 a ha
  have h2 := h.2.1 b hb
  rw [e, h2] at h1
  exact (nI_inj (by omega) (by omega) h1).symm
theorem DI.lt {M : Nat → Prop} {sz : Nat} {hp : Nat → Nat} {fi : Nat → Int32} (h : DI M sz hp fi) {k : Nat} (hk : M k) : k < 64 := by
  obtain ⟨j, -, e⟩ := h.2.2.2.1 k hk
  rw [← e]
  exact h.1 j
theorem DI.pos {M : Nat → Prop} {sz : Nat} {hp : Nat → Nat} {fi : Nat → Int32} (h : DI M sz hp fi) {k : Nat} (hk : M k) : ∃ j, j < sz ∧ hp j = k ∧ fi k = nI j := by
  obtain ⟨j, hj, e⟩ := h.2.2.2.1 k hk
  exact ⟨j, hj, e, by rw [← e]; exact h.2.1 j hj⟩
theorem DI.congr {M M' : Nat → Prop} {sz : Nat} {hp : Nat → Nat} {fi : Nat → Int32} (h : DI M sz hp fi) (e : ∀ k, M k ↔ M' k) : DI M' sz hp fi :=
  ⟨h.1, h.2.1, fun j hj => (e _).mp (h.2.2.1 j hj), fun k hk => h.2.2.2.1 k ((e k).mpr hk), fun k hk hn => h.2.2.2.2 k hk (fun q => hn ((e k).mp q))⟩
theorem DH.of {M : Nat → Prop} {sz i : Nat} {hp : Nat → Nat} {fi : Nat → Int32} (h : DI M sz hp fi) (hs : sz ≤ 64) (hi : i < sz) : DH M sz (hp i) i hp fi := by
  refine ⟨h.1, fun j hj hne => ⟨h.2.1 j hj, fun e => hne (h.inj hs hj hi e)⟩, h.2.2.1 i hi, h.1 i, fun j hj _ => h.2.2.1 j hj, fun k hk => ?_, h.2.2.2.2⟩
  obtain ⟨j, hj, e⟩ := h.2.2.2.1 k hk
  by_cases hji : j = i
  · exact Or.inl (by rw [← e, hji])
  · exact Or.inr ⟨j, hj, hji, e⟩
theorem DH.mv {M : Nat → Prop} {sz e i q : Nat} {hp : Nat → Nat} {fi : Nat → Int32} (h : DH M sz e i hp fi) (hs : sz ≤ 64) (hi : i < sz) (hq : q < sz) (hne : q ≠ i) : DH M sz e q (va_up hp i (hp q)) (upd fi (hp q) (nI i)) := by
  obtain ⟨h1, h2, h3, h4, h5, h6, h7⟩ := h
  refine ⟨fun j => ?_, fun j hj hjq => ?_, h3, h4, fun j hj hjq => ?_, fun k hk => ?_, fun k hk hn => ?_⟩
  · by_cases hji : j = i
    · rw [hji, au_s]; exact h1 q
    · rw [au_n hji]; exact h1 j
  · by_cases hji : j = i
    · rw [hji, au_s, ud_e, if_pos rfl]
      exact ⟨rfl, (h2 q hq hne).2⟩
    · rw [au_n hji]
      have hh : hp j ≠ hp q := by
        intro e1
        have e2 := (h2 j hj hji).1
        rw [e1, (h2 q hq hne).1] at e2
        exact hjq (nI_inj (by omega) (by omega) e2).symm
      rw [ud_e, if_neg hh]
      exact h2 j hj hji
  · by_cases hji : j = i
    · rw [hji, au_s]; exact h5 q hq hne
    · rw [au_n hji]; exact h5 j hj hji
  · rcases h6 k hk with e1 | ⟨j, hj, hji, e1⟩
    · exact Or.inl e1
    · by_cases hjq : j = q
      · exact Or.inr ⟨i, hi, fun z => hne z.symm, by rw [au_s, ← hjq]; exact e1⟩
      · exact Or.inr ⟨j, hj, hjq, by rw [au_n hji]; exact e1⟩
  · have hh : k ≠ hp q := fun e1 => hn (by rw [e1]; exact h5 q hq hne)
    rw [ud_e, if_neg hh]
    exact h7 k hk hn
theorem DH.fin {M : Nat → Prop} {sz e i : Nat} {hp : Nat → Nat} {fi : Nat → Int32} (h : DH M sz e i hp fi) (hi : i < sz) : DI M sz (va_up hp i e) (upd fi e (nI i)) := by
  obtain ⟨h1, h2, h3, h4, h5, h6, h7⟩ := h
  refine ⟨fun j => ?_, fun j hj => ?_, fun j hj => ?_, fun k hk => ?_, fun k hk hn => ?_⟩
  · by_cases hji : j = i
    · rw [hji, au_s]; exact h4
    · rw [au_n hji]; exact h1 j
  · by_cases hji : j = i
    · rw [hji, au_s, ud_e, if_pos rfl]
    · rw [au_n hji, ud_e, if_neg (h2 j hj hji).2]
      exact (h2 j hj hji).1
  · by_cases hji : j = i
    · rw [hji, au_s]; exact h3
    · rw [au_n hji]; exact h5 j hj hji
  · rcases h6 k hk with e1 | ⟨j, hj, hji, e1⟩
    · exact ⟨i, hi, by rw [au_s, e1]⟩
    · exact ⟨j, hj, by rw [au_n hji]; exact e1⟩
  · have hh : k ≠ e := fun e1 => hn (by rw [e1]; exact h3)
    rw [ud_e, if_neg hh]
    exact h7 k hk hn
/-- a key's value -/
def kv (fv : Nat → Int32) (k : Nat) : Int := (fv k).toInt
theorem kv_le {fv : Nat → Int32} {a b : Nat} : fv a ≤ fv b ↔ kv fv a ≤ kv fv b := Int32.le_iff_toInt_le
theorem kv_lt {fv : Nat → Int32} {a b : Nat} : fv a < fv b ↔ kv fv a < kv fv b := Int32.lt_iff_toInt_lt
/-- heap order on the edges whose upper place is lo or more -/
def HO (fv : Nat → Int32) (sz lo : Nat) (hp : Nat → Nat) : Prop := ∀ j, 0 < j → j < sz → lo ≤ (j - 1) / 2 → kv fv (hp ((j - 1) / 2)) ≤ kv fv (hp j)
/-- order on all edges that don't touch place i, and over it -/
def UpPre (fv : Nat → Int32) (sz i : Nat) (hp : Nat → Nat) : Prop :=
  (∀ j, 0 < j → j < sz → (j - 1) / 2 ≠ i → j ≠ i → kv fv (hp ((j - 1) / 2)) ≤ kv fv (hp j)) ∧
  (∀ j, 0 < j → j < sz → (j - 1) / 2 = i → 0 < i → kv fv (hp ((i - 1) / 2)) ≤ kv fv (hp j))
def UpI (fv : Nat → Int32) (sz i0 e i : Nat) (hp : Nat → Nat) : Prop :=
  UpPre fv sz i hp ∧ (i ≠ i0 → ∀ j, 0 < j → j < sz → (j - 1) / 2 = i → kv fv e ≤ kv fv (hp j))
def UpPost (fv : Nat → Int32) (sz i0 r : Nat) (hp : Nat → Nat) : Prop :=
  (∀ j, 0 < j → j < sz → (j - 1) / 2 ≠ r → kv fv (hp ((j - 1) / 2)) ≤ kv fv (hp j)) ∧
  (∀ j, 0 < j → j < sz → (j - 1) / 2 = r → 0 < r → kv fv (hp ((r - 1) / 2)) ≤ kv fv (hp j)) ∧
  (r ≠ i0 → ∀ j, 0 < j → j < sz → (j - 1) / 2 = r → kv fv (hp r) ≤ kv fv (hp j))
theorem UpI.start {fv : Nat → Int32} {sz i : Nat} {hp : Nat → Nat} (h : UpPre fv sz i hp) (e : Nat) : UpI fv sz i e i hp := ⟨h, fun q => absurd rfl q⟩
theorem UpI.step {fv : Nat → Int32} {sz i0 e i : Nat} {hp : Nat → Nat} (h : UpI fv sz i0 e i hp) (hi : 0 < i) (hs : i < sz) (hlt : kv fv e < kv fv (hp ((i - 1) / 2))) : UpI fv sz i0 e ((i - 1) / 2) (va_up hp i (hp ((i - 1) / 2))) := by
  obtain ⟨⟨ha, hb⟩, hc⟩ := h
  have hpi : (i - 1) / 2 < i := by omega
  refine ⟨⟨fun j h0 hj hn1 hn2 => ?_, fun j h0 hj he hp0 => ?_⟩, fun _ j h0 hj he => ?_⟩
  · have hji : j ≠ i := fun q => hn1 (by rw [q])
    rw [au_n hji]
    by_cases h2 : (j - 1) / 2 = i
    · rw [h2, au_s]
      exact hb j h0 hj h2 hi
    · rw [au_n h2]
      exact ha j h0 hj h2 hji
  · have h3 : ((i - 1) / 2 - 1) / 2 ≠ i := by omega
    rw [au_n h3]
    have h4 : kv fv (hp (((i - 1) / 2 - 1) / 2)) ≤ kv fv (hp ((i - 1) / 2)) := ha ((i - 1) / 2) hp0 (by omega) h3 (by omega)
    by_cases hji : j = i
    · rw [hji, au_s]
      exact h4
    · rw [au_n hji]
      have h5 := ha j h0 hj (by omega) hji
      rw [he] at h5
      omega
  · by_cases hji : j = i
    · rw [hji, au_s]
      omega
    · rw [au_n hji]
      have h5 := ha j h0 hj (by omega) hji
      rw [he] at h5
      omega
theorem UpI.fin {fv : Nat → Int32} {sz i0 e i : Nat} {hp : Nat → Nat} (h : UpI fv sz i0 e i hp) (hx : i = 0 ∨ kv fv (hp ((i - 1) / 2)) ≤ kv fv e) : UpPost fv sz i0 i (va_up hp i e) := by
  obtain ⟨⟨ha, hb⟩, hc⟩ := h
  refine ⟨fun j h0 hj hn => ?_, fun j h0 hj he hi => ?_, fun hne j h0 hj he => ?_⟩
  · rw [au_n hn]
    by_cases hji : j = i
    · rw [hji, au_s]
      rcases hx with q | q
      · omega
      · exact q
    · rw [au_n hji]
      exact ha j h0 hj hn hji
  · rw [au_n (by omega), au_n (by omega)]
    exact hb j h0 hj he hi
  · rw [au_s, au_n (by omega)]
    exact hc hne j h0 hj he
def DnPre (fv : Nat → Int32) (sz lo i : Nat) (hp : Nat → Nat) : Prop :=
  (∀ j, 0 < j → j < sz → lo ≤ (j - 1) / 2 → (j - 1) / 2 ≠ i → kv fv (hp ((j - 1) / 2)) ≤ kv fv (hp j)) ∧
  (∀ j, 0 < j → j < sz → (j - 1) / 2 = i → 0 < i → lo ≤ (i - 1) / 2 → kv fv (hp ((i - 1) / 2)) ≤ kv fv (hp j)) ∧ lo ≤ i
def DnI (fv : Nat → Int32) (sz lo e i : Nat) (hp : Nat → Nat) : Prop :=
  (∀ j, 0 < j → j < sz → lo ≤ (j - 1) / 2 → (j - 1) / 2 ≠ i → j ≠ i → kv fv (hp ((j - 1) / 2)) ≤ kv fv (hp j)) ∧
  (∀ j, 0 < j → j < sz → (j - 1) / 2 = i → 0 < i → lo ≤ (i - 1) / 2 → kv fv (hp ((i - 1) / 2)) ≤ kv fv (hp j)) ∧ lo ≤ i ∧
  (0 < i → lo ≤ (i - 1) / 2 → kv fv (hp ((i - 1) / 2)) ≤ kv fv e)
theorem DnI.start {fv : Nat → Int32} {sz lo i : Nat} {hp : Nat → Nat} (h : DnPre fv sz lo i hp) (hs : i < sz) : DnI fv sz lo (hp i) i hp :=
  ⟨fun j h0 hj hl hn _ => h.1 j h0 hj hl hn, h.2.1, h.2.2, fun h0 hl => h.1 i h0 hs hl (by omega)⟩
theorem DnI.step {fv : Nat → Int32} {sz lo e i q : Nat} {hp : Nat → Nat} (h : DnI fv sz lo e i hp) (hq : q < sz) (h0q : 0 < q) (hqi : (q - 1) / 2 = i) (hlt : kv fv (hp q) ≤ kv fv e) (hmin : ∀ j, 0 < j → j < sz → (j - 1) / 2 = i → kv fv (hp q) ≤ kv fv (hp j)) : DnI fv sz lo e q (va_up hp i (hp q)) := by
  obtain ⟨ha, hb, hl, hc⟩ := h
  refine ⟨fun j h0 hj hlo hn1 hn2 => ?_, fun j h0 hj he hp0 hlo => ?_, by omega, fun _ _ => ?_⟩
  · by_cases h1 : (j - 1) / 2 = i
    · rw [h1, au_s, au_n (by omega)]
      exact hmin j h0 hj h1
    · rw [au_n h1]
      by_cases hji : j = i
      · rw [hji, au_s]
        have h2 := hb q h0q hq hqi (by omega) (by rw [← hji]; exact hlo)
        exact h2
      · rw [au_n hji]
        exact ha j h0 hj hlo h1 hji
  · rw [hqi, au_s, au_n (by omega)]
    have h2 := ha j h0 hj (by omega) (by omega) (by omega)
    rw [he] at h2
    exact h2
  · rw [hqi, au_s]
    exact hlt
theorem DnI.fin {fv : Nat → Int32} {sz lo e i : Nat} {hp : Nat → Nat} (h : DnI fv sz lo e i hp) (hx : ∀ j, 0 < j → j < sz → (j - 1) / 2 = i → kv fv e ≤ kv fv (hp j)) : HO fv sz lo (va_up hp i e) := by
  obtain ⟨ha, hb, hl, hc⟩ := h
  intro j h0 hj hlo
  by_cases h1 : (j - 1) / 2 = i
  · rw [h1, au_s, au_n (by omega)]
    exact hx j h0 hj h1
  · rw [au_n h1]
    by_cases hji : j = i
    · rw [hji, au_s]
      exact hc (by omega) (by rw [← hji]; exact hlo)
    · rw [au_n hji]
      exact ha j h0 hj hlo h1 hji
/-! what the queue's methods need of it -/
theorem UpPost.down {fv : Nat → Int32} {sz i0 r : Nat} {hp : Nat → Nat} (h : UpPost fv sz i0 r hp) : DnPre fv sz 0 r hp :=
  ⟨fun j h0 hj _ hn => h.1 j h0 hj hn, fun j h0 hj he hp0 _ => h.2.1 j h0 hj he hp0, Nat.zero_le _⟩
theorem UpPost.leaf {fv : Nat → Int32} {sz r : Nat} {hp : Nat → Nat} (h : UpPost fv (sz + 1) sz r hp) : HO fv (sz + 1) 0 hp := by
  intro j h0 hj _
  by_cases h1 : (j - 1) / 2 = r
  · have h2 := h.2.2 (by omega) j h0 hj h1
    rw [h1]
    exact h2
  · exact h.1 j h0 hj h1
theorem HO.key {M : Nat → Prop} {sz i : Nat} {hp : Nat → Nat} {fi : Nat → Int32} {fv fv0 : Nat → Int32} (h : HO fv0 sz 0 hp) (hI : DI M sz hp fi) (hs : sz ≤ 64) (hi : i < sz) (hv : ∀ k, k ≠ hp i → fv k = fv0 k) : UpPre fv sz i hp := by
  have key : ∀ j, j < sz → j ≠ i → kv fv (hp j) = kv fv0 (hp j) := fun j hj hne => by
    unfold kv
    rw [hv (hp j) (fun e => hne (hI.inj hs hj hi e))]
  refine ⟨fun j h0 hj hn1 hn2 => ?_, fun j h0 hj he hp0 => ?_⟩
  · rw [key j hj hn2, key _ (by omega) hn1]
    exact h j h0 hj (Nat.zero_le _)
  · rw [key j hj (by omega), key _ (by omega) (by omega)]
    have h1 := h j h0 hj (Nat.zero_le _)
    rw [he] at h1
    exact Int.le_trans (h i hp0 hi (Nat.zero_le _)) h1
theorem HO.head {M : Nat → Prop} {sz : Nat} {hp : Nat → Nat} {fi : Nat → Int32} {fv fv0 : Nat → Int32} (h : HO fv0 sz 0 hp) (hI : DI M sz hp fi) (hs : sz ≤ 64) (hi : 0 < sz) (hv : ∀ k, k ≠ hp 0 → fv k = fv0 k) : DnPre fv sz 0 0 hp := by
  have h1 := HO.key h hI hs hi hv
  exact ⟨fun j h0 hj _ hn => h1.1 j h0 hj hn (by omega), fun j h0 hj he hp0 => absurd hp0 (by omega), Nat.le_refl _⟩
theorem HO.push {fv : Nat → Int32} {sz k : Nat} {hp : Nat → Nat} (h : HO fv sz 0 hp) : UpPre fv (sz + 1) sz (va_up hp sz k) := by
  refine ⟨fun j h0 hj hn1 hn2 => ?_, fun j h0 hj he hp0 => ?_⟩
  · rw [au_n hn1, au_n hn2]
    exact h j h0 (by omega) (Nat.zero_le _)
  · omega
theorem HO.pop {fv : Nat → Int32} {sz k : Nat} {hp : Nat → Nat} (h : HO fv (sz + 1) 0 hp) : DnPre fv sz 0 0 (va_up hp 0 k) := by
  refine ⟨fun j h0 hj _ hn => ?_, fun j h0 hj he hp0 => absurd hp0 (by omega), Nat.le_refl _⟩
  rw [au_n hn, au_n (by omega)]
  exact h j h0 (by omega) (Nat.zero_le _)
theorem HO.cut {fv : Nat → Int32} {sz i k : Nat} {hp : Nat → Nat} (h : HO fv (sz + 1) 0 hp) (hi : i < sz) : UpPre fv sz i (va_up hp i k) := by
  refine ⟨fun j h0 hj hn1 hn2 => ?_, fun j h0 hj he hp0 => ?_⟩
  · rw [au_n hn1, au_n hn2]
    exact h j h0 (by omega) (Nat.zero_le _)
  · rw [au_n (by omega), au_n (by omega)]
    have h1 := h j h0 (by omega) (Nat.zero_le _)
    rw [he] at h1
    exact Int.le_trans (h i hp0 (by omega) (Nat.zero_le _)) h1
theorem HO.less {fv : Nat → Int32} {sz : Nat} {hp : Nat → Nat} (h : HO fv (sz + 1) 0 hp) : HO fv sz 0 hp := fun j h0 hj hl => h j h0 (by omega) hl
theorem HO.half (fv : Nat → Int32) (sz : Nat) (hp : Nat → Nat) : HO fv sz (sz / 2) hp := fun j h0 hj hl => absurd hl (by omega)
theorem HO.down {fv : Nat → Int32} {sz i : Nat} {hp : Nat → Nat} (h : HO fv sz (i + 1) hp) : DnPre fv sz i i hp :=
  ⟨fun j h0 hj hl hn => h j h0 hj (by omega), fun j h0 hj he hp0 hl => absurd hl (by omega), Nat.le_refl _⟩
theorem HO.zero (fv : Nat → Int32) (hp : Nat → Nat) : HO fv 0 0 hp := fun j _ hj => absurd hj (by omega)
theorem HO.min {fv : Nat → Int32} {sz : Nat} {hp : Nat → Nat} (h : HO fv sz 0 hp) : ∀ (n j : Nat), j < n → j < sz → kv fv (hp 0) ≤ kv fv (hp j) := by
  intro n
  induction n with
  | zero => intro j h1; omega
  | succ n ih =>
    intro j h1 hj
    by_cases h0 : j = 0
    · rw [h0]; exact Int.le_refl _
    · exact Int.le_trans (ih ((j - 1) / 2) (by omega) (by omega)) (h j (by omega) hj (Nat.zero_le _))
theorem HO.congr {fv fv' : Nat → Int32} {sz lo : Nat} {hp : Nat → Nat} (h : HO fv sz lo hp) (hb : ∀ j, hp j < 64) (e : ∀ k, k < 64 → fv' k = fv k) : HO fv' sz lo hp := by
  intro j h0 hj hl
  unfold kv
  rw [e _ (hb _), e _ (hb _)]
  exact h j h0 hj hl
theorem DI.push {M : Nat → Prop} {sz k : Nat} {hp : Nat → Nat} {fi : Nat → Int32} (h : DI M sz hp fi) (hk : k < 64) (hn : ¬ M k) : DI (fun j => M j ∨ j = k) (sz + 1) (va_up hp sz k) (upd fi k (nI sz)) := by
  obtain ⟨h1, h2, h3, h4, h5⟩ := h
  refine ⟨fun j => ?_, fun j hj => ?_, fun j hj => ?_, fun a ha => ?_, fun a ha hna => ?_⟩
  · by_cases q : j = sz
    · rw [q, au_s]; exact hk
    · rw [au_n q]; exact h1 j
  · by_cases q : j = sz
    · rw [q, au_s, ud_e, if_pos rfl]
    · rw [au_n q, ud_e, if_neg (fun e => hn (by rw [← e]; exact h3 j (by omega)))]
      exact h2 j (by omega)
  · by_cases q : j = sz
    · rw [q, au_s]; exact Or.inr rfl
    · rw [au_n q]; exact Or.inl (h3 j (by omega))
  · rcases ha with ha | ha
    · obtain ⟨j, hj, e⟩ := h4 a ha
      exact ⟨j, by omega, by rw [au_n (by omega)]; exact e⟩
    · exact ⟨sz, by omega, by rw [au_s, ha]⟩
  · rw [ud_e, if_neg (fun e => hna (Or.inr e))]
    exact h5 a ha (fun q => hna (Or.inl q))
/-- the last place's key goes to place i, whose key goes out -/
theorem DI.cut {M : Nat → Prop} {sz i : Nat} {hp : Nat → Nat} {fi : Nat → Int32} (h : DI M (sz + 1) hp fi) (hs : sz < 64) (hi : i < sz) : DI (fun j => M j ∧ j ≠ hp i) sz (va_up hp i (hp sz)) (upd (upd fi (hp i) (-1)) (hp sz) (nI i)) := by
  have inj : ∀ a b, a < sz + 1 → b < sz + 1 → hp a = hp b → a = b := fun a b ha hb e => h.inj (by omega) ha hb e
  obtain ⟨h1, h2, h3, h4, h5⟩ := h
  have hne : hp sz ≠ hp i := fun e => by
    have := inj sz i (by omega) (by omega) e
    omega
  refine ⟨fun j => ?_, fun j hj => ?_, fun j hj => ?_, fun a ha => ?_, fun a ha hna => ?_⟩
  · by_cases q : j = i
    · rw [q, au_s]; exact h1 sz
    · rw [au_n q]; exact h1 j
  · by_cases q : j = i
    · rw [q, au_s, ud_e, if_pos rfl]
    · rw [au_n q, ud_e, if_neg (fun e => by have := inj j sz (by omega) (by omega) e; omega), ud_e, if_neg (fun e => q (inj j i (by omega) (by omega) e))]
      exact h2 j (by omega)
  · by_cases q : j = i
    · rw [q, au_s]; exact ⟨h3 sz (by omega), hne⟩
    · rw [au_n q]; exact ⟨h3 j (by omega), fun e => q (inj j i (by omega) (by omega) e)⟩
  · obtain ⟨j, hj, e⟩ := h4 a ha.1
    have hji : j ≠ i := fun q => ha.2 (by rw [← e, q])
    by_cases q : j = sz
    · exact ⟨i, hi, by rw [au_s, ← q]; exact e⟩
    · exact ⟨j, by omega, by rw [au_n hji]; exact e⟩
  · by_cases q : a = hp i
    · rw [q, ud_e, if_neg (fun e => hne e.symm), ud_e, if_pos rfl]
    · have hM : ¬ M a := fun m => hna ⟨m, q⟩
      have hq2 : a ≠ hp sz := fun e => hM (by rw [e]; exact h3 sz (by omega))
      rw [ud_e, if_neg hq2, ud_e, if_neg q]
      exact h5 a ha hM
/-- the last place's key goes out -/
theorem DI.pop {M : Nat → Prop} {sz : Nat} {hp : Nat → Nat} {fi : Nat → Int32} (h : DI M (sz + 1) hp fi) (hs : sz < 64) : DI (fun j => M j ∧ j ≠ hp sz) sz hp (upd fi (hp sz) (-1)) := by
  have inj : ∀ a b, a < sz + 1 → b < sz + 1 → hp a = hp b → a = b := fun a b ha hb e => h.inj (by omega) ha hb e
  obtain ⟨h1, h2, h3, h4, h5⟩ := h
  refine ⟨h1, fun j hj => ?_, fun j hj => ?_, fun a ha => ?_, fun a ha hna => ?_⟩
  · rw [ud_e, if_neg (fun e => by have := inj j sz (by omega) (by omega) e; omega)]
    exact h2 j (by omega)
  · exact ⟨h3 j (by omega), fun e => by have := inj j sz (by omega) (by omega) e; omega⟩
  · obtain ⟨j, hj, e⟩ := h4 a ha.1
    have hji : j ≠ sz := fun q => ha.2 (by rw [← e, q])
    exact ⟨j, by omega, e⟩
  · by_cases q : a = hp sz
    · rw [q, ud_e, if_pos rfl]
    · rw [ud_e, if_neg q]
      exact h5 a ha (fun m => hna ⟨m, q⟩)
theorem DI.zero {hp : Nat → Nat} {fi : Nat → Int32} (h1 : ∀ j, hp j < 64) (h2 : ∀ k, k < 64 → fi k = -1) : DI (fun _ => False) 0 hp fi :=
  ⟨h1, fun j hj => absurd hj (by omega), fun j hj => absurd hj (by omega), fun k hk => hk.elim, fun k hk _ => h2 k hk⟩
theorem ud_cm {f : Nat → Int32} {a b : Nat} {x y : Int32} (h : a ≠ b) : upd (upd f a x) b y = upd (upd f b y) a x := by
  funext j
  simp only [ud_e]
  by_cases h1 : j = b
  · rw [if_pos h1, if_neg (fun e => h (e.symm.trans h1)), if_pos h1]
  · rw [if_neg h1, if_neg h1]
/-- the whole -/
def Good (M : Nat → Prop) (sz : Nat) (fv : Nat → Int32) (hp : Nat → Nat) (fi : Nat → Int32) : Prop := sz ≤ 64 ∧ DI M sz hp fi ∧ HO fv sz 0 hp
/-! counting -/
def cnt (fb : Nat → Int32) : Nat → Nat
  | 0 => 0
  | n + 1 => cnt fb n + (if fb n = 0 then 0 else 1)
theorem cnt_le (fb : Nat → Int32) : ∀ n, cnt fb n ≤ n := by
  intro n
  induction n with
  | zero => exact Nat.le_refl _
  | succ n ih =>
    show cnt fb n + (if fb n = 0 then 0 else 1) ≤ n + 1
    split <;> omega
theorem cnt_lt {fb : Nat → Int32} {k : Nat} (h : fb k = 0) : ∀ n, k < n → cnt fb n < n := by
  intro n
  induction n with
  | zero => intro q; omega
  | succ n ih =>
    intro q
    show cnt fb n + (if fb n = 0 then 0 else 1) < n + 1
    have h1 := cnt_le fb n
    by_cases e : n = k
    · rw [e, if_pos h]
      have h2 := cnt_le fb k
      omega
    · have h2 := ih (by omega)
      split <;> omega
theorem cnt_out {fb : Nat → Int32} {k : Nat} {x : Int32} : ∀ n, n ≤ k → cnt (upd fb k x) n = cnt fb n := by
  intro n
  induction n with
  | zero => intro _; rfl
  | succ n ih =>
    intro q
    show cnt (upd fb k x) n + (if upd fb k x n = 0 then 0 else 1) = cnt fb n + (if fb n = 0 then 0 else 1)
    rw [ih (by omega), ud_e, if_neg (show n ≠ k by omega)]
theorem cnt_set {fb : Nat → Int32} {k : Nat} (h : fb k = 0) : ∀ n, k < n → cnt (upd fb k 1) n = cnt fb n + 1 := by
  intro n
  induction n with
  | zero => intro q; omega
  | succ n ih =>
    intro q
    show cnt (upd fb k 1) n + (if upd fb k 1 n = 0 then 0 else 1) = cnt fb n + (if fb n = 0 then 0 else 1) + 1
    by_cases e : n = k
    · rw [e, cnt_out k (Nat.le_refl _), ud_e, if_pos rfl, if_neg (by decide), if_pos h]
    · rw [ih (by omega), ud_e, if_neg e]
      omega
theorem cnt_clr {fb : Nat → Int32} {k : Nat} (h : fb k ≠ 0) : ∀ n, k < n → cnt fb n = cnt (upd fb k 0) n + 1 := by
  intro n
  induction n with
  | zero => intro q; omega
  | succ n ih =>
    intro q
    show cnt fb n + (if fb n = 0 then 0 else 1) = cnt (upd fb k 0) n + (if upd fb k 0 n = 0 then 0 else 1) + 1
    by_cases e : n = k
    · rw [e, cnt_out k (Nat.le_refl _), ud_e, if_pos rfl, if_pos rfl, if_neg h]
    · rw [ih (by omega), ud_e, if_neg e]
      omega
theorem cnt_same {fb fb' : Nat → Int32} : ∀ n, (∀ k, k < n → fb k = fb' k) → cnt fb n = cnt fb' n := by
  intro n
  induction n with
  | zero => intro _; rfl
  | succ n ih =>
    intro q
    show cnt fb n + (if fb n = 0 then 0 else 1) = cnt fb' n + (if fb' n = 0 then 0 else 1)
    rw [ih (fun k hk => q k (by omega)), q n (by omega)]
theorem cnt_0 {fb : Nat → Int32} : ∀ n, (∀ k, k < n → fb k = 0) → cnt fb n = 0 := by
  intro n
  induction n with
  | zero => intro _; rfl
  | succ n ih =>
    intro q
    show cnt fb n + (if fb n = 0 then 0 else 1) = 0
    rw [ih (fun k hk => q k (by omega)), if_pos (q n (by omega))]
end
section
/-! DECODE ROWS BY BYTES: one lemma an opcode; a method's code is cut into short pieces once, and a row reads its own piece alone. -/
set_option maxRecDepth 100000
/-- the code has just these bytes from pc on -/
def DkAt (code : ByteArray) (pc : Nat) (bs : List UInt8) : Prop := ∀ (j : Nat) (b : UInt8), bs[j]? = some b → code.data.toList[pc + j]? = some b
/-- the piece W has the bytes bs from its place j on -/
def dkIn (W : List UInt8) (j : Nat) (bs : List UInt8) : Bool := decide ((W.drop j).take bs.length = bs)
theorem dk_seg {l W T : List UInt8} {o o2 : Nat} (h : l.drop o = W ++ T) (n : Nat) (hn : W.length = n) (ho : o + n = o2) : l.drop o2 = T := by
  subst ho
  rw [← List.drop_drop, h, List.drop_left' hn]
theorem dk_at {code : ByteArray} {W T bs : List UInt8} {o pc : Nat} (h : code.data.toList.drop o = W ++ T) (j : Nat) (hp : o + j = pc) (hw : dkIn W j bs = true) : DkAt code pc bs := by
  subst hp
  intro i b e
  have h1 := of_decide_eq_true hw
  have h2 : i < bs.length := (List.getElem?_eq_some_iff.mp e).1
  have h3 : W[j + i]? = some b := by
    rw [← h1, List.getElem?_take, if_pos h2, List.getElem?_drop] at e
    exact e
  have h4 : j + i < W.length := (List.getElem?_eq_some_iff.mp h3).1
  have h5 : (code.data.toList.drop o)[j + i]? = some b := by
    rw [h, List.getElem?_append_left h4]
    exact h3
  rw [List.getElem?_drop, ← Nat.add_assoc] at h5
  exact h5
theorem dk_u1 {A : ByteArray} {p : Nat} {b : UInt8} (h : A.data.toList[p]? = some b) : (Reader.u1 : Reader DecodeError Nat) A p = .ok (b.toNat, p + 1) := by
  obtain ⟨h1, h2⟩ := List.getElem?_eq_some_iff.mp h
  have h3 : p < A.size := by simpa using h1
  have h4 : A[p]'h3 = b := h2
  have e : (Reader.u1 : Reader DecodeError Nat) A p = (if h : p < A.size then .ok (A[p].toNat, p + 1) else .error (HasTruncated.truncated p)) := by
    show (do if h : p < A.size then do set (p + 1); Pure.pure A[p].toNat else MonadExcept.throw (HasTruncated.truncated p) : Reader DecodeError Nat) A p = _
    by_cases hi : p < A.size
    · rw [dif_pos hi, dif_pos hi]; rfl
    · rw [dif_neg hi, dif_neg hi]; rfl
  rw [e, dif_pos h3, h4]
theorem dk_bind {α β : Type} {r : Reader DecodeError α} {f : α → Reader DecodeError β} {A : ByteArray} {p s : Nat} {a : α} (h : r A p = .ok (a, s)) : (r >>= f) A p = f a A s := by
  show (do let (a, s) ← r A p; f a A s : Except DecodeError (β × Nat)) = _
  rw [h]
  rfl
theorem dk_map {α β : Type} {r : Reader DecodeError α} {g : α → β} {A : ByteArray} {p s : Nat} {a : α} (h : r A p = .ok (a, s)) : (g <$> r) A p = .ok (g a, s) := by
  show (do let (a, s) ← r A p; .ok (g a, s) : Except DecodeError (β × Nat)) = _
  rw [h]
  rfl
theorem dk_u2 {A : ByteArray} {p : Nat} {a b : UInt8} (h : A.data.toList[p]? = some a) (h2 : A.data.toList[p + 1]? = some b) : (Reader.u2 : Reader DecodeError Nat) A p = .ok (a.toNat * 256 + b.toNat, p + 2) := by
  show (Reader.u1 >>= fun hi => Reader.u1 >>= fun lo => Pure.pure (hi * 256 + lo) : Reader DecodeError Nat) A p = _
  rw [dk_bind (dk_u1 h), dk_bind (dk_u1 h2)]
  rfl
theorem dk_of {code : ByteArray} {pc n : Nat} {i : Instr} (h : Decoder.instr pc code pc = .ok (i, pc + n)) : decode code pc = .ok (i, n) := by
  have e : decode code pc = (match Decoder.instr pc code pc with | .error x => .error x | .ok (j, s) => .ok (j, s - pc)) := by
    show (do let (j, s) ← Decoder.instr pc code pc; Pure.pure (j, s - pc) : Except DecodeError (Instr × Nat)) = _
    cases Decoder.instr pc code pc <;> rfl
  rw [e, h]
  show Except.ok (i, pc + n - pc) = _
  rw [Nat.add_sub_cancel_left]
theorem dk_1 {code : ByteArray} {pc : Nat} (h : DkAt code pc [1]) : decode code pc = .ok (.aconst_null, 1) := dk_of ((dk_bind (dk_u1 (h 0 _ rfl))).trans rfl)
theorem dk_2 {code : ByteArray} {pc : Nat} (h : DkAt code pc [2]) : decode code pc = .ok (.iconst (-1), 1) := dk_of ((dk_bind (dk_u1 (h 0 _ rfl))).trans rfl)
theorem dk_3 {code : ByteArray} {pc : Nat} (h : DkAt code pc [3]) : decode code pc = .ok (.iconst 0, 1) := dk_of ((dk_bind (dk_u1 (h 0 _ rfl))).trans rfl)
theorem dk_4 {code : ByteArray} {pc : Nat} (h : DkAt code pc [4]) : decode code pc = .ok (.iconst 1, 1) := dk_of ((dk_bind (dk_u1 (h 0 _ rfl))).trans rfl)
theorem dk_5 {code : ByteArray} {pc : Nat} (h : DkAt code pc [5]) : decode code pc = .ok (.iconst 2, 1) := dk_of ((dk_bind (dk_u1 (h 0 _ rfl))).trans rfl)
theorem dk_7 {code : ByteArray} {pc : Nat} (h : DkAt code pc [7]) : decode code pc = .ok (.iconst 4, 1) := dk_of ((dk_bind (dk_u1 (h 0 _ rfl))).trans rfl)
theorem dk_16 {code : ByteArray} {pc : Nat} (a : UInt8) (h : DkAt code pc [16, a]) : decode code pc = .ok (.bipush (Reader.signed 8 a.toNat), 2) := dk_of ((dk_bind (dk_u1 (h 0 _ rfl))).trans ((dk_bind (dk_map (dk_u1 (h 1 _ rfl)))).trans rfl))
theorem dk_17 {code : ByteArray} {pc : Nat} (a b : UInt8) (h : DkAt code pc [17, a, b]) : decode code pc = .ok (.sipush (Reader.signed 16 (a.toNat * 256 + b.toNat)), 3) := dk_of ((dk_bind (dk_u1 (h 0 _ rfl))).trans ((dk_bind (dk_map (dk_u2 (h 1 _ rfl) (h 2 _ rfl)))).trans rfl))
theorem dk_18 {code : ByteArray} {pc : Nat} (a : UInt8) (h : DkAt code pc [18, a]) : decode code pc = .ok (.ldc a.toNat, 2) := dk_of ((dk_bind (dk_u1 (h 0 _ rfl))).trans ((dk_bind (dk_u1 (h 1 _ rfl))).trans rfl))
theorem dk_19 {code : ByteArray} {pc : Nat} (a b : UInt8) (h : DkAt code pc [19, a, b]) : decode code pc = .ok (.ldc_w (a.toNat * 256 + b.toNat), 3) := dk_of ((dk_bind (dk_u1 (h 0 _ rfl))).trans ((dk_bind (dk_u2 (h 1 _ rfl) (h 2 _ rfl))).trans rfl))
theorem dk_20 {code : ByteArray} {pc : Nat} (a b : UInt8) (h : DkAt code pc [20, a, b]) : decode code pc = .ok (.ldc2_w (a.toNat * 256 + b.toNat), 3) := dk_of ((dk_bind (dk_u1 (h 0 _ rfl))).trans ((dk_bind (dk_u2 (h 1 _ rfl) (h 2 _ rfl))).trans rfl))
theorem dk_21 {code : ByteArray} {pc : Nat} (a : UInt8) (h : DkAt code pc [21, a]) : decode code pc = .ok (.iload a.toNat, 2) := dk_of ((dk_bind (dk_u1 (h 0 _ rfl))).trans ((dk_bind (dk_u1 (h 1 _ rfl))).trans rfl))
theorem dk_25 {code : ByteArray} {pc : Nat} (a : UInt8) (h : DkAt code pc [25, a]) : decode code pc = .ok (.aload a.toNat, 2) := dk_of ((dk_bind (dk_u1 (h 0 _ rfl))).trans ((dk_bind (dk_u1 (h 1 _ rfl))).trans rfl))
theorem dk_26 {code : ByteArray} {pc : Nat} (h : DkAt code pc [26]) : decode code pc = .ok (.iload_n 0, 1) := dk_of ((dk_bind (dk_u1 (h 0 _ rfl))).trans rfl)
theorem dk_27 {code : ByteArray} {pc : Nat} (h : DkAt code pc [27]) : decode code pc = .ok (.iload_n 1, 1) := dk_of ((dk_bind (dk_u1 (h 0 _ rfl))).trans rfl)
theorem dk_28 {code : ByteArray} {pc : Nat} (h : DkAt code pc [28]) : decode code pc = .ok (.iload_n 2, 1) := dk_of ((dk_bind (dk_u1 (h 0 _ rfl))).trans rfl)
theorem dk_29 {code : ByteArray} {pc : Nat} (h : DkAt code pc [29]) : decode code pc = .ok (.iload_n 3, 1) := dk_of ((dk_bind (dk_u1 (h 0 _ rfl))).trans rfl)
theorem dk_30 {code : ByteArray} {pc : Nat} (h : DkAt code pc [30]) : decode code pc = .ok (.lload_n 0, 1) := dk_of ((dk_bind (dk_u1 (h 0 _ rfl))).trans rfl)
theorem dk_32 {code : ByteArray} {pc : Nat} (h : DkAt code pc [32]) : decode code pc = .ok (.lload_n 2, 1) := dk_of ((dk_bind (dk_u1 (h 0 _ rfl))).trans rfl)
theorem dk_42 {code : ByteArray} {pc : Nat} (h : DkAt code pc [42]) : decode code pc = .ok (.aload_n 0, 1) := dk_of ((dk_bind (dk_u1 (h 0 _ rfl))).trans rfl)
theorem dk_43 {code : ByteArray} {pc : Nat} (h : DkAt code pc [43]) : decode code pc = .ok (.aload_n 1, 1) := dk_of ((dk_bind (dk_u1 (h 0 _ rfl))).trans rfl)
theorem dk_44 {code : ByteArray} {pc : Nat} (h : DkAt code pc [44]) : decode code pc = .ok (.aload_n 2, 1) := dk_of ((dk_bind (dk_u1 (h 0 _ rfl))).trans rfl)
theorem dk_45 {code : ByteArray} {pc : Nat} (h : DkAt code pc [45]) : decode code pc = .ok (.aload_n 3, 1) := dk_of ((dk_bind (dk_u1 (h 0 _ rfl))).trans rfl)
theorem dk_46 {code : ByteArray} {pc : Nat} (h : DkAt code pc [46]) : decode code pc = .ok (.iaload, 1) := dk_of ((dk_bind (dk_u1 (h 0 _ rfl))).trans rfl)
theorem dk_51 {code : ByteArray} {pc : Nat} (h : DkAt code pc [51]) : decode code pc = .ok (.baload, 1) := dk_of ((dk_bind (dk_u1 (h 0 _ rfl))).trans rfl)
theorem dk_54 {code : ByteArray} {pc : Nat} (a : UInt8) (h : DkAt code pc [54, a]) : decode code pc = .ok (.istore a.toNat, 2) := dk_of ((dk_bind (dk_u1 (h 0 _ rfl))).trans ((dk_bind (dk_u1 (h 1 _ rfl))).trans rfl))
theorem dk_58 {code : ByteArray} {pc : Nat} (a : UInt8) (h : DkAt code pc [58, a]) : decode code pc = .ok (.astore a.toNat, 2) := dk_of ((dk_bind (dk_u1 (h 0 _ rfl))).trans ((dk_bind (dk_u1 (h 1 _ rfl))).trans rfl))
theorem dk_59 {code : ByteArray} {pc : Nat} (h : DkAt code pc [59]) : decode code pc = .ok (.istore_n 0, 1) := dk_of ((dk_bind (dk_u1 (h 0 _ rfl))).trans rfl)
theorem dk_60 {code : ByteArray} {pc : Nat} (h : DkAt code pc [60]) : decode code pc = .ok (.istore_n 1, 1) := dk_of ((dk_bind (dk_u1 (h 0 _ rfl))).trans rfl)
theorem dk_61 {code : ByteArray} {pc : Nat} (h : DkAt code pc [61]) : decode code pc = .ok (.istore_n 2, 1) := dk_of ((dk_bind (dk_u1 (h 0 _ rfl))).trans rfl)
theorem dk_62 {code : ByteArray} {pc : Nat} (h : DkAt code pc [62]) : decode code pc = .ok (.istore_n 3, 1) := dk_of ((dk_bind (dk_u1 (h 0 _ rfl))).trans rfl)
theorem dk_76 {code : ByteArray} {pc : Nat} (h : DkAt code pc [76]) : decode code pc = .ok (.astore_n 1, 1) := dk_of ((dk_bind (dk_u1 (h 0 _ rfl))).trans rfl)
theorem dk_77 {code : ByteArray} {pc : Nat} (h : DkAt code pc [77]) : decode code pc = .ok (.astore_n 2, 1) := dk_of ((dk_bind (dk_u1 (h 0 _ rfl))).trans rfl)
theorem dk_78 {code : ByteArray} {pc : Nat} (h : DkAt code pc [78]) : decode code pc = .ok (.astore_n 3, 1) := dk_of ((dk_bind (dk_u1 (h 0 _ rfl))).trans rfl)
theorem dk_79 {code : ByteArray} {pc : Nat} (h : DkAt code pc [79]) : decode code pc = .ok (.iastore, 1) := dk_of ((dk_bind (dk_u1 (h 0 _ rfl))).trans rfl)
theorem dk_84 {code : ByteArray} {pc : Nat} (h : DkAt code pc [84]) : decode code pc = .ok (.bastore, 1) := dk_of ((dk_bind (dk_u1 (h 0 _ rfl))).trans rfl)
theorem dk_87 {code : ByteArray} {pc : Nat} (h : DkAt code pc [87]) : decode code pc = .ok (.pop, 1) := dk_of ((dk_bind (dk_u1 (h 0 _ rfl))).trans rfl)
theorem dk_89 {code : ByteArray} {pc : Nat} (h : DkAt code pc [89]) : decode code pc = .ok (.dup, 1) := dk_of ((dk_bind (dk_u1 (h 0 _ rfl))).trans rfl)
theorem dk_90 {code : ByteArray} {pc : Nat} (h : DkAt code pc [90]) : decode code pc = .ok (.dup_x1, 1) := dk_of ((dk_bind (dk_u1 (h 0 _ rfl))).trans rfl)
theorem dk_91 {code : ByteArray} {pc : Nat} (h : DkAt code pc [91]) : decode code pc = .ok (.dup_x2, 1) := dk_of ((dk_bind (dk_u1 (h 0 _ rfl))).trans rfl)
theorem dk_96 {code : ByteArray} {pc : Nat} (h : DkAt code pc [96]) : decode code pc = .ok (.iadd, 1) := dk_of ((dk_bind (dk_u1 (h 0 _ rfl))).trans rfl)
theorem dk_97 {code : ByteArray} {pc : Nat} (h : DkAt code pc [97]) : decode code pc = .ok (.ladd, 1) := dk_of ((dk_bind (dk_u1 (h 0 _ rfl))).trans rfl)
theorem dk_100 {code : ByteArray} {pc : Nat} (h : DkAt code pc [100]) : decode code pc = .ok (.isub, 1) := dk_of ((dk_bind (dk_u1 (h 0 _ rfl))).trans rfl)
theorem dk_104 {code : ByteArray} {pc : Nat} (h : DkAt code pc [104]) : decode code pc = .ok (.imul, 1) := dk_of ((dk_bind (dk_u1 (h 0 _ rfl))).trans rfl)
theorem dk_108 {code : ByteArray} {pc : Nat} (h : DkAt code pc [108]) : decode code pc = .ok (.idiv, 1) := dk_of ((dk_bind (dk_u1 (h 0 _ rfl))).trans rfl)
theorem dk_116 {code : ByteArray} {pc : Nat} (h : DkAt code pc [116]) : decode code pc = .ok (.ineg, 1) := dk_of ((dk_bind (dk_u1 (h 0 _ rfl))).trans rfl)
theorem dk_120 {code : ByteArray} {pc : Nat} (h : DkAt code pc [120]) : decode code pc = .ok (.ishl, 1) := dk_of ((dk_bind (dk_u1 (h 0 _ rfl))).trans rfl)
theorem dk_122 {code : ByteArray} {pc : Nat} (h : DkAt code pc [122]) : decode code pc = .ok (.ishr, 1) := dk_of ((dk_bind (dk_u1 (h 0 _ rfl))).trans rfl)
theorem dk_124 {code : ByteArray} {pc : Nat} (h : DkAt code pc [124]) : decode code pc = .ok (.iushr, 1) := dk_of ((dk_bind (dk_u1 (h 0 _ rfl))).trans rfl)
theorem dk_126 {code : ByteArray} {pc : Nat} (h : DkAt code pc [126]) : decode code pc = .ok (.iand, 1) := dk_of ((dk_bind (dk_u1 (h 0 _ rfl))).trans rfl)
theorem dk_128 {code : ByteArray} {pc : Nat} (h : DkAt code pc [128]) : decode code pc = .ok (.ior, 1) := dk_of ((dk_bind (dk_u1 (h 0 _ rfl))).trans rfl)
theorem dk_132 {code : ByteArray} {pc : Nat} (a b : UInt8) (h : DkAt code pc [132, a, b]) : decode code pc = .ok (.iinc a.toNat (Reader.signed 8 b.toNat), 3) := dk_of ((dk_bind (dk_u1 (h 0 _ rfl))).trans ((dk_bind (dk_u1 (h 1 _ rfl))).trans ((dk_bind (dk_map (dk_u1 (h 2 _ rfl)))).trans rfl)))
theorem dk_133 {code : ByteArray} {pc : Nat} (h : DkAt code pc [133]) : decode code pc = .ok (.i2l, 1) := dk_of ((dk_bind (dk_u1 (h 0 _ rfl))).trans rfl)
theorem dk_136 {code : ByteArray} {pc : Nat} (h : DkAt code pc [136]) : decode code pc = .ok (.l2i, 1) := dk_of ((dk_bind (dk_u1 (h 0 _ rfl))).trans rfl)
theorem dk_145 {code : ByteArray} {pc : Nat} (h : DkAt code pc [145]) : decode code pc = .ok (.i2b, 1) := dk_of ((dk_bind (dk_u1 (h 0 _ rfl))).trans rfl)
theorem dk_146 {code : ByteArray} {pc : Nat} (h : DkAt code pc [146]) : decode code pc = .ok (.i2c, 1) := dk_of ((dk_bind (dk_u1 (h 0 _ rfl))).trans rfl)
theorem dk_148 {code : ByteArray} {pc : Nat} (h : DkAt code pc [148]) : decode code pc = .ok (.lcmp, 1) := dk_of ((dk_bind (dk_u1 (h 0 _ rfl))).trans rfl)
theorem dk_153 {code : ByteArray} {pc : Nat} (a b : UInt8) (h : DkAt code pc [153, a, b]) : decode code pc = .ok (.ifCond .eq (Reader.signed 16 (a.toNat * 256 + b.toNat)), 3) := dk_of ((dk_bind (dk_u1 (h 0 _ rfl))).trans ((dk_bind (dk_map (dk_u2 (h 1 _ rfl) (h 2 _ rfl)))).trans rfl))
theorem dk_154 {code : ByteArray} {pc : Nat} (a b : UInt8) (h : DkAt code pc [154, a, b]) : decode code pc = .ok (.ifCond .ne (Reader.signed 16 (a.toNat * 256 + b.toNat)), 3) := dk_of ((dk_bind (dk_u1 (h 0 _ rfl))).trans ((dk_bind (dk_map (dk_u2 (h 1 _ rfl) (h 2 _ rfl)))).trans rfl))
theorem dk_155 {code : ByteArray} {pc : Nat} (a b : UInt8) (h : DkAt code pc [155, a, b]) : decode code pc = .ok (.ifCond .lt (Reader.signed 16 (a.toNat * 256 + b.toNat)), 3) := dk_of ((dk_bind (dk_u1 (h 0 _ rfl))).trans ((dk_bind (dk_map (dk_u2 (h 1 _ rfl) (h 2 _ rfl)))).trans rfl))
theorem dk_156 {code : ByteArray} {pc : Nat} (a b : UInt8) (h : DkAt code pc [156, a, b]) : decode code pc = .ok (.ifCond .ge (Reader.signed 16 (a.toNat * 256 + b.toNat)), 3) := dk_of ((dk_bind (dk_u1 (h 0 _ rfl))).trans ((dk_bind (dk_map (dk_u2 (h 1 _ rfl) (h 2 _ rfl)))).trans rfl))
theorem dk_157 {code : ByteArray} {pc : Nat} (a b : UInt8) (h : DkAt code pc [157, a, b]) : decode code pc = .ok (.ifCond .gt (Reader.signed 16 (a.toNat * 256 + b.toNat)), 3) := dk_of ((dk_bind (dk_u1 (h 0 _ rfl))).trans ((dk_bind (dk_map (dk_u2 (h 1 _ rfl) (h 2 _ rfl)))).trans rfl))
theorem dk_158 {code : ByteArray} {pc : Nat} (a b : UInt8) (h : DkAt code pc [158, a, b]) : decode code pc = .ok (.ifCond .le (Reader.signed 16 (a.toNat * 256 + b.toNat)), 3) := dk_of ((dk_bind (dk_u1 (h 0 _ rfl))).trans ((dk_bind (dk_map (dk_u2 (h 1 _ rfl) (h 2 _ rfl)))).trans rfl))
theorem dk_159 {code : ByteArray} {pc : Nat} (a b : UInt8) (h : DkAt code pc [159, a, b]) : decode code pc = .ok (.if_icmp .eq (Reader.signed 16 (a.toNat * 256 + b.toNat)), 3) := dk_of ((dk_bind (dk_u1 (h 0 _ rfl))).trans ((dk_bind (dk_map (dk_u2 (h 1 _ rfl) (h 2 _ rfl)))).trans rfl))
theorem dk_160 {code : ByteArray} {pc : Nat} (a b : UInt8) (h : DkAt code pc [160, a, b]) : decode code pc = .ok (.if_icmp .ne (Reader.signed 16 (a.toNat * 256 + b.toNat)), 3) := dk_of ((dk_bind (dk_u1 (h 0 _ rfl))).trans ((dk_bind (dk_map (dk_u2 (h 1 _ rfl) (h 2 _ rfl)))).trans rfl))
theorem dk_161 {code : ByteArray} {pc : Nat} (a b : UInt8) (h : DkAt code pc [161, a, b]) : decode code pc = .ok (.if_icmp .lt (Reader.signed 16 (a.toNat * 256 + b.toNat)), 3) := dk_of ((dk_bind (dk_u1 (h 0 _ rfl))).trans ((dk_bind (dk_map (dk_u2 (h 1 _ rfl) (h 2 _ rfl)))).trans rfl))
theorem dk_162 {code : ByteArray} {pc : Nat} (a b : UInt8) (h : DkAt code pc [162, a, b]) : decode code pc = .ok (.if_icmp .ge (Reader.signed 16 (a.toNat * 256 + b.toNat)), 3) := dk_of ((dk_bind (dk_u1 (h 0 _ rfl))).trans ((dk_bind (dk_map (dk_u2 (h 1 _ rfl) (h 2 _ rfl)))).trans rfl))
theorem dk_163 {code : ByteArray} {pc : Nat} (a b : UInt8) (h : DkAt code pc [163, a, b]) : decode code pc = .ok (.if_icmp .gt (Reader.signed 16 (a.toNat * 256 + b.toNat)), 3) := dk_of ((dk_bind (dk_u1 (h 0 _ rfl))).trans ((dk_bind (dk_map (dk_u2 (h 1 _ rfl) (h 2 _ rfl)))).trans rfl))
theorem dk_164 {code : ByteArray} {pc : Nat} (a b : UInt8) (h : DkAt code pc [164, a, b]) : decode code pc = .ok (.if_icmp .le (Reader.signed 16 (a.toNat * 256 + b.toNat)), 3) := dk_of ((dk_bind (dk_u1 (h 0 _ rfl))).trans ((dk_bind (dk_map (dk_u2 (h 1 _ rfl) (h 2 _ rfl)))).trans rfl))
theorem dk_167 {code : ByteArray} {pc : Nat} (a b : UInt8) (h : DkAt code pc [167, a, b]) : decode code pc = .ok (.goto (Reader.signed 16 (a.toNat * 256 + b.toNat)), 3) := dk_of ((dk_bind (dk_u1 (h 0 _ rfl))).trans ((dk_bind (dk_map (dk_u2 (h 1 _ rfl) (h 2 _ rfl)))).trans rfl))
theorem dk_172 {code : ByteArray} {pc : Nat} (h : DkAt code pc [172]) : decode code pc = .ok (.ireturn, 1) := dk_of ((dk_bind (dk_u1 (h 0 _ rfl))).trans rfl)
theorem dk_173 {code : ByteArray} {pc : Nat} (h : DkAt code pc [173]) : decode code pc = .ok (.lreturn, 1) := dk_of ((dk_bind (dk_u1 (h 0 _ rfl))).trans rfl)
theorem dk_176 {code : ByteArray} {pc : Nat} (h : DkAt code pc [176]) : decode code pc = .ok (.areturn, 1) := dk_of ((dk_bind (dk_u1 (h 0 _ rfl))).trans rfl)
theorem dk_177 {code : ByteArray} {pc : Nat} (h : DkAt code pc [177]) : decode code pc = .ok (.return_, 1) := dk_of ((dk_bind (dk_u1 (h 0 _ rfl))).trans rfl)
theorem dk_178 {code : ByteArray} {pc : Nat} (a b : UInt8) (h : DkAt code pc [178, a, b]) : decode code pc = .ok (.getstatic (a.toNat * 256 + b.toNat), 3) := dk_of ((dk_bind (dk_u1 (h 0 _ rfl))).trans ((dk_bind (dk_u2 (h 1 _ rfl) (h 2 _ rfl))).trans rfl))
theorem dk_180 {code : ByteArray} {pc : Nat} (a b : UInt8) (h : DkAt code pc [180, a, b]) : decode code pc = .ok (.getfield (a.toNat * 256 + b.toNat), 3) := dk_of ((dk_bind (dk_u1 (h 0 _ rfl))).trans ((dk_bind (dk_u2 (h 1 _ rfl) (h 2 _ rfl))).trans rfl))
theorem dk_181 {code : ByteArray} {pc : Nat} (a b : UInt8) (h : DkAt code pc [181, a, b]) : decode code pc = .ok (.putfield (a.toNat * 256 + b.toNat), 3) := dk_of ((dk_bind (dk_u1 (h 0 _ rfl))).trans ((dk_bind (dk_u2 (h 1 _ rfl) (h 2 _ rfl))).trans rfl))
theorem dk_182 {code : ByteArray} {pc : Nat} (a b : UInt8) (h : DkAt code pc [182, a, b]) : decode code pc = .ok (.invokevirtual (a.toNat * 256 + b.toNat), 3) := dk_of ((dk_bind (dk_u1 (h 0 _ rfl))).trans ((dk_bind (dk_u2 (h 1 _ rfl) (h 2 _ rfl))).trans rfl))
theorem dk_183 {code : ByteArray} {pc : Nat} (a b : UInt8) (h : DkAt code pc [183, a, b]) : decode code pc = .ok (.invokespecial (a.toNat * 256 + b.toNat), 3) := dk_of ((dk_bind (dk_u1 (h 0 _ rfl))).trans ((dk_bind (dk_u2 (h 1 _ rfl) (h 2 _ rfl))).trans rfl))
theorem dk_184 {code : ByteArray} {pc : Nat} (a b : UInt8) (h : DkAt code pc [184, a, b]) : decode code pc = .ok (.invokestatic (a.toNat * 256 + b.toNat), 3) := dk_of ((dk_bind (dk_u1 (h 0 _ rfl))).trans ((dk_bind (dk_u2 (h 1 _ rfl) (h 2 _ rfl))).trans rfl))
theorem dk_187 {code : ByteArray} {pc : Nat} (a b : UInt8) (h : DkAt code pc [187, a, b]) : decode code pc = .ok (.new (a.toNat * 256 + b.toNat), 3) := dk_of ((dk_bind (dk_u1 (h 0 _ rfl))).trans ((dk_bind (dk_u2 (h 1 _ rfl) (h 2 _ rfl))).trans rfl))
theorem dk_188_4 {code : ByteArray} {pc : Nat} (h : DkAt code pc [188, 4]) : decode code pc = .ok (.newarray .boolean, 2) := dk_of ((dk_bind (dk_u1 (h 0 _ rfl))).trans ((dk_bind (dk_u1 (h 1 _ rfl))).trans rfl))
theorem dk_188_8 {code : ByteArray} {pc : Nat} (h : DkAt code pc [188, 8]) : decode code pc = .ok (.newarray .byte, 2) := dk_of ((dk_bind (dk_u1 (h 0 _ rfl))).trans ((dk_bind (dk_u1 (h 1 _ rfl))).trans rfl))
theorem dk_188_10 {code : ByteArray} {pc : Nat} (h : DkAt code pc [188, 10]) : decode code pc = .ok (.newarray .int, 2) := dk_of ((dk_bind (dk_u1 (h 0 _ rfl))).trans ((dk_bind (dk_u1 (h 1 _ rfl))).trans rfl))
theorem dk_190 {code : ByteArray} {pc : Nat} (h : DkAt code pc [190]) : decode code pc = .ok (.arraylength, 1) := dk_of ((dk_bind (dk_u1 (h 0 _ rfl))).trans rfl)
theorem dk_191 {code : ByteArray} {pc : Nat} (h : DkAt code pc [191]) : decode code pc = .ok (.athrow, 1) := dk_of ((dk_bind (dk_u1 (h 0 _ rfl))).trans rfl)
theorem dk_192 {code : ByteArray} {pc : Nat} (a b : UInt8) (h : DkAt code pc [192, a, b]) : decode code pc = .ok (.checkcast (a.toNat * 256 + b.toNat), 3) := dk_of ((dk_bind (dk_u1 (h 0 _ rfl))).trans ((dk_bind (dk_u2 (h 1 _ rfl) (h 2 _ rfl))).trans rfl))
theorem dk_199 {code : ByteArray} {pc : Nat} (a b : UInt8) (h : DkAt code pc [199, a, b]) : decode code pc = .ok (.ifnonnull (Reader.signed 16 (a.toNat * 256 + b.toNat)), 3) := dk_of ((dk_bind (dk_u1 (h 0 _ rfl))).trans ((dk_bind (dk_map (dk_u2 (h 1 _ rfl) (h 2 _ rfl)))).trans rfl))
/-! IndirectHeap -/
set_option maxRecDepth 100000
def RX0 : String := "IndirectHeap"
def TX0 : u_T := fun k => match k with
  | 0 => ("IndirectHeap", "value", "[I", true)
  | _ => ("IndirectHeap", "heap", "LIntHeapIndirectPriorityQueue;", true)
def tyX0 : Nat → FieldType := fun k => match k with
  | 0 => .array .int
  | _ => .object "IntHeapIndirectPriorityQueue"
abbrev wsX00 : List Cond := u_ws RX0 TX0 2
theorem nmX0 : ∀ a, a < 2 → ∀ b, b < 2 → a ≠ b → (TX0 a).2.1 ≠ (TX0 b).2.1 := by decide +kernel
theorem tyX0_ok : ∀ k, k < 2 → parseFieldDescriptor (TX0 k).2.2.1 = some (tyX0 k) := by decide +kernel
abbrev cX0_init : ByteArray := prog_1_method_1_code
def yX0_init : MethodName := ⟨RX0, "<init>", "()V"⟩
def dkwX0_init_2 : List UInt8 := [177]
abbrev dktX0_init_2 : List UInt8 := dkwX0_init_2 ++ []
def dkwX0_init_1 : List UInt8 := [27, 27, 79, 132, 1, 1, 167, 255, 240, 42, 187, 0, 13, 89, 42, 180, 0, 7, 183, 0, 15, 181, 0, 18]
abbrev dktX0_init_1 : List UInt8 := dkwX0_init_1 ++ dktX0_init_2
def dkwX0_init_0 : List UInt8 := [42, 183, 0, 1, 42, 16, 64, 188, 10, 181, 0, 7, 3, 60, 27, 16, 64, 162, 0, 16, 42, 180, 0, 7]
abbrev dktX0_init_0 : List UInt8 := dkwX0_init_0 ++ dktX0_init_1
theorem dksX0_init_0 : cX0_init.data.toList.drop 0 = dktX0_init_0 := by decide +kernel
theorem dksX0_init_1 : cX0_init.data.toList.drop 24 = dktX0_init_1 := dk_seg dksX0_init_0 24 rfl rfl
theorem dksX0_init_2 : cX0_init.data.toList.drop 48 = dktX0_init_2 := dk_seg dksX0_init_1 24 rfl rfl
theorem dX0_init_0 : decode cX0_init 0 = .ok (.aload_n 0, 1) := dk_42 (dk_at dksX0_init_0 0 rfl rfl)
theorem dX0_init_1 : decode cX0_init 1 = .ok (.invokespecial 1, 3) := dk_183 0 1 (dk_at dksX0_init_0 1 rfl rfl)
theorem dX0_init_4 : decode cX0_init 4 = .ok (.aload_n 0, 1) := dk_42 (dk_at dksX0_init_0 4 rfl rfl)
theorem dX0_init_5 : decode cX0_init 5 = .ok (.bipush 64, 2) := dk_16 64 (dk_at dksX0_init_0 5 rfl rfl)
theorem dX0_init_7 : decode cX0_init 7 = .ok (.newarray .int, 2) := dk_188_10 (dk_at dksX0_init_0 7 rfl rfl)
theorem dX0_init_9 : decode cX0_init 9 = .ok (.putfield 7, 3) := dk_181 0 7 (dk_at dksX0_init_0 9 rfl rfl)
theorem dX0_init_12 : decode cX0_init 12 = .ok (.iconst 0, 1) := dk_3 (dk_at dksX0_init_0 12 rfl rfl)
theorem dX0_init_13 : decode cX0_init 13 = .ok (.istore_n 1, 1) := dk_60 (dk_at dksX0_init_0 13 rfl rfl)
theorem dX0_init_14 : decode cX0_init 14 = .ok (.iload_n 1, 1) := dk_27 (dk_at dksX0_init_0 14 rfl rfl)
theorem dX0_init_15 : decode cX0_init 15 = .ok (.bipush 64, 2) := dk_16 64 (dk_at dksX0_init_0 15 rfl rfl)
theorem dX0_init_17 : decode cX0_init 17 = .ok (.if_icmp .ge 16, 3) := dk_162 0 16 (dk_at dksX0_init_0 17 rfl rfl)
theorem dX0_init_20 : decode cX0_init 20 = .ok (.aload_n 0, 1) := dk_42 (dk_at dksX0_init_0 20 rfl rfl)
theorem dX0_init_21 : decode cX0_init 21 = .ok (.getfield 7, 3) := dk_180 0 7 (dk_at dksX0_init_0 21 rfl rfl)
theorem dX0_init_24 : decode cX0_init 24 = .ok (.iload_n 1, 1) := dk_27 (dk_at dksX0_init_1 0 rfl rfl)
theorem dX0_init_25 : decode cX0_init 25 = .ok (.iload_n 1, 1) := dk_27 (dk_at dksX0_init_1 1 rfl rfl)
theorem dX0_init_26 : decode cX0_init 26 = .ok (.iastore, 1) := dk_79 (dk_at dksX0_init_1 2 rfl rfl)
theorem dX0_init_27 : decode cX0_init 27 = .ok (.iinc 1 1, 3) := dk_132 1 1 (dk_at dksX0_init_1 3 rfl rfl)
theorem dX0_init_30 : decode cX0_init 30 = .ok (.goto (-16), 3) := dk_167 255 240 (dk_at dksX0_init_1 6 rfl rfl)
theorem dX0_init_33 : decode cX0_init 33 = .ok (.aload_n 0, 1) := dk_42 (dk_at dksX0_init_1 9 rfl rfl)
theorem dX0_init_34 : decode cX0_init 34 = .ok (.new 13, 3) := dk_187 0 13 (dk_at dksX0_init_1 10 rfl rfl)
theorem dX0_init_37 : decode cX0_init 37 = .ok (.dup, 1) := dk_89 (dk_at dksX0_init_1 13 rfl rfl)
theorem dX0_init_38 : decode cX0_init 38 = .ok (.aload_n 0, 1) := dk_42 (dk_at dksX0_init_1 14 rfl rfl)
theorem dX0_init_39 : decode cX0_init 39 = .ok (.getfield 7, 3) := dk_180 0 7 (dk_at dksX0_init_1 15 rfl rfl)
theorem dX0_init_42 : decode cX0_init 42 = .ok (.invokespecial 15, 3) := dk_183 0 15 (dk_at dksX0_init_1 18 rfl rfl)
theorem dX0_init_45 : decode cX0_init 45 = .ok (.putfield 18, 3) := dk_181 0 18 (dk_at dksX0_init_1 21 rfl rfl)
theorem dX0_init_48 : decode cX0_init 48 = .ok (.return_, 1) := dk_177 (dk_at dksX0_init_2 0 rfl rfl)
abbrev cX0_change : ByteArray := prog_1_method_2_code
def yX0_change : MethodName := ⟨RX0, "change", "(II)V"⟩
def dkwX0_change_1 : List UInt8 := [182, 0, 22, 153, 0, 11, 42, 180, 0, 18, 29, 182, 0, 26, 177]
abbrev dktX0_change_1 : List UInt8 := dkwX0_change_1 ++ []
def dkwX0_change_0 : List UInt8 := [27, 16, 63, 126, 62, 42, 180, 0, 7, 29, 28, 16, 192, 126, 29, 128, 79, 42, 180, 0, 18, 29]
abbrev dktX0_change_0 : List UInt8 := dkwX0_change_0 ++ dktX0_change_1
theorem dksX0_change_0 : cX0_change.data.toList.drop 0 = dktX0_change_0 := by decide +kernel
theorem dksX0_change_1 : cX0_change.data.toList.drop 22 = dktX0_change_1 := dk_seg dksX0_change_0 22 rfl rfl
theorem dX0_change_0 : decode cX0_change 0 = .ok (.iload_n 1, 1) := dk_27 (dk_at dksX0_change_0 0 rfl rfl)
theorem dX0_change_1 : decode cX0_change 1 = .ok (.bipush 63, 2) := dk_16 63 (dk_at dksX0_change_0 1 rfl rfl)
theorem dX0_change_3 : decode cX0_change 3 = .ok (.iand, 1) := dk_126 (dk_at dksX0_change_0 3 rfl rfl)
theorem dX0_change_4 : decode cX0_change 4 = .ok (.istore_n 3, 1) := dk_62 (dk_at dksX0_change_0 4 rfl rfl)
theorem dX0_change_5 : decode cX0_change 5 = .ok (.aload_n 0, 1) := dk_42 (dk_at dksX0_change_0 5 rfl rfl)
theorem dX0_change_6 : decode cX0_change 6 = .ok (.getfield 7, 3) := dk_180 0 7 (dk_at dksX0_change_0 6 rfl rfl)
theorem dX0_change_9 : decode cX0_change 9 = .ok (.iload_n 3, 1) := dk_29 (dk_at dksX0_change_0 9 rfl rfl)
theorem dX0_change_10 : decode cX0_change 10 = .ok (.iload_n 2, 1) := dk_28 (dk_at dksX0_change_0 10 rfl rfl)
theorem dX0_change_11 : decode cX0_change 11 = .ok (.bipush (-64), 2) := dk_16 192 (dk_at dksX0_change_0 11 rfl rfl)
theorem dX0_change_13 : decode cX0_change 13 = .ok (.iand, 1) := dk_126 (dk_at dksX0_change_0 13 rfl rfl)
theorem dX0_change_14 : decode cX0_change 14 = .ok (.iload_n 3, 1) := dk_29 (dk_at dksX0_change_0 14 rfl rfl)
theorem dX0_change_15 : decode cX0_change 15 = .ok (.ior, 1) := dk_128 (dk_at dksX0_change_0 15 rfl rfl)
theorem dX0_change_16 : decode cX0_change 16 = .ok (.iastore, 1) := dk_79 (dk_at dksX0_change_0 16 rfl rfl)
theorem dX0_change_17 : decode cX0_change 17 = .ok (.aload_n 0, 1) := dk_42 (dk_at dksX0_change_0 17 rfl rfl)
theorem dX0_change_18 : decode cX0_change 18 = .ok (.getfield 18, 3) := dk_180 0 18 (dk_at dksX0_change_0 18 rfl rfl)
theorem dX0_change_21 : decode cX0_change 21 = .ok (.iload_n 3, 1) := dk_29 (dk_at dksX0_change_0 21 rfl rfl)
theorem dX0_change_22 : decode cX0_change 22 = .ok (.invokevirtual 22, 3) := dk_182 0 22 (dk_at dksX0_change_1 0 rfl rfl)
theorem dX0_change_25 : decode cX0_change 25 = .ok (.ifCond .eq 11, 3) := dk_153 0 11 (dk_at dksX0_change_1 3 rfl rfl)
theorem dX0_change_28 : decode cX0_change 28 = .ok (.aload_n 0, 1) := dk_42 (dk_at dksX0_change_1 6 rfl rfl)
theorem dX0_change_29 : decode cX0_change 29 = .ok (.getfield 18, 3) := dk_180 0 18 (dk_at dksX0_change_1 7 rfl rfl)
theorem dX0_change_32 : decode cX0_change 32 = .ok (.iload_n 3, 1) := dk_29 (dk_at dksX0_change_1 10 rfl rfl)
theorem dX0_change_33 : decode cX0_change 33 = .ok (.invokevirtual 26, 3) := dk_182 0 26 (dk_at dksX0_change_1 11 rfl rfl)
theorem dX0_change_36 : decode cX0_change 36 = .ok (.return_, 1) := dk_177 (dk_at dksX0_change_1 14 rfl rfl)
abbrev cX0_enter : ByteArray := prog_1_method_3_code
def yX0_enter : MethodName := ⟨RX0, "enter", "(I)Z"⟩
def dkwX0_enter_1 : List UInt8 := [182, 0, 30, 4, 172]
abbrev dktX0_enter_1 : List UInt8 := dkwX0_enter_1 ++ []
def dkwX0_enter_0 : List UInt8 := [27, 16, 63, 126, 61, 42, 180, 0, 18, 28, 182, 0, 22, 153, 0, 5, 3, 172, 42, 180, 0, 18, 28]
abbrev dktX0_enter_0 : List UInt8 := dkwX0_enter_0 ++ dktX0_enter_1
theorem dksX0_enter_0 : cX0_enter.data.toList.drop 0 = dktX0_enter_0 := by decide +kernel
theorem dksX0_enter_1 : cX0_enter.data.toList.drop 23 = dktX0_enter_1 := dk_seg dksX0_enter_0 23 rfl rfl
theorem dX0_enter_0 : decode cX0_enter 0 = .ok (.iload_n 1, 1) := dk_27 (dk_at dksX0_enter_0 0 rfl rfl)
theorem dX0_enter_1 : decode cX0_enter 1 = .ok (.bipush 63, 2) := dk_16 63 (dk_at dksX0_enter_0 1 rfl rfl)
theorem dX0_enter_3 : decode cX0_enter 3 = .ok (.iand, 1) := dk_126 (dk_at dksX0_enter_0 3 rfl rfl)
theorem dX0_enter_4 : decode cX0_enter 4 = .ok (.istore_n 2, 1) := dk_61 (dk_at dksX0_enter_0 4 rfl rfl)
theorem dX0_enter_5 : decode cX0_enter 5 = .ok (.aload_n 0, 1) := dk_42 (dk_at dksX0_enter_0 5 rfl rfl)
theorem dX0_enter_6 : decode cX0_enter 6 = .ok (.getfield 18, 3) := dk_180 0 18 (dk_at dksX0_enter_0 6 rfl rfl)
theorem dX0_enter_9 : decode cX0_enter 9 = .ok (.iload_n 2, 1) := dk_28 (dk_at dksX0_enter_0 9 rfl rfl)
theorem dX0_enter_10 : decode cX0_enter 10 = .ok (.invokevirtual 22, 3) := dk_182 0 22 (dk_at dksX0_enter_0 10 rfl rfl)
theorem dX0_enter_13 : decode cX0_enter 13 = .ok (.ifCond .eq 5, 3) := dk_153 0 5 (dk_at dksX0_enter_0 13 rfl rfl)
theorem dX0_enter_16 : decode cX0_enter 16 = .ok (.iconst 0, 1) := dk_3 (dk_at dksX0_enter_0 16 rfl rfl)
theorem dX0_enter_17 : decode cX0_enter 17 = .ok (.ireturn, 1) := dk_172 (dk_at dksX0_enter_0 17 rfl rfl)
theorem dX0_enter_18 : decode cX0_enter 18 = .ok (.aload_n 0, 1) := dk_42 (dk_at dksX0_enter_0 18 rfl rfl)
theorem dX0_enter_19 : decode cX0_enter 19 = .ok (.getfield 18, 3) := dk_180 0 18 (dk_at dksX0_enter_0 19 rfl rfl)
theorem dX0_enter_22 : decode cX0_enter 22 = .ok (.iload_n 2, 1) := dk_28 (dk_at dksX0_enter_0 22 rfl rfl)
theorem dX0_enter_23 : decode cX0_enter 23 = .ok (.invokevirtual 30, 3) := dk_182 0 30 (dk_at dksX0_enter_1 0 rfl rfl)
theorem dX0_enter_26 : decode cX0_enter 26 = .ok (.iconst 1, 1) := dk_4 (dk_at dksX0_enter_1 3 rfl rfl)
theorem dX0_enter_27 : decode cX0_enter 27 = .ok (.ireturn, 1) := dk_172 (dk_at dksX0_enter_1 4 rfl rfl)
abbrev cX0_leave : ByteArray := prog_1_method_4_code
def yX0_leave : MethodName := ⟨RX0, "leave", "(I)Z"⟩
def dkwX0_leave_0 : List UInt8 := [42, 180, 0, 18, 27, 16, 63, 126, 182, 0, 33, 172]
abbrev dktX0_leave_0 : List UInt8 := dkwX0_leave_0 ++ []
theorem dksX0_leave_0 : cX0_leave.data.toList.drop 0 = dktX0_leave_0 := by decide +kernel
theorem dX0_leave_0 : decode cX0_leave 0 = .ok (.aload_n 0, 1) := dk_42 (dk_at dksX0_leave_0 0 rfl rfl)
theorem dX0_leave_1 : decode cX0_leave 1 = .ok (.getfield 18, 3) := dk_180 0 18 (dk_at dksX0_leave_0 1 rfl rfl)
theorem dX0_leave_4 : decode cX0_leave 4 = .ok (.iload_n 1, 1) := dk_27 (dk_at dksX0_leave_0 4 rfl rfl)
theorem dX0_leave_5 : decode cX0_leave 5 = .ok (.bipush 63, 2) := dk_16 63 (dk_at dksX0_leave_0 5 rfl rfl)
theorem dX0_leave_7 : decode cX0_leave 7 = .ok (.iand, 1) := dk_126 (dk_at dksX0_leave_0 7 rfl rfl)
theorem dX0_leave_8 : decode cX0_leave 8 = .ok (.invokevirtual 33, 3) := dk_182 0 33 (dk_at dksX0_leave_0 8 rfl rfl)
theorem dX0_leave_11 : decode cX0_leave 11 = .ok (.ireturn, 1) := dk_172 (dk_at dksX0_leave_0 11 rfl rfl)
abbrev cX0_least : ByteArray := prog_1_method_5_code
def yX0_least : MethodName := ⟨RX0, "least", "()I"⟩
def dkwX0_least_0 : List UInt8 := [42, 180, 0, 18, 182, 0, 36, 154, 0, 7, 2, 167, 0, 10, 42, 180, 0, 18, 182, 0, 40, 172]
abbrev dktX0_least_0 : List UInt8 := dkwX0_least_0 ++ []
theorem dksX0_least_0 : cX0_least.data.toList.drop 0 = dktX0_least_0 := by decide +kernel
theorem dX0_least_0 : decode cX0_least 0 = .ok (.aload_n 0, 1) := dk_42 (dk_at dksX0_least_0 0 rfl rfl)
theorem dX0_least_1 : decode cX0_least 1 = .ok (.getfield 18, 3) := dk_180 0 18 (dk_at dksX0_least_0 1 rfl rfl)
theorem dX0_least_4 : decode cX0_least 4 = .ok (.invokevirtual 36, 3) := dk_182 0 36 (dk_at dksX0_least_0 4 rfl rfl)
theorem dX0_least_7 : decode cX0_least 7 = .ok (.ifCond .ne 7, 3) := dk_154 0 7 (dk_at dksX0_least_0 7 rfl rfl)
theorem dX0_least_10 : decode cX0_least 10 = .ok (.iconst (-1), 1) := dk_2 (dk_at dksX0_least_0 10 rfl rfl)
theorem dX0_least_11 : decode cX0_least 11 = .ok (.goto 10, 3) := dk_167 0 10 (dk_at dksX0_least_0 11 rfl rfl)
theorem dX0_least_14 : decode cX0_least 14 = .ok (.aload_n 0, 1) := dk_42 (dk_at dksX0_least_0 14 rfl rfl)
theorem dX0_least_15 : decode cX0_least 15 = .ok (.getfield 18, 3) := dk_180 0 18 (dk_at dksX0_least_0 15 rfl rfl)
theorem dX0_least_18 : decode cX0_least 18 = .ok (.invokevirtual 40, 3) := dk_182 0 40 (dk_at dksX0_least_0 18 rfl rfl)
theorem dX0_least_21 : decode cX0_least 21 = .ok (.ireturn, 1) := dk_172 (dk_at dksX0_least_0 21 rfl rfl)
abbrev cX0_take : ByteArray := prog_1_method_6_code
def yX0_take : MethodName := ⟨RX0, "take", "()I"⟩
def dkwX0_take_0 : List UInt8 := [42, 180, 0, 18, 182, 0, 36, 154, 0, 7, 2, 167, 0, 10, 42, 180, 0, 18, 182, 0, 43, 172]
abbrev dktX0_take_0 : List UInt8 := dkwX0_take_0 ++ []
theorem dksX0_take_0 : cX0_take.data.toList.drop 0 = dktX0_take_0 := by decide +kernel
theorem dX0_take_0 : decode cX0_take 0 = .ok (.aload_n 0, 1) := dk_42 (dk_at dksX0_take_0 0 rfl rfl)
theorem dX0_take_1 : decode cX0_take 1 = .ok (.getfield 18, 3) := dk_180 0 18 (dk_at dksX0_take_0 1 rfl rfl)
theorem dX0_take_4 : decode cX0_take 4 = .ok (.invokevirtual 36, 3) := dk_182 0 36 (dk_at dksX0_take_0 4 rfl rfl)
theorem dX0_take_7 : decode cX0_take 7 = .ok (.ifCond .ne 7, 3) := dk_154 0 7 (dk_at dksX0_take_0 7 rfl rfl)
theorem dX0_take_10 : decode cX0_take 10 = .ok (.iconst (-1), 1) := dk_2 (dk_at dksX0_take_0 10 rfl rfl)
theorem dX0_take_11 : decode cX0_take 11 = .ok (.goto 10, 3) := dk_167 0 10 (dk_at dksX0_take_0 11 rfl rfl)
theorem dX0_take_14 : decode cX0_take 14 = .ok (.aload_n 0, 1) := dk_42 (dk_at dksX0_take_0 14 rfl rfl)
theorem dX0_take_15 : decode cX0_take 15 = .ok (.getfield 18, 3) := dk_180 0 18 (dk_at dksX0_take_0 15 rfl rfl)
theorem dX0_take_18 : decode cX0_take 18 = .ok (.invokevirtual 43, 3) := dk_182 0 43 (dk_at dksX0_take_0 18 rfl rfl)
theorem dX0_take_21 : decode cX0_take 21 = .ok (.ireturn, 1) := dk_172 (dk_at dksX0_take_0 21 rfl rfl)
abbrev cX0_headChanged : ByteArray := prog_1_method_7_code
def yX0_headChanged : MethodName := ⟨RX0, "headChanged", "(I)Z"⟩
def dkwX0_headChanged_1 : List UInt8 := [28, 27, 16, 192, 126, 28, 128, 79, 42, 180, 0, 18, 182, 0, 46, 4, 172]
abbrev dktX0_headChanged_1 : List UInt8 := dkwX0_headChanged_1 ++ []
def dkwX0_headChanged_0 : List UInt8 := [42, 180, 0, 18, 182, 0, 36, 154, 0, 5, 3, 172, 42, 180, 0, 18, 182, 0, 40, 61, 42, 180, 0, 7]
abbrev dktX0_headChanged_0 : List UInt8 := dkwX0_headChanged_0 ++ dktX0_headChanged_1
theorem dksX0_headChanged_0 : cX0_headChanged.data.toList.drop 0 = dktX0_headChanged_0 := by decide +kernel
theorem dksX0_headChanged_1 : cX0_headChanged.data.toList.drop 24 = dktX0_headChanged_1 := dk_seg dksX0_headChanged_0 24 rfl rfl
theorem dX0_headChanged_0 : decode cX0_headChanged 0 = .ok (.aload_n 0, 1) := dk_42 (dk_at dksX0_headChanged_0 0 rfl rfl)
theorem dX0_headChanged_1 : decode cX0_headChanged 1 = .ok (.getfield 18, 3) := dk_180 0 18 (dk_at dksX0_headChanged_0 1 rfl rfl)
theorem dX0_headChanged_4 : decode cX0_headChanged 4 = .ok (.invokevirtual 36, 3) := dk_182 0 36 (dk_at dksX0_headChanged_0 4 rfl rfl)
theorem dX0_headChanged_7 : decode cX0_headChanged 7 = .ok (.ifCond .ne 5, 3) := dk_154 0 5 (dk_at dksX0_headChanged_0 7 rfl rfl)
theorem dX0_headChanged_10 : decode cX0_headChanged 10 = .ok (.iconst 0, 1) := dk_3 (dk_at dksX0_headChanged_0 10 rfl rfl)
theorem dX0_headChanged_11 : decode cX0_headChanged 11 = .ok (.ireturn, 1) := dk_172 (dk_at dksX0_headChanged_0 11 rfl rfl)
theorem dX0_headChanged_12 : decode cX0_headChanged 12 = .ok (.aload_n 0, 1) := dk_42 (dk_at dksX0_headChanged_0 12 rfl rfl)
theorem dX0_headChanged_13 : decode cX0_headChanged 13 = .ok (.getfield 18, 3) := dk_180 0 18 (dk_at dksX0_headChanged_0 13 rfl rfl)
theorem dX0_headChanged_16 : decode cX0_headChanged 16 = .ok (.invokevirtual 40, 3) := dk_182 0 40 (dk_at dksX0_headChanged_0 16 rfl rfl)
theorem dX0_headChanged_19 : decode cX0_headChanged 19 = .ok (.istore_n 2, 1) := dk_61 (dk_at dksX0_headChanged_0 19 rfl rfl)
theorem dX0_headChanged_20 : decode cX0_headChanged 20 = .ok (.aload_n 0, 1) := dk_42 (dk_at dksX0_headChanged_0 20 rfl rfl)
theorem dX0_headChanged_21 : decode cX0_headChanged 21 = .ok (.getfield 7, 3) := dk_180 0 7 (dk_at dksX0_headChanged_0 21 rfl rfl)
theorem dX0_headChanged_24 : decode cX0_headChanged 24 = .ok (.iload_n 2, 1) := dk_28 (dk_at dksX0_headChanged_1 0 rfl rfl)
theorem dX0_headChanged_25 : decode cX0_headChanged 25 = .ok (.iload_n 1, 1) := dk_27 (dk_at dksX0_headChanged_1 1 rfl rfl)
theorem dX0_headChanged_26 : decode cX0_headChanged 26 = .ok (.bipush (-64), 2) := dk_16 192 (dk_at dksX0_headChanged_1 2 rfl rfl)
theorem dX0_headChanged_28 : decode cX0_headChanged 28 = .ok (.iand, 1) := dk_126 (dk_at dksX0_headChanged_1 4 rfl rfl)
theorem dX0_headChanged_29 : decode cX0_headChanged 29 = .ok (.iload_n 2, 1) := dk_28 (dk_at dksX0_headChanged_1 5 rfl rfl)
theorem dX0_headChanged_30 : decode cX0_headChanged 30 = .ok (.ior, 1) := dk_128 (dk_at dksX0_headChanged_1 6 rfl rfl)
theorem dX0_headChanged_31 : decode cX0_headChanged 31 = .ok (.iastore, 1) := dk_79 (dk_at dksX0_headChanged_1 7 rfl rfl)
theorem dX0_headChanged_32 : decode cX0_headChanged 32 = .ok (.aload_n 0, 1) := dk_42 (dk_at dksX0_headChanged_1 8 rfl rfl)
theorem dX0_headChanged_33 : decode cX0_headChanged 33 = .ok (.getfield 18, 3) := dk_180 0 18 (dk_at dksX0_headChanged_1 9 rfl rfl)
theorem dX0_headChanged_36 : decode cX0_headChanged 36 = .ok (.invokevirtual 46, 3) := dk_182 0 46 (dk_at dksX0_headChanged_1 12 rfl rfl)
theorem dX0_headChanged_39 : decode cX0_headChanged 39 = .ok (.iconst 1, 1) := dk_4 (dk_at dksX0_headChanged_1 15 rfl rfl)
theorem dX0_headChanged_40 : decode cX0_headChanged 40 = .ok (.ireturn, 1) := dk_172 (dk_at dksX0_headChanged_1 16 rfl rfl)
abbrev cX0_all : ByteArray := prog_1_method_8_code
def yX0_all : MethodName := ⟨RX0, "all", "(I)V"⟩
def dkwX0_all_1 : List UInt8 := [104, 96, 16, 192, 126, 28, 128, 79, 132, 2, 1, 167, 255, 223, 42, 180, 0, 18, 182, 0, 48, 177]
abbrev dktX0_all_1 : List UInt8 := dkwX0_all_1 ++ []
def dkwX0_all_0 : List UInt8 := [3, 61, 28, 16, 64, 162, 0, 33, 42, 180, 0, 7, 28, 42, 180, 0, 7, 28, 46, 27, 28, 104, 16, 64]
abbrev dktX0_all_0 : List UInt8 := dkwX0_all_0 ++ dktX0_all_1
theorem dksX0_all_0 : cX0_all.data.toList.drop 0 = dktX0_all_0 := by decide +kernel
theorem dksX0_all_1 : cX0_all.data.toList.drop 24 = dktX0_all_1 := dk_seg dksX0_all_0 24 rfl rfl
theorem dX0_all_0 : decode cX0_all 0 = .ok (.iconst 0, 1) := dk_3 (dk_at dksX0_all_0 0 rfl rfl)
theorem dX0_all_1 : decode cX0_all 1 = .ok (.istore_n 2, 1) := dk_61 (dk_at dksX0_all_0 1 rfl rfl)
theorem dX0_all_2 : decode cX0_all 2 = .ok (.iload_n 2, 1) := dk_28 (dk_at dksX0_all_0 2 rfl rfl)
theorem dX0_all_3 : decode cX0_all 3 = .ok (.bipush 64, 2) := dk_16 64 (dk_at dksX0_all_0 3 rfl rfl)
theorem dX0_all_5 : decode cX0_all 5 = .ok (.if_icmp .ge 33, 3) := dk_162 0 33 (dk_at dksX0_all_0 5 rfl rfl)
theorem dX0_all_8 : decode cX0_all 8 = .ok (.aload_n 0, 1) := dk_42 (dk_at dksX0_all_0 8 rfl rfl)
theorem dX0_all_9 : decode cX0_all 9 = .ok (.getfield 7, 3) := dk_180 0 7 (dk_at dksX0_all_0 9 rfl rfl)
theorem dX0_all_12 : decode cX0_all 12 = .ok (.iload_n 2, 1) := dk_28 (dk_at dksX0_all_0 12 rfl rfl)
theorem dX0_all_13 : decode cX0_all 13 = .ok (.aload_n 0, 1) := dk_42 (dk_at dksX0_all_0 13 rfl rfl)
theorem dX0_all_14 : decode cX0_all 14 = .ok (.getfield 7, 3) := dk_180 0 7 (dk_at dksX0_all_0 14 rfl rfl)
theorem dX0_all_17 : decode cX0_all 17 = .ok (.iload_n 2, 1) := dk_28 (dk_at dksX0_all_0 17 rfl rfl)
theorem dX0_all_18 : decode cX0_all 18 = .ok (.iaload, 1) := dk_46 (dk_at dksX0_all_0 18 rfl rfl)
theorem dX0_all_19 : decode cX0_all 19 = .ok (.iload_n 1, 1) := dk_27 (dk_at dksX0_all_0 19 rfl rfl)
theorem dX0_all_20 : decode cX0_all 20 = .ok (.iload_n 2, 1) := dk_28 (dk_at dksX0_all_0 20 rfl rfl)
theorem dX0_all_21 : decode cX0_all 21 = .ok (.imul, 1) := dk_104 (dk_at dksX0_all_0 21 rfl rfl)
theorem dX0_all_22 : decode cX0_all 22 = .ok (.bipush 64, 2) := dk_16 64 (dk_at dksX0_all_0 22 rfl rfl)
theorem dX0_all_24 : decode cX0_all 24 = .ok (.imul, 1) := dk_104 (dk_at dksX0_all_1 0 rfl rfl)
theorem dX0_all_25 : decode cX0_all 25 = .ok (.iadd, 1) := dk_96 (dk_at dksX0_all_1 1 rfl rfl)
theorem dX0_all_26 : decode cX0_all 26 = .ok (.bipush (-64), 2) := dk_16 192 (dk_at dksX0_all_1 2 rfl rfl)
theorem dX0_all_28 : decode cX0_all 28 = .ok (.iand, 1) := dk_126 (dk_at dksX0_all_1 4 rfl rfl)
theorem dX0_all_29 : decode cX0_all 29 = .ok (.iload_n 2, 1) := dk_28 (dk_at dksX0_all_1 5 rfl rfl)
theorem dX0_all_30 : decode cX0_all 30 = .ok (.ior, 1) := dk_128 (dk_at dksX0_all_1 6 rfl rfl)
theorem dX0_all_31 : decode cX0_all 31 = .ok (.iastore, 1) := dk_79 (dk_at dksX0_all_1 7 rfl rfl)
theorem dX0_all_32 : decode cX0_all 32 = .ok (.iinc 2 1, 3) := dk_132 2 1 (dk_at dksX0_all_1 8 rfl rfl)
theorem dX0_all_35 : decode cX0_all 35 = .ok (.goto (-33), 3) := dk_167 255 223 (dk_at dksX0_all_1 11 rfl rfl)
theorem dX0_all_38 : decode cX0_all 38 = .ok (.aload_n 0, 1) := dk_42 (dk_at dksX0_all_1 14 rfl rfl)
theorem dX0_all_39 : decode cX0_all 39 = .ok (.getfield 18, 3) := dk_180 0 18 (dk_at dksX0_all_1 15 rfl rfl)
theorem dX0_all_42 : decode cX0_all 42 = .ok (.invokevirtual 48, 3) := dk_182 0 48 (dk_at dksX0_all_1 18 rfl rfl)
theorem dX0_all_45 : decode cX0_all 45 = .ok (.return_, 1) := dk_177 (dk_at dksX0_all_1 21 rfl rfl)
abbrev cX0_inside : ByteArray := prog_1_method_9_code
def yX0_inside : MethodName := ⟨RX0, "inside", "(I)Z"⟩
def dkwX0_inside_0 : List UInt8 := [42, 180, 0, 18, 27, 16, 63, 126, 182, 0, 22, 172]
abbrev dktX0_inside_0 : List UInt8 := dkwX0_inside_0 ++ []
theorem dksX0_inside_0 : cX0_inside.data.toList.drop 0 = dktX0_inside_0 := by decide +kernel
theorem dX0_inside_0 : decode cX0_inside 0 = .ok (.aload_n 0, 1) := dk_42 (dk_at dksX0_inside_0 0 rfl rfl)
theorem dX0_inside_1 : decode cX0_inside 1 = .ok (.getfield 18, 3) := dk_180 0 18 (dk_at dksX0_inside_0 1 rfl rfl)
theorem dX0_inside_4 : decode cX0_inside 4 = .ok (.iload_n 1, 1) := dk_27 (dk_at dksX0_inside_0 4 rfl rfl)
theorem dX0_inside_5 : decode cX0_inside 5 = .ok (.bipush 63, 2) := dk_16 63 (dk_at dksX0_inside_0 5 rfl rfl)
theorem dX0_inside_7 : decode cX0_inside 7 = .ok (.iand, 1) := dk_126 (dk_at dksX0_inside_0 7 rfl rfl)
theorem dX0_inside_8 : decode cX0_inside 8 = .ok (.invokevirtual 22, 3) := dk_182 0 22 (dk_at dksX0_inside_0 8 rfl rfl)
theorem dX0_inside_11 : decode cX0_inside 11 = .ok (.ireturn, 1) := dk_172 (dk_at dksX0_inside_0 11 rfl rfl)
abbrev cX0_waiting : ByteArray := prog_1_method_10_code
def yX0_waiting : MethodName := ⟨RX0, "waiting", "()I"⟩
def dkwX0_waiting_0 : List UInt8 := [42, 180, 0, 18, 182, 0, 36, 172]
abbrev dktX0_waiting_0 : List UInt8 := dkwX0_waiting_0 ++ []
theorem dksX0_waiting_0 : cX0_waiting.data.toList.drop 0 = dktX0_waiting_0 := by decide +kernel
theorem dX0_waiting_0 : decode cX0_waiting 0 = .ok (.aload_n 0, 1) := dk_42 (dk_at dksX0_waiting_0 0 rfl rfl)
theorem dX0_waiting_1 : decode cX0_waiting 1 = .ok (.getfield 18, 3) := dk_180 0 18 (dk_at dksX0_waiting_0 1 rfl rfl)
theorem dX0_waiting_4 : decode cX0_waiting 4 = .ok (.invokevirtual 36, 3) := dk_182 0 36 (dk_at dksX0_waiting_0 4 rfl rfl)
theorem dX0_waiting_7 : decode cX0_waiting 7 = .ok (.ireturn, 1) := dk_172 (dk_at dksX0_waiting_0 7 rfl rfl)
abbrev cX0_value : ByteArray := prog_1_method_11_code
def yX0_value : MethodName := ⟨RX0, "value", "(I)I"⟩
def dkwX0_value_0 : List UInt8 := [42, 180, 0, 7, 27, 16, 63, 126, 46, 172]
abbrev dktX0_value_0 : List UInt8 := dkwX0_value_0 ++ []
theorem dksX0_value_0 : cX0_value.data.toList.drop 0 = dktX0_value_0 := by decide +kernel
theorem dX0_value_0 : decode cX0_value 0 = .ok (.aload_n 0, 1) := dk_42 (dk_at dksX0_value_0 0 rfl rfl)
theorem dX0_value_1 : decode cX0_value 1 = .ok (.getfield 7, 3) := dk_180 0 7 (dk_at dksX0_value_0 1 rfl rfl)
theorem dX0_value_4 : decode cX0_value 4 = .ok (.iload_n 1, 1) := dk_27 (dk_at dksX0_value_0 4 rfl rfl)
theorem dX0_value_5 : decode cX0_value 5 = .ok (.bipush 63, 2) := dk_16 63 (dk_at dksX0_value_0 5 rfl rfl)
theorem dX0_value_7 : decode cX0_value 7 = .ok (.iand, 1) := dk_126 (dk_at dksX0_value_0 7 rfl rfl)
theorem dX0_value_8 : decode cX0_value 8 = .ok (.iaload, 1) := dk_46 (dk_at dksX0_value_0 8 rfl rfl)
theorem dX0_value_9 : decode cX0_value 9 = .ok (.ireturn, 1) := dk_172 (dk_at dksX0_value_0 9 rfl rfl)
abbrev cX0_drain : ByteArray := prog_1_method_12_code
def yX0_drain : MethodName := ⟨RX0, "drain", "()V"⟩
def dkwX0_drain_0 : List UInt8 := [42, 180, 0, 18, 182, 0, 51, 177]
abbrev dktX0_drain_0 : List UInt8 := dkwX0_drain_0 ++ []
theorem dksX0_drain_0 : cX0_drain.data.toList.drop 0 = dktX0_drain_0 := by decide +kernel
theorem dX0_drain_0 : decode cX0_drain 0 = .ok (.aload_n 0, 1) := dk_42 (dk_at dksX0_drain_0 0 rfl rfl)
theorem dX0_drain_1 : decode cX0_drain 1 = .ok (.getfield 18, 3) := dk_180 0 18 (dk_at dksX0_drain_0 1 rfl rfl)
theorem dX0_drain_4 : decode cX0_drain 4 = .ok (.invokevirtual 51, 3) := dk_182 0 51 (dk_at dksX0_drain_0 4 rfl rfl)
theorem dX0_drain_7 : decode cX0_drain 7 = .ok (.return_, 1) := dk_177 (dk_at dksX0_drain_0 7 rfl rfl)
theorem q3 : (Jvm.Cond.initialized "IndirectHeap") ∈ lw_all := lw_g (lw_at lw_m1 1 rfl) rfl
theorem q27 : (Jvm.Cond.instantiable "IndirectHeap" (2 : Nat)) ∈ lw_all := lw_g (lw_at lw_m1 25 rfl) rfl
theorem q29 : (Jvm.Cond.instanceMethod ({ cls := "IndirectHeap", name := "<init>", desc := "()V" } : Jvm.MethodName)) ∈ lw_all := lw_g (lw_at lw_m1 27 rfl) rfl
theorem q30 : (Jvm.Cond.code ({ cls := "IndirectHeap", name := "<init>", desc := "()V" } : Jvm.MethodName) prog_1_method_1_code (2 : Nat) (Option.none : Option Jvm.ClassFile.FieldType)) ∈ lw_all := lw_g (lw_at lw_m1 28 rfl) rfl
theorem q31 : (Jvm.Cond.methodLink "IndirectHeap" (1 : Nat) ({ cls := "java/lang/Object", name := "<init>", desc := "()V" } : Jvm.MethodName)) ∈ lw_all := lw_g (lw_at lw_m1 29 rfl) rfl
theorem q34 : (Jvm.Cond.classLink "IndirectHeap" (13 : Nat) "IntHeapIndirectPriorityQueue") ∈ lw_all := lw_g (lw_at lw_m1 32 rfl) rfl
theorem q36 : (Jvm.Cond.methodLink "IndirectHeap" (15 : Nat) ({ cls := "IntHeapIndirectPriorityQueue", name := "<init>", desc := "([I)V" } : Jvm.MethodName)) ∈ lw_all := lw_g (lw_at lw_m1 34 rfl) rfl
theorem q76 : (Jvm.Cond.fieldLink "IndirectHeap" (7 : Nat) "IndirectHeap" "value" "[I") ∈ lw_all := lw_g (lw_at lw_m1 74 rfl) rfl
theorem q77 : (Jvm.Cond.fieldLink "IndirectHeap" (18 : Nat) "IndirectHeap" "heap" "LIntHeapIndirectPriorityQueue;") ∈ lw_all := lw_g (lw_at lw_m1 75 rfl) rfl
theorem q78 : (Jvm.Cond.laysFinal "IndirectHeap" "IndirectHeap" "value" "[I") ∈ lw_all := lw_g (lw_at lw_m1 76 rfl) rfl
theorem q79 : (Jvm.Cond.soleField "IndirectHeap" "value") ∈ lw_all := lw_g (lw_at lw_m1 77 rfl) rfl
theorem q80 : (Jvm.Cond.laysFinal "IndirectHeap" "IndirectHeap" "heap" "LIntHeapIndirectPriorityQueue;") ∈ lw_all := lw_g (lw_at lw_m1 78 rfl) rfl
theorem q81 : (Jvm.Cond.soleField "IndirectHeap" "heap") ∈ lw_all := lw_g (lw_at lw_m1 79 rfl) rfl
theorem q82 : (Jvm.Cond.superclass "IndirectHeap" "java/lang/Object") ∈ lw_all := lw_g (lw_at lw_m1 80 rfl) rfl
theorem q84 : (Jvm.Cond.instanceMethod ({ cls := "IndirectHeap", name := "change", desc := "(II)V" } : Jvm.MethodName)) ∈ lw_all := lw_g (lw_at lw_m1 82 rfl) rfl
theorem q85 : (Jvm.Cond.selects "IndirectHeap" ({ cls := "IndirectHeap", name := "change", desc := "(II)V" } : Jvm.MethodName) ({ cls := "IndirectHeap", name := "change", desc := "(II)V" } : Jvm.MethodName)) ∈ lw_all := lw_g (lw_at lw_m1 83 rfl) rfl
theorem q86 : (Jvm.Cond.code ({ cls := "IndirectHeap", name := "change", desc := "(II)V" } : Jvm.MethodName) prog_1_method_2_code (4 : Nat) (Option.none : Option Jvm.ClassFile.FieldType)) ∈ lw_all := lw_g (lw_at lw_m1 84 rfl) rfl
theorem q87 : (Jvm.Cond.methodLink "IndirectHeap" (22 : Nat) ({ cls := "IntHeapIndirectPriorityQueue", name := "contains", desc := "(I)Z" } : Jvm.MethodName)) ∈ lw_all := lw_g (lw_at lw_m1 85 rfl) rfl
theorem q91 : (Jvm.Cond.methodLink "IndirectHeap" (26 : Nat) ({ cls := "IntHeapIndirectPriorityQueue", name := "changed", desc := "(I)V" } : Jvm.MethodName)) ∈ lw_all := lw_g (lw_at lw_m1 89 rfl) rfl
theorem q406 : (Jvm.Cond.instanceMethod ({ cls := "IndirectHeap", name := "enter", desc := "(I)Z" } : Jvm.MethodName)) ∈ lw_all := lw_g (lw_at lw_m2 164 rfl) rfl
theorem q407 : (Jvm.Cond.selects "IndirectHeap" ({ cls := "IndirectHeap", name := "enter", desc := "(I)Z" } : Jvm.MethodName) ({ cls := "IndirectHeap", name := "enter", desc := "(I)Z" } : Jvm.MethodName)) ∈ lw_all := lw_g (lw_at lw_m2 165 rfl) rfl
theorem q408 : (Jvm.Cond.code ({ cls := "IndirectHeap", name := "enter", desc := "(I)Z" } : Jvm.MethodName) prog_1_method_3_code (3 : Nat) (Option.some Jvm.ClassFile.FieldType.boolean)) ∈ lw_all := lw_g (lw_at lw_m2 166 rfl) rfl
theorem q409 : (Jvm.Cond.methodLink "IndirectHeap" (30 : Nat) ({ cls := "IntHeapIndirectPriorityQueue", name := "enqueue", desc := "(I)V" } : Jvm.MethodName)) ∈ lw_all := lw_g (lw_at lw_m2 167 rfl) rfl
theorem q429 : (Jvm.Cond.instanceMethod ({ cls := "IndirectHeap", name := "leave", desc := "(I)Z" } : Jvm.MethodName)) ∈ lw_all := lw_g (lw_at lw_m2 187 rfl) rfl
theorem q430 : (Jvm.Cond.selects "IndirectHeap" ({ cls := "IndirectHeap", name := "leave", desc := "(I)Z" } : Jvm.MethodName) ({ cls := "IndirectHeap", name := "leave", desc := "(I)Z" } : Jvm.MethodName)) ∈ lw_all := lw_g (lw_at lw_m2 188 rfl) rfl
theorem q431 : (Jvm.Cond.code ({ cls := "IndirectHeap", name := "leave", desc := "(I)Z" } : Jvm.MethodName) prog_1_method_4_code (2 : Nat) (Option.some Jvm.ClassFile.FieldType.boolean)) ∈ lw_all := lw_g (lw_at lw_m2 189 rfl) rfl
theorem q432 : (Jvm.Cond.methodLink "IndirectHeap" (33 : Nat) ({ cls := "IntHeapIndirectPriorityQueue", name := "remove", desc := "(I)Z" } : Jvm.MethodName)) ∈ lw_all := lw_g (lw_at lw_m2 190 rfl) rfl
theorem q437 : (Jvm.Cond.instanceMethod ({ cls := "IndirectHeap", name := "least", desc := "()I" } : Jvm.MethodName)) ∈ lw_all := lw_g (lw_at lw_m2 195 rfl) rfl
theorem q438 : (Jvm.Cond.selects "IndirectHeap" ({ cls := "IndirectHeap", name := "least", desc := "()I" } : Jvm.MethodName) ({ cls := "IndirectHeap", name := "least", desc := "()I" } : Jvm.MethodName)) ∈ lw_all := lw_g (lw_at lw_m2 196 rfl) rfl
theorem q439 : (Jvm.Cond.code ({ cls := "IndirectHeap", name := "least", desc := "()I" } : Jvm.MethodName) prog_1_method_5_code (1 : Nat) (Option.some Jvm.ClassFile.FieldType.int)) ∈ lw_all := lw_g (lw_at lw_m2 197 rfl) rfl
theorem q440 : (Jvm.Cond.methodLink "IndirectHeap" (36 : Nat) ({ cls := "IntHeapIndirectPriorityQueue", name := "size", desc := "()I" } : Jvm.MethodName)) ∈ lw_all := lw_g (lw_at lw_m2 198 rfl) rfl
theorem q446 : (Jvm.Cond.methodLink "IndirectHeap" (40 : Nat) ({ cls := "IntHeapIndirectPriorityQueue", name := "first", desc := "()I" } : Jvm.MethodName)) ∈ lw_all := lw_g (lw_at lw_m2 204 rfl) rfl
theorem q474 : (Jvm.Cond.instanceMethod ({ cls := "IndirectHeap", name := "take", desc := "()I" } : Jvm.MethodName)) ∈ lw_all := lw_g (lw_at lw_m2 232 rfl) rfl
theorem q475 : (Jvm.Cond.selects "IndirectHeap" ({ cls := "IndirectHeap", name := "take", desc := "()I" } : Jvm.MethodName) ({ cls := "IndirectHeap", name := "take", desc := "()I" } : Jvm.MethodName)) ∈ lw_all := lw_g (lw_at lw_m2 233 rfl) rfl
theorem q476 : (Jvm.Cond.code ({ cls := "IndirectHeap", name := "take", desc := "()I" } : Jvm.MethodName) prog_1_method_6_code (1 : Nat) (Option.some Jvm.ClassFile.FieldType.int)) ∈ lw_all := lw_g (lw_at lw_m2 234 rfl) rfl
theorem q477 : (Jvm.Cond.methodLink "IndirectHeap" (43 : Nat) ({ cls := "IntHeapIndirectPriorityQueue", name := "dequeue", desc := "()I" } : Jvm.MethodName)) ∈ lw_all := lw_g (lw_at lw_m2 235 rfl) rfl
theorem q484 : (Jvm.Cond.instanceMethod ({ cls := "IndirectHeap", name := "headChanged", desc := "(I)Z" } : Jvm.MethodName)) ∈ lw_all := lw_g (lw_at lw_m3 2 rfl) rfl
theorem q485 : (Jvm.Cond.selects "IndirectHeap" ({ cls := "IndirectHeap", name := "headChanged", desc := "(I)Z" } : Jvm.MethodName) ({ cls := "IndirectHeap", name := "headChanged", desc := "(I)Z" } : Jvm.MethodName)) ∈ lw_all := lw_g (lw_at lw_m3 3 rfl) rfl
theorem q486 : (Jvm.Cond.code ({ cls := "IndirectHeap", name := "headChanged", desc := "(I)Z" } : Jvm.MethodName) prog_1_method_7_code (3 : Nat) (Option.some Jvm.ClassFile.FieldType.boolean)) ∈ lw_all := lw_g (lw_at lw_m3 4 rfl) rfl
theorem q487 : (Jvm.Cond.methodLink "IndirectHeap" (46 : Nat) ({ cls := "IntHeapIndirectPriorityQueue", name := "changed", desc := "()V" } : Jvm.MethodName)) ∈ lw_all := lw_g (lw_at lw_m3 5 rfl) rfl
theorem q492 : (Jvm.Cond.instanceMethod ({ cls := "IndirectHeap", name := "all", desc := "(I)V" } : Jvm.MethodName)) ∈ lw_all := lw_g (lw_at lw_m3 10 rfl) rfl
theorem q493 : (Jvm.Cond.selects "IndirectHeap" ({ cls := "IndirectHeap", name := "all", desc := "(I)V" } : Jvm.MethodName) ({ cls := "IndirectHeap", name := "all", desc := "(I)V" } : Jvm.MethodName)) ∈ lw_all := lw_g (lw_at lw_m3 11 rfl) rfl
theorem q494 : (Jvm.Cond.code ({ cls := "IndirectHeap", name := "all", desc := "(I)V" } : Jvm.MethodName) prog_1_method_8_code (3 : Nat) (Option.none : Option Jvm.ClassFile.FieldType)) ∈ lw_all := lw_g (lw_at lw_m3 12 rfl) rfl
theorem q495 : (Jvm.Cond.methodLink "IndirectHeap" (48 : Nat) ({ cls := "IntHeapIndirectPriorityQueue", name := "allChanged", desc := "()V" } : Jvm.MethodName)) ∈ lw_all := lw_g (lw_at lw_m3 13 rfl) rfl
theorem q504 : (Jvm.Cond.instanceMethod ({ cls := "IndirectHeap", name := "inside", desc := "(I)Z" } : Jvm.MethodName)) ∈ lw_all := lw_g (lw_at lw_m3 22 rfl) rfl
theorem q505 : (Jvm.Cond.selects "IndirectHeap" ({ cls := "IndirectHeap", name := "inside", desc := "(I)Z" } : Jvm.MethodName) ({ cls := "IndirectHeap", name := "inside", desc := "(I)Z" } : Jvm.MethodName)) ∈ lw_all := lw_g (lw_at lw_m3 23 rfl) rfl
theorem q506 : (Jvm.Cond.code ({ cls := "IndirectHeap", name := "inside", desc := "(I)Z" } : Jvm.MethodName) prog_1_method_9_code (2 : Nat) (Option.some Jvm.ClassFile.FieldType.boolean)) ∈ lw_all := lw_g (lw_at lw_m3 24 rfl) rfl
theorem q508 : (Jvm.Cond.instanceMethod ({ cls := "IndirectHeap", name := "waiting", desc := "()I" } : Jvm.MethodName)) ∈ lw_all := lw_g (lw_at lw_m3 26 rfl) rfl
theorem q509 : (Jvm.Cond.selects "IndirectHeap" ({ cls := "IndirectHeap", name := "waiting", desc := "()I" } : Jvm.MethodName) ({ cls := "IndirectHeap", name := "waiting", desc := "()I" } : Jvm.MethodName)) ∈ lw_all := lw_g (lw_at lw_m3 27 rfl) rfl
theorem q510 : (Jvm.Cond.code ({ cls := "IndirectHeap", name := "waiting", desc := "()I" } : Jvm.MethodName) prog_1_method_10_code (1 : Nat) (Option.some Jvm.ClassFile.FieldType.int)) ∈ lw_all := lw_g (lw_at lw_m3 28 rfl) rfl
theorem q512 : (Jvm.Cond.instanceMethod ({ cls := "IndirectHeap", name := "value", desc := "(I)I" } : Jvm.MethodName)) ∈ lw_all := lw_g (lw_at lw_m3 30 rfl) rfl
theorem q513 : (Jvm.Cond.selects "IndirectHeap" ({ cls := "IndirectHeap", name := "value", desc := "(I)I" } : Jvm.MethodName) ({ cls := "IndirectHeap", name := "value", desc := "(I)I" } : Jvm.MethodName)) ∈ lw_all := lw_g (lw_at lw_m3 31 rfl) rfl
theorem q514 : (Jvm.Cond.code ({ cls := "IndirectHeap", name := "value", desc := "(I)I" } : Jvm.MethodName) prog_1_method_11_code (2 : Nat) (Option.some Jvm.ClassFile.FieldType.int)) ∈ lw_all := lw_g (lw_at lw_m3 32 rfl) rfl
theorem q516 : (Jvm.Cond.instanceMethod ({ cls := "IndirectHeap", name := "drain", desc := "()V" } : Jvm.MethodName)) ∈ lw_all := lw_g (lw_at lw_m3 34 rfl) rfl
theorem q517 : (Jvm.Cond.selects "IndirectHeap" ({ cls := "IndirectHeap", name := "drain", desc := "()V" } : Jvm.MethodName) ({ cls := "IndirectHeap", name := "drain", desc := "()V" } : Jvm.MethodName)) ∈ lw_all := lw_g (lw_at lw_m3 35 rfl) rfl
theorem q518 : (Jvm.Cond.code ({ cls := "IndirectHeap", name := "drain", desc := "()V" } : Jvm.MethodName) prog_1_method_12_code (1 : Nat) (Option.none : Option Jvm.ClassFile.FieldType)) ∈ lw_all := lw_g (lw_at lw_m3 36 rfl) rfl
theorem q519 : (Jvm.Cond.methodLink "IndirectHeap" (51 : Nat) ({ cls := "IntHeapIndirectPriorityQueue", name := "clear", desc := "()V" } : Jvm.MethodName)) ∈ lw_all := lw_g (lw_at lw_m3 37 rfl) rfl
theorem q595 : (Jvm.Cond.castable "IndirectHeap" "java/lang/Object") ∈ lw_tbl := lw_at lw_m3 113 rfl
theorem in_X0 : ∀ w ∈ wsX00, w ∈ lw_all := lw_in wsX00 [78, 80] (by decide +kernel) (by decide +kernel)
/-! IntHeapSemiIndirectPriorityQueue -/
set_option maxRecDepth 100000
def RX1 : String := "IntHeapSemiIndirectPriorityQueue"
abbrev cX1_init : ByteArray := prog_7_method_1_code
def yX1_init : MethodName := ⟨RX1, "<init>", "([IILIntComparator;)V"⟩
def dkwX1_init_1 : List UInt8 := [181, 0, 18, 42, 45, 181, 0, 21, 177]
abbrev dktX1_init_1 : List UInt8 := dkwX1_init_1 ++ []
def dkwX1_init_0 : List UInt8 := [42, 183, 0, 1, 42, 178, 0, 7, 181, 0, 13, 28, 158, 0, 10, 42, 28, 188, 10, 181, 0, 13, 42, 43]
abbrev dktX1_init_0 : List UInt8 := dkwX1_init_0 ++ dktX1_init_1
theorem dksX1_init_0 : cX1_init.data.toList.drop 0 = dktX1_init_0 := by decide +kernel
theorem dksX1_init_1 : cX1_init.data.toList.drop 24 = dktX1_init_1 := dk_seg dksX1_init_0 24 rfl rfl
theorem dX1_init_0 : decode cX1_init 0 = .ok (.aload_n 0, 1) := dk_42 (dk_at dksX1_init_0 0 rfl rfl)
theorem dX1_init_1 : decode cX1_init 1 = .ok (.invokespecial 1, 3) := dk_183 0 1 (dk_at dksX1_init_0 1 rfl rfl)
theorem dX1_init_4 : decode cX1_init 4 = .ok (.aload_n 0, 1) := dk_42 (dk_at dksX1_init_0 4 rfl rfl)
theorem dX1_init_5 : decode cX1_init 5 = .ok (.getstatic 7, 3) := dk_178 0 7 (dk_at dksX1_init_0 5 rfl rfl)
theorem dX1_init_8 : decode cX1_init 8 = .ok (.putfield 13, 3) := dk_181 0 13 (dk_at dksX1_init_0 8 rfl rfl)
theorem dX1_init_11 : decode cX1_init 11 = .ok (.iload_n 2, 1) := dk_28 (dk_at dksX1_init_0 11 rfl rfl)
theorem dX1_init_12 : decode cX1_init 12 = .ok (.ifCond .le 10, 3) := dk_158 0 10 (dk_at dksX1_init_0 12 rfl rfl)
theorem dX1_init_15 : decode cX1_init 15 = .ok (.aload_n 0, 1) := dk_42 (dk_at dksX1_init_0 15 rfl rfl)
theorem dX1_init_16 : decode cX1_init 16 = .ok (.iload_n 2, 1) := dk_28 (dk_at dksX1_init_0 16 rfl rfl)
theorem dX1_init_17 : decode cX1_init 17 = .ok (.newarray .int, 2) := dk_188_10 (dk_at dksX1_init_0 17 rfl rfl)
theorem dX1_init_19 : decode cX1_init 19 = .ok (.putfield 13, 3) := dk_181 0 13 (dk_at dksX1_init_0 19 rfl rfl)
theorem dX1_init_22 : decode cX1_init 22 = .ok (.aload_n 0, 1) := dk_42 (dk_at dksX1_init_0 22 rfl rfl)
theorem dX1_init_23 : decode cX1_init 23 = .ok (.aload_n 1, 1) := dk_43 (dk_at dksX1_init_0 23 rfl rfl)
theorem dX1_init_24 : decode cX1_init 24 = .ok (.putfield 18, 3) := dk_181 0 18 (dk_at dksX1_init_1 0 rfl rfl)
theorem dX1_init_27 : decode cX1_init 27 = .ok (.aload_n 0, 1) := dk_42 (dk_at dksX1_init_1 3 rfl rfl)
theorem dX1_init_28 : decode cX1_init 28 = .ok (.aload_n 3, 1) := dk_45 (dk_at dksX1_init_1 4 rfl rfl)
theorem dX1_init_29 : decode cX1_init 29 = .ok (.putfield 21, 3) := dk_181 0 21 (dk_at dksX1_init_1 5 rfl rfl)
theorem dX1_init_32 : decode cX1_init 32 = .ok (.return_, 1) := dk_177 (dk_at dksX1_init_1 8 rfl rfl)
abbrev cX1_size : ByteArray := prog_7_method_3_code
def yX1_size : MethodName := ⟨RX1, "size", "()I"⟩
theorem dX1_size_0 : decode cX1_size 0 = .ok (.aload_n 0, 1) := by decide +kernel
theorem dX1_size_1 : decode cX1_size 1 = .ok (.getfield 25, 3) := by decide +kernel
theorem dX1_size_4 : decode cX1_size 4 = .ok (.ireturn, 1) := by decide +kernel
abbrev cX1_first : ByteArray := prog_7_method_2_code
def yX1_first : MethodName := ⟨RX1, "first", "()I"⟩
def dkwX1_first_0 : List UInt8 := [42, 180, 0, 25, 154, 0, 11, 187, 0, 29, 89, 183, 0, 31, 191, 42, 180, 0, 13, 3, 46, 172]
abbrev dktX1_first_0 : List UInt8 := dkwX1_first_0 ++ []
theorem dksX1_first_0 : cX1_first.data.toList.drop 0 = dktX1_first_0 := by decide +kernel
theorem dX1_first_0 : decode cX1_first 0 = .ok (.aload_n 0, 1) := dk_42 (dk_at dksX1_first_0 0 rfl rfl)
theorem dX1_first_1 : decode cX1_first 1 = .ok (.getfield 25, 3) := dk_180 0 25 (dk_at dksX1_first_0 1 rfl rfl)
theorem dX1_first_4 : decode cX1_first 4 = .ok (.ifCond .ne 11, 3) := dk_154 0 11 (dk_at dksX1_first_0 4 rfl rfl)
theorem dX1_first_7 : decode cX1_first 7 = .ok (.new 29, 3) := dk_187 0 29 (dk_at dksX1_first_0 7 rfl rfl)
theorem dX1_first_10 : decode cX1_first 10 = .ok (.dup, 1) := dk_89 (dk_at dksX1_first_0 10 rfl rfl)
theorem dX1_first_11 : decode cX1_first 11 = .ok (.invokespecial 31, 3) := dk_183 0 31 (dk_at dksX1_first_0 11 rfl rfl)
theorem dX1_first_14 : decode cX1_first 14 = .ok (.athrow, 1) := dk_191 (dk_at dksX1_first_0 14 rfl rfl)
theorem dX1_first_15 : decode cX1_first 15 = .ok (.aload_n 0, 1) := dk_42 (dk_at dksX1_first_0 15 rfl rfl)
theorem dX1_first_16 : decode cX1_first 16 = .ok (.getfield 13, 3) := dk_180 0 13 (dk_at dksX1_first_0 16 rfl rfl)
theorem dX1_first_19 : decode cX1_first 19 = .ok (.iconst 0, 1) := dk_3 (dk_at dksX1_first_0 19 rfl rfl)
theorem dX1_first_20 : decode cX1_first 20 = .ok (.iaload, 1) := dk_46 (dk_at dksX1_first_0 20 rfl rfl)
theorem dX1_first_21 : decode cX1_first 21 = .ok (.ireturn, 1) := dk_172 (dk_at dksX1_first_0 21 rfl rfl)
theorem q4 : (Jvm.Cond.initialized "IntHeapSemiIndirectPriorityQueue") ∈ lw_all := lw_g (lw_at lw_m1 2 rfl) rfl
theorem q43 : (Jvm.Cond.instanceMethod ({ cls := "IntHeapSemiIndirectPriorityQueue", name := "<init>", desc := "([IILIntComparator;)V" } : Jvm.MethodName)) ∈ lw_all := lw_g (lw_at lw_m1 41 rfl) rfl
theorem q44 : (Jvm.Cond.code ({ cls := "IntHeapSemiIndirectPriorityQueue", name := "<init>", desc := "([IILIntComparator;)V" } : Jvm.MethodName) prog_7_method_1_code (4 : Nat) (Option.none : Option Jvm.ClassFile.FieldType)) ∈ lw_all := lw_g (lw_at lw_m1 42 rfl) rfl
theorem q45 : (Jvm.Cond.methodLink "IntHeapSemiIndirectPriorityQueue" (1 : Nat) ({ cls := "java/lang/Object", name := "<init>", desc := "()V" } : Jvm.MethodName)) ∈ lw_all := lw_g (lw_at lw_m1 43 rfl) rfl
theorem q46 : (Jvm.Cond.fieldLink "IntHeapSemiIndirectPriorityQueue" (7 : Nat) "IntArrays" "EMPTY_ARRAY" "[I") ∈ lw_all := lw_g (lw_at lw_m1 44 rfl) rfl
theorem q52 : (Jvm.Cond.fieldLink "IntHeapSemiIndirectPriorityQueue" (18 : Nat) "IntHeapSemiIndirectPriorityQueue" "refArray" "[I") ∈ lw_all := lw_g (lw_at lw_m1 50 rfl) rfl
theorem q55 : (Jvm.Cond.fieldLink "IntHeapSemiIndirectPriorityQueue" (13 : Nat) "IntHeapSemiIndirectPriorityQueue" "heap" "[I") ∈ lw_all := lw_g (lw_at lw_m1 53 rfl) rfl
theorem q58 : (Jvm.Cond.fieldLink "IntHeapSemiIndirectPriorityQueue" (25 : Nat) "IntHeapSemiIndirectPriorityQueue" "size" "I") ∈ lw_all := lw_g (lw_at lw_m1 56 rfl) rfl
theorem q61 : (Jvm.Cond.fieldLink "IntHeapSemiIndirectPriorityQueue" (21 : Nat) "IntHeapSemiIndirectPriorityQueue" "c" "LIntComparator;") ∈ lw_all := lw_g (lw_at lw_m1 59 rfl) rfl
theorem q67 : (Jvm.Cond.soleField "IntHeapSemiIndirectPriorityQueue" "refArray") ∈ lw_all := lw_g (lw_at lw_m1 65 rfl) rfl
theorem q69 : (Jvm.Cond.soleField "IntHeapSemiIndirectPriorityQueue" "heap") ∈ lw_all := lw_g (lw_at lw_m1 67 rfl) rfl
theorem q71 : (Jvm.Cond.soleField "IntHeapSemiIndirectPriorityQueue" "size") ∈ lw_all := lw_g (lw_at lw_m1 69 rfl) rfl
theorem q73 : (Jvm.Cond.soleField "IntHeapSemiIndirectPriorityQueue" "c") ∈ lw_all := lw_g (lw_at lw_m1 71 rfl) rfl
theorem q442 : (Jvm.Cond.declares ({ cls := "IntHeapSemiIndirectPriorityQueue", name := "size", desc := "()I" } : Jvm.MethodName)) ∈ lw_tbl := lw_at lw_m2 200 rfl
theorem q444 : (Jvm.Cond.instanceMethod ({ cls := "IntHeapSemiIndirectPriorityQueue", name := "size", desc := "()I" } : Jvm.MethodName)) ∈ lw_all := lw_g (lw_at lw_m2 202 rfl) rfl
theorem q445 : (Jvm.Cond.code ({ cls := "IntHeapSemiIndirectPriorityQueue", name := "size", desc := "()I" } : Jvm.MethodName) prog_7_method_3_code (1 : Nat) (Option.some Jvm.ClassFile.FieldType.int)) ∈ lw_all := lw_g (lw_at lw_m2 203 rfl) rfl
theorem q448 : (Jvm.Cond.declares ({ cls := "IntHeapSemiIndirectPriorityQueue", name := "first", desc := "()I" } : Jvm.MethodName)) ∈ lw_tbl := lw_at lw_m2 206 rfl
theorem q450 : (Jvm.Cond.instanceMethod ({ cls := "IntHeapSemiIndirectPriorityQueue", name := "first", desc := "()I" } : Jvm.MethodName)) ∈ lw_all := lw_g (lw_at lw_m2 208 rfl) rfl
theorem q451 : (Jvm.Cond.code ({ cls := "IntHeapSemiIndirectPriorityQueue", name := "first", desc := "()I" } : Jvm.MethodName) prog_7_method_2_code (1 : Nat) (Option.some Jvm.ClassFile.FieldType.int)) ∈ lw_all := lw_g (lw_at lw_m2 209 rfl) rfl
theorem q452 : (Jvm.Cond.classLink "IntHeapSemiIndirectPriorityQueue" (29 : Nat) "java/util/NoSuchElementException") ∈ lw_all := lw_g (lw_at lw_m2 210 rfl) rfl
theorem q461 : (Jvm.Cond.methodLink "IntHeapSemiIndirectPriorityQueue" (31 : Nat) ({ cls := "java/util/NoSuchElementException", name := "<init>", desc := "()V" } : Jvm.MethodName)) ∈ lw_all := lw_g (lw_at lw_m2 219 rfl) rfl
/-! IntHeapIndirectPriorityQueue -/
set_option maxRecDepth 100000
def RX2 : String := "IntHeapIndirectPriorityQueue"
def TX2 : u_T := fun k => match k with
  | 0 => ("IntHeapSemiIndirectPriorityQueue", "refArray", "[I", true)
  | 1 => ("IntHeapSemiIndirectPriorityQueue", "heap", "[I", false)
  | 2 => ("IntHeapSemiIndirectPriorityQueue", "size", "I", false)
  | 3 => ("IntHeapSemiIndirectPriorityQueue", "c", "LIntComparator;", false)
  | _ => ("IntHeapIndirectPriorityQueue", "inv", "[I", true)
def tyX2 : Nat → FieldType := fun k => match k with
  | 0 => .array .int
  | 1 => .array .int
  | 2 => .int
  | 3 => .object "IntComparator"
  | _ => .array .int
abbrev wsX20 : List Cond := u_ws RX2 TX2 5
theorem nmX2 : ∀ a, a < 5 → ∀ b, b < 5 → a ≠ b → (TX2 a).2.1 ≠ (TX2 b).2.1 := by decide +kernel
theorem tyX2_ok : ∀ k, k < 5 → parseFieldDescriptor (TX2 k).2.2.1 = some (tyX2 k) := by decide +kernel
abbrev cX2_init : ByteArray := prog_6_method_2_code
def yX2_init : MethodName := ⟨RX2, "<init>", "([I)V"⟩
def dkwX2_init_0 : List UInt8 := [42, 43, 43, 190, 1, 183, 0, 19, 177]
abbrev dktX2_init_0 : List UInt8 := dkwX2_init_0 ++ []
theorem dksX2_init_0 : cX2_init.data.toList.drop 0 = dktX2_init_0 := by decide +kernel
theorem dX2_init_0 : decode cX2_init 0 = .ok (.aload_n 0, 1) := dk_42 (dk_at dksX2_init_0 0 rfl rfl)
theorem dX2_init_1 : decode cX2_init 1 = .ok (.aload_n 1, 1) := dk_43 (dk_at dksX2_init_0 1 rfl rfl)
theorem dX2_init_2 : decode cX2_init 2 = .ok (.aload_n 1, 1) := dk_43 (dk_at dksX2_init_0 2 rfl rfl)
theorem dX2_init_3 : decode cX2_init 3 = .ok (.arraylength, 1) := dk_190 (dk_at dksX2_init_0 3 rfl rfl)
theorem dX2_init_4 : decode cX2_init 4 = .ok (.aconst_null, 1) := dk_1 (dk_at dksX2_init_0 4 rfl rfl)
theorem dX2_init_5 : decode cX2_init 5 = .ok (.invokespecial 19, 3) := dk_183 0 19 (dk_at dksX2_init_0 5 rfl rfl)
theorem dX2_init_8 : decode cX2_init 8 = .ok (.return_, 1) := dk_177 (dk_at dksX2_init_0 8 rfl rfl)
abbrev cX2_init_2 : ByteArray := prog_6_method_1_code
def yX2_init_2 : MethodName := ⟨RX2, "<init>", "([IILIntComparator;)V"⟩
def dkwX2_init_2_0 : List UInt8 := [42, 43, 28, 45, 183, 0, 1, 42, 43, 190, 188, 10, 181, 0, 7, 42, 180, 0, 7, 2, 184, 0, 13, 177]
abbrev dktX2_init_2_0 : List UInt8 := dkwX2_init_2_0 ++ []
theorem dksX2_init_2_0 : cX2_init_2.data.toList.drop 0 = dktX2_init_2_0 := by decide +kernel
theorem dX2_init_2_0 : decode cX2_init_2 0 = .ok (.aload_n 0, 1) := dk_42 (dk_at dksX2_init_2_0 0 rfl rfl)
theorem dX2_init_2_1 : decode cX2_init_2 1 = .ok (.aload_n 1, 1) := dk_43 (dk_at dksX2_init_2_0 1 rfl rfl)
theorem dX2_init_2_2 : decode cX2_init_2 2 = .ok (.iload_n 2, 1) := dk_28 (dk_at dksX2_init_2_0 2 rfl rfl)
theorem dX2_init_2_3 : decode cX2_init_2 3 = .ok (.aload_n 3, 1) := dk_45 (dk_at dksX2_init_2_0 3 rfl rfl)
theorem dX2_init_2_4 : decode cX2_init_2 4 = .ok (.invokespecial 1, 3) := dk_183 0 1 (dk_at dksX2_init_2_0 4 rfl rfl)
theorem dX2_init_2_7 : decode cX2_init_2 7 = .ok (.aload_n 0, 1) := dk_42 (dk_at dksX2_init_2_0 7 rfl rfl)
theorem dX2_init_2_8 : decode cX2_init_2 8 = .ok (.aload_n 1, 1) := dk_43 (dk_at dksX2_init_2_0 8 rfl rfl)
theorem dX2_init_2_9 : decode cX2_init_2 9 = .ok (.arraylength, 1) := dk_190 (dk_at dksX2_init_2_0 9 rfl rfl)
theorem dX2_init_2_10 : decode cX2_init_2 10 = .ok (.newarray .int, 2) := dk_188_10 (dk_at dksX2_init_2_0 10 rfl rfl)
theorem dX2_init_2_12 : decode cX2_init_2 12 = .ok (.putfield 7, 3) := dk_181 0 7 (dk_at dksX2_init_2_0 12 rfl rfl)
theorem dX2_init_2_15 : decode cX2_init_2 15 = .ok (.aload_n 0, 1) := dk_42 (dk_at dksX2_init_2_0 15 rfl rfl)
theorem dX2_init_2_16 : decode cX2_init_2 16 = .ok (.getfield 7, 3) := dk_180 0 7 (dk_at dksX2_init_2_0 16 rfl rfl)
theorem dX2_init_2_19 : decode cX2_init_2 19 = .ok (.iconst (-1), 1) := dk_2 (dk_at dksX2_init_2_0 19 rfl rfl)
theorem dX2_init_2_20 : decode cX2_init_2 20 = .ok (.invokestatic 13, 3) := dk_184 0 13 (dk_at dksX2_init_2_0 20 rfl rfl)
theorem dX2_init_2_23 : decode cX2_init_2 23 = .ok (.return_, 1) := dk_177 (dk_at dksX2_init_2_0 23 rfl rfl)
abbrev cX2_contains : ByteArray := prog_6_method_4_code
def yX2_contains : MethodName := ⟨RX2, "contains", "(I)Z"⟩
def dkwX2_contains_0 : List UInt8 := [42, 180, 0, 7, 27, 46, 155, 0, 7, 4, 167, 0, 4, 3, 172]
abbrev dktX2_contains_0 : List UInt8 := dkwX2_contains_0 ++ []
theorem dksX2_contains_0 : cX2_contains.data.toList.drop 0 = dktX2_contains_0 := by decide +kernel
theorem dX2_contains_0 : decode cX2_contains 0 = .ok (.aload_n 0, 1) := dk_42 (dk_at dksX2_contains_0 0 rfl rfl)
theorem dX2_contains_1 : decode cX2_contains 1 = .ok (.getfield 7, 3) := dk_180 0 7 (dk_at dksX2_contains_0 1 rfl rfl)
theorem dX2_contains_4 : decode cX2_contains 4 = .ok (.iload_n 1, 1) := dk_27 (dk_at dksX2_contains_0 4 rfl rfl)
theorem dX2_contains_5 : decode cX2_contains 5 = .ok (.iaload, 1) := dk_46 (dk_at dksX2_contains_0 5 rfl rfl)
theorem dX2_contains_6 : decode cX2_contains 6 = .ok (.ifCond .lt 7, 3) := dk_155 0 7 (dk_at dksX2_contains_0 6 rfl rfl)
theorem dX2_contains_9 : decode cX2_contains 9 = .ok (.iconst 1, 1) := dk_4 (dk_at dksX2_contains_0 9 rfl rfl)
theorem dX2_contains_10 : decode cX2_contains 10 = .ok (.goto 4, 3) := dk_167 0 4 (dk_at dksX2_contains_0 10 rfl rfl)
theorem dX2_contains_13 : decode cX2_contains 13 = .ok (.iconst 0, 1) := dk_3 (dk_at dksX2_contains_0 13 rfl rfl)
theorem dX2_contains_14 : decode cX2_contains 14 = .ok (.ireturn, 1) := dk_172 (dk_at dksX2_contains_0 14 rfl rfl)
abbrev cX2_changed : ByteArray := prog_6_method_7_code
def yX2_changed : MethodName := ⟨RX2, "changed", "(I)V"⟩
def dkwX2_changed_3 : List UInt8 := [42, 180, 0, 49, 42, 180, 0, 7, 42, 180, 0, 45, 29, 42, 180, 0, 61, 184, 0, 74, 87, 177]
abbrev dktX2_changed_3 : List UInt8 := dkwX2_changed_3 ++ []
def dkwX2_changed_2 : List UInt8 := [180, 0, 49, 42, 180, 0, 7, 42, 180, 0, 45, 28, 42, 180, 0, 61, 184, 0, 65, 62, 42, 180, 0, 58]
abbrev dktX2_changed_2 : List UInt8 := dkwX2_changed_2 ++ dktX2_changed_3
def dkwX2_changed_1 : List UInt8 := [182, 0, 29, 27, 182, 0, 33, 18, 77, 182, 0, 29, 182, 0, 38, 183, 0, 42, 191, 42, 180, 0, 58, 42]
abbrev dktX2_changed_1 : List UInt8 := dkwX2_changed_1 ++ dktX2_changed_2
def dkwX2_changed_0 : List UInt8 := [42, 180, 0, 7, 27, 46, 61, 28, 156, 0, 35, 187, 0, 20, 89, 187, 0, 22, 89, 183, 0, 24, 18, 27]
abbrev dktX2_changed_0 : List UInt8 := dkwX2_changed_0 ++ dktX2_changed_1
theorem dksX2_changed_0 : cX2_changed.data.toList.drop 0 = dktX2_changed_0 := by decide +kernel
theorem dksX2_changed_1 : cX2_changed.data.toList.drop 24 = dktX2_changed_1 := dk_seg dksX2_changed_0 24 rfl rfl
theorem dksX2_changed_2 : cX2_changed.data.toList.drop 48 = dktX2_changed_2 := dk_seg dksX2_changed_1 24 rfl rfl
theorem dksX2_changed_3 : cX2_changed.data.toList.drop 72 = dktX2_changed_3 := dk_seg dksX2_changed_2 24 rfl rfl
theorem dX2_changed_0 : decode cX2_changed 0 = .ok (.aload_n 0, 1) := dk_42 (dk_at dksX2_changed_0 0 rfl rfl)
theorem dX2_changed_1 : decode cX2_changed 1 = .ok (.getfield 7, 3) := dk_180 0 7 (dk_at dksX2_changed_0 1 rfl rfl)
theorem dX2_changed_4 : decode cX2_changed 4 = .ok (.iload_n 1, 1) := dk_27 (dk_at dksX2_changed_0 4 rfl rfl)
theorem dX2_changed_5 : decode cX2_changed 5 = .ok (.iaload, 1) := dk_46 (dk_at dksX2_changed_0 5 rfl rfl)
theorem dX2_changed_6 : decode cX2_changed 6 = .ok (.istore_n 2, 1) := dk_61 (dk_at dksX2_changed_0 6 rfl rfl)
theorem dX2_changed_7 : decode cX2_changed 7 = .ok (.iload_n 2, 1) := dk_28 (dk_at dksX2_changed_0 7 rfl rfl)
theorem dX2_changed_8 : decode cX2_changed 8 = .ok (.ifCond .ge 35, 3) := dk_156 0 35 (dk_at dksX2_changed_0 8 rfl rfl)
theorem dX2_changed_11 : decode cX2_changed 11 = .ok (.new 20, 3) := dk_187 0 20 (dk_at dksX2_changed_0 11 rfl rfl)
theorem dX2_changed_14 : decode cX2_changed 14 = .ok (.dup, 1) := dk_89 (dk_at dksX2_changed_0 14 rfl rfl)
theorem dX2_changed_15 : decode cX2_changed 15 = .ok (.new 22, 3) := dk_187 0 22 (dk_at dksX2_changed_0 15 rfl rfl)
theorem dX2_changed_18 : decode cX2_changed 18 = .ok (.dup, 1) := dk_89 (dk_at dksX2_changed_0 18 rfl rfl)
theorem dX2_changed_19 : decode cX2_changed 19 = .ok (.invokespecial 24, 3) := dk_183 0 24 (dk_at dksX2_changed_0 19 rfl rfl)
theorem dX2_changed_22 : decode cX2_changed 22 = .ok (.ldc 27, 2) := dk_18 27 (dk_at dksX2_changed_0 22 rfl rfl)
theorem dX2_changed_24 : decode cX2_changed 24 = .ok (.invokevirtual 29, 3) := dk_182 0 29 (dk_at dksX2_changed_1 0 rfl rfl)
theorem dX2_changed_27 : decode cX2_changed 27 = .ok (.iload_n 1, 1) := dk_27 (dk_at dksX2_changed_1 3 rfl rfl)
theorem dX2_changed_28 : decode cX2_changed 28 = .ok (.invokevirtual 33, 3) := dk_182 0 33 (dk_at dksX2_changed_1 4 rfl rfl)
theorem dX2_changed_31 : decode cX2_changed 31 = .ok (.ldc 77, 2) := dk_18 77 (dk_at dksX2_changed_1 7 rfl rfl)
theorem dX2_changed_33 : decode cX2_changed 33 = .ok (.invokevirtual 29, 3) := dk_182 0 29 (dk_at dksX2_changed_1 9 rfl rfl)
theorem dX2_changed_36 : decode cX2_changed 36 = .ok (.invokevirtual 38, 3) := dk_182 0 38 (dk_at dksX2_changed_1 12 rfl rfl)
theorem dX2_changed_39 : decode cX2_changed 39 = .ok (.invokespecial 42, 3) := dk_183 0 42 (dk_at dksX2_changed_1 15 rfl rfl)
theorem dX2_changed_42 : decode cX2_changed 42 = .ok (.athrow, 1) := dk_191 (dk_at dksX2_changed_1 18 rfl rfl)
theorem dX2_changed_43 : decode cX2_changed 43 = .ok (.aload_n 0, 1) := dk_42 (dk_at dksX2_changed_1 19 rfl rfl)
theorem dX2_changed_44 : decode cX2_changed 44 = .ok (.getfield 58, 3) := dk_180 0 58 (dk_at dksX2_changed_1 20 rfl rfl)
theorem dX2_changed_47 : decode cX2_changed 47 = .ok (.aload_n 0, 1) := dk_42 (dk_at dksX2_changed_1 23 rfl rfl)
theorem dX2_changed_48 : decode cX2_changed 48 = .ok (.getfield 49, 3) := dk_180 0 49 (dk_at dksX2_changed_2 0 rfl rfl)
theorem dX2_changed_51 : decode cX2_changed 51 = .ok (.aload_n 0, 1) := dk_42 (dk_at dksX2_changed_2 3 rfl rfl)
theorem dX2_changed_52 : decode cX2_changed 52 = .ok (.getfield 7, 3) := dk_180 0 7 (dk_at dksX2_changed_2 4 rfl rfl)
theorem dX2_changed_55 : decode cX2_changed 55 = .ok (.aload_n 0, 1) := dk_42 (dk_at dksX2_changed_2 7 rfl rfl)
theorem dX2_changed_56 : decode cX2_changed 56 = .ok (.getfield 45, 3) := dk_180 0 45 (dk_at dksX2_changed_2 8 rfl rfl)
theorem dX2_changed_59 : decode cX2_changed 59 = .ok (.iload_n 2, 1) := dk_28 (dk_at dksX2_changed_2 11 rfl rfl)
theorem dX2_changed_60 : decode cX2_changed 60 = .ok (.aload_n 0, 1) := dk_42 (dk_at dksX2_changed_2 12 rfl rfl)
theorem dX2_changed_61 : decode cX2_changed 61 = .ok (.getfield 61, 3) := dk_180 0 61 (dk_at dksX2_changed_2 13 rfl rfl)
theorem dX2_changed_64 : decode cX2_changed 64 = .ok (.invokestatic 65, 3) := dk_184 0 65 (dk_at dksX2_changed_2 16 rfl rfl)
theorem dX2_changed_67 : decode cX2_changed 67 = .ok (.istore_n 3, 1) := dk_62 (dk_at dksX2_changed_2 19 rfl rfl)
theorem dX2_changed_68 : decode cX2_changed 68 = .ok (.aload_n 0, 1) := dk_42 (dk_at dksX2_changed_2 20 rfl rfl)
theorem dX2_changed_69 : decode cX2_changed 69 = .ok (.getfield 58, 3) := dk_180 0 58 (dk_at dksX2_changed_2 21 rfl rfl)
theorem dX2_changed_72 : decode cX2_changed 72 = .ok (.aload_n 0, 1) := dk_42 (dk_at dksX2_changed_3 0 rfl rfl)
theorem dX2_changed_73 : decode cX2_changed 73 = .ok (.getfield 49, 3) := dk_180 0 49 (dk_at dksX2_changed_3 1 rfl rfl)
theorem dX2_changed_76 : decode cX2_changed 76 = .ok (.aload_n 0, 1) := dk_42 (dk_at dksX2_changed_3 4 rfl rfl)
theorem dX2_changed_77 : decode cX2_changed 77 = .ok (.getfield 7, 3) := dk_180 0 7 (dk_at dksX2_changed_3 5 rfl rfl)
theorem dX2_changed_80 : decode cX2_changed 80 = .ok (.aload_n 0, 1) := dk_42 (dk_at dksX2_changed_3 8 rfl rfl)
theorem dX2_changed_81 : decode cX2_changed 81 = .ok (.getfield 45, 3) := dk_180 0 45 (dk_at dksX2_changed_3 9 rfl rfl)
theorem dX2_changed_84 : decode cX2_changed 84 = .ok (.iload_n 3, 1) := dk_29 (dk_at dksX2_changed_3 12 rfl rfl)
theorem dX2_changed_85 : decode cX2_changed 85 = .ok (.aload_n 0, 1) := dk_42 (dk_at dksX2_changed_3 13 rfl rfl)
theorem dX2_changed_86 : decode cX2_changed 86 = .ok (.getfield 61, 3) := dk_180 0 61 (dk_at dksX2_changed_3 14 rfl rfl)
theorem dX2_changed_89 : decode cX2_changed 89 = .ok (.invokestatic 74, 3) := dk_184 0 74 (dk_at dksX2_changed_3 17 rfl rfl)
theorem dX2_changed_92 : decode cX2_changed 92 = .ok (.pop, 1) := dk_87 (dk_at dksX2_changed_3 20 rfl rfl)
theorem dX2_changed_93 : decode cX2_changed 93 = .ok (.return_, 1) := dk_177 (dk_at dksX2_changed_3 21 rfl rfl)
abbrev cX2_enqueue : ByteArray := prog_6_method_3_code
def yX2_enqueue : MethodName := ⟨RX2, "enqueue", "(I)V"⟩
def dkwX2_enqueue_5 : List UInt8 := [4, 100, 42, 180, 0, 61, 184, 0, 65, 87, 177]
abbrev dktX2_enqueue_5 : List UInt8 := dkwX2_enqueue_5 ++ []
def dkwX2_enqueue_4 : List UInt8 := [181, 0, 45, 79, 42, 180, 0, 58, 42, 180, 0, 49, 42, 180, 0, 7, 42, 180, 0, 45, 42, 180, 0, 45]
abbrev dktX2_enqueue_4 : List UInt8 := dkwX2_enqueue_4 ++ dktX2_enqueue_5
def dkwX2_enqueue_3 : List UInt8 := [42, 180, 0, 7, 42, 180, 0, 49, 42, 180, 0, 45, 27, 91, 79, 42, 89, 180, 0, 45, 90, 4, 96]
abbrev dktX2_enqueue_3 : List UInt8 := dkwX2_enqueue_3 ++ dktX2_enqueue_4
def dkwX2_enqueue_2 : List UInt8 := [180, 0, 49, 190, 160, 0, 20, 42, 42, 180, 0, 49, 42, 180, 0, 45, 4, 96, 184, 0, 52, 181, 0, 49]
abbrev dktX2_enqueue_2 : List UInt8 := dkwX2_enqueue_2 ++ dktX2_enqueue_3
def dkwX2_enqueue_1 : List UInt8 := [182, 0, 29, 27, 182, 0, 33, 18, 36, 182, 0, 29, 182, 0, 38, 183, 0, 42, 191, 42, 180, 0, 45, 42]
abbrev dktX2_enqueue_1 : List UInt8 := dkwX2_enqueue_1 ++ dktX2_enqueue_2
def dkwX2_enqueue_0 : List UInt8 := [42, 180, 0, 7, 27, 46, 155, 0, 35, 187, 0, 20, 89, 187, 0, 22, 89, 183, 0, 24, 18, 27]
abbrev dktX2_enqueue_0 : List UInt8 := dkwX2_enqueue_0 ++ dktX2_enqueue_1
theorem dksX2_enqueue_0 : cX2_enqueue.data.toList.drop 0 = dktX2_enqueue_0 := by decide +kernel
theorem dksX2_enqueue_1 : cX2_enqueue.data.toList.drop 22 = dktX2_enqueue_1 := dk_seg dksX2_enqueue_0 22 rfl rfl
theorem dksX2_enqueue_2 : cX2_enqueue.data.toList.drop 46 = dktX2_enqueue_2 := dk_seg dksX2_enqueue_1 24 rfl rfl
theorem dksX2_enqueue_3 : cX2_enqueue.data.toList.drop 70 = dktX2_enqueue_3 := dk_seg dksX2_enqueue_2 24 rfl rfl
theorem dksX2_enqueue_4 : cX2_enqueue.data.toList.drop 93 = dktX2_enqueue_4 := dk_seg dksX2_enqueue_3 23 rfl rfl
theorem dksX2_enqueue_5 : cX2_enqueue.data.toList.drop 117 = dktX2_enqueue_5 := dk_seg dksX2_enqueue_4 24 rfl rfl
theorem dX2_enqueue_0 : decode cX2_enqueue 0 = .ok (.aload_n 0, 1) := dk_42 (dk_at dksX2_enqueue_0 0 rfl rfl)
theorem dX2_enqueue_1 : decode cX2_enqueue 1 = .ok (.getfield 7, 3) := dk_180 0 7 (dk_at dksX2_enqueue_0 1 rfl rfl)
theorem dX2_enqueue_4 : decode cX2_enqueue 4 = .ok (.iload_n 1, 1) := dk_27 (dk_at dksX2_enqueue_0 4 rfl rfl)
theorem dX2_enqueue_5 : decode cX2_enqueue 5 = .ok (.iaload, 1) := dk_46 (dk_at dksX2_enqueue_0 5 rfl rfl)
theorem dX2_enqueue_6 : decode cX2_enqueue 6 = .ok (.ifCond .lt 35, 3) := dk_155 0 35 (dk_at dksX2_enqueue_0 6 rfl rfl)
theorem dX2_enqueue_9 : decode cX2_enqueue 9 = .ok (.new 20, 3) := dk_187 0 20 (dk_at dksX2_enqueue_0 9 rfl rfl)
theorem dX2_enqueue_12 : decode cX2_enqueue 12 = .ok (.dup, 1) := dk_89 (dk_at dksX2_enqueue_0 12 rfl rfl)
theorem dX2_enqueue_13 : decode cX2_enqueue 13 = .ok (.new 22, 3) := dk_187 0 22 (dk_at dksX2_enqueue_0 13 rfl rfl)
theorem dX2_enqueue_16 : decode cX2_enqueue 16 = .ok (.dup, 1) := dk_89 (dk_at dksX2_enqueue_0 16 rfl rfl)
theorem dX2_enqueue_17 : decode cX2_enqueue 17 = .ok (.invokespecial 24, 3) := dk_183 0 24 (dk_at dksX2_enqueue_0 17 rfl rfl)
theorem dX2_enqueue_20 : decode cX2_enqueue 20 = .ok (.ldc 27, 2) := dk_18 27 (dk_at dksX2_enqueue_0 20 rfl rfl)
theorem dX2_enqueue_22 : decode cX2_enqueue 22 = .ok (.invokevirtual 29, 3) := dk_182 0 29 (dk_at dksX2_enqueue_1 0 rfl rfl)
theorem dX2_enqueue_25 : decode cX2_enqueue 25 = .ok (.iload_n 1, 1) := dk_27 (dk_at dksX2_enqueue_1 3 rfl rfl)
theorem dX2_enqueue_26 : decode cX2_enqueue 26 = .ok (.invokevirtual 33, 3) := dk_182 0 33 (dk_at dksX2_enqueue_1 4 rfl rfl)
theorem dX2_enqueue_29 : decode cX2_enqueue 29 = .ok (.ldc 36, 2) := dk_18 36 (dk_at dksX2_enqueue_1 7 rfl rfl)
theorem dX2_enqueue_31 : decode cX2_enqueue 31 = .ok (.invokevirtual 29, 3) := dk_182 0 29 (dk_at dksX2_enqueue_1 9 rfl rfl)
theorem dX2_enqueue_34 : decode cX2_enqueue 34 = .ok (.invokevirtual 38, 3) := dk_182 0 38 (dk_at dksX2_enqueue_1 12 rfl rfl)
theorem dX2_enqueue_37 : decode cX2_enqueue 37 = .ok (.invokespecial 42, 3) := dk_183 0 42 (dk_at dksX2_enqueue_1 15 rfl rfl)
theorem dX2_enqueue_40 : decode cX2_enqueue 40 = .ok (.athrow, 1) := dk_191 (dk_at dksX2_enqueue_1 18 rfl rfl)
theorem dX2_enqueue_41 : decode cX2_enqueue 41 = .ok (.aload_n 0, 1) := dk_42 (dk_at dksX2_enqueue_1 19 rfl rfl)
theorem dX2_enqueue_42 : decode cX2_enqueue 42 = .ok (.getfield 45, 3) := dk_180 0 45 (dk_at dksX2_enqueue_1 20 rfl rfl)
theorem dX2_enqueue_45 : decode cX2_enqueue 45 = .ok (.aload_n 0, 1) := dk_42 (dk_at dksX2_enqueue_1 23 rfl rfl)
theorem dX2_enqueue_46 : decode cX2_enqueue 46 = .ok (.getfield 49, 3) := dk_180 0 49 (dk_at dksX2_enqueue_2 0 rfl rfl)
theorem dX2_enqueue_49 : decode cX2_enqueue 49 = .ok (.arraylength, 1) := dk_190 (dk_at dksX2_enqueue_2 3 rfl rfl)
theorem dX2_enqueue_50 : decode cX2_enqueue 50 = .ok (.if_icmp .ne 20, 3) := dk_160 0 20 (dk_at dksX2_enqueue_2 4 rfl rfl)
theorem dX2_enqueue_53 : decode cX2_enqueue 53 = .ok (.aload_n 0, 1) := dk_42 (dk_at dksX2_enqueue_2 7 rfl rfl)
theorem dX2_enqueue_54 : decode cX2_enqueue 54 = .ok (.aload_n 0, 1) := dk_42 (dk_at dksX2_enqueue_2 8 rfl rfl)
theorem dX2_enqueue_55 : decode cX2_enqueue 55 = .ok (.getfield 49, 3) := dk_180 0 49 (dk_at dksX2_enqueue_2 9 rfl rfl)
theorem dX2_enqueue_58 : decode cX2_enqueue 58 = .ok (.aload_n 0, 1) := dk_42 (dk_at dksX2_enqueue_2 12 rfl rfl)
theorem dX2_enqueue_59 : decode cX2_enqueue 59 = .ok (.getfield 45, 3) := dk_180 0 45 (dk_at dksX2_enqueue_2 13 rfl rfl)
theorem dX2_enqueue_62 : decode cX2_enqueue 62 = .ok (.iconst 1, 1) := dk_4 (dk_at dksX2_enqueue_2 16 rfl rfl)
theorem dX2_enqueue_63 : decode cX2_enqueue 63 = .ok (.iadd, 1) := dk_96 (dk_at dksX2_enqueue_2 17 rfl rfl)
theorem dX2_enqueue_64 : decode cX2_enqueue 64 = .ok (.invokestatic 52, 3) := dk_184 0 52 (dk_at dksX2_enqueue_2 18 rfl rfl)
theorem dX2_enqueue_67 : decode cX2_enqueue 67 = .ok (.putfield 49, 3) := dk_181 0 49 (dk_at dksX2_enqueue_2 21 rfl rfl)
theorem dX2_enqueue_70 : decode cX2_enqueue 70 = .ok (.aload_n 0, 1) := dk_42 (dk_at dksX2_enqueue_3 0 rfl rfl)
theorem dX2_enqueue_71 : decode cX2_enqueue 71 = .ok (.getfield 7, 3) := dk_180 0 7 (dk_at dksX2_enqueue_3 1 rfl rfl)
theorem dX2_enqueue_74 : decode cX2_enqueue 74 = .ok (.aload_n 0, 1) := dk_42 (dk_at dksX2_enqueue_3 4 rfl rfl)
theorem dX2_enqueue_75 : decode cX2_enqueue 75 = .ok (.getfield 49, 3) := dk_180 0 49 (dk_at dksX2_enqueue_3 5 rfl rfl)
theorem dX2_enqueue_78 : decode cX2_enqueue 78 = .ok (.aload_n 0, 1) := dk_42 (dk_at dksX2_enqueue_3 8 rfl rfl)
theorem dX2_enqueue_79 : decode cX2_enqueue 79 = .ok (.getfield 45, 3) := dk_180 0 45 (dk_at dksX2_enqueue_3 9 rfl rfl)
theorem dX2_enqueue_82 : decode cX2_enqueue 82 = .ok (.iload_n 1, 1) := dk_27 (dk_at dksX2_enqueue_3 12 rfl rfl)
theorem dX2_enqueue_83 : decode cX2_enqueue 83 = .ok (.dup_x2, 1) := dk_91 (dk_at dksX2_enqueue_3 13 rfl rfl)
theorem dX2_enqueue_84 : decode cX2_enqueue 84 = .ok (.iastore, 1) := dk_79 (dk_at dksX2_enqueue_3 14 rfl rfl)
theorem dX2_enqueue_85 : decode cX2_enqueue 85 = .ok (.aload_n 0, 1) := dk_42 (dk_at dksX2_enqueue_3 15 rfl rfl)
theorem dX2_enqueue_86 : decode cX2_enqueue 86 = .ok (.dup, 1) := dk_89 (dk_at dksX2_enqueue_3 16 rfl rfl)
theorem dX2_enqueue_87 : decode cX2_enqueue 87 = .ok (.getfield 45, 3) := dk_180 0 45 (dk_at dksX2_enqueue_3 17 rfl rfl)
theorem dX2_enqueue_90 : decode cX2_enqueue 90 = .ok (.dup_x1, 1) := dk_90 (dk_at dksX2_enqueue_3 20 rfl rfl)
theorem dX2_enqueue_91 : decode cX2_enqueue 91 = .ok (.iconst 1, 1) := dk_4 (dk_at dksX2_enqueue_3 21 rfl rfl)
theorem dX2_enqueue_92 : decode cX2_enqueue 92 = .ok (.iadd, 1) := dk_96 (dk_at dksX2_enqueue_3 22 rfl rfl)
theorem dX2_enqueue_93 : decode cX2_enqueue 93 = .ok (.putfield 45, 3) := dk_181 0 45 (dk_at dksX2_enqueue_4 0 rfl rfl)
theorem dX2_enqueue_96 : decode cX2_enqueue 96 = .ok (.iastore, 1) := dk_79 (dk_at dksX2_enqueue_4 3 rfl rfl)
theorem dX2_enqueue_97 : decode cX2_enqueue 97 = .ok (.aload_n 0, 1) := dk_42 (dk_at dksX2_enqueue_4 4 rfl rfl)
theorem dX2_enqueue_98 : decode cX2_enqueue 98 = .ok (.getfield 58, 3) := dk_180 0 58 (dk_at dksX2_enqueue_4 5 rfl rfl)
theorem dX2_enqueue_101 : decode cX2_enqueue 101 = .ok (.aload_n 0, 1) := dk_42 (dk_at dksX2_enqueue_4 8 rfl rfl)
theorem dX2_enqueue_102 : decode cX2_enqueue 102 = .ok (.getfield 49, 3) := dk_180 0 49 (dk_at dksX2_enqueue_4 9 rfl rfl)
theorem dX2_enqueue_105 : decode cX2_enqueue 105 = .ok (.aload_n 0, 1) := dk_42 (dk_at dksX2_enqueue_4 12 rfl rfl)
theorem dX2_enqueue_106 : decode cX2_enqueue 106 = .ok (.getfield 7, 3) := dk_180 0 7 (dk_at dksX2_enqueue_4 13 rfl rfl)
theorem dX2_enqueue_109 : decode cX2_enqueue 109 = .ok (.aload_n 0, 1) := dk_42 (dk_at dksX2_enqueue_4 16 rfl rfl)
theorem dX2_enqueue_110 : decode cX2_enqueue 110 = .ok (.getfield 45, 3) := dk_180 0 45 (dk_at dksX2_enqueue_4 17 rfl rfl)
theorem dX2_enqueue_113 : decode cX2_enqueue 113 = .ok (.aload_n 0, 1) := dk_42 (dk_at dksX2_enqueue_4 20 rfl rfl)
theorem dX2_enqueue_114 : decode cX2_enqueue 114 = .ok (.getfield 45, 3) := dk_180 0 45 (dk_at dksX2_enqueue_4 21 rfl rfl)
theorem dX2_enqueue_117 : decode cX2_enqueue 117 = .ok (.iconst 1, 1) := dk_4 (dk_at dksX2_enqueue_5 0 rfl rfl)
theorem dX2_enqueue_118 : decode cX2_enqueue 118 = .ok (.isub, 1) := dk_100 (dk_at dksX2_enqueue_5 1 rfl rfl)
theorem dX2_enqueue_119 : decode cX2_enqueue 119 = .ok (.aload_n 0, 1) := dk_42 (dk_at dksX2_enqueue_5 2 rfl rfl)
theorem dX2_enqueue_120 : decode cX2_enqueue 120 = .ok (.getfield 61, 3) := dk_180 0 61 (dk_at dksX2_enqueue_5 3 rfl rfl)
theorem dX2_enqueue_123 : decode cX2_enqueue 123 = .ok (.invokestatic 65, 3) := dk_184 0 65 (dk_at dksX2_enqueue_5 6 rfl rfl)
theorem dX2_enqueue_126 : decode cX2_enqueue 126 = .ok (.pop, 1) := dk_87 (dk_at dksX2_enqueue_5 9 rfl rfl)
theorem dX2_enqueue_127 : decode cX2_enqueue 127 = .ok (.return_, 1) := dk_177 (dk_at dksX2_enqueue_5 10 rfl rfl)
abbrev cX2_remove : ByteArray := prog_6_method_9_code
def yX2_remove : MethodName := ⟨RX2, "remove", "(I)Z"⟩
def dkwX2_remove_4 : List UInt8 := [180, 0, 7, 42, 180, 0, 45, 29, 42, 180, 0, 61, 184, 0, 74, 87, 4, 172]
abbrev dktX2_remove_4 : List UInt8 := dkwX2_remove_4 ++ []
def dkwX2_remove_3 : List UInt8 := [42, 180, 0, 45, 28, 42, 180, 0, 61, 184, 0, 65, 62, 42, 180, 0, 58, 42, 180, 0, 49, 42]
abbrev dktX2_remove_3 : List UInt8 := dkwX2_remove_3 ++ dktX2_remove_4
def dkwX2_remove_2 : List UInt8 := [180, 0, 49, 42, 180, 0, 45, 46, 91, 79, 28, 79, 42, 180, 0, 58, 42, 180, 0, 49, 42, 180, 0, 7]
abbrev dktX2_remove_2 : List UInt8 := dkwX2_remove_2 ++ dktX2_remove_3
def dkwX2_remove_1 : List UInt8 := [180, 0, 45, 4, 100, 90, 181, 0, 45, 162, 0, 75, 42, 180, 0, 7, 42, 180, 0, 49, 28, 42]
abbrev dktX2_remove_1 : List UInt8 := dkwX2_remove_1 ++ dktX2_remove_2
def dkwX2_remove_0 : List UInt8 := [42, 180, 0, 7, 27, 46, 61, 28, 156, 0, 5, 3, 172, 42, 180, 0, 7, 27, 2, 79, 28, 42, 89]
abbrev dktX2_remove_0 : List UInt8 := dkwX2_remove_0 ++ dktX2_remove_1
theorem dksX2_remove_0 : cX2_remove.data.toList.drop 0 = dktX2_remove_0 := by decide +kernel
theorem dksX2_remove_1 : cX2_remove.data.toList.drop 23 = dktX2_remove_1 := dk_seg dksX2_remove_0 23 rfl rfl
theorem dksX2_remove_2 : cX2_remove.data.toList.drop 45 = dktX2_remove_2 := dk_seg dksX2_remove_1 22 rfl rfl
theorem dksX2_remove_3 : cX2_remove.data.toList.drop 69 = dktX2_remove_3 := dk_seg dksX2_remove_2 24 rfl rfl
theorem dksX2_remove_4 : cX2_remove.data.toList.drop 91 = dktX2_remove_4 := dk_seg dksX2_remove_3 22 rfl rfl
theorem dX2_remove_0 : decode cX2_remove 0 = .ok (.aload_n 0, 1) := dk_42 (dk_at dksX2_remove_0 0 rfl rfl)
theorem dX2_remove_1 : decode cX2_remove 1 = .ok (.getfield 7, 3) := dk_180 0 7 (dk_at dksX2_remove_0 1 rfl rfl)
theorem dX2_remove_4 : decode cX2_remove 4 = .ok (.iload_n 1, 1) := dk_27 (dk_at dksX2_remove_0 4 rfl rfl)
theorem dX2_remove_5 : decode cX2_remove 5 = .ok (.iaload, 1) := dk_46 (dk_at dksX2_remove_0 5 rfl rfl)
theorem dX2_remove_6 : decode cX2_remove 6 = .ok (.istore_n 2, 1) := dk_61 (dk_at dksX2_remove_0 6 rfl rfl)
theorem dX2_remove_7 : decode cX2_remove 7 = .ok (.iload_n 2, 1) := dk_28 (dk_at dksX2_remove_0 7 rfl rfl)
theorem dX2_remove_8 : decode cX2_remove 8 = .ok (.ifCond .ge 5, 3) := dk_156 0 5 (dk_at dksX2_remove_0 8 rfl rfl)
theorem dX2_remove_11 : decode cX2_remove 11 = .ok (.iconst 0, 1) := dk_3 (dk_at dksX2_remove_0 11 rfl rfl)
theorem dX2_remove_12 : decode cX2_remove 12 = .ok (.ireturn, 1) := dk_172 (dk_at dksX2_remove_0 12 rfl rfl)
theorem dX2_remove_13 : decode cX2_remove 13 = .ok (.aload_n 0, 1) := dk_42 (dk_at dksX2_remove_0 13 rfl rfl)
theorem dX2_remove_14 : decode cX2_remove 14 = .ok (.getfield 7, 3) := dk_180 0 7 (dk_at dksX2_remove_0 14 rfl rfl)
theorem dX2_remove_17 : decode cX2_remove 17 = .ok (.iload_n 1, 1) := dk_27 (dk_at dksX2_remove_0 17 rfl rfl)
theorem dX2_remove_18 : decode cX2_remove 18 = .ok (.iconst (-1), 1) := dk_2 (dk_at dksX2_remove_0 18 rfl rfl)
theorem dX2_remove_19 : decode cX2_remove 19 = .ok (.iastore, 1) := dk_79 (dk_at dksX2_remove_0 19 rfl rfl)
theorem dX2_remove_20 : decode cX2_remove 20 = .ok (.iload_n 2, 1) := dk_28 (dk_at dksX2_remove_0 20 rfl rfl)
theorem dX2_remove_21 : decode cX2_remove 21 = .ok (.aload_n 0, 1) := dk_42 (dk_at dksX2_remove_0 21 rfl rfl)
theorem dX2_remove_22 : decode cX2_remove 22 = .ok (.dup, 1) := dk_89 (dk_at dksX2_remove_0 22 rfl rfl)
theorem dX2_remove_23 : decode cX2_remove 23 = .ok (.getfield 45, 3) := dk_180 0 45 (dk_at dksX2_remove_1 0 rfl rfl)
theorem dX2_remove_26 : decode cX2_remove 26 = .ok (.iconst 1, 1) := dk_4 (dk_at dksX2_remove_1 3 rfl rfl)
theorem dX2_remove_27 : decode cX2_remove 27 = .ok (.isub, 1) := dk_100 (dk_at dksX2_remove_1 4 rfl rfl)
theorem dX2_remove_28 : decode cX2_remove 28 = .ok (.dup_x1, 1) := dk_90 (dk_at dksX2_remove_1 5 rfl rfl)
theorem dX2_remove_29 : decode cX2_remove 29 = .ok (.putfield 45, 3) := dk_181 0 45 (dk_at dksX2_remove_1 6 rfl rfl)
theorem dX2_remove_32 : decode cX2_remove 32 = .ok (.if_icmp .ge 75, 3) := dk_162 0 75 (dk_at dksX2_remove_1 9 rfl rfl)
theorem dX2_remove_35 : decode cX2_remove 35 = .ok (.aload_n 0, 1) := dk_42 (dk_at dksX2_remove_1 12 rfl rfl)
theorem dX2_remove_36 : decode cX2_remove 36 = .ok (.getfield 7, 3) := dk_180 0 7 (dk_at dksX2_remove_1 13 rfl rfl)
theorem dX2_remove_39 : decode cX2_remove 39 = .ok (.aload_n 0, 1) := dk_42 (dk_at dksX2_remove_1 16 rfl rfl)
theorem dX2_remove_40 : decode cX2_remove 40 = .ok (.getfield 49, 3) := dk_180 0 49 (dk_at dksX2_remove_1 17 rfl rfl)
theorem dX2_remove_43 : decode cX2_remove 43 = .ok (.iload_n 2, 1) := dk_28 (dk_at dksX2_remove_1 20 rfl rfl)
theorem dX2_remove_44 : decode cX2_remove 44 = .ok (.aload_n 0, 1) := dk_42 (dk_at dksX2_remove_1 21 rfl rfl)
theorem dX2_remove_45 : decode cX2_remove 45 = .ok (.getfield 49, 3) := dk_180 0 49 (dk_at dksX2_remove_2 0 rfl rfl)
theorem dX2_remove_48 : decode cX2_remove 48 = .ok (.aload_n 0, 1) := dk_42 (dk_at dksX2_remove_2 3 rfl rfl)
theorem dX2_remove_49 : decode cX2_remove 49 = .ok (.getfield 45, 3) := dk_180 0 45 (dk_at dksX2_remove_2 4 rfl rfl)
theorem dX2_remove_52 : decode cX2_remove 52 = .ok (.iaload, 1) := dk_46 (dk_at dksX2_remove_2 7 rfl rfl)
theorem dX2_remove_53 : decode cX2_remove 53 = .ok (.dup_x2, 1) := dk_91 (dk_at dksX2_remove_2 8 rfl rfl)
theorem dX2_remove_54 : decode cX2_remove 54 = .ok (.iastore, 1) := dk_79 (dk_at dksX2_remove_2 9 rfl rfl)
theorem dX2_remove_55 : decode cX2_remove 55 = .ok (.iload_n 2, 1) := dk_28 (dk_at dksX2_remove_2 10 rfl rfl)
theorem dX2_remove_56 : decode cX2_remove 56 = .ok (.iastore, 1) := dk_79 (dk_at dksX2_remove_2 11 rfl rfl)
theorem dX2_remove_57 : decode cX2_remove 57 = .ok (.aload_n 0, 1) := dk_42 (dk_at dksX2_remove_2 12 rfl rfl)
theorem dX2_remove_58 : decode cX2_remove 58 = .ok (.getfield 58, 3) := dk_180 0 58 (dk_at dksX2_remove_2 13 rfl rfl)
theorem dX2_remove_61 : decode cX2_remove 61 = .ok (.aload_n 0, 1) := dk_42 (dk_at dksX2_remove_2 16 rfl rfl)
theorem dX2_remove_62 : decode cX2_remove 62 = .ok (.getfield 49, 3) := dk_180 0 49 (dk_at dksX2_remove_2 17 rfl rfl)
theorem dX2_remove_65 : decode cX2_remove 65 = .ok (.aload_n 0, 1) := dk_42 (dk_at dksX2_remove_2 20 rfl rfl)
theorem dX2_remove_66 : decode cX2_remove 66 = .ok (.getfield 7, 3) := dk_180 0 7 (dk_at dksX2_remove_2 21 rfl rfl)
theorem dX2_remove_69 : decode cX2_remove 69 = .ok (.aload_n 0, 1) := dk_42 (dk_at dksX2_remove_3 0 rfl rfl)
theorem dX2_remove_70 : decode cX2_remove 70 = .ok (.getfield 45, 3) := dk_180 0 45 (dk_at dksX2_remove_3 1 rfl rfl)
theorem dX2_remove_73 : decode cX2_remove 73 = .ok (.iload_n 2, 1) := dk_28 (dk_at dksX2_remove_3 4 rfl rfl)
theorem dX2_remove_74 : decode cX2_remove 74 = .ok (.aload_n 0, 1) := dk_42 (dk_at dksX2_remove_3 5 rfl rfl)
theorem dX2_remove_75 : decode cX2_remove 75 = .ok (.getfield 61, 3) := dk_180 0 61 (dk_at dksX2_remove_3 6 rfl rfl)
theorem dX2_remove_78 : decode cX2_remove 78 = .ok (.invokestatic 65, 3) := dk_184 0 65 (dk_at dksX2_remove_3 9 rfl rfl)
theorem dX2_remove_81 : decode cX2_remove 81 = .ok (.istore_n 3, 1) := dk_62 (dk_at dksX2_remove_3 12 rfl rfl)
theorem dX2_remove_82 : decode cX2_remove 82 = .ok (.aload_n 0, 1) := dk_42 (dk_at dksX2_remove_3 13 rfl rfl)
theorem dX2_remove_83 : decode cX2_remove 83 = .ok (.getfield 58, 3) := dk_180 0 58 (dk_at dksX2_remove_3 14 rfl rfl)
theorem dX2_remove_86 : decode cX2_remove 86 = .ok (.aload_n 0, 1) := dk_42 (dk_at dksX2_remove_3 17 rfl rfl)
theorem dX2_remove_87 : decode cX2_remove 87 = .ok (.getfield 49, 3) := dk_180 0 49 (dk_at dksX2_remove_3 18 rfl rfl)
theorem dX2_remove_90 : decode cX2_remove 90 = .ok (.aload_n 0, 1) := dk_42 (dk_at dksX2_remove_3 21 rfl rfl)
theorem dX2_remove_91 : decode cX2_remove 91 = .ok (.getfield 7, 3) := dk_180 0 7 (dk_at dksX2_remove_4 0 rfl rfl)
theorem dX2_remove_94 : decode cX2_remove 94 = .ok (.aload_n 0, 1) := dk_42 (dk_at dksX2_remove_4 3 rfl rfl)
theorem dX2_remove_95 : decode cX2_remove 95 = .ok (.getfield 45, 3) := dk_180 0 45 (dk_at dksX2_remove_4 4 rfl rfl)
theorem dX2_remove_98 : decode cX2_remove 98 = .ok (.iload_n 3, 1) := dk_29 (dk_at dksX2_remove_4 7 rfl rfl)
theorem dX2_remove_99 : decode cX2_remove 99 = .ok (.aload_n 0, 1) := dk_42 (dk_at dksX2_remove_4 8 rfl rfl)
theorem dX2_remove_100 : decode cX2_remove 100 = .ok (.getfield 61, 3) := dk_180 0 61 (dk_at dksX2_remove_4 9 rfl rfl)
theorem dX2_remove_103 : decode cX2_remove 103 = .ok (.invokestatic 74, 3) := dk_184 0 74 (dk_at dksX2_remove_4 12 rfl rfl)
theorem dX2_remove_106 : decode cX2_remove 106 = .ok (.pop, 1) := dk_87 (dk_at dksX2_remove_4 15 rfl rfl)
theorem dX2_remove_107 : decode cX2_remove 107 = .ok (.iconst 1, 1) := dk_4 (dk_at dksX2_remove_4 16 rfl rfl)
theorem dX2_remove_108 : decode cX2_remove 108 = .ok (.ireturn, 1) := dk_172 (dk_at dksX2_remove_4 17 rfl rfl)
abbrev cX2_dequeue : ByteArray := prog_6_method_5_code
def yX2_dequeue : MethodName := ⟨RX2, "dequeue", "()I"⟩
def dkwX2_dequeue_4 : List UInt8 := [184, 0, 74, 87, 27, 172]
abbrev dktX2_dequeue_4 : List UInt8 := dkwX2_dequeue_4 ++ []
def dkwX2_dequeue_3 : List UInt8 := [153, 0, 28, 42, 180, 0, 58, 42, 180, 0, 49, 42, 180, 0, 7, 42, 180, 0, 45, 3, 42, 180, 0, 61]
abbrev dktX2_dequeue_3 : List UInt8 := dkwX2_dequeue_3 ++ dktX2_dequeue_4
def dkwX2_dequeue_2 : List UInt8 := [180, 0, 49, 42, 180, 0, 45, 46, 91, 79, 3, 79, 42, 180, 0, 7, 27, 2, 79, 42, 180, 0, 45]
abbrev dktX2_dequeue_2 : List UInt8 := dkwX2_dequeue_2 ++ dktX2_dequeue_3
def dkwX2_dequeue_1 : List UInt8 := [180, 0, 45, 4, 100, 90, 181, 0, 45, 153, 0, 25, 42, 180, 0, 7, 42, 180, 0, 49, 3, 42]
abbrev dktX2_dequeue_1 : List UInt8 := dkwX2_dequeue_1 ++ dktX2_dequeue_2
def dkwX2_dequeue_0 : List UInt8 := [42, 180, 0, 45, 154, 0, 11, 187, 0, 71, 89, 183, 0, 73, 191, 42, 180, 0, 49, 3, 46, 60, 42, 89]
abbrev dktX2_dequeue_0 : List UInt8 := dkwX2_dequeue_0 ++ dktX2_dequeue_1
theorem dksX2_dequeue_0 : cX2_dequeue.data.toList.drop 0 = dktX2_dequeue_0 := by decide +kernel
theorem dksX2_dequeue_1 : cX2_dequeue.data.toList.drop 24 = dktX2_dequeue_1 := dk_seg dksX2_dequeue_0 24 rfl rfl
theorem dksX2_dequeue_2 : cX2_dequeue.data.toList.drop 46 = dktX2_dequeue_2 := dk_seg dksX2_dequeue_1 22 rfl rfl
theorem dksX2_dequeue_3 : cX2_dequeue.data.toList.drop 69 = dktX2_dequeue_3 := dk_seg dksX2_dequeue_2 23 rfl rfl
theorem dksX2_dequeue_4 : cX2_dequeue.data.toList.drop 93 = dktX2_dequeue_4 := dk_seg dksX2_dequeue_3 24 rfl rfl
theorem dX2_dequeue_0 : decode cX2_dequeue 0 = .ok (.aload_n 0, 1) := dk_42 (dk_at dksX2_dequeue_0 0 rfl rfl)
theorem dX2_dequeue_1 : decode cX2_dequeue 1 = .ok (.getfield 45, 3) := dk_180 0 45 (dk_at dksX2_dequeue_0 1 rfl rfl)
theorem dX2_dequeue_4 : decode cX2_dequeue 4 = .ok (.ifCond .ne 11, 3) := dk_154 0 11 (dk_at dksX2_dequeue_0 4 rfl rfl)
theorem dX2_dequeue_7 : decode cX2_dequeue 7 = .ok (.new 71, 3) := dk_187 0 71 (dk_at dksX2_dequeue_0 7 rfl rfl)
theorem dX2_dequeue_10 : decode cX2_dequeue 10 = .ok (.dup, 1) := dk_89 (dk_at dksX2_dequeue_0 10 rfl rfl)
theorem dX2_dequeue_11 : decode cX2_dequeue 11 = .ok (.invokespecial 73, 3) := dk_183 0 73 (dk_at dksX2_dequeue_0 11 rfl rfl)
theorem dX2_dequeue_14 : decode cX2_dequeue 14 = .ok (.athrow, 1) := dk_191 (dk_at dksX2_dequeue_0 14 rfl rfl)
theorem dX2_dequeue_15 : decode cX2_dequeue 15 = .ok (.aload_n 0, 1) := dk_42 (dk_at dksX2_dequeue_0 15 rfl rfl)
theorem dX2_dequeue_16 : decode cX2_dequeue 16 = .ok (.getfield 49, 3) := dk_180 0 49 (dk_at dksX2_dequeue_0 16 rfl rfl)
theorem dX2_dequeue_19 : decode cX2_dequeue 19 = .ok (.iconst 0, 1) := dk_3 (dk_at dksX2_dequeue_0 19 rfl rfl)
theorem dX2_dequeue_20 : decode cX2_dequeue 20 = .ok (.iaload, 1) := dk_46 (dk_at dksX2_dequeue_0 20 rfl rfl)
theorem dX2_dequeue_21 : decode cX2_dequeue 21 = .ok (.istore_n 1, 1) := dk_60 (dk_at dksX2_dequeue_0 21 rfl rfl)
theorem dX2_dequeue_22 : decode cX2_dequeue 22 = .ok (.aload_n 0, 1) := dk_42 (dk_at dksX2_dequeue_0 22 rfl rfl)
theorem dX2_dequeue_23 : decode cX2_dequeue 23 = .ok (.dup, 1) := dk_89 (dk_at dksX2_dequeue_0 23 rfl rfl)
theorem dX2_dequeue_24 : decode cX2_dequeue 24 = .ok (.getfield 45, 3) := dk_180 0 45 (dk_at dksX2_dequeue_1 0 rfl rfl)
theorem dX2_dequeue_27 : decode cX2_dequeue 27 = .ok (.iconst 1, 1) := dk_4 (dk_at dksX2_dequeue_1 3 rfl rfl)
theorem dX2_dequeue_28 : decode cX2_dequeue 28 = .ok (.isub, 1) := dk_100 (dk_at dksX2_dequeue_1 4 rfl rfl)
theorem dX2_dequeue_29 : decode cX2_dequeue 29 = .ok (.dup_x1, 1) := dk_90 (dk_at dksX2_dequeue_1 5 rfl rfl)
theorem dX2_dequeue_30 : decode cX2_dequeue 30 = .ok (.putfield 45, 3) := dk_181 0 45 (dk_at dksX2_dequeue_1 6 rfl rfl)
theorem dX2_dequeue_33 : decode cX2_dequeue 33 = .ok (.ifCond .eq 25, 3) := dk_153 0 25 (dk_at dksX2_dequeue_1 9 rfl rfl)
theorem dX2_dequeue_36 : decode cX2_dequeue 36 = .ok (.aload_n 0, 1) := dk_42 (dk_at dksX2_dequeue_1 12 rfl rfl)
theorem dX2_dequeue_37 : decode cX2_dequeue 37 = .ok (.getfield 7, 3) := dk_180 0 7 (dk_at dksX2_dequeue_1 13 rfl rfl)
theorem dX2_dequeue_40 : decode cX2_dequeue 40 = .ok (.aload_n 0, 1) := dk_42 (dk_at dksX2_dequeue_1 16 rfl rfl)
theorem dX2_dequeue_41 : decode cX2_dequeue 41 = .ok (.getfield 49, 3) := dk_180 0 49 (dk_at dksX2_dequeue_1 17 rfl rfl)
theorem dX2_dequeue_44 : decode cX2_dequeue 44 = .ok (.iconst 0, 1) := dk_3 (dk_at dksX2_dequeue_1 20 rfl rfl)
theorem dX2_dequeue_45 : decode cX2_dequeue 45 = .ok (.aload_n 0, 1) := dk_42 (dk_at dksX2_dequeue_1 21 rfl rfl)
theorem dX2_dequeue_46 : decode cX2_dequeue 46 = .ok (.getfield 49, 3) := dk_180 0 49 (dk_at dksX2_dequeue_2 0 rfl rfl)
theorem dX2_dequeue_49 : decode cX2_dequeue 49 = .ok (.aload_n 0, 1) := dk_42 (dk_at dksX2_dequeue_2 3 rfl rfl)
theorem dX2_dequeue_50 : decode cX2_dequeue 50 = .ok (.getfield 45, 3) := dk_180 0 45 (dk_at dksX2_dequeue_2 4 rfl rfl)
theorem dX2_dequeue_53 : decode cX2_dequeue 53 = .ok (.iaload, 1) := dk_46 (dk_at dksX2_dequeue_2 7 rfl rfl)
theorem dX2_dequeue_54 : decode cX2_dequeue 54 = .ok (.dup_x2, 1) := dk_91 (dk_at dksX2_dequeue_2 8 rfl rfl)
theorem dX2_dequeue_55 : decode cX2_dequeue 55 = .ok (.iastore, 1) := dk_79 (dk_at dksX2_dequeue_2 9 rfl rfl)
theorem dX2_dequeue_56 : decode cX2_dequeue 56 = .ok (.iconst 0, 1) := dk_3 (dk_at dksX2_dequeue_2 10 rfl rfl)
theorem dX2_dequeue_57 : decode cX2_dequeue 57 = .ok (.iastore, 1) := dk_79 (dk_at dksX2_dequeue_2 11 rfl rfl)
theorem dX2_dequeue_58 : decode cX2_dequeue 58 = .ok (.aload_n 0, 1) := dk_42 (dk_at dksX2_dequeue_2 12 rfl rfl)
theorem dX2_dequeue_59 : decode cX2_dequeue 59 = .ok (.getfield 7, 3) := dk_180 0 7 (dk_at dksX2_dequeue_2 13 rfl rfl)
theorem dX2_dequeue_62 : decode cX2_dequeue 62 = .ok (.iload_n 1, 1) := dk_27 (dk_at dksX2_dequeue_2 16 rfl rfl)
theorem dX2_dequeue_63 : decode cX2_dequeue 63 = .ok (.iconst (-1), 1) := dk_2 (dk_at dksX2_dequeue_2 17 rfl rfl)
theorem dX2_dequeue_64 : decode cX2_dequeue 64 = .ok (.iastore, 1) := dk_79 (dk_at dksX2_dequeue_2 18 rfl rfl)
theorem dX2_dequeue_65 : decode cX2_dequeue 65 = .ok (.aload_n 0, 1) := dk_42 (dk_at dksX2_dequeue_2 19 rfl rfl)
theorem dX2_dequeue_66 : decode cX2_dequeue 66 = .ok (.getfield 45, 3) := dk_180 0 45 (dk_at dksX2_dequeue_2 20 rfl rfl)
theorem dX2_dequeue_69 : decode cX2_dequeue 69 = .ok (.ifCond .eq 28, 3) := dk_153 0 28 (dk_at dksX2_dequeue_3 0 rfl rfl)
theorem dX2_dequeue_72 : decode cX2_dequeue 72 = .ok (.aload_n 0, 1) := dk_42 (dk_at dksX2_dequeue_3 3 rfl rfl)
theorem dX2_dequeue_73 : decode cX2_dequeue 73 = .ok (.getfield 58, 3) := dk_180 0 58 (dk_at dksX2_dequeue_3 4 rfl rfl)
theorem dX2_dequeue_76 : decode cX2_dequeue 76 = .ok (.aload_n 0, 1) := dk_42 (dk_at dksX2_dequeue_3 7 rfl rfl)
theorem dX2_dequeue_77 : decode cX2_dequeue 77 = .ok (.getfield 49, 3) := dk_180 0 49 (dk_at dksX2_dequeue_3 8 rfl rfl)
theorem dX2_dequeue_80 : decode cX2_dequeue 80 = .ok (.aload_n 0, 1) := dk_42 (dk_at dksX2_dequeue_3 11 rfl rfl)
theorem dX2_dequeue_81 : decode cX2_dequeue 81 = .ok (.getfield 7, 3) := dk_180 0 7 (dk_at dksX2_dequeue_3 12 rfl rfl)
theorem dX2_dequeue_84 : decode cX2_dequeue 84 = .ok (.aload_n 0, 1) := dk_42 (dk_at dksX2_dequeue_3 15 rfl rfl)
theorem dX2_dequeue_85 : decode cX2_dequeue 85 = .ok (.getfield 45, 3) := dk_180 0 45 (dk_at dksX2_dequeue_3 16 rfl rfl)
theorem dX2_dequeue_88 : decode cX2_dequeue 88 = .ok (.iconst 0, 1) := dk_3 (dk_at dksX2_dequeue_3 19 rfl rfl)
theorem dX2_dequeue_89 : decode cX2_dequeue 89 = .ok (.aload_n 0, 1) := dk_42 (dk_at dksX2_dequeue_3 20 rfl rfl)
theorem dX2_dequeue_90 : decode cX2_dequeue 90 = .ok (.getfield 61, 3) := dk_180 0 61 (dk_at dksX2_dequeue_3 21 rfl rfl)
theorem dX2_dequeue_93 : decode cX2_dequeue 93 = .ok (.invokestatic 74, 3) := dk_184 0 74 (dk_at dksX2_dequeue_4 0 rfl rfl)
theorem dX2_dequeue_96 : decode cX2_dequeue 96 = .ok (.pop, 1) := dk_87 (dk_at dksX2_dequeue_4 3 rfl rfl)
theorem dX2_dequeue_97 : decode cX2_dequeue 97 = .ok (.iload_n 1, 1) := dk_27 (dk_at dksX2_dequeue_4 4 rfl rfl)
theorem dX2_dequeue_98 : decode cX2_dequeue 98 = .ok (.ireturn, 1) := dk_172 (dk_at dksX2_dequeue_4 5 rfl rfl)
abbrev cX2_changed_2 : ByteArray := prog_6_method_6_code
def yX2_changed_2 : MethodName := ⟨RX2, "changed", "()V"⟩
def dkwX2_changed_2_1 : List UInt8 := [87, 177]
abbrev dktX2_changed_2_1 : List UInt8 := dkwX2_changed_2_1 ++ []
def dkwX2_changed_2_0 : List UInt8 := [42, 180, 0, 58, 42, 180, 0, 49, 42, 180, 0, 7, 42, 180, 0, 45, 3, 42, 180, 0, 61, 184, 0, 74]
abbrev dktX2_changed_2_0 : List UInt8 := dkwX2_changed_2_0 ++ dktX2_changed_2_1
theorem dksX2_changed_2_0 : cX2_changed_2.data.toList.drop 0 = dktX2_changed_2_0 := by decide +kernel
theorem dksX2_changed_2_1 : cX2_changed_2.data.toList.drop 24 = dktX2_changed_2_1 := dk_seg dksX2_changed_2_0 24 rfl rfl
theorem dX2_changed_2_0 : decode cX2_changed_2 0 = .ok (.aload_n 0, 1) := dk_42 (dk_at dksX2_changed_2_0 0 rfl rfl)
theorem dX2_changed_2_1 : decode cX2_changed_2 1 = .ok (.getfield 58, 3) := dk_180 0 58 (dk_at dksX2_changed_2_0 1 rfl rfl)
theorem dX2_changed_2_4 : decode cX2_changed_2 4 = .ok (.aload_n 0, 1) := dk_42 (dk_at dksX2_changed_2_0 4 rfl rfl)
theorem dX2_changed_2_5 : decode cX2_changed_2 5 = .ok (.getfield 49, 3) := dk_180 0 49 (dk_at dksX2_changed_2_0 5 rfl rfl)
theorem dX2_changed_2_8 : decode cX2_changed_2 8 = .ok (.aload_n 0, 1) := dk_42 (dk_at dksX2_changed_2_0 8 rfl rfl)
theorem dX2_changed_2_9 : decode cX2_changed_2 9 = .ok (.getfield 7, 3) := dk_180 0 7 (dk_at dksX2_changed_2_0 9 rfl rfl)
theorem dX2_changed_2_12 : decode cX2_changed_2 12 = .ok (.aload_n 0, 1) := dk_42 (dk_at dksX2_changed_2_0 12 rfl rfl)
theorem dX2_changed_2_13 : decode cX2_changed_2 13 = .ok (.getfield 45, 3) := dk_180 0 45 (dk_at dksX2_changed_2_0 13 rfl rfl)
theorem dX2_changed_2_16 : decode cX2_changed_2 16 = .ok (.iconst 0, 1) := dk_3 (dk_at dksX2_changed_2_0 16 rfl rfl)
theorem dX2_changed_2_17 : decode cX2_changed_2 17 = .ok (.aload_n 0, 1) := dk_42 (dk_at dksX2_changed_2_0 17 rfl rfl)
theorem dX2_changed_2_18 : decode cX2_changed_2 18 = .ok (.getfield 61, 3) := dk_180 0 61 (dk_at dksX2_changed_2_0 18 rfl rfl)
theorem dX2_changed_2_21 : decode cX2_changed_2 21 = .ok (.invokestatic 74, 3) := dk_184 0 74 (dk_at dksX2_changed_2_0 21 rfl rfl)
theorem dX2_changed_2_24 : decode cX2_changed_2 24 = .ok (.pop, 1) := dk_87 (dk_at dksX2_changed_2_1 0 rfl rfl)
theorem dX2_changed_2_25 : decode cX2_changed_2 25 = .ok (.return_, 1) := dk_177 (dk_at dksX2_changed_2_1 1 rfl rfl)
abbrev cX2_allChanged : ByteArray := prog_6_method_8_code
def yX2_allChanged : MethodName := ⟨RX2, "allChanged", "()V"⟩
def dkwX2_allChanged_0 : List UInt8 := [42, 180, 0, 58, 42, 180, 0, 49, 42, 180, 0, 7, 42, 180, 0, 45, 42, 180, 0, 61, 184, 0, 79, 177]
abbrev dktX2_allChanged_0 : List UInt8 := dkwX2_allChanged_0 ++ []
theorem dksX2_allChanged_0 : cX2_allChanged.data.toList.drop 0 = dktX2_allChanged_0 := by decide +kernel
theorem dX2_allChanged_0 : decode cX2_allChanged 0 = .ok (.aload_n 0, 1) := dk_42 (dk_at dksX2_allChanged_0 0 rfl rfl)
theorem dX2_allChanged_1 : decode cX2_allChanged 1 = .ok (.getfield 58, 3) := dk_180 0 58 (dk_at dksX2_allChanged_0 1 rfl rfl)
theorem dX2_allChanged_4 : decode cX2_allChanged 4 = .ok (.aload_n 0, 1) := dk_42 (dk_at dksX2_allChanged_0 4 rfl rfl)
theorem dX2_allChanged_5 : decode cX2_allChanged 5 = .ok (.getfield 49, 3) := dk_180 0 49 (dk_at dksX2_allChanged_0 5 rfl rfl)
theorem dX2_allChanged_8 : decode cX2_allChanged 8 = .ok (.aload_n 0, 1) := dk_42 (dk_at dksX2_allChanged_0 8 rfl rfl)
theorem dX2_allChanged_9 : decode cX2_allChanged 9 = .ok (.getfield 7, 3) := dk_180 0 7 (dk_at dksX2_allChanged_0 9 rfl rfl)
theorem dX2_allChanged_12 : decode cX2_allChanged 12 = .ok (.aload_n 0, 1) := dk_42 (dk_at dksX2_allChanged_0 12 rfl rfl)
theorem dX2_allChanged_13 : decode cX2_allChanged 13 = .ok (.getfield 45, 3) := dk_180 0 45 (dk_at dksX2_allChanged_0 13 rfl rfl)
theorem dX2_allChanged_16 : decode cX2_allChanged 16 = .ok (.aload_n 0, 1) := dk_42 (dk_at dksX2_allChanged_0 16 rfl rfl)
theorem dX2_allChanged_17 : decode cX2_allChanged 17 = .ok (.getfield 61, 3) := dk_180 0 61 (dk_at dksX2_allChanged_0 17 rfl rfl)
theorem dX2_allChanged_20 : decode cX2_allChanged 20 = .ok (.invokestatic 79, 3) := dk_184 0 79 (dk_at dksX2_allChanged_0 20 rfl rfl)
theorem dX2_allChanged_23 : decode cX2_allChanged 23 = .ok (.return_, 1) := dk_177 (dk_at dksX2_allChanged_0 23 rfl rfl)
abbrev cX2_clear : ByteArray := prog_6_method_10_code
def yX2_clear : MethodName := ⟨RX2, "clear", "()V"⟩
def dkwX2_clear_0 : List UInt8 := [42, 3, 181, 0, 45, 42, 180, 0, 7, 2, 184, 0, 13, 177]
abbrev dktX2_clear_0 : List UInt8 := dkwX2_clear_0 ++ []
theorem dksX2_clear_0 : cX2_clear.data.toList.drop 0 = dktX2_clear_0 := by decide +kernel
theorem dX2_clear_0 : decode cX2_clear 0 = .ok (.aload_n 0, 1) := dk_42 (dk_at dksX2_clear_0 0 rfl rfl)
theorem dX2_clear_1 : decode cX2_clear 1 = .ok (.iconst 0, 1) := dk_3 (dk_at dksX2_clear_0 1 rfl rfl)
theorem dX2_clear_2 : decode cX2_clear 2 = .ok (.putfield 45, 3) := dk_181 0 45 (dk_at dksX2_clear_0 2 rfl rfl)
theorem dX2_clear_5 : decode cX2_clear 5 = .ok (.aload_n 0, 1) := dk_42 (dk_at dksX2_clear_0 5 rfl rfl)
theorem dX2_clear_6 : decode cX2_clear 6 = .ok (.getfield 7, 3) := dk_180 0 7 (dk_at dksX2_clear_0 6 rfl rfl)
theorem dX2_clear_9 : decode cX2_clear 9 = .ok (.iconst (-1), 1) := dk_2 (dk_at dksX2_clear_0 9 rfl rfl)
theorem dX2_clear_10 : decode cX2_clear 10 = .ok (.invokestatic 13, 3) := dk_184 0 13 (dk_at dksX2_clear_0 10 rfl rfl)
theorem dX2_clear_13 : decode cX2_clear 13 = .ok (.return_, 1) := dk_177 (dk_at dksX2_clear_0 13 rfl rfl)
theorem q5 : (Jvm.Cond.initialized "IntHeapIndirectPriorityQueue") ∈ lw_all := lw_g (lw_at lw_m1 3 rfl) rfl
theorem q35 : (Jvm.Cond.instantiable "IntHeapIndirectPriorityQueue" (5 : Nat)) ∈ lw_all := lw_g (lw_at lw_m1 33 rfl) rfl
theorem q37 : (Jvm.Cond.instanceMethod ({ cls := "IntHeapIndirectPriorityQueue", name := "<init>", desc := "([I)V" } : Jvm.MethodName)) ∈ lw_all := lw_g (lw_at lw_m1 35 rfl) rfl
theorem q38 : (Jvm.Cond.code ({ cls := "IntHeapIndirectPriorityQueue", name := "<init>", desc := "([I)V" } : Jvm.MethodName) prog_6_method_2_code (2 : Nat) (Option.none : Option Jvm.ClassFile.FieldType)) ∈ lw_all := lw_g (lw_at lw_m1 36 rfl) rfl
theorem q39 : (Jvm.Cond.methodLink "IntHeapIndirectPriorityQueue" (19 : Nat) ({ cls := "IntHeapIndirectPriorityQueue", name := "<init>", desc := "([IILIntComparator;)V" } : Jvm.MethodName)) ∈ lw_all := lw_g (lw_at lw_m1 37 rfl) rfl
theorem q40 : (Jvm.Cond.instanceMethod ({ cls := "IntHeapIndirectPriorityQueue", name := "<init>", desc := "([IILIntComparator;)V" } : Jvm.MethodName)) ∈ lw_all := lw_g (lw_at lw_m1 38 rfl) rfl
theorem q41 : (Jvm.Cond.code ({ cls := "IntHeapIndirectPriorityQueue", name := "<init>", desc := "([IILIntComparator;)V" } : Jvm.MethodName) prog_6_method_1_code (4 : Nat) (Option.none : Option Jvm.ClassFile.FieldType)) ∈ lw_all := lw_g (lw_at lw_m1 39 rfl) rfl
theorem q42 : (Jvm.Cond.methodLink "IntHeapIndirectPriorityQueue" (1 : Nat) ({ cls := "IntHeapSemiIndirectPriorityQueue", name := "<init>", desc := "([IILIntComparator;)V" } : Jvm.MethodName)) ∈ lw_all := lw_g (lw_at lw_m1 40 rfl) rfl
theorem q48 : (Jvm.Cond.methodLink "IntHeapIndirectPriorityQueue" (13 : Nat) ({ cls := "java/util/Arrays", name := "fill", desc := "([II)V" } : Jvm.MethodName)) ∈ lw_all := lw_g (lw_at lw_m1 46 rfl) rfl
theorem q51 : (Jvm.Cond.fieldLink "IntHeapIndirectPriorityQueue" (7 : Nat) "IntHeapIndirectPriorityQueue" "inv" "[I") ∈ lw_all := lw_g (lw_at lw_m1 49 rfl) rfl
theorem q53 : (Jvm.Cond.fieldLink "IntHeapIndirectPriorityQueue" (58 : Nat) "IntHeapIndirectPriorityQueue" "refArray" "[I") ∈ lw_all := lw_g (lw_at lw_m1 51 rfl) rfl
theorem q54 : (Jvm.Cond.sameField "IntHeapIndirectPriorityQueue" "IntHeapSemiIndirectPriorityQueue" "refArray" "[I") ∈ lw_all := lw_g (lw_at lw_m1 52 rfl) rfl
theorem q56 : (Jvm.Cond.fieldLink "IntHeapIndirectPriorityQueue" (49 : Nat) "IntHeapIndirectPriorityQueue" "heap" "[I") ∈ lw_all := lw_g (lw_at lw_m1 54 rfl) rfl
theorem q57 : (Jvm.Cond.sameField "IntHeapIndirectPriorityQueue" "IntHeapSemiIndirectPriorityQueue" "heap" "[I") ∈ lw_all := lw_g (lw_at lw_m1 55 rfl) rfl
theorem q59 : (Jvm.Cond.fieldLink "IntHeapIndirectPriorityQueue" (45 : Nat) "IntHeapIndirectPriorityQueue" "size" "I") ∈ lw_all := lw_g (lw_at lw_m1 57 rfl) rfl
theorem q60 : (Jvm.Cond.sameField "IntHeapIndirectPriorityQueue" "IntHeapSemiIndirectPriorityQueue" "size" "I") ∈ lw_all := lw_g (lw_at lw_m1 58 rfl) rfl
theorem q62 : (Jvm.Cond.fieldLink "IntHeapIndirectPriorityQueue" (61 : Nat) "IntHeapIndirectPriorityQueue" "c" "LIntComparator;") ∈ lw_all := lw_g (lw_at lw_m1 60 rfl) rfl
theorem q63 : (Jvm.Cond.sameField "IntHeapIndirectPriorityQueue" "IntHeapSemiIndirectPriorityQueue" "c" "LIntComparator;") ∈ lw_all := lw_g (lw_at lw_m1 61 rfl) rfl
theorem q64 : (Jvm.Cond.laysFinal "IntHeapIndirectPriorityQueue" "IntHeapIndirectPriorityQueue" "inv" "[I") ∈ lw_all := lw_g (lw_at lw_m1 62 rfl) rfl
theorem q65 : (Jvm.Cond.soleField "IntHeapIndirectPriorityQueue" "inv") ∈ lw_all := lw_g (lw_at lw_m1 63 rfl) rfl
theorem q66 : (Jvm.Cond.laysFinal "IntHeapIndirectPriorityQueue" "IntHeapSemiIndirectPriorityQueue" "refArray" "[I") ∈ lw_all := lw_g (lw_at lw_m1 64 rfl) rfl
theorem q68 : (Jvm.Cond.lays "IntHeapIndirectPriorityQueue" "IntHeapSemiIndirectPriorityQueue" "heap" "[I") ∈ lw_all := lw_g (lw_at lw_m1 66 rfl) rfl
theorem q70 : (Jvm.Cond.lays "IntHeapIndirectPriorityQueue" "IntHeapSemiIndirectPriorityQueue" "size" "I") ∈ lw_all := lw_g (lw_at lw_m1 68 rfl) rfl
theorem q72 : (Jvm.Cond.lays "IntHeapIndirectPriorityQueue" "IntHeapSemiIndirectPriorityQueue" "c" "LIntComparator;") ∈ lw_all := lw_g (lw_at lw_m1 70 rfl) rfl
theorem q74 : (Jvm.Cond.superclass "IntHeapIndirectPriorityQueue" "IntHeapSemiIndirectPriorityQueue") ∈ lw_all := lw_g (lw_at lw_m1 72 rfl) rfl
theorem q88 : (Jvm.Cond.instanceMethod ({ cls := "IntHeapIndirectPriorityQueue", name := "contains", desc := "(I)Z" } : Jvm.MethodName)) ∈ lw_all := lw_g (lw_at lw_m1 86 rfl) rfl
theorem q89 : (Jvm.Cond.selects "IntHeapIndirectPriorityQueue" ({ cls := "IntHeapIndirectPriorityQueue", name := "contains", desc := "(I)Z" } : Jvm.MethodName) ({ cls := "IntHeapIndirectPriorityQueue", name := "contains", desc := "(I)Z" } : Jvm.MethodName)) ∈ lw_all := lw_g (lw_at lw_m1 87 rfl) rfl
theorem q90 : (Jvm.Cond.code ({ cls := "IntHeapIndirectPriorityQueue", name := "contains", desc := "(I)Z" } : Jvm.MethodName) prog_6_method_4_code (2 : Nat) (Option.some Jvm.ClassFile.FieldType.boolean)) ∈ lw_all := lw_g (lw_at lw_m1 88 rfl) rfl
theorem q92 : (Jvm.Cond.instanceMethod ({ cls := "IntHeapIndirectPriorityQueue", name := "changed", desc := "(I)V" } : Jvm.MethodName)) ∈ lw_all := lw_g (lw_at lw_m1 90 rfl) rfl
theorem q93 : (Jvm.Cond.selects "IntHeapIndirectPriorityQueue" ({ cls := "IntHeapIndirectPriorityQueue", name := "changed", desc := "(I)V" } : Jvm.MethodName) ({ cls := "IntHeapIndirectPriorityQueue", name := "changed", desc := "(I)V" } : Jvm.MethodName)) ∈ lw_all := lw_g (lw_at lw_m1 91 rfl) rfl
theorem q94 : (Jvm.Cond.code ({ cls := "IntHeapIndirectPriorityQueue", name := "changed", desc := "(I)V" } : Jvm.MethodName) prog_6_method_7_code (4 : Nat) (Option.none : Option Jvm.ClassFile.FieldType)) ∈ lw_all := lw_g (lw_at lw_m1 92 rfl) rfl
theorem q95 : (Jvm.Cond.classLink "IntHeapIndirectPriorityQueue" (20 : Nat) "java/lang/IllegalArgumentException") ∈ lw_all := lw_g (lw_at lw_m1 93 rfl) rfl
theorem q135 : (Jvm.Cond.classLink "IntHeapIndirectPriorityQueue" (22 : Nat) "java/lang/StringBuilder") ∈ lw_all := lw_g (lw_at lw_m1 133 rfl) rfl
theorem q137 : (Jvm.Cond.methodLink "IntHeapIndirectPriorityQueue" (24 : Nat) ({ cls := "java/lang/StringBuilder", name := "<init>", desc := "()V" } : Jvm.MethodName)) ∈ lw_all := lw_g (lw_at lw_m1 135 rfl) rfl
theorem q167 : (Jvm.Cond.stringRef "IntHeapIndirectPriorityQueue" (27 : Nat) "Index ") ∈ lw_tbl := lw_at lw_m1 165 rfl
theorem q168 : (Jvm.Cond.methodLink "IntHeapIndirectPriorityQueue" (29 : Nat) ({ cls := "java/lang/StringBuilder", name := "append", desc := "(Ljava/lang/String;)Ljava/lang/StringBuilder;" } : Jvm.MethodName)) ∈ lw_all := lw_g (lw_at lw_m1 166 rfl) rfl
theorem q288 : (Jvm.Cond.methodLink "IntHeapIndirectPriorityQueue" (33 : Nat) ({ cls := "java/lang/StringBuilder", name := "append", desc := "(I)Ljava/lang/StringBuilder;" } : Jvm.MethodName)) ∈ lw_all := lw_g (lw_at lw_m2 46 rfl) rfl
theorem q313 : (Jvm.Cond.stringRef "IntHeapIndirectPriorityQueue" (77 : Nat) " does not belong to the queue") ∈ lw_tbl := lw_at lw_m2 71 rfl
theorem q314 : (Jvm.Cond.methodLink "IntHeapIndirectPriorityQueue" (38 : Nat) ({ cls := "java/lang/StringBuilder", name := "toString", desc := "()Ljava/lang/String;" } : Jvm.MethodName)) ∈ lw_all := lw_g (lw_at lw_m2 72 rfl) rfl
theorem q374 : (Jvm.Cond.methodLink "IntHeapIndirectPriorityQueue" (42 : Nat) ({ cls := "java/lang/IllegalArgumentException", name := "<init>", desc := "(Ljava/lang/String;)V" } : Jvm.MethodName)) ∈ lw_all := lw_g (lw_at lw_m2 132 rfl) rfl
theorem q399 : (Jvm.Cond.methodLink "IntHeapIndirectPriorityQueue" (65 : Nat) ({ cls := "IntIndirectHeaps", name := "upHeap", desc := "([I[I[IIILIntComparator;)I" } : Jvm.MethodName)) ∈ lw_all := lw_g (lw_at lw_m2 157 rfl) rfl
theorem q402 : (Jvm.Cond.methodLink "IntHeapIndirectPriorityQueue" (74 : Nat) ({ cls := "IntIndirectHeaps", name := "downHeap", desc := "([I[I[IIILIntComparator;)I" } : Jvm.MethodName)) ∈ lw_all := lw_g (lw_at lw_m2 160 rfl) rfl
theorem q410 : (Jvm.Cond.instanceMethod ({ cls := "IntHeapIndirectPriorityQueue", name := "enqueue", desc := "(I)V" } : Jvm.MethodName)) ∈ lw_all := lw_g (lw_at lw_m2 168 rfl) rfl
theorem q411 : (Jvm.Cond.selects "IntHeapIndirectPriorityQueue" ({ cls := "IntHeapIndirectPriorityQueue", name := "enqueue", desc := "(I)V" } : Jvm.MethodName) ({ cls := "IntHeapIndirectPriorityQueue", name := "enqueue", desc := "(I)V" } : Jvm.MethodName)) ∈ lw_all := lw_g (lw_at lw_m2 169 rfl) rfl
theorem q412 : (Jvm.Cond.code ({ cls := "IntHeapIndirectPriorityQueue", name := "enqueue", desc := "(I)V" } : Jvm.MethodName) prog_6_method_3_code (2 : Nat) (Option.none : Option Jvm.ClassFile.FieldType)) ∈ lw_all := lw_g (lw_at lw_m2 170 rfl) rfl
theorem q413 : (Jvm.Cond.stringRef "IntHeapIndirectPriorityQueue" (36 : Nat) " belongs to the queue") ∈ lw_tbl := lw_at lw_m2 171 rfl
theorem q414 : (Jvm.Cond.methodLink "IntHeapIndirectPriorityQueue" (52 : Nat) ({ cls := "IntArrays", name := "grow", desc := "([II)[I" } : Jvm.MethodName)) ∈ lw_all := lw_g (lw_at lw_m2 172 rfl) rfl
theorem q433 : (Jvm.Cond.instanceMethod ({ cls := "IntHeapIndirectPriorityQueue", name := "remove", desc := "(I)Z" } : Jvm.MethodName)) ∈ lw_all := lw_g (lw_at lw_m2 191 rfl) rfl
theorem q434 : (Jvm.Cond.selects "IntHeapIndirectPriorityQueue" ({ cls := "IntHeapIndirectPriorityQueue", name := "remove", desc := "(I)Z" } : Jvm.MethodName) ({ cls := "IntHeapIndirectPriorityQueue", name := "remove", desc := "(I)Z" } : Jvm.MethodName)) ∈ lw_all := lw_g (lw_at lw_m2 192 rfl) rfl
theorem q435 : (Jvm.Cond.code ({ cls := "IntHeapIndirectPriorityQueue", name := "remove", desc := "(I)Z" } : Jvm.MethodName) prog_6_method_9_code (4 : Nat) (Option.some Jvm.ClassFile.FieldType.boolean)) ∈ lw_all := lw_g (lw_at lw_m2 193 rfl) rfl
theorem q441 : (Jvm.Cond.sameMethod "IntHeapIndirectPriorityQueue" "IntHeapSemiIndirectPriorityQueue" "size" "()I") ∈ lw_all := lw_g (lw_at lw_m2 199 rfl) rfl
theorem q443 : (Jvm.Cond.selects "IntHeapIndirectPriorityQueue" ({ cls := "IntHeapIndirectPriorityQueue", name := "size", desc := "()I" } : Jvm.MethodName) ({ cls := "IntHeapSemiIndirectPriorityQueue", name := "size", desc := "()I" } : Jvm.MethodName)) ∈ lw_all := lw_g (lw_at lw_m2 201 rfl) rfl
theorem q447 : (Jvm.Cond.sameMethod "IntHeapIndirectPriorityQueue" "IntHeapSemiIndirectPriorityQueue" "first" "()I") ∈ lw_all := lw_g (lw_at lw_m2 205 rfl) rfl
theorem q449 : (Jvm.Cond.selects "IntHeapIndirectPriorityQueue" ({ cls := "IntHeapIndirectPriorityQueue", name := "first", desc := "()I" } : Jvm.MethodName) ({ cls := "IntHeapSemiIndirectPriorityQueue", name := "first", desc := "()I" } : Jvm.MethodName)) ∈ lw_all := lw_g (lw_at lw_m2 207 rfl) rfl
theorem q478 : (Jvm.Cond.instanceMethod ({ cls := "IntHeapIndirectPriorityQueue", name := "dequeue", desc := "()I" } : Jvm.MethodName)) ∈ lw_all := lw_g (lw_at lw_m2 236 rfl) rfl
theorem q479 : (Jvm.Cond.selects "IntHeapIndirectPriorityQueue" ({ cls := "IntHeapIndirectPriorityQueue", name := "dequeue", desc := "()I" } : Jvm.MethodName) ({ cls := "IntHeapIndirectPriorityQueue", name := "dequeue", desc := "()I" } : Jvm.MethodName)) ∈ lw_all := lw_g (lw_at lw_m2 237 rfl) rfl
theorem q480 : (Jvm.Cond.code ({ cls := "IntHeapIndirectPriorityQueue", name := "dequeue", desc := "()I" } : Jvm.MethodName) prog_6_method_5_code (2 : Nat) (Option.some Jvm.ClassFile.FieldType.int)) ∈ lw_all := lw_g (lw_at lw_m2 238 rfl) rfl
theorem q481 : (Jvm.Cond.classLink "IntHeapIndirectPriorityQueue" (71 : Nat) "java/util/NoSuchElementException") ∈ lw_all := lw_g (lw_at lw_m2 239 rfl) rfl
theorem q482 : (Jvm.Cond.methodLink "IntHeapIndirectPriorityQueue" (73 : Nat) ({ cls := "java/util/NoSuchElementException", name := "<init>", desc := "()V" } : Jvm.MethodName)) ∈ lw_all := lw_g (lw_at lw_m3 0 rfl) rfl
theorem q488 : (Jvm.Cond.instanceMethod ({ cls := "IntHeapIndirectPriorityQueue", name := "changed", desc := "()V" } : Jvm.MethodName)) ∈ lw_all := lw_g (lw_at lw_m3 6 rfl) rfl
theorem q489 : (Jvm.Cond.selects "IntHeapIndirectPriorityQueue" ({ cls := "IntHeapIndirectPriorityQueue", name := "changed", desc := "()V" } : Jvm.MethodName) ({ cls := "IntHeapIndirectPriorityQueue", name := "changed", desc := "()V" } : Jvm.MethodName)) ∈ lw_all := lw_g (lw_at lw_m3 7 rfl) rfl
theorem q490 : (Jvm.Cond.code ({ cls := "IntHeapIndirectPriorityQueue", name := "changed", desc := "()V" } : Jvm.MethodName) prog_6_method_6_code (1 : Nat) (Option.none : Option Jvm.ClassFile.FieldType)) ∈ lw_all := lw_g (lw_at lw_m3 8 rfl) rfl
theorem q496 : (Jvm.Cond.instanceMethod ({ cls := "IntHeapIndirectPriorityQueue", name := "allChanged", desc := "()V" } : Jvm.MethodName)) ∈ lw_all := lw_g (lw_at lw_m3 14 rfl) rfl
theorem q497 : (Jvm.Cond.selects "IntHeapIndirectPriorityQueue" ({ cls := "IntHeapIndirectPriorityQueue", name := "allChanged", desc := "()V" } : Jvm.MethodName) ({ cls := "IntHeapIndirectPriorityQueue", name := "allChanged", desc := "()V" } : Jvm.MethodName)) ∈ lw_all := lw_g (lw_at lw_m3 15 rfl) rfl
theorem q498 : (Jvm.Cond.code ({ cls := "IntHeapIndirectPriorityQueue", name := "allChanged", desc := "()V" } : Jvm.MethodName) prog_6_method_8_code (1 : Nat) (Option.none : Option Jvm.ClassFile.FieldType)) ∈ lw_all := lw_g (lw_at lw_m3 16 rfl) rfl
theorem q499 : (Jvm.Cond.methodLink "IntHeapIndirectPriorityQueue" (79 : Nat) ({ cls := "IntIndirectHeaps", name := "makeHeap", desc := "([I[I[IILIntComparator;)V" } : Jvm.MethodName)) ∈ lw_all := lw_g (lw_at lw_m3 17 rfl) rfl
theorem q520 : (Jvm.Cond.instanceMethod ({ cls := "IntHeapIndirectPriorityQueue", name := "clear", desc := "()V" } : Jvm.MethodName)) ∈ lw_all := lw_g (lw_at lw_m3 38 rfl) rfl
theorem q521 : (Jvm.Cond.selects "IntHeapIndirectPriorityQueue" ({ cls := "IntHeapIndirectPriorityQueue", name := "clear", desc := "()V" } : Jvm.MethodName) ({ cls := "IntHeapIndirectPriorityQueue", name := "clear", desc := "()V" } : Jvm.MethodName)) ∈ lw_all := lw_g (lw_at lw_m3 39 rfl) rfl
theorem q522 : (Jvm.Cond.code ({ cls := "IntHeapIndirectPriorityQueue", name := "clear", desc := "()V" } : Jvm.MethodName) prog_6_method_10_code (1 : Nat) (Option.none : Option Jvm.ClassFile.FieldType)) ∈ lw_all := lw_g (lw_at lw_m3 40 rfl) rfl
theorem q596 : (Jvm.Cond.castable "IntHeapIndirectPriorityQueue" "java/lang/Object") ∈ lw_tbl := lw_at lw_m3 114 rfl
theorem in_X2 : ∀ w ∈ wsX20, w ∈ lw_all := lw_in wsX20 [66, 68, 70, 72, 64] (by decide +kernel) (by decide +kernel)
/-! IndirectHeapModel -/
set_option maxRecDepth 100000
def RX4 : String := "IndirectHeapModel"
def TX4 : u_T := fun k => match k with
  | 0 => ("IndirectHeapModel", "value", "[I", true)
  | _ => ("IndirectHeapModel", "in", "[Z", true)
def tyX4 : Nat → FieldType := fun k => match k with
  | 0 => .array .int
  | _ => .array .boolean
abbrev wsX40 : List Cond := u_ws RX4 TX4 2
theorem nmX4 : ∀ a, a < 2 → ∀ b, b < 2 → a ≠ b → (TX4 a).2.1 ≠ (TX4 b).2.1 := by decide +kernel
theorem tyX4_ok : ∀ k, k < 2 → parseFieldDescriptor (TX4 k).2.2.1 = some (tyX4 k) := by decide +kernel
abbrev cX4_init : ByteArray := prog_3_method_1_code
def yX4_init : MethodName := ⟨RX4, "<init>", "()V"⟩
def dkwX4_init_1 : List UInt8 := [16, 64, 162, 0, 16, 42, 180, 0, 7, 27, 27, 79, 132, 1, 1, 167, 255, 240, 177]
abbrev dktX4_init_1 : List UInt8 := dkwX4_init_1 ++ []
def dkwX4_init_0 : List UInt8 := [42, 183, 0, 1, 42, 16, 64, 188, 10, 181, 0, 7, 42, 16, 64, 188, 4, 181, 0, 13, 3, 60, 27]
abbrev dktX4_init_0 : List UInt8 := dkwX4_init_0 ++ dktX4_init_1
theorem dksX4_init_0 : cX4_init.data.toList.drop 0 = dktX4_init_0 := by decide +kernel
theorem dksX4_init_1 : cX4_init.data.toList.drop 23 = dktX4_init_1 := dk_seg dksX4_init_0 23 rfl rfl
theorem dX4_init_0 : decode cX4_init 0 = .ok (.aload_n 0, 1) := dk_42 (dk_at dksX4_init_0 0 rfl rfl)
theorem dX4_init_1 : decode cX4_init 1 = .ok (.invokespecial 1, 3) := dk_183 0 1 (dk_at dksX4_init_0 1 rfl rfl)
theorem dX4_init_4 : decode cX4_init 4 = .ok (.aload_n 0, 1) := dk_42 (dk_at dksX4_init_0 4 rfl rfl)
theorem dX4_init_5 : decode cX4_init 5 = .ok (.bipush 64, 2) := dk_16 64 (dk_at dksX4_init_0 5 rfl rfl)
theorem dX4_init_7 : decode cX4_init 7 = .ok (.newarray .int, 2) := dk_188_10 (dk_at dksX4_init_0 7 rfl rfl)
theorem dX4_init_9 : decode cX4_init 9 = .ok (.putfield 7, 3) := dk_181 0 7 (dk_at dksX4_init_0 9 rfl rfl)
theorem dX4_init_12 : decode cX4_init 12 = .ok (.aload_n 0, 1) := dk_42 (dk_at dksX4_init_0 12 rfl rfl)
theorem dX4_init_13 : decode cX4_init 13 = .ok (.bipush 64, 2) := dk_16 64 (dk_at dksX4_init_0 13 rfl rfl)
theorem dX4_init_15 : decode cX4_init 15 = .ok (.newarray .boolean, 2) := dk_188_4 (dk_at dksX4_init_0 15 rfl rfl)
theorem dX4_init_17 : decode cX4_init 17 = .ok (.putfield 13, 3) := dk_181 0 13 (dk_at dksX4_init_0 17 rfl rfl)
theorem dX4_init_20 : decode cX4_init 20 = .ok (.iconst 0, 1) := dk_3 (dk_at dksX4_init_0 20 rfl rfl)
theorem dX4_init_21 : decode cX4_init 21 = .ok (.istore_n 1, 1) := dk_60 (dk_at dksX4_init_0 21 rfl rfl)
theorem dX4_init_22 : decode cX4_init 22 = .ok (.iload_n 1, 1) := dk_27 (dk_at dksX4_init_0 22 rfl rfl)
theorem dX4_init_23 : decode cX4_init 23 = .ok (.bipush 64, 2) := dk_16 64 (dk_at dksX4_init_1 0 rfl rfl)
theorem dX4_init_25 : decode cX4_init 25 = .ok (.if_icmp .ge 16, 3) := dk_162 0 16 (dk_at dksX4_init_1 2 rfl rfl)
theorem dX4_init_28 : decode cX4_init 28 = .ok (.aload_n 0, 1) := dk_42 (dk_at dksX4_init_1 5 rfl rfl)
theorem dX4_init_29 : decode cX4_init 29 = .ok (.getfield 7, 3) := dk_180 0 7 (dk_at dksX4_init_1 6 rfl rfl)
theorem dX4_init_32 : decode cX4_init 32 = .ok (.iload_n 1, 1) := dk_27 (dk_at dksX4_init_1 9 rfl rfl)
theorem dX4_init_33 : decode cX4_init 33 = .ok (.iload_n 1, 1) := dk_27 (dk_at dksX4_init_1 10 rfl rfl)
theorem dX4_init_34 : decode cX4_init 34 = .ok (.iastore, 1) := dk_79 (dk_at dksX4_init_1 11 rfl rfl)
theorem dX4_init_35 : decode cX4_init 35 = .ok (.iinc 1 1, 3) := dk_132 1 1 (dk_at dksX4_init_1 12 rfl rfl)
theorem dX4_init_38 : decode cX4_init 38 = .ok (.goto (-16), 3) := dk_167 255 240 (dk_at dksX4_init_1 15 rfl rfl)
theorem dX4_init_41 : decode cX4_init 41 = .ok (.return_, 1) := dk_177 (dk_at dksX4_init_1 18 rfl rfl)
abbrev cX4_change : ByteArray := prog_3_method_3_code
def yX4_change : MethodName := ⟨RX4, "change", "(II)V"⟩
def dkwX4_change_0 : List UInt8 := [27, 16, 63, 126, 62, 42, 180, 0, 7, 29, 28, 16, 192, 126, 29, 96, 79, 177]
abbrev dktX4_change_0 : List UInt8 := dkwX4_change_0 ++ []
theorem dksX4_change_0 : cX4_change.data.toList.drop 0 = dktX4_change_0 := by decide +kernel
theorem dX4_change_0 : decode cX4_change 0 = .ok (.iload_n 1, 1) := dk_27 (dk_at dksX4_change_0 0 rfl rfl)
theorem dX4_change_1 : decode cX4_change 1 = .ok (.bipush 63, 2) := dk_16 63 (dk_at dksX4_change_0 1 rfl rfl)
theorem dX4_change_3 : decode cX4_change 3 = .ok (.iand, 1) := dk_126 (dk_at dksX4_change_0 3 rfl rfl)
theorem dX4_change_4 : decode cX4_change 4 = .ok (.istore_n 3, 1) := dk_62 (dk_at dksX4_change_0 4 rfl rfl)
theorem dX4_change_5 : decode cX4_change 5 = .ok (.aload_n 0, 1) := dk_42 (dk_at dksX4_change_0 5 rfl rfl)
theorem dX4_change_6 : decode cX4_change 6 = .ok (.getfield 7, 3) := dk_180 0 7 (dk_at dksX4_change_0 6 rfl rfl)
theorem dX4_change_9 : decode cX4_change 9 = .ok (.iload_n 3, 1) := dk_29 (dk_at dksX4_change_0 9 rfl rfl)
theorem dX4_change_10 : decode cX4_change 10 = .ok (.iload_n 2, 1) := dk_28 (dk_at dksX4_change_0 10 rfl rfl)
theorem dX4_change_11 : decode cX4_change 11 = .ok (.bipush (-64), 2) := dk_16 192 (dk_at dksX4_change_0 11 rfl rfl)
theorem dX4_change_13 : decode cX4_change 13 = .ok (.iand, 1) := dk_126 (dk_at dksX4_change_0 13 rfl rfl)
theorem dX4_change_14 : decode cX4_change 14 = .ok (.iload_n 3, 1) := dk_29 (dk_at dksX4_change_0 14 rfl rfl)
theorem dX4_change_15 : decode cX4_change 15 = .ok (.iadd, 1) := dk_96 (dk_at dksX4_change_0 15 rfl rfl)
theorem dX4_change_16 : decode cX4_change 16 = .ok (.iastore, 1) := dk_79 (dk_at dksX4_change_0 16 rfl rfl)
theorem dX4_change_17 : decode cX4_change 17 = .ok (.return_, 1) := dk_177 (dk_at dksX4_change_0 17 rfl rfl)
abbrev cX4_enter : ByteArray := prog_3_method_4_code
def yX4_enter : MethodName := ⟨RX4, "enter", "(I)Z"⟩
def dkwX4_enter_1 : List UInt8 := [167, 0, 4, 3, 172]
abbrev dktX4_enter_1 : List UInt8 := dkwX4_enter_1 ++ []
def dkwX4_enter_0 : List UInt8 := [27, 16, 63, 126, 61, 42, 180, 0, 13, 28, 51, 62, 42, 180, 0, 13, 28, 4, 84, 29, 154, 0, 7, 4]
abbrev dktX4_enter_0 : List UInt8 := dkwX4_enter_0 ++ dktX4_enter_1
theorem dksX4_enter_0 : cX4_enter.data.toList.drop 0 = dktX4_enter_0 := by decide +kernel
theorem dksX4_enter_1 : cX4_enter.data.toList.drop 24 = dktX4_enter_1 := dk_seg dksX4_enter_0 24 rfl rfl
theorem dX4_enter_0 : decode cX4_enter 0 = .ok (.iload_n 1, 1) := dk_27 (dk_at dksX4_enter_0 0 rfl rfl)
theorem dX4_enter_1 : decode cX4_enter 1 = .ok (.bipush 63, 2) := dk_16 63 (dk_at dksX4_enter_0 1 rfl rfl)
theorem dX4_enter_3 : decode cX4_enter 3 = .ok (.iand, 1) := dk_126 (dk_at dksX4_enter_0 3 rfl rfl)
theorem dX4_enter_4 : decode cX4_enter 4 = .ok (.istore_n 2, 1) := dk_61 (dk_at dksX4_enter_0 4 rfl rfl)
theorem dX4_enter_5 : decode cX4_enter 5 = .ok (.aload_n 0, 1) := dk_42 (dk_at dksX4_enter_0 5 rfl rfl)
theorem dX4_enter_6 : decode cX4_enter 6 = .ok (.getfield 13, 3) := dk_180 0 13 (dk_at dksX4_enter_0 6 rfl rfl)
theorem dX4_enter_9 : decode cX4_enter 9 = .ok (.iload_n 2, 1) := dk_28 (dk_at dksX4_enter_0 9 rfl rfl)
theorem dX4_enter_10 : decode cX4_enter 10 = .ok (.baload, 1) := dk_51 (dk_at dksX4_enter_0 10 rfl rfl)
theorem dX4_enter_11 : decode cX4_enter 11 = .ok (.istore_n 3, 1) := dk_62 (dk_at dksX4_enter_0 11 rfl rfl)
theorem dX4_enter_12 : decode cX4_enter 12 = .ok (.aload_n 0, 1) := dk_42 (dk_at dksX4_enter_0 12 rfl rfl)
theorem dX4_enter_13 : decode cX4_enter 13 = .ok (.getfield 13, 3) := dk_180 0 13 (dk_at dksX4_enter_0 13 rfl rfl)
theorem dX4_enter_16 : decode cX4_enter 16 = .ok (.iload_n 2, 1) := dk_28 (dk_at dksX4_enter_0 16 rfl rfl)
theorem dX4_enter_17 : decode cX4_enter 17 = .ok (.iconst 1, 1) := dk_4 (dk_at dksX4_enter_0 17 rfl rfl)
theorem dX4_enter_18 : decode cX4_enter 18 = .ok (.bastore, 1) := dk_84 (dk_at dksX4_enter_0 18 rfl rfl)
theorem dX4_enter_19 : decode cX4_enter 19 = .ok (.iload_n 3, 1) := dk_29 (dk_at dksX4_enter_0 19 rfl rfl)
theorem dX4_enter_20 : decode cX4_enter 20 = .ok (.ifCond .ne 7, 3) := dk_154 0 7 (dk_at dksX4_enter_0 20 rfl rfl)
theorem dX4_enter_23 : decode cX4_enter 23 = .ok (.iconst 1, 1) := dk_4 (dk_at dksX4_enter_0 23 rfl rfl)
theorem dX4_enter_24 : decode cX4_enter 24 = .ok (.goto 4, 3) := dk_167 0 4 (dk_at dksX4_enter_1 0 rfl rfl)
theorem dX4_enter_27 : decode cX4_enter 27 = .ok (.iconst 0, 1) := dk_3 (dk_at dksX4_enter_1 3 rfl rfl)
theorem dX4_enter_28 : decode cX4_enter 28 = .ok (.ireturn, 1) := dk_172 (dk_at dksX4_enter_1 4 rfl rfl)
abbrev cX4_leave : ByteArray := prog_3_method_5_code
def yX4_leave : MethodName := ⟨RX4, "leave", "(I)Z"⟩
def dkwX4_leave_0 : List UInt8 := [27, 16, 63, 126, 61, 42, 180, 0, 13, 28, 51, 62, 42, 180, 0, 13, 28, 3, 84, 29, 172]
abbrev dktX4_leave_0 : List UInt8 := dkwX4_leave_0 ++ []
theorem dksX4_leave_0 : cX4_leave.data.toList.drop 0 = dktX4_leave_0 := by decide +kernel
theorem dX4_leave_0 : decode cX4_leave 0 = .ok (.iload_n 1, 1) := dk_27 (dk_at dksX4_leave_0 0 rfl rfl)
theorem dX4_leave_1 : decode cX4_leave 1 = .ok (.bipush 63, 2) := dk_16 63 (dk_at dksX4_leave_0 1 rfl rfl)
theorem dX4_leave_3 : decode cX4_leave 3 = .ok (.iand, 1) := dk_126 (dk_at dksX4_leave_0 3 rfl rfl)
theorem dX4_leave_4 : decode cX4_leave 4 = .ok (.istore_n 2, 1) := dk_61 (dk_at dksX4_leave_0 4 rfl rfl)
theorem dX4_leave_5 : decode cX4_leave 5 = .ok (.aload_n 0, 1) := dk_42 (dk_at dksX4_leave_0 5 rfl rfl)
theorem dX4_leave_6 : decode cX4_leave 6 = .ok (.getfield 13, 3) := dk_180 0 13 (dk_at dksX4_leave_0 6 rfl rfl)
theorem dX4_leave_9 : decode cX4_leave 9 = .ok (.iload_n 2, 1) := dk_28 (dk_at dksX4_leave_0 9 rfl rfl)
theorem dX4_leave_10 : decode cX4_leave 10 = .ok (.baload, 1) := dk_51 (dk_at dksX4_leave_0 10 rfl rfl)
theorem dX4_leave_11 : decode cX4_leave 11 = .ok (.istore_n 3, 1) := dk_62 (dk_at dksX4_leave_0 11 rfl rfl)
theorem dX4_leave_12 : decode cX4_leave 12 = .ok (.aload_n 0, 1) := dk_42 (dk_at dksX4_leave_0 12 rfl rfl)
theorem dX4_leave_13 : decode cX4_leave 13 = .ok (.getfield 13, 3) := dk_180 0 13 (dk_at dksX4_leave_0 13 rfl rfl)
theorem dX4_leave_16 : decode cX4_leave 16 = .ok (.iload_n 2, 1) := dk_28 (dk_at dksX4_leave_0 16 rfl rfl)
theorem dX4_leave_17 : decode cX4_leave 17 = .ok (.iconst 0, 1) := dk_3 (dk_at dksX4_leave_0 17 rfl rfl)
theorem dX4_leave_18 : decode cX4_leave 18 = .ok (.bastore, 1) := dk_84 (dk_at dksX4_leave_0 18 rfl rfl)
theorem dX4_leave_19 : decode cX4_leave 19 = .ok (.iload_n 3, 1) := dk_29 (dk_at dksX4_leave_0 19 rfl rfl)
theorem dX4_leave_20 : decode cX4_leave 20 = .ok (.ireturn, 1) := dk_172 (dk_at dksX4_leave_0 20 rfl rfl)
abbrev cX4_least : ByteArray := prog_3_method_6_code
def yX4_least : MethodName := ⟨RX4, "least", "()I"⟩
theorem dX4_least_0 : decode cX4_least 0 = .ok (.aload_n 0, 1) := by decide +kernel
theorem dX4_least_1 : decode cX4_least 1 = .ok (.invokevirtual 17, 3) := by decide +kernel
theorem dX4_least_4 : decode cX4_least 4 = .ok (.ireturn, 1) := by decide +kernel
abbrev cX4_head : ByteArray := prog_3_method_2_code
def yX4_head : MethodName := ⟨RX4, "head", "()I"⟩
def dkwX4_head_1 : List UInt8 := [180, 0, 7, 28, 46, 42, 180, 0, 7, 27, 46, 162, 0, 5, 28, 60, 132, 2, 1, 167, 255, 217, 27, 172]
abbrev dktX4_head_1 : List UInt8 := dkwX4_head_1 ++ []
def dkwX4_head_0 : List UInt8 := [2, 60, 3, 61, 28, 16, 64, 162, 0, 39, 42, 180, 0, 13, 28, 51, 153, 0, 24, 27, 155, 0, 18, 42]
abbrev dktX4_head_0 : List UInt8 := dkwX4_head_0 ++ dktX4_head_1
theorem dksX4_head_0 : cX4_head.data.toList.drop 0 = dktX4_head_0 := by decide +kernel
theorem dksX4_head_1 : cX4_head.data.toList.drop 24 = dktX4_head_1 := dk_seg dksX4_head_0 24 rfl rfl
theorem dX4_head_0 : decode cX4_head 0 = .ok (.iconst (-1), 1) := dk_2 (dk_at dksX4_head_0 0 rfl rfl)
theorem dX4_head_1 : decode cX4_head 1 = .ok (.istore_n 1, 1) := dk_60 (dk_at dksX4_head_0 1 rfl rfl)
theorem dX4_head_2 : decode cX4_head 2 = .ok (.iconst 0, 1) := dk_3 (dk_at dksX4_head_0 2 rfl rfl)
theorem dX4_head_3 : decode cX4_head 3 = .ok (.istore_n 2, 1) := dk_61 (dk_at dksX4_head_0 3 rfl rfl)
theorem dX4_head_4 : decode cX4_head 4 = .ok (.iload_n 2, 1) := dk_28 (dk_at dksX4_head_0 4 rfl rfl)
theorem dX4_head_5 : decode cX4_head 5 = .ok (.bipush 64, 2) := dk_16 64 (dk_at dksX4_head_0 5 rfl rfl)
theorem dX4_head_7 : decode cX4_head 7 = .ok (.if_icmp .ge 39, 3) := dk_162 0 39 (dk_at dksX4_head_0 7 rfl rfl)
theorem dX4_head_10 : decode cX4_head 10 = .ok (.aload_n 0, 1) := dk_42 (dk_at dksX4_head_0 10 rfl rfl)
theorem dX4_head_11 : decode cX4_head 11 = .ok (.getfield 13, 3) := dk_180 0 13 (dk_at dksX4_head_0 11 rfl rfl)
theorem dX4_head_14 : decode cX4_head 14 = .ok (.iload_n 2, 1) := dk_28 (dk_at dksX4_head_0 14 rfl rfl)
theorem dX4_head_15 : decode cX4_head 15 = .ok (.baload, 1) := dk_51 (dk_at dksX4_head_0 15 rfl rfl)
theorem dX4_head_16 : decode cX4_head 16 = .ok (.ifCond .eq 24, 3) := dk_153 0 24 (dk_at dksX4_head_0 16 rfl rfl)
theorem dX4_head_19 : decode cX4_head 19 = .ok (.iload_n 1, 1) := dk_27 (dk_at dksX4_head_0 19 rfl rfl)
theorem dX4_head_20 : decode cX4_head 20 = .ok (.ifCond .lt 18, 3) := dk_155 0 18 (dk_at dksX4_head_0 20 rfl rfl)
theorem dX4_head_23 : decode cX4_head 23 = .ok (.aload_n 0, 1) := dk_42 (dk_at dksX4_head_0 23 rfl rfl)
theorem dX4_head_24 : decode cX4_head 24 = .ok (.getfield 7, 3) := dk_180 0 7 (dk_at dksX4_head_1 0 rfl rfl)
theorem dX4_head_27 : decode cX4_head 27 = .ok (.iload_n 2, 1) := dk_28 (dk_at dksX4_head_1 3 rfl rfl)
theorem dX4_head_28 : decode cX4_head 28 = .ok (.iaload, 1) := dk_46 (dk_at dksX4_head_1 4 rfl rfl)
theorem dX4_head_29 : decode cX4_head 29 = .ok (.aload_n 0, 1) := dk_42 (dk_at dksX4_head_1 5 rfl rfl)
theorem dX4_head_30 : decode cX4_head 30 = .ok (.getfield 7, 3) := dk_180 0 7 (dk_at dksX4_head_1 6 rfl rfl)
theorem dX4_head_33 : decode cX4_head 33 = .ok (.iload_n 1, 1) := dk_27 (dk_at dksX4_head_1 9 rfl rfl)
theorem dX4_head_34 : decode cX4_head 34 = .ok (.iaload, 1) := dk_46 (dk_at dksX4_head_1 10 rfl rfl)
theorem dX4_head_35 : decode cX4_head 35 = .ok (.if_icmp .ge 5, 3) := dk_162 0 5 (dk_at dksX4_head_1 11 rfl rfl)
theorem dX4_head_38 : decode cX4_head 38 = .ok (.iload_n 2, 1) := dk_28 (dk_at dksX4_head_1 14 rfl rfl)
theorem dX4_head_39 : decode cX4_head 39 = .ok (.istore_n 1, 1) := dk_60 (dk_at dksX4_head_1 15 rfl rfl)
theorem dX4_head_40 : decode cX4_head 40 = .ok (.iinc 2 1, 3) := dk_132 2 1 (dk_at dksX4_head_1 16 rfl rfl)
theorem dX4_head_43 : decode cX4_head 43 = .ok (.goto (-39), 3) := dk_167 255 217 (dk_at dksX4_head_1 19 rfl rfl)
theorem dX4_head_46 : decode cX4_head 46 = .ok (.iload_n 1, 1) := dk_27 (dk_at dksX4_head_1 22 rfl rfl)
theorem dX4_head_47 : decode cX4_head 47 = .ok (.ireturn, 1) := dk_172 (dk_at dksX4_head_1 23 rfl rfl)
abbrev cX4_take : ByteArray := prog_3_method_7_code
def yX4_take : MethodName := ⟨RX4, "take", "()I"⟩
def dkwX4_take_0 : List UInt8 := [42, 182, 0, 17, 60, 27, 155, 0, 10, 42, 180, 0, 13, 27, 3, 84, 27, 172]
abbrev dktX4_take_0 : List UInt8 := dkwX4_take_0 ++ []
theorem dksX4_take_0 : cX4_take.data.toList.drop 0 = dktX4_take_0 := by decide +kernel
theorem dX4_take_0 : decode cX4_take 0 = .ok (.aload_n 0, 1) := dk_42 (dk_at dksX4_take_0 0 rfl rfl)
theorem dX4_take_1 : decode cX4_take 1 = .ok (.invokevirtual 17, 3) := dk_182 0 17 (dk_at dksX4_take_0 1 rfl rfl)
theorem dX4_take_4 : decode cX4_take 4 = .ok (.istore_n 1, 1) := dk_60 (dk_at dksX4_take_0 4 rfl rfl)
theorem dX4_take_5 : decode cX4_take 5 = .ok (.iload_n 1, 1) := dk_27 (dk_at dksX4_take_0 5 rfl rfl)
theorem dX4_take_6 : decode cX4_take 6 = .ok (.ifCond .lt 10, 3) := dk_155 0 10 (dk_at dksX4_take_0 6 rfl rfl)
theorem dX4_take_9 : decode cX4_take 9 = .ok (.aload_n 0, 1) := dk_42 (dk_at dksX4_take_0 9 rfl rfl)
theorem dX4_take_10 : decode cX4_take 10 = .ok (.getfield 13, 3) := dk_180 0 13 (dk_at dksX4_take_0 10 rfl rfl)
theorem dX4_take_13 : decode cX4_take 13 = .ok (.iload_n 1, 1) := dk_27 (dk_at dksX4_take_0 13 rfl rfl)
theorem dX4_take_14 : decode cX4_take 14 = .ok (.iconst 0, 1) := dk_3 (dk_at dksX4_take_0 14 rfl rfl)
theorem dX4_take_15 : decode cX4_take 15 = .ok (.bastore, 1) := dk_84 (dk_at dksX4_take_0 15 rfl rfl)
theorem dX4_take_16 : decode cX4_take 16 = .ok (.iload_n 1, 1) := dk_27 (dk_at dksX4_take_0 16 rfl rfl)
theorem dX4_take_17 : decode cX4_take 17 = .ok (.ireturn, 1) := dk_172 (dk_at dksX4_take_0 17 rfl rfl)
abbrev cX4_headChanged : ByteArray := prog_3_method_8_code
def yX4_headChanged : MethodName := ⟨RX4, "headChanged", "(I)Z"⟩
def dkwX4_headChanged_1 : List UInt8 := [172]
abbrev dktX4_headChanged_1 : List UInt8 := dkwX4_headChanged_1 ++ []
def dkwX4_headChanged_0 : List UInt8 := [42, 182, 0, 17, 61, 28, 156, 0, 5, 3, 172, 42, 180, 0, 7, 28, 27, 16, 192, 126, 28, 96, 79, 4]
abbrev dktX4_headChanged_0 : List UInt8 := dkwX4_headChanged_0 ++ dktX4_headChanged_1
theorem dksX4_headChanged_0 : cX4_headChanged.data.toList.drop 0 = dktX4_headChanged_0 := by decide +kernel
theorem dksX4_headChanged_1 : cX4_headChanged.data.toList.drop 24 = dktX4_headChanged_1 := dk_seg dksX4_headChanged_0 24 rfl rfl
theorem dX4_headChanged_0 : decode cX4_headChanged 0 = .ok (.aload_n 0, 1) := dk_42 (dk_at dksX4_headChanged_0 0 rfl rfl)
theorem dX4_headChanged_1 : decode cX4_headChanged 1 = .ok (.invokevirtual 17, 3) := dk_182 0 17 (dk_at dksX4_headChanged_0 1 rfl rfl)
theorem dX4_headChanged_4 : decode cX4_headChanged 4 = .ok (.istore_n 2, 1) := dk_61 (dk_at dksX4_headChanged_0 4 rfl rfl)
theorem dX4_headChanged_5 : decode cX4_headChanged 5 = .ok (.iload_n 2, 1) := dk_28 (dk_at dksX4_headChanged_0 5 rfl rfl)
theorem dX4_headChanged_6 : decode cX4_headChanged 6 = .ok (.ifCond .ge 5, 3) := dk_156 0 5 (dk_at dksX4_headChanged_0 6 rfl rfl)
theorem dX4_headChanged_9 : decode cX4_headChanged 9 = .ok (.iconst 0, 1) := dk_3 (dk_at dksX4_headChanged_0 9 rfl rfl)
theorem dX4_headChanged_10 : decode cX4_headChanged 10 = .ok (.ireturn, 1) := dk_172 (dk_at dksX4_headChanged_0 10 rfl rfl)
theorem dX4_headChanged_11 : decode cX4_headChanged 11 = .ok (.aload_n 0, 1) := dk_42 (dk_at dksX4_headChanged_0 11 rfl rfl)
theorem dX4_headChanged_12 : decode cX4_headChanged 12 = .ok (.getfield 7, 3) := dk_180 0 7 (dk_at dksX4_headChanged_0 12 rfl rfl)
theorem dX4_headChanged_15 : decode cX4_headChanged 15 = .ok (.iload_n 2, 1) := dk_28 (dk_at dksX4_headChanged_0 15 rfl rfl)
theorem dX4_headChanged_16 : decode cX4_headChanged 16 = .ok (.iload_n 1, 1) := dk_27 (dk_at dksX4_headChanged_0 16 rfl rfl)
theorem dX4_headChanged_17 : decode cX4_headChanged 17 = .ok (.bipush (-64), 2) := dk_16 192 (dk_at dksX4_headChanged_0 17 rfl rfl)
theorem dX4_headChanged_19 : decode cX4_headChanged 19 = .ok (.iand, 1) := dk_126 (dk_at dksX4_headChanged_0 19 rfl rfl)
theorem dX4_headChanged_20 : decode cX4_headChanged 20 = .ok (.iload_n 2, 1) := dk_28 (dk_at dksX4_headChanged_0 20 rfl rfl)
theorem dX4_headChanged_21 : decode cX4_headChanged 21 = .ok (.iadd, 1) := dk_96 (dk_at dksX4_headChanged_0 21 rfl rfl)
theorem dX4_headChanged_22 : decode cX4_headChanged 22 = .ok (.iastore, 1) := dk_79 (dk_at dksX4_headChanged_0 22 rfl rfl)
theorem dX4_headChanged_23 : decode cX4_headChanged 23 = .ok (.iconst 1, 1) := dk_4 (dk_at dksX4_headChanged_0 23 rfl rfl)
theorem dX4_headChanged_24 : decode cX4_headChanged 24 = .ok (.ireturn, 1) := dk_172 (dk_at dksX4_headChanged_1 0 rfl rfl)
abbrev cX4_all : ByteArray := prog_3_method_9_code
def yX4_all : MethodName := ⟨RX4, "all", "(I)V"⟩
def dkwX4_all_1 : List UInt8 := [104, 96, 16, 192, 126, 28, 96, 79, 132, 2, 1, 167, 255, 223, 177]
abbrev dktX4_all_1 : List UInt8 := dkwX4_all_1 ++ []
def dkwX4_all_0 : List UInt8 := [3, 61, 28, 16, 64, 162, 0, 33, 42, 180, 0, 7, 28, 42, 180, 0, 7, 28, 46, 27, 28, 104, 16, 64]
abbrev dktX4_all_0 : List UInt8 := dkwX4_all_0 ++ dktX4_all_1
theorem dksX4_all_0 : cX4_all.data.toList.drop 0 = dktX4_all_0 := by decide +kernel
theorem dksX4_all_1 : cX4_all.data.toList.drop 24 = dktX4_all_1 := dk_seg dksX4_all_0 24 rfl rfl
theorem dX4_all_0 : decode cX4_all 0 = .ok (.iconst 0, 1) := dk_3 (dk_at dksX4_all_0 0 rfl rfl)
theorem dX4_all_1 : decode cX4_all 1 = .ok (.istore_n 2, 1) := dk_61 (dk_at dksX4_all_0 1 rfl rfl)
theorem dX4_all_2 : decode cX4_all 2 = .ok (.iload_n 2, 1) := dk_28 (dk_at dksX4_all_0 2 rfl rfl)
theorem dX4_all_3 : decode cX4_all 3 = .ok (.bipush 64, 2) := dk_16 64 (dk_at dksX4_all_0 3 rfl rfl)
theorem dX4_all_5 : decode cX4_all 5 = .ok (.if_icmp .ge 33, 3) := dk_162 0 33 (dk_at dksX4_all_0 5 rfl rfl)
theorem dX4_all_8 : decode cX4_all 8 = .ok (.aload_n 0, 1) := dk_42 (dk_at dksX4_all_0 8 rfl rfl)
theorem dX4_all_9 : decode cX4_all 9 = .ok (.getfield 7, 3) := dk_180 0 7 (dk_at dksX4_all_0 9 rfl rfl)
theorem dX4_all_12 : decode cX4_all 12 = .ok (.iload_n 2, 1) := dk_28 (dk_at dksX4_all_0 12 rfl rfl)
theorem dX4_all_13 : decode cX4_all 13 = .ok (.aload_n 0, 1) := dk_42 (dk_at dksX4_all_0 13 rfl rfl)
theorem dX4_all_14 : decode cX4_all 14 = .ok (.getfield 7, 3) := dk_180 0 7 (dk_at dksX4_all_0 14 rfl rfl)
theorem dX4_all_17 : decode cX4_all 17 = .ok (.iload_n 2, 1) := dk_28 (dk_at dksX4_all_0 17 rfl rfl)
theorem dX4_all_18 : decode cX4_all 18 = .ok (.iaload, 1) := dk_46 (dk_at dksX4_all_0 18 rfl rfl)
theorem dX4_all_19 : decode cX4_all 19 = .ok (.iload_n 1, 1) := dk_27 (dk_at dksX4_all_0 19 rfl rfl)
theorem dX4_all_20 : decode cX4_all 20 = .ok (.iload_n 2, 1) := dk_28 (dk_at dksX4_all_0 20 rfl rfl)
theorem dX4_all_21 : decode cX4_all 21 = .ok (.imul, 1) := dk_104 (dk_at dksX4_all_0 21 rfl rfl)
theorem dX4_all_22 : decode cX4_all 22 = .ok (.bipush 64, 2) := dk_16 64 (dk_at dksX4_all_0 22 rfl rfl)
theorem dX4_all_24 : decode cX4_all 24 = .ok (.imul, 1) := dk_104 (dk_at dksX4_all_1 0 rfl rfl)
theorem dX4_all_25 : decode cX4_all 25 = .ok (.iadd, 1) := dk_96 (dk_at dksX4_all_1 1 rfl rfl)
theorem dX4_all_26 : decode cX4_all 26 = .ok (.bipush (-64), 2) := dk_16 192 (dk_at dksX4_all_1 2 rfl rfl)
theorem dX4_all_28 : decode cX4_all 28 = .ok (.iand, 1) := dk_126 (dk_at dksX4_all_1 4 rfl rfl)
theorem dX4_all_29 : decode cX4_all 29 = .ok (.iload_n 2, 1) := dk_28 (dk_at dksX4_all_1 5 rfl rfl)
theorem dX4_all_30 : decode cX4_all 30 = .ok (.iadd, 1) := dk_96 (dk_at dksX4_all_1 6 rfl rfl)
theorem dX4_all_31 : decode cX4_all 31 = .ok (.iastore, 1) := dk_79 (dk_at dksX4_all_1 7 rfl rfl)
theorem dX4_all_32 : decode cX4_all 32 = .ok (.iinc 2 1, 3) := dk_132 2 1 (dk_at dksX4_all_1 8 rfl rfl)
theorem dX4_all_35 : decode cX4_all 35 = .ok (.goto (-33), 3) := dk_167 255 223 (dk_at dksX4_all_1 11 rfl rfl)
theorem dX4_all_38 : decode cX4_all 38 = .ok (.return_, 1) := dk_177 (dk_at dksX4_all_1 14 rfl rfl)
abbrev cX4_inside : ByteArray := prog_3_method_10_code
def yX4_inside : MethodName := ⟨RX4, "inside", "(I)Z"⟩
def dkwX4_inside_0 : List UInt8 := [42, 180, 0, 13, 27, 16, 63, 126, 51, 172]
abbrev dktX4_inside_0 : List UInt8 := dkwX4_inside_0 ++ []
theorem dksX4_inside_0 : cX4_inside.data.toList.drop 0 = dktX4_inside_0 := by decide +kernel
theorem dX4_inside_0 : decode cX4_inside 0 = .ok (.aload_n 0, 1) := dk_42 (dk_at dksX4_inside_0 0 rfl rfl)
theorem dX4_inside_1 : decode cX4_inside 1 = .ok (.getfield 13, 3) := dk_180 0 13 (dk_at dksX4_inside_0 1 rfl rfl)
theorem dX4_inside_4 : decode cX4_inside 4 = .ok (.iload_n 1, 1) := dk_27 (dk_at dksX4_inside_0 4 rfl rfl)
theorem dX4_inside_5 : decode cX4_inside 5 = .ok (.bipush 63, 2) := dk_16 63 (dk_at dksX4_inside_0 5 rfl rfl)
theorem dX4_inside_7 : decode cX4_inside 7 = .ok (.iand, 1) := dk_126 (dk_at dksX4_inside_0 7 rfl rfl)
theorem dX4_inside_8 : decode cX4_inside 8 = .ok (.baload, 1) := dk_51 (dk_at dksX4_inside_0 8 rfl rfl)
theorem dX4_inside_9 : decode cX4_inside 9 = .ok (.ireturn, 1) := dk_172 (dk_at dksX4_inside_0 9 rfl rfl)
abbrev cX4_waiting : ByteArray := prog_3_method_11_code
def yX4_waiting : MethodName := ⟨RX4, "waiting", "()I"⟩
def dkwX4_waiting_1 : List UInt8 := [132, 2, 1, 167, 255, 235, 27, 172]
abbrev dktX4_waiting_1 : List UInt8 := dkwX4_waiting_1 ++ []
def dkwX4_waiting_0 : List UInt8 := [3, 60, 3, 61, 28, 16, 64, 162, 0, 21, 42, 180, 0, 13, 28, 51, 153, 0, 6, 132, 1, 1]
abbrev dktX4_waiting_0 : List UInt8 := dkwX4_waiting_0 ++ dktX4_waiting_1
theorem dksX4_waiting_0 : cX4_waiting.data.toList.drop 0 = dktX4_waiting_0 := by decide +kernel
theorem dksX4_waiting_1 : cX4_waiting.data.toList.drop 22 = dktX4_waiting_1 := dk_seg dksX4_waiting_0 22 rfl rfl
theorem dX4_waiting_0 : decode cX4_waiting 0 = .ok (.iconst 0, 1) := dk_3 (dk_at dksX4_waiting_0 0 rfl rfl)
theorem dX4_waiting_1 : decode cX4_waiting 1 = .ok (.istore_n 1, 1) := dk_60 (dk_at dksX4_waiting_0 1 rfl rfl)
theorem dX4_waiting_2 : decode cX4_waiting 2 = .ok (.iconst 0, 1) := dk_3 (dk_at dksX4_waiting_0 2 rfl rfl)
theorem dX4_waiting_3 : decode cX4_waiting 3 = .ok (.istore_n 2, 1) := dk_61 (dk_at dksX4_waiting_0 3 rfl rfl)
theorem dX4_waiting_4 : decode cX4_waiting 4 = .ok (.iload_n 2, 1) := dk_28 (dk_at dksX4_waiting_0 4 rfl rfl)
theorem dX4_waiting_5 : decode cX4_waiting 5 = .ok (.bipush 64, 2) := dk_16 64 (dk_at dksX4_waiting_0 5 rfl rfl)
theorem dX4_waiting_7 : decode cX4_waiting 7 = .ok (.if_icmp .ge 21, 3) := dk_162 0 21 (dk_at dksX4_waiting_0 7 rfl rfl)
theorem dX4_waiting_10 : decode cX4_waiting 10 = .ok (.aload_n 0, 1) := dk_42 (dk_at dksX4_waiting_0 10 rfl rfl)
theorem dX4_waiting_11 : decode cX4_waiting 11 = .ok (.getfield 13, 3) := dk_180 0 13 (dk_at dksX4_waiting_0 11 rfl rfl)
theorem dX4_waiting_14 : decode cX4_waiting 14 = .ok (.iload_n 2, 1) := dk_28 (dk_at dksX4_waiting_0 14 rfl rfl)
theorem dX4_waiting_15 : decode cX4_waiting 15 = .ok (.baload, 1) := dk_51 (dk_at dksX4_waiting_0 15 rfl rfl)
theorem dX4_waiting_16 : decode cX4_waiting 16 = .ok (.ifCond .eq 6, 3) := dk_153 0 6 (dk_at dksX4_waiting_0 16 rfl rfl)
theorem dX4_waiting_19 : decode cX4_waiting 19 = .ok (.iinc 1 1, 3) := dk_132 1 1 (dk_at dksX4_waiting_0 19 rfl rfl)
theorem dX4_waiting_22 : decode cX4_waiting 22 = .ok (.iinc 2 1, 3) := dk_132 2 1 (dk_at dksX4_waiting_1 0 rfl rfl)
theorem dX4_waiting_25 : decode cX4_waiting 25 = .ok (.goto (-21), 3) := dk_167 255 235 (dk_at dksX4_waiting_1 3 rfl rfl)
theorem dX4_waiting_28 : decode cX4_waiting 28 = .ok (.iload_n 1, 1) := dk_27 (dk_at dksX4_waiting_1 6 rfl rfl)
theorem dX4_waiting_29 : decode cX4_waiting 29 = .ok (.ireturn, 1) := dk_172 (dk_at dksX4_waiting_1 7 rfl rfl)
abbrev cX4_value : ByteArray := prog_3_method_12_code
def yX4_value : MethodName := ⟨RX4, "value", "(I)I"⟩
def dkwX4_value_0 : List UInt8 := [42, 180, 0, 7, 27, 16, 63, 126, 46, 172]
abbrev dktX4_value_0 : List UInt8 := dkwX4_value_0 ++ []
theorem dksX4_value_0 : cX4_value.data.toList.drop 0 = dktX4_value_0 := by decide +kernel
theorem dX4_value_0 : decode cX4_value 0 = .ok (.aload_n 0, 1) := dk_42 (dk_at dksX4_value_0 0 rfl rfl)
theorem dX4_value_1 : decode cX4_value 1 = .ok (.getfield 7, 3) := dk_180 0 7 (dk_at dksX4_value_0 1 rfl rfl)
theorem dX4_value_4 : decode cX4_value 4 = .ok (.iload_n 1, 1) := dk_27 (dk_at dksX4_value_0 4 rfl rfl)
theorem dX4_value_5 : decode cX4_value 5 = .ok (.bipush 63, 2) := dk_16 63 (dk_at dksX4_value_0 5 rfl rfl)
theorem dX4_value_7 : decode cX4_value 7 = .ok (.iand, 1) := dk_126 (dk_at dksX4_value_0 7 rfl rfl)
theorem dX4_value_8 : decode cX4_value 8 = .ok (.iaload, 1) := dk_46 (dk_at dksX4_value_0 8 rfl rfl)
theorem dX4_value_9 : decode cX4_value 9 = .ok (.ireturn, 1) := dk_172 (dk_at dksX4_value_0 9 rfl rfl)
abbrev cX4_drain : ByteArray := prog_3_method_13_code
def yX4_drain : MethodName := ⟨RX4, "drain", "()V"⟩
def dkwX4_drain_0 : List UInt8 := [3, 60, 27, 16, 64, 162, 0, 16, 42, 180, 0, 13, 27, 3, 84, 132, 1, 1, 167, 255, 240, 177]
abbrev dktX4_drain_0 : List UInt8 := dkwX4_drain_0 ++ []
theorem dksX4_drain_0 : cX4_drain.data.toList.drop 0 = dktX4_drain_0 := by decide +kernel
theorem dX4_drain_0 : decode cX4_drain 0 = .ok (.iconst 0, 1) := dk_3 (dk_at dksX4_drain_0 0 rfl rfl)
theorem dX4_drain_1 : decode cX4_drain 1 = .ok (.istore_n 1, 1) := dk_60 (dk_at dksX4_drain_0 1 rfl rfl)
theorem dX4_drain_2 : decode cX4_drain 2 = .ok (.iload_n 1, 1) := dk_27 (dk_at dksX4_drain_0 2 rfl rfl)
theorem dX4_drain_3 : decode cX4_drain 3 = .ok (.bipush 64, 2) := dk_16 64 (dk_at dksX4_drain_0 3 rfl rfl)
theorem dX4_drain_5 : decode cX4_drain 5 = .ok (.if_icmp .ge 16, 3) := dk_162 0 16 (dk_at dksX4_drain_0 5 rfl rfl)
theorem dX4_drain_8 : decode cX4_drain 8 = .ok (.aload_n 0, 1) := dk_42 (dk_at dksX4_drain_0 8 rfl rfl)
theorem dX4_drain_9 : decode cX4_drain 9 = .ok (.getfield 13, 3) := dk_180 0 13 (dk_at dksX4_drain_0 9 rfl rfl)
theorem dX4_drain_12 : decode cX4_drain 12 = .ok (.iload_n 1, 1) := dk_27 (dk_at dksX4_drain_0 12 rfl rfl)
theorem dX4_drain_13 : decode cX4_drain 13 = .ok (.iconst 0, 1) := dk_3 (dk_at dksX4_drain_0 13 rfl rfl)
theorem dX4_drain_14 : decode cX4_drain 14 = .ok (.bastore, 1) := dk_84 (dk_at dksX4_drain_0 14 rfl rfl)
theorem dX4_drain_15 : decode cX4_drain 15 = .ok (.iinc 1 1, 3) := dk_132 1 1 (dk_at dksX4_drain_0 15 rfl rfl)
theorem dX4_drain_18 : decode cX4_drain 18 = .ok (.goto (-16), 3) := dk_167 255 240 (dk_at dksX4_drain_0 18 rfl rfl)
theorem dX4_drain_21 : decode cX4_drain 21 = .ok (.return_, 1) := dk_177 (dk_at dksX4_drain_0 21 rfl rfl)
theorem q8 : (Jvm.Cond.initialized "IndirectHeapModel") ∈ lw_all := lw_g (lw_at lw_m1 6 rfl) rfl
theorem q524 : (Jvm.Cond.instantiable "IndirectHeapModel" (2 : Nat)) ∈ lw_all := lw_g (lw_at lw_m3 42 rfl) rfl
theorem q526 : (Jvm.Cond.instanceMethod ({ cls := "IndirectHeapModel", name := "<init>", desc := "()V" } : Jvm.MethodName)) ∈ lw_all := lw_g (lw_at lw_m3 44 rfl) rfl
theorem q527 : (Jvm.Cond.code ({ cls := "IndirectHeapModel", name := "<init>", desc := "()V" } : Jvm.MethodName) prog_3_method_1_code (2 : Nat) (Option.none : Option Jvm.ClassFile.FieldType)) ∈ lw_all := lw_g (lw_at lw_m3 45 rfl) rfl
theorem q528 : (Jvm.Cond.methodLink "IndirectHeapModel" (1 : Nat) ({ cls := "java/lang/Object", name := "<init>", desc := "()V" } : Jvm.MethodName)) ∈ lw_all := lw_g (lw_at lw_m3 46 rfl) rfl
theorem q529 : (Jvm.Cond.fieldLink "IndirectHeapModel" (7 : Nat) "IndirectHeapModel" "value" "[I") ∈ lw_all := lw_g (lw_at lw_m3 47 rfl) rfl
theorem q530 : (Jvm.Cond.fieldLink "IndirectHeapModel" (13 : Nat) "IndirectHeapModel" "in" "[Z") ∈ lw_all := lw_g (lw_at lw_m3 48 rfl) rfl
theorem q531 : (Jvm.Cond.laysFinal "IndirectHeapModel" "IndirectHeapModel" "value" "[I") ∈ lw_all := lw_g (lw_at lw_m3 49 rfl) rfl
theorem q532 : (Jvm.Cond.soleField "IndirectHeapModel" "value") ∈ lw_all := lw_g (lw_at lw_m3 50 rfl) rfl
theorem q533 : (Jvm.Cond.laysFinal "IndirectHeapModel" "IndirectHeapModel" "in" "[Z") ∈ lw_all := lw_g (lw_at lw_m3 51 rfl) rfl
theorem q534 : (Jvm.Cond.soleField "IndirectHeapModel" "in") ∈ lw_all := lw_g (lw_at lw_m3 52 rfl) rfl
theorem q535 : (Jvm.Cond.superclass "IndirectHeapModel" "java/lang/Object") ∈ lw_all := lw_g (lw_at lw_m3 53 rfl) rfl
theorem q538 : (Jvm.Cond.instanceMethod ({ cls := "IndirectHeapModel", name := "change", desc := "(II)V" } : Jvm.MethodName)) ∈ lw_all := lw_g (lw_at lw_m3 56 rfl) rfl
theorem q539 : (Jvm.Cond.selects "IndirectHeapModel" ({ cls := "IndirectHeapModel", name := "change", desc := "(II)V" } : Jvm.MethodName) ({ cls := "IndirectHeapModel", name := "change", desc := "(II)V" } : Jvm.MethodName)) ∈ lw_all := lw_g (lw_at lw_m3 57 rfl) rfl
theorem q540 : (Jvm.Cond.code ({ cls := "IndirectHeapModel", name := "change", desc := "(II)V" } : Jvm.MethodName) prog_3_method_3_code (4 : Nat) (Option.none : Option Jvm.ClassFile.FieldType)) ∈ lw_all := lw_g (lw_at lw_m3 58 rfl) rfl
theorem q542 : (Jvm.Cond.instanceMethod ({ cls := "IndirectHeapModel", name := "enter", desc := "(I)Z" } : Jvm.MethodName)) ∈ lw_all := lw_g (lw_at lw_m3 60 rfl) rfl
theorem q543 : (Jvm.Cond.selects "IndirectHeapModel" ({ cls := "IndirectHeapModel", name := "enter", desc := "(I)Z" } : Jvm.MethodName) ({ cls := "IndirectHeapModel", name := "enter", desc := "(I)Z" } : Jvm.MethodName)) ∈ lw_all := lw_g (lw_at lw_m3 61 rfl) rfl
theorem q544 : (Jvm.Cond.code ({ cls := "IndirectHeapModel", name := "enter", desc := "(I)Z" } : Jvm.MethodName) prog_3_method_4_code (4 : Nat) (Option.some Jvm.ClassFile.FieldType.boolean)) ∈ lw_all := lw_g (lw_at lw_m3 62 rfl) rfl
theorem q546 : (Jvm.Cond.instanceMethod ({ cls := "IndirectHeapModel", name := "leave", desc := "(I)Z" } : Jvm.MethodName)) ∈ lw_all := lw_g (lw_at lw_m3 64 rfl) rfl
theorem q547 : (Jvm.Cond.selects "IndirectHeapModel" ({ cls := "IndirectHeapModel", name := "leave", desc := "(I)Z" } : Jvm.MethodName) ({ cls := "IndirectHeapModel", name := "leave", desc := "(I)Z" } : Jvm.MethodName)) ∈ lw_all := lw_g (lw_at lw_m3 65 rfl) rfl
theorem q548 : (Jvm.Cond.code ({ cls := "IndirectHeapModel", name := "leave", desc := "(I)Z" } : Jvm.MethodName) prog_3_method_5_code (4 : Nat) (Option.some Jvm.ClassFile.FieldType.boolean)) ∈ lw_all := lw_g (lw_at lw_m3 66 rfl) rfl
theorem q550 : (Jvm.Cond.instanceMethod ({ cls := "IndirectHeapModel", name := "least", desc := "()I" } : Jvm.MethodName)) ∈ lw_all := lw_g (lw_at lw_m3 68 rfl) rfl
theorem q551 : (Jvm.Cond.selects "IndirectHeapModel" ({ cls := "IndirectHeapModel", name := "least", desc := "()I" } : Jvm.MethodName) ({ cls := "IndirectHeapModel", name := "least", desc := "()I" } : Jvm.MethodName)) ∈ lw_all := lw_g (lw_at lw_m3 69 rfl) rfl
theorem q552 : (Jvm.Cond.code ({ cls := "IndirectHeapModel", name := "least", desc := "()I" } : Jvm.MethodName) prog_3_method_6_code (1 : Nat) (Option.some Jvm.ClassFile.FieldType.int)) ∈ lw_all := lw_g (lw_at lw_m3 70 rfl) rfl
theorem q553 : (Jvm.Cond.methodLink "IndirectHeapModel" (17 : Nat) ({ cls := "IndirectHeapModel", name := "head", desc := "()I" } : Jvm.MethodName)) ∈ lw_all := lw_g (lw_at lw_m3 71 rfl) rfl
theorem q554 : (Jvm.Cond.privateMethod ({ cls := "IndirectHeapModel", name := "head", desc := "()I" } : Jvm.MethodName)) ∈ lw_tbl := lw_at lw_m3 72 rfl
theorem q555 : (Jvm.Cond.instanceMethod ({ cls := "IndirectHeapModel", name := "head", desc := "()I" } : Jvm.MethodName)) ∈ lw_all := lw_g (lw_at lw_m3 73 rfl) rfl
theorem q556 : (Jvm.Cond.code ({ cls := "IndirectHeapModel", name := "head", desc := "()I" } : Jvm.MethodName) prog_3_method_2_code (3 : Nat) (Option.some Jvm.ClassFile.FieldType.int)) ∈ lw_all := lw_g (lw_at lw_m3 74 rfl) rfl
theorem q558 : (Jvm.Cond.instanceMethod ({ cls := "IndirectHeapModel", name := "take", desc := "()I" } : Jvm.MethodName)) ∈ lw_all := lw_g (lw_at lw_m3 76 rfl) rfl
theorem q559 : (Jvm.Cond.selects "IndirectHeapModel" ({ cls := "IndirectHeapModel", name := "take", desc := "()I" } : Jvm.MethodName) ({ cls := "IndirectHeapModel", name := "take", desc := "()I" } : Jvm.MethodName)) ∈ lw_all := lw_g (lw_at lw_m3 77 rfl) rfl
theorem q560 : (Jvm.Cond.code ({ cls := "IndirectHeapModel", name := "take", desc := "()I" } : Jvm.MethodName) prog_3_method_7_code (2 : Nat) (Option.some Jvm.ClassFile.FieldType.int)) ∈ lw_all := lw_g (lw_at lw_m3 78 rfl) rfl
theorem q562 : (Jvm.Cond.instanceMethod ({ cls := "IndirectHeapModel", name := "headChanged", desc := "(I)Z" } : Jvm.MethodName)) ∈ lw_all := lw_g (lw_at lw_m3 80 rfl) rfl
theorem q563 : (Jvm.Cond.selects "IndirectHeapModel" ({ cls := "IndirectHeapModel", name := "headChanged", desc := "(I)Z" } : Jvm.MethodName) ({ cls := "IndirectHeapModel", name := "headChanged", desc := "(I)Z" } : Jvm.MethodName)) ∈ lw_all := lw_g (lw_at lw_m3 81 rfl) rfl
theorem q564 : (Jvm.Cond.code ({ cls := "IndirectHeapModel", name := "headChanged", desc := "(I)Z" } : Jvm.MethodName) prog_3_method_8_code (3 : Nat) (Option.some Jvm.ClassFile.FieldType.boolean)) ∈ lw_all := lw_g (lw_at lw_m3 82 rfl) rfl
theorem q566 : (Jvm.Cond.instanceMethod ({ cls := "IndirectHeapModel", name := "all", desc := "(I)V" } : Jvm.MethodName)) ∈ lw_all := lw_g (lw_at lw_m3 84 rfl) rfl
theorem q567 : (Jvm.Cond.selects "IndirectHeapModel" ({ cls := "IndirectHeapModel", name := "all", desc := "(I)V" } : Jvm.MethodName) ({ cls := "IndirectHeapModel", name := "all", desc := "(I)V" } : Jvm.MethodName)) ∈ lw_all := lw_g (lw_at lw_m3 85 rfl) rfl
theorem q568 : (Jvm.Cond.code ({ cls := "IndirectHeapModel", name := "all", desc := "(I)V" } : Jvm.MethodName) prog_3_method_9_code (3 : Nat) (Option.none : Option Jvm.ClassFile.FieldType)) ∈ lw_all := lw_g (lw_at lw_m3 86 rfl) rfl
theorem q570 : (Jvm.Cond.instanceMethod ({ cls := "IndirectHeapModel", name := "inside", desc := "(I)Z" } : Jvm.MethodName)) ∈ lw_all := lw_g (lw_at lw_m3 88 rfl) rfl
theorem q571 : (Jvm.Cond.selects "IndirectHeapModel" ({ cls := "IndirectHeapModel", name := "inside", desc := "(I)Z" } : Jvm.MethodName) ({ cls := "IndirectHeapModel", name := "inside", desc := "(I)Z" } : Jvm.MethodName)) ∈ lw_all := lw_g (lw_at lw_m3 89 rfl) rfl
theorem q572 : (Jvm.Cond.code ({ cls := "IndirectHeapModel", name := "inside", desc := "(I)Z" } : Jvm.MethodName) prog_3_method_10_code (2 : Nat) (Option.some Jvm.ClassFile.FieldType.boolean)) ∈ lw_all := lw_g (lw_at lw_m3 90 rfl) rfl
theorem q574 : (Jvm.Cond.instanceMethod ({ cls := "IndirectHeapModel", name := "waiting", desc := "()I" } : Jvm.MethodName)) ∈ lw_all := lw_g (lw_at lw_m3 92 rfl) rfl
theorem q575 : (Jvm.Cond.selects "IndirectHeapModel" ({ cls := "IndirectHeapModel", name := "waiting", desc := "()I" } : Jvm.MethodName) ({ cls := "IndirectHeapModel", name := "waiting", desc := "()I" } : Jvm.MethodName)) ∈ lw_all := lw_g (lw_at lw_m3 93 rfl) rfl
theorem q576 : (Jvm.Cond.code ({ cls := "IndirectHeapModel", name := "waiting", desc := "()I" } : Jvm.MethodName) prog_3_method_11_code (3 : Nat) (Option.some Jvm.ClassFile.FieldType.int)) ∈ lw_all := lw_g (lw_at lw_m3 94 rfl) rfl
theorem q578 : (Jvm.Cond.instanceMethod ({ cls := "IndirectHeapModel", name := "value", desc := "(I)I" } : Jvm.MethodName)) ∈ lw_all := lw_g (lw_at lw_m3 96 rfl) rfl
theorem q579 : (Jvm.Cond.selects "IndirectHeapModel" ({ cls := "IndirectHeapModel", name := "value", desc := "(I)I" } : Jvm.MethodName) ({ cls := "IndirectHeapModel", name := "value", desc := "(I)I" } : Jvm.MethodName)) ∈ lw_all := lw_g (lw_at lw_m3 97 rfl) rfl
theorem q580 : (Jvm.Cond.code ({ cls := "IndirectHeapModel", name := "value", desc := "(I)I" } : Jvm.MethodName) prog_3_method_12_code (2 : Nat) (Option.some Jvm.ClassFile.FieldType.int)) ∈ lw_all := lw_g (lw_at lw_m3 98 rfl) rfl
theorem q582 : (Jvm.Cond.instanceMethod ({ cls := "IndirectHeapModel", name := "drain", desc := "()V" } : Jvm.MethodName)) ∈ lw_all := lw_g (lw_at lw_m3 100 rfl) rfl
theorem q583 : (Jvm.Cond.selects "IndirectHeapModel" ({ cls := "IndirectHeapModel", name := "drain", desc := "()V" } : Jvm.MethodName) ({ cls := "IndirectHeapModel", name := "drain", desc := "()V" } : Jvm.MethodName)) ∈ lw_all := lw_g (lw_at lw_m3 101 rfl) rfl
theorem q584 : (Jvm.Cond.code ({ cls := "IndirectHeapModel", name := "drain", desc := "()V" } : Jvm.MethodName) prog_3_method_13_code (2 : Nat) (Option.none : Option Jvm.ClassFile.FieldType)) ∈ lw_all := lw_g (lw_at lw_m3 102 rfl) rfl
theorem q597 : (Jvm.Cond.castable "IndirectHeapModel" "java/lang/Object") ∈ lw_tbl := lw_at lw_m3 115 rfl
theorem in_X4 : ∀ w ∈ wsX40, w ∈ lw_all := lw_in wsX40 [531, 533] (by decide +kernel) (by decide +kernel)
/-! IntIndirectHeaps -/
set_option maxRecDepth 100000
def RX5 : String := "IntIndirectHeaps"
abbrev cX5_upHeap : ByteArray := prog_8_method_2_code
def yX5_upHeap : MethodName := ⟨RX5, "upHeap", "([I[I[IIILIntComparator;)I"⟩
def dkwX5_upHeap_4 : List UInt8 := [21, 6, 79, 44, 21, 6, 21, 4, 79, 21, 4, 172]
abbrev dktX5_upHeap_4 : List UInt8 := dkwX5_upHeap_4 ++ []
def dkwX5_upHeap_3 : List UInt8 := [153, 0, 20, 21, 4, 4, 100, 4, 124, 54, 8, 43, 21, 8, 46, 54, 9, 167, 0, 3, 43, 21, 4]
abbrev dktX5_upHeap_3 : List UInt8 := dkwX5_upHeap_3 ++ dktX5_upHeap_4
def dkwX5_upHeap_2 : List UInt8 := [43, 21, 4, 21, 9, 79, 44, 43, 21, 4, 46, 21, 4, 79, 21, 8, 54, 4, 167, 255, 207, 21, 4]
abbrev dktX5_upHeap_2 : List UInt8 := dkwX5_upHeap_2 ++ dktX5_upHeap_3
def dkwX5_upHeap_1 : List UInt8 := [4, 100, 4, 124, 54, 8, 43, 21, 8, 46, 54, 9, 42, 21, 9, 46, 21, 7, 163, 0, 6, 167, 0, 46]
abbrev dktX5_upHeap_1 : List UInt8 := dkwX5_upHeap_1 ++ dktX5_upHeap_2
def dkwX5_upHeap_0 : List UInt8 := [43, 21, 4, 46, 54, 6, 42, 21, 6, 46, 54, 7, 25, 5, 199, 0, 55, 21, 4, 153, 0, 72, 21, 4]
abbrev dktX5_upHeap_0 : List UInt8 := dkwX5_upHeap_0 ++ dktX5_upHeap_1
theorem dksX5_upHeap_0 : cX5_upHeap.data.toList.drop 0 = dktX5_upHeap_0 := by decide +kernel
theorem dksX5_upHeap_1 : cX5_upHeap.data.toList.drop 24 = dktX5_upHeap_1 := dk_seg dksX5_upHeap_0 24 rfl rfl
theorem dksX5_upHeap_2 : cX5_upHeap.data.toList.drop 48 = dktX5_upHeap_2 := dk_seg dksX5_upHeap_1 24 rfl rfl
theorem dksX5_upHeap_3 : cX5_upHeap.data.toList.drop 71 = dktX5_upHeap_3 := dk_seg dksX5_upHeap_2 23 rfl rfl
theorem dksX5_upHeap_4 : cX5_upHeap.data.toList.drop 94 = dktX5_upHeap_4 := dk_seg dksX5_upHeap_3 23 rfl rfl
theorem dX5_upHeap_0 : decode cX5_upHeap 0 = .ok (.aload_n 1, 1) := dk_43 (dk_at dksX5_upHeap_0 0 rfl rfl)
theorem dX5_upHeap_1 : decode cX5_upHeap 1 = .ok (.iload 4, 2) := dk_21 4 (dk_at dksX5_upHeap_0 1 rfl rfl)
theorem dX5_upHeap_3 : decode cX5_upHeap 3 = .ok (.iaload, 1) := dk_46 (dk_at dksX5_upHeap_0 3 rfl rfl)
theorem dX5_upHeap_4 : decode cX5_upHeap 4 = .ok (.istore 6, 2) := dk_54 6 (dk_at dksX5_upHeap_0 4 rfl rfl)
theorem dX5_upHeap_6 : decode cX5_upHeap 6 = .ok (.aload_n 0, 1) := dk_42 (dk_at dksX5_upHeap_0 6 rfl rfl)
theorem dX5_upHeap_7 : decode cX5_upHeap 7 = .ok (.iload 6, 2) := dk_21 6 (dk_at dksX5_upHeap_0 7 rfl rfl)
theorem dX5_upHeap_9 : decode cX5_upHeap 9 = .ok (.iaload, 1) := dk_46 (dk_at dksX5_upHeap_0 9 rfl rfl)
theorem dX5_upHeap_10 : decode cX5_upHeap 10 = .ok (.istore 7, 2) := dk_54 7 (dk_at dksX5_upHeap_0 10 rfl rfl)
theorem dX5_upHeap_12 : decode cX5_upHeap 12 = .ok (.aload 5, 2) := dk_25 5 (dk_at dksX5_upHeap_0 12 rfl rfl)
theorem dX5_upHeap_14 : decode cX5_upHeap 14 = .ok (.ifnonnull 55, 3) := dk_199 0 55 (dk_at dksX5_upHeap_0 14 rfl rfl)
theorem dX5_upHeap_17 : decode cX5_upHeap 17 = .ok (.iload 4, 2) := dk_21 4 (dk_at dksX5_upHeap_0 17 rfl rfl)
theorem dX5_upHeap_19 : decode cX5_upHeap 19 = .ok (.ifCond .eq 72, 3) := dk_153 0 72 (dk_at dksX5_upHeap_0 19 rfl rfl)
theorem dX5_upHeap_22 : decode cX5_upHeap 22 = .ok (.iload 4, 2) := dk_21 4 (dk_at dksX5_upHeap_0 22 rfl rfl)
theorem dX5_upHeap_24 : decode cX5_upHeap 24 = .ok (.iconst 1, 1) := dk_4 (dk_at dksX5_upHeap_1 0 rfl rfl)
theorem dX5_upHeap_25 : decode cX5_upHeap 25 = .ok (.isub, 1) := dk_100 (dk_at dksX5_upHeap_1 1 rfl rfl)
theorem dX5_upHeap_26 : decode cX5_upHeap 26 = .ok (.iconst 1, 1) := dk_4 (dk_at dksX5_upHeap_1 2 rfl rfl)
theorem dX5_upHeap_27 : decode cX5_upHeap 27 = .ok (.iushr, 1) := dk_124 (dk_at dksX5_upHeap_1 3 rfl rfl)
theorem dX5_upHeap_28 : decode cX5_upHeap 28 = .ok (.istore 8, 2) := dk_54 8 (dk_at dksX5_upHeap_1 4 rfl rfl)
theorem dX5_upHeap_30 : decode cX5_upHeap 30 = .ok (.aload_n 1, 1) := dk_43 (dk_at dksX5_upHeap_1 6 rfl rfl)
theorem dX5_upHeap_31 : decode cX5_upHeap 31 = .ok (.iload 8, 2) := dk_21 8 (dk_at dksX5_upHeap_1 7 rfl rfl)
theorem dX5_upHeap_33 : decode cX5_upHeap 33 = .ok (.iaload, 1) := dk_46 (dk_at dksX5_upHeap_1 9 rfl rfl)
theorem dX5_upHeap_34 : decode cX5_upHeap 34 = .ok (.istore 9, 2) := dk_54 9 (dk_at dksX5_upHeap_1 10 rfl rfl)
theorem dX5_upHeap_36 : decode cX5_upHeap 36 = .ok (.aload_n 0, 1) := dk_42 (dk_at dksX5_upHeap_1 12 rfl rfl)
theorem dX5_upHeap_37 : decode cX5_upHeap 37 = .ok (.iload 9, 2) := dk_21 9 (dk_at dksX5_upHeap_1 13 rfl rfl)
theorem dX5_upHeap_39 : decode cX5_upHeap 39 = .ok (.iaload, 1) := dk_46 (dk_at dksX5_upHeap_1 15 rfl rfl)
theorem dX5_upHeap_40 : decode cX5_upHeap 40 = .ok (.iload 7, 2) := dk_21 7 (dk_at dksX5_upHeap_1 16 rfl rfl)
theorem dX5_upHeap_42 : decode cX5_upHeap 42 = .ok (.if_icmp .gt 6, 3) := dk_163 0 6 (dk_at dksX5_upHeap_1 18 rfl rfl)
theorem dX5_upHeap_45 : decode cX5_upHeap 45 = .ok (.goto 46, 3) := dk_167 0 46 (dk_at dksX5_upHeap_1 21 rfl rfl)
theorem dX5_upHeap_48 : decode cX5_upHeap 48 = .ok (.aload_n 1, 1) := dk_43 (dk_at dksX5_upHeap_2 0 rfl rfl)
theorem dX5_upHeap_49 : decode cX5_upHeap 49 = .ok (.iload 4, 2) := dk_21 4 (dk_at dksX5_upHeap_2 1 rfl rfl)
theorem dX5_upHeap_51 : decode cX5_upHeap 51 = .ok (.iload 9, 2) := dk_21 9 (dk_at dksX5_upHeap_2 3 rfl rfl)
theorem dX5_upHeap_53 : decode cX5_upHeap 53 = .ok (.iastore, 1) := dk_79 (dk_at dksX5_upHeap_2 5 rfl rfl)
theorem dX5_upHeap_54 : decode cX5_upHeap 54 = .ok (.aload_n 2, 1) := dk_44 (dk_at dksX5_upHeap_2 6 rfl rfl)
theorem dX5_upHeap_55 : decode cX5_upHeap 55 = .ok (.aload_n 1, 1) := dk_43 (dk_at dksX5_upHeap_2 7 rfl rfl)
theorem dX5_upHeap_56 : decode cX5_upHeap 56 = .ok (.iload 4, 2) := dk_21 4 (dk_at dksX5_upHeap_2 8 rfl rfl)
theorem dX5_upHeap_58 : decode cX5_upHeap 58 = .ok (.iaload, 1) := dk_46 (dk_at dksX5_upHeap_2 10 rfl rfl)
theorem dX5_upHeap_59 : decode cX5_upHeap 59 = .ok (.iload 4, 2) := dk_21 4 (dk_at dksX5_upHeap_2 11 rfl rfl)
theorem dX5_upHeap_61 : decode cX5_upHeap 61 = .ok (.iastore, 1) := dk_79 (dk_at dksX5_upHeap_2 13 rfl rfl)
theorem dX5_upHeap_62 : decode cX5_upHeap 62 = .ok (.iload 8, 2) := dk_21 8 (dk_at dksX5_upHeap_2 14 rfl rfl)
theorem dX5_upHeap_64 : decode cX5_upHeap 64 = .ok (.istore 4, 2) := dk_54 4 (dk_at dksX5_upHeap_2 16 rfl rfl)
theorem dX5_upHeap_66 : decode cX5_upHeap 66 = .ok (.goto (-49), 3) := dk_167 255 207 (dk_at dksX5_upHeap_2 18 rfl rfl)
theorem dX5_upHeap_69 : decode cX5_upHeap 69 = .ok (.iload 4, 2) := dk_21 4 (dk_at dksX5_upHeap_2 21 rfl rfl)
theorem dX5_upHeap_71 : decode cX5_upHeap 71 = .ok (.ifCond .eq 20, 3) := dk_153 0 20 (dk_at dksX5_upHeap_3 0 rfl rfl)
theorem dX5_upHeap_74 : decode cX5_upHeap 74 = .ok (.iload 4, 2) := dk_21 4 (dk_at dksX5_upHeap_3 3 rfl rfl)
theorem dX5_upHeap_76 : decode cX5_upHeap 76 = .ok (.iconst 1, 1) := dk_4 (dk_at dksX5_upHeap_3 5 rfl rfl)
theorem dX5_upHeap_77 : decode cX5_upHeap 77 = .ok (.isub, 1) := dk_100 (dk_at dksX5_upHeap_3 6 rfl rfl)
theorem dX5_upHeap_78 : decode cX5_upHeap 78 = .ok (.iconst 1, 1) := dk_4 (dk_at dksX5_upHeap_3 7 rfl rfl)
theorem dX5_upHeap_79 : decode cX5_upHeap 79 = .ok (.iushr, 1) := dk_124 (dk_at dksX5_upHeap_3 8 rfl rfl)
theorem dX5_upHeap_80 : decode cX5_upHeap 80 = .ok (.istore 8, 2) := dk_54 8 (dk_at dksX5_upHeap_3 9 rfl rfl)
theorem dX5_upHeap_82 : decode cX5_upHeap 82 = .ok (.aload_n 1, 1) := dk_43 (dk_at dksX5_upHeap_3 11 rfl rfl)
theorem dX5_upHeap_83 : decode cX5_upHeap 83 = .ok (.iload 8, 2) := dk_21 8 (dk_at dksX5_upHeap_3 12 rfl rfl)
theorem dX5_upHeap_85 : decode cX5_upHeap 85 = .ok (.iaload, 1) := dk_46 (dk_at dksX5_upHeap_3 14 rfl rfl)
theorem dX5_upHeap_86 : decode cX5_upHeap 86 = .ok (.istore 9, 2) := dk_54 9 (dk_at dksX5_upHeap_3 15 rfl rfl)
theorem dX5_upHeap_88 : decode cX5_upHeap 88 = .ok (.goto 3, 3) := dk_167 0 3 (dk_at dksX5_upHeap_3 17 rfl rfl)
theorem dX5_upHeap_91 : decode cX5_upHeap 91 = .ok (.aload_n 1, 1) := dk_43 (dk_at dksX5_upHeap_3 20 rfl rfl)
theorem dX5_upHeap_92 : decode cX5_upHeap 92 = .ok (.iload 4, 2) := dk_21 4 (dk_at dksX5_upHeap_3 21 rfl rfl)
theorem dX5_upHeap_94 : decode cX5_upHeap 94 = .ok (.iload 6, 2) := dk_21 6 (dk_at dksX5_upHeap_4 0 rfl rfl)
theorem dX5_upHeap_96 : decode cX5_upHeap 96 = .ok (.iastore, 1) := dk_79 (dk_at dksX5_upHeap_4 2 rfl rfl)
theorem dX5_upHeap_97 : decode cX5_upHeap 97 = .ok (.aload_n 2, 1) := dk_44 (dk_at dksX5_upHeap_4 3 rfl rfl)
theorem dX5_upHeap_98 : decode cX5_upHeap 98 = .ok (.iload 6, 2) := dk_21 6 (dk_at dksX5_upHeap_4 4 rfl rfl)
theorem dX5_upHeap_100 : decode cX5_upHeap 100 = .ok (.iload 4, 2) := dk_21 4 (dk_at dksX5_upHeap_4 6 rfl rfl)
theorem dX5_upHeap_102 : decode cX5_upHeap 102 = .ok (.iastore, 1) := dk_79 (dk_at dksX5_upHeap_4 8 rfl rfl)
theorem dX5_upHeap_103 : decode cX5_upHeap 103 = .ok (.iload 4, 2) := dk_21 4 (dk_at dksX5_upHeap_4 9 rfl rfl)
theorem dX5_upHeap_105 : decode cX5_upHeap 105 = .ok (.ireturn, 1) := dk_172 (dk_at dksX5_upHeap_4 11 rfl rfl)
abbrev cX5_downHeap : ByteArray := prog_8_method_1_code
def yX5_downHeap : MethodName := ⟨RX5, "downHeap", "([I[I[IIILIntComparator;)I"⟩
def dkwX5_downHeap_6 : List UInt8 := [21, 6, 21, 4, 79, 21, 4, 172]
abbrev dktX5_downHeap_6 : List UInt8 := dkwX5_downHeap_6 ++ []
def dkwX5_downHeap_5 : List UInt8 := [54, 9, 21, 8, 4, 96, 54, 10, 21, 10, 29, 162, 0, 6, 167, 0, 3, 43, 21, 4, 21, 6, 79, 44]
abbrev dktX5_downHeap_5 : List UInt8 := dkwX5_downHeap_5 ++ dktX5_downHeap_6
def dkwX5_downHeap_4 : List UInt8 := [21, 8, 54, 4, 167, 255, 173, 21, 4, 4, 120, 4, 96, 89, 54, 8, 29, 162, 0, 24, 43, 21, 8, 46]
abbrev dktX5_downHeap_4 : List UInt8 := dkwX5_downHeap_4 ++ dktX5_downHeap_5
def dkwX5_downHeap_3 : List UInt8 := [42, 21, 9, 46, 163, 0, 6, 167, 0, 58, 43, 21, 4, 21, 9, 79, 44, 43, 21, 4, 46, 21, 4, 79]
abbrev dktX5_downHeap_3 : List UInt8 := dkwX5_downHeap_3 ++ dktX5_downHeap_4
def dkwX5_downHeap_2 : List UInt8 := [42, 43, 21, 10, 46, 46, 42, 21, 9, 46, 162, 0, 12, 43, 21, 10, 89, 54, 8, 46, 54, 9, 21, 7]
abbrev dktX5_downHeap_2 : List UInt8 := dkwX5_downHeap_2 ++ dktX5_downHeap_3
def dkwX5_downHeap_1 : List UInt8 := [54, 8, 29, 162, 0, 110, 43, 21, 8, 46, 54, 9, 21, 8, 4, 96, 54, 10, 21, 10, 29, 162, 0, 25]
abbrev dktX5_downHeap_1 : List UInt8 := dkwX5_downHeap_1 ++ dktX5_downHeap_2
def dkwX5_downHeap_0 : List UInt8 := [43, 21, 4, 46, 54, 6, 42, 21, 6, 46, 54, 7, 25, 5, 199, 0, 89, 21, 4, 4, 120, 4, 96, 89]
abbrev dktX5_downHeap_0 : List UInt8 := dkwX5_downHeap_0 ++ dktX5_downHeap_1
theorem dksX5_downHeap_0 : cX5_downHeap.data.toList.drop 0 = dktX5_downHeap_0 := by decide +kernel
theorem dksX5_downHeap_1 : cX5_downHeap.data.toList.drop 24 = dktX5_downHeap_1 := dk_seg dksX5_downHeap_0 24 rfl rfl
theorem dksX5_downHeap_2 : cX5_downHeap.data.toList.drop 48 = dktX5_downHeap_2 := dk_seg dksX5_downHeap_1 24 rfl rfl
theorem dksX5_downHeap_3 : cX5_downHeap.data.toList.drop 72 = dktX5_downHeap_3 := dk_seg dksX5_downHeap_2 24 rfl rfl
theorem dksX5_downHeap_4 : cX5_downHeap.data.toList.drop 96 = dktX5_downHeap_4 := dk_seg dksX5_downHeap_3 24 rfl rfl
theorem dksX5_downHeap_5 : cX5_downHeap.data.toList.drop 120 = dktX5_downHeap_5 := dk_seg dksX5_downHeap_4 24 rfl rfl
theorem dksX5_downHeap_6 : cX5_downHeap.data.toList.drop 144 = dktX5_downHeap_6 := dk_seg dksX5_downHeap_5 24 rfl rfl
theorem dX5_downHeap_0 : decode cX5_downHeap 0 = .ok (.aload_n 1, 1) := dk_43 (dk_at dksX5_downHeap_0 0 rfl rfl)
theorem dX5_downHeap_1 : decode cX5_downHeap 1 = .ok (.iload 4, 2) := dk_21 4 (dk_at dksX5_downHeap_0 1 rfl rfl)
theorem dX5_downHeap_3 : decode cX5_downHeap 3 = .ok (.iaload, 1) := dk_46 (dk_at dksX5_downHeap_0 3 rfl rfl)
theorem dX5_downHeap_4 : decode cX5_downHeap 4 = .ok (.istore 6, 2) := dk_54 6 (dk_at dksX5_downHeap_0 4 rfl rfl)
theorem dX5_downHeap_6 : decode cX5_downHeap 6 = .ok (.aload_n 0, 1) := dk_42 (dk_at dksX5_downHeap_0 6 rfl rfl)
theorem dX5_downHeap_7 : decode cX5_downHeap 7 = .ok (.iload 6, 2) := dk_21 6 (dk_at dksX5_downHeap_0 7 rfl rfl)
theorem dX5_downHeap_9 : decode cX5_downHeap 9 = .ok (.iaload, 1) := dk_46 (dk_at dksX5_downHeap_0 9 rfl rfl)
theorem dX5_downHeap_10 : decode cX5_downHeap 10 = .ok (.istore 7, 2) := dk_54 7 (dk_at dksX5_downHeap_0 10 rfl rfl)
theorem dX5_downHeap_12 : decode cX5_downHeap 12 = .ok (.aload 5, 2) := dk_25 5 (dk_at dksX5_downHeap_0 12 rfl rfl)
theorem dX5_downHeap_14 : decode cX5_downHeap 14 = .ok (.ifnonnull 89, 3) := dk_199 0 89 (dk_at dksX5_downHeap_0 14 rfl rfl)
theorem dX5_downHeap_17 : decode cX5_downHeap 17 = .ok (.iload 4, 2) := dk_21 4 (dk_at dksX5_downHeap_0 17 rfl rfl)
theorem dX5_downHeap_19 : decode cX5_downHeap 19 = .ok (.iconst 1, 1) := dk_4 (dk_at dksX5_downHeap_0 19 rfl rfl)
theorem dX5_downHeap_20 : decode cX5_downHeap 20 = .ok (.ishl, 1) := dk_120 (dk_at dksX5_downHeap_0 20 rfl rfl)
theorem dX5_downHeap_21 : decode cX5_downHeap 21 = .ok (.iconst 1, 1) := dk_4 (dk_at dksX5_downHeap_0 21 rfl rfl)
theorem dX5_downHeap_22 : decode cX5_downHeap 22 = .ok (.iadd, 1) := dk_96 (dk_at dksX5_downHeap_0 22 rfl rfl)
theorem dX5_downHeap_23 : decode cX5_downHeap 23 = .ok (.dup, 1) := dk_89 (dk_at dksX5_downHeap_0 23 rfl rfl)
theorem dX5_downHeap_24 : decode cX5_downHeap 24 = .ok (.istore 8, 2) := dk_54 8 (dk_at dksX5_downHeap_1 0 rfl rfl)
theorem dX5_downHeap_26 : decode cX5_downHeap 26 = .ok (.iload_n 3, 1) := dk_29 (dk_at dksX5_downHeap_1 2 rfl rfl)
theorem dX5_downHeap_27 : decode cX5_downHeap 27 = .ok (.if_icmp .ge 110, 3) := dk_162 0 110 (dk_at dksX5_downHeap_1 3 rfl rfl)
theorem dX5_downHeap_30 : decode cX5_downHeap 30 = .ok (.aload_n 1, 1) := dk_43 (dk_at dksX5_downHeap_1 6 rfl rfl)
theorem dX5_downHeap_31 : decode cX5_downHeap 31 = .ok (.iload 8, 2) := dk_21 8 (dk_at dksX5_downHeap_1 7 rfl rfl)
theorem dX5_downHeap_33 : decode cX5_downHeap 33 = .ok (.iaload, 1) := dk_46 (dk_at dksX5_downHeap_1 9 rfl rfl)
theorem dX5_downHeap_34 : decode cX5_downHeap 34 = .ok (.istore 9, 2) := dk_54 9 (dk_at dksX5_downHeap_1 10 rfl rfl)
theorem dX5_downHeap_36 : decode cX5_downHeap 36 = .ok (.iload 8, 2) := dk_21 8 (dk_at dksX5_downHeap_1 12 rfl rfl)
theorem dX5_downHeap_38 : decode cX5_downHeap 38 = .ok (.iconst 1, 1) := dk_4 (dk_at dksX5_downHeap_1 14 rfl rfl)
theorem dX5_downHeap_39 : decode cX5_downHeap 39 = .ok (.iadd, 1) := dk_96 (dk_at dksX5_downHeap_1 15 rfl rfl)
theorem dX5_downHeap_40 : decode cX5_downHeap 40 = .ok (.istore 10, 2) := dk_54 10 (dk_at dksX5_downHeap_1 16 rfl rfl)
theorem dX5_downHeap_42 : decode cX5_downHeap 42 = .ok (.iload 10, 2) := dk_21 10 (dk_at dksX5_downHeap_1 18 rfl rfl)
theorem dX5_downHeap_44 : decode cX5_downHeap 44 = .ok (.iload_n 3, 1) := dk_29 (dk_at dksX5_downHeap_1 20 rfl rfl)
theorem dX5_downHeap_45 : decode cX5_downHeap 45 = .ok (.if_icmp .ge 25, 3) := dk_162 0 25 (dk_at dksX5_downHeap_1 21 rfl rfl)
theorem dX5_downHeap_48 : decode cX5_downHeap 48 = .ok (.aload_n 0, 1) := dk_42 (dk_at dksX5_downHeap_2 0 rfl rfl)
theorem dX5_downHeap_49 : decode cX5_downHeap 49 = .ok (.aload_n 1, 1) := dk_43 (dk_at dksX5_downHeap_2 1 rfl rfl)
theorem dX5_downHeap_50 : decode cX5_downHeap 50 = .ok (.iload 10, 2) := dk_21 10 (dk_at dksX5_downHeap_2 2 rfl rfl)
theorem dX5_downHeap_52 : decode cX5_downHeap 52 = .ok (.iaload, 1) := dk_46 (dk_at dksX5_downHeap_2 4 rfl rfl)
theorem dX5_downHeap_53 : decode cX5_downHeap 53 = .ok (.iaload, 1) := dk_46 (dk_at dksX5_downHeap_2 5 rfl rfl)
theorem dX5_downHeap_54 : decode cX5_downHeap 54 = .ok (.aload_n 0, 1) := dk_42 (dk_at dksX5_downHeap_2 6 rfl rfl)
theorem dX5_downHeap_55 : decode cX5_downHeap 55 = .ok (.iload 9, 2) := dk_21 9 (dk_at dksX5_downHeap_2 7 rfl rfl)
theorem dX5_downHeap_57 : decode cX5_downHeap 57 = .ok (.iaload, 1) := dk_46 (dk_at dksX5_downHeap_2 9 rfl rfl)
theorem dX5_downHeap_58 : decode cX5_downHeap 58 = .ok (.if_icmp .ge 12, 3) := dk_162 0 12 (dk_at dksX5_downHeap_2 10 rfl rfl)
theorem dX5_downHeap_61 : decode cX5_downHeap 61 = .ok (.aload_n 1, 1) := dk_43 (dk_at dksX5_downHeap_2 13 rfl rfl)
theorem dX5_downHeap_62 : decode cX5_downHeap 62 = .ok (.iload 10, 2) := dk_21 10 (dk_at dksX5_downHeap_2 14 rfl rfl)
theorem dX5_downHeap_64 : decode cX5_downHeap 64 = .ok (.dup, 1) := dk_89 (dk_at dksX5_downHeap_2 16 rfl rfl)
theorem dX5_downHeap_65 : decode cX5_downHeap 65 = .ok (.istore 8, 2) := dk_54 8 (dk_at dksX5_downHeap_2 17 rfl rfl)
theorem dX5_downHeap_67 : decode cX5_downHeap 67 = .ok (.iaload, 1) := dk_46 (dk_at dksX5_downHeap_2 19 rfl rfl)
theorem dX5_downHeap_68 : decode cX5_downHeap 68 = .ok (.istore 9, 2) := dk_54 9 (dk_at dksX5_downHeap_2 20 rfl rfl)
theorem dX5_downHeap_70 : decode cX5_downHeap 70 = .ok (.iload 7, 2) := dk_21 7 (dk_at dksX5_downHeap_2 22 rfl rfl)
theorem dX5_downHeap_72 : decode cX5_downHeap 72 = .ok (.aload_n 0, 1) := dk_42 (dk_at dksX5_downHeap_3 0 rfl rfl)
theorem dX5_downHeap_73 : decode cX5_downHeap 73 = .ok (.iload 9, 2) := dk_21 9 (dk_at dksX5_downHeap_3 1 rfl rfl)
theorem dX5_downHeap_75 : decode cX5_downHeap 75 = .ok (.iaload, 1) := dk_46 (dk_at dksX5_downHeap_3 3 rfl rfl)
theorem dX5_downHeap_76 : decode cX5_downHeap 76 = .ok (.if_icmp .gt 6, 3) := dk_163 0 6 (dk_at dksX5_downHeap_3 4 rfl rfl)
theorem dX5_downHeap_79 : decode cX5_downHeap 79 = .ok (.goto 58, 3) := dk_167 0 58 (dk_at dksX5_downHeap_3 7 rfl rfl)
theorem dX5_downHeap_82 : decode cX5_downHeap 82 = .ok (.aload_n 1, 1) := dk_43 (dk_at dksX5_downHeap_3 10 rfl rfl)
theorem dX5_downHeap_83 : decode cX5_downHeap 83 = .ok (.iload 4, 2) := dk_21 4 (dk_at dksX5_downHeap_3 11 rfl rfl)
theorem dX5_downHeap_85 : decode cX5_downHeap 85 = .ok (.iload 9, 2) := dk_21 9 (dk_at dksX5_downHeap_3 13 rfl rfl)
theorem dX5_downHeap_87 : decode cX5_downHeap 87 = .ok (.iastore, 1) := dk_79 (dk_at dksX5_downHeap_3 15 rfl rfl)
theorem dX5_downHeap_88 : decode cX5_downHeap 88 = .ok (.aload_n 2, 1) := dk_44 (dk_at dksX5_downHeap_3 16 rfl rfl)
theorem dX5_downHeap_89 : decode cX5_downHeap 89 = .ok (.aload_n 1, 1) := dk_43 (dk_at dksX5_downHeap_3 17 rfl rfl)
theorem dX5_downHeap_90 : decode cX5_downHeap 90 = .ok (.iload 4, 2) := dk_21 4 (dk_at dksX5_downHeap_3 18 rfl rfl)
theorem dX5_downHeap_92 : decode cX5_downHeap 92 = .ok (.iaload, 1) := dk_46 (dk_at dksX5_downHeap_3 20 rfl rfl)
theorem dX5_downHeap_93 : decode cX5_downHeap 93 = .ok (.iload 4, 2) := dk_21 4 (dk_at dksX5_downHeap_3 21 rfl rfl)
theorem dX5_downHeap_95 : decode cX5_downHeap 95 = .ok (.iastore, 1) := dk_79 (dk_at dksX5_downHeap_3 23 rfl rfl)
theorem dX5_downHeap_96 : decode cX5_downHeap 96 = .ok (.iload 8, 2) := dk_21 8 (dk_at dksX5_downHeap_4 0 rfl rfl)
theorem dX5_downHeap_98 : decode cX5_downHeap 98 = .ok (.istore 4, 2) := dk_54 4 (dk_at dksX5_downHeap_4 2 rfl rfl)
theorem dX5_downHeap_100 : decode cX5_downHeap 100 = .ok (.goto (-83), 3) := dk_167 255 173 (dk_at dksX5_downHeap_4 4 rfl rfl)
theorem dX5_downHeap_103 : decode cX5_downHeap 103 = .ok (.iload 4, 2) := dk_21 4 (dk_at dksX5_downHeap_4 7 rfl rfl)
theorem dX5_downHeap_105 : decode cX5_downHeap 105 = .ok (.iconst 1, 1) := dk_4 (dk_at dksX5_downHeap_4 9 rfl rfl)
theorem dX5_downHeap_106 : decode cX5_downHeap 106 = .ok (.ishl, 1) := dk_120 (dk_at dksX5_downHeap_4 10 rfl rfl)
theorem dX5_downHeap_107 : decode cX5_downHeap 107 = .ok (.iconst 1, 1) := dk_4 (dk_at dksX5_downHeap_4 11 rfl rfl)
theorem dX5_downHeap_108 : decode cX5_downHeap 108 = .ok (.iadd, 1) := dk_96 (dk_at dksX5_downHeap_4 12 rfl rfl)
theorem dX5_downHeap_109 : decode cX5_downHeap 109 = .ok (.dup, 1) := dk_89 (dk_at dksX5_downHeap_4 13 rfl rfl)
theorem dX5_downHeap_110 : decode cX5_downHeap 110 = .ok (.istore 8, 2) := dk_54 8 (dk_at dksX5_downHeap_4 14 rfl rfl)
theorem dX5_downHeap_112 : decode cX5_downHeap 112 = .ok (.iload_n 3, 1) := dk_29 (dk_at dksX5_downHeap_4 16 rfl rfl)
theorem dX5_downHeap_113 : decode cX5_downHeap 113 = .ok (.if_icmp .ge 24, 3) := dk_162 0 24 (dk_at dksX5_downHeap_4 17 rfl rfl)
theorem dX5_downHeap_116 : decode cX5_downHeap 116 = .ok (.aload_n 1, 1) := dk_43 (dk_at dksX5_downHeap_4 20 rfl rfl)
theorem dX5_downHeap_117 : decode cX5_downHeap 117 = .ok (.iload 8, 2) := dk_21 8 (dk_at dksX5_downHeap_4 21 rfl rfl)
theorem dX5_downHeap_119 : decode cX5_downHeap 119 = .ok (.iaload, 1) := dk_46 (dk_at dksX5_downHeap_4 23 rfl rfl)
theorem dX5_downHeap_120 : decode cX5_downHeap 120 = .ok (.istore 9, 2) := dk_54 9 (dk_at dksX5_downHeap_5 0 rfl rfl)
theorem dX5_downHeap_122 : decode cX5_downHeap 122 = .ok (.iload 8, 2) := dk_21 8 (dk_at dksX5_downHeap_5 2 rfl rfl)
theorem dX5_downHeap_124 : decode cX5_downHeap 124 = .ok (.iconst 1, 1) := dk_4 (dk_at dksX5_downHeap_5 4 rfl rfl)
theorem dX5_downHeap_125 : decode cX5_downHeap 125 = .ok (.iadd, 1) := dk_96 (dk_at dksX5_downHeap_5 5 rfl rfl)
theorem dX5_downHeap_126 : decode cX5_downHeap 126 = .ok (.istore 10, 2) := dk_54 10 (dk_at dksX5_downHeap_5 6 rfl rfl)
theorem dX5_downHeap_128 : decode cX5_downHeap 128 = .ok (.iload 10, 2) := dk_21 10 (dk_at dksX5_downHeap_5 8 rfl rfl)
theorem dX5_downHeap_130 : decode cX5_downHeap 130 = .ok (.iload_n 3, 1) := dk_29 (dk_at dksX5_downHeap_5 10 rfl rfl)
theorem dX5_downHeap_131 : decode cX5_downHeap 131 = .ok (.if_icmp .ge 6, 3) := dk_162 0 6 (dk_at dksX5_downHeap_5 11 rfl rfl)
theorem dX5_downHeap_134 : decode cX5_downHeap 134 = .ok (.goto 3, 3) := dk_167 0 3 (dk_at dksX5_downHeap_5 14 rfl rfl)
theorem dX5_downHeap_137 : decode cX5_downHeap 137 = .ok (.aload_n 1, 1) := dk_43 (dk_at dksX5_downHeap_5 17 rfl rfl)
theorem dX5_downHeap_138 : decode cX5_downHeap 138 = .ok (.iload 4, 2) := dk_21 4 (dk_at dksX5_downHeap_5 18 rfl rfl)
theorem dX5_downHeap_140 : decode cX5_downHeap 140 = .ok (.iload 6, 2) := dk_21 6 (dk_at dksX5_downHeap_5 20 rfl rfl)
theorem dX5_downHeap_142 : decode cX5_downHeap 142 = .ok (.iastore, 1) := dk_79 (dk_at dksX5_downHeap_5 22 rfl rfl)
theorem dX5_downHeap_143 : decode cX5_downHeap 143 = .ok (.aload_n 2, 1) := dk_44 (dk_at dksX5_downHeap_5 23 rfl rfl)
theorem dX5_downHeap_144 : decode cX5_downHeap 144 = .ok (.iload 6, 2) := dk_21 6 (dk_at dksX5_downHeap_6 0 rfl rfl)
theorem dX5_downHeap_146 : decode cX5_downHeap 146 = .ok (.iload 4, 2) := dk_21 4 (dk_at dksX5_downHeap_6 2 rfl rfl)
theorem dX5_downHeap_148 : decode cX5_downHeap 148 = .ok (.iastore, 1) := dk_79 (dk_at dksX5_downHeap_6 4 rfl rfl)
theorem dX5_downHeap_149 : decode cX5_downHeap 149 = .ok (.iload 4, 2) := dk_21 4 (dk_at dksX5_downHeap_6 5 rfl rfl)
theorem dX5_downHeap_151 : decode cX5_downHeap 151 = .ok (.ireturn, 1) := dk_172 (dk_at dksX5_downHeap_6 7 rfl rfl)
abbrev cX5_makeHeap : ByteArray := prog_8_method_3_code
def yX5_makeHeap : MethodName := ⟨RX5, "makeHeap", "([I[I[IILIntComparator;)V"⟩
def dkwX5_makeHeap_1 : List UInt8 := [87, 167, 255, 236, 177]
abbrev dktX5_makeHeap_1 : List UInt8 := dkwX5_makeHeap_1 ++ []
def dkwX5_makeHeap_0 : List UInt8 := [29, 4, 124, 54, 5, 21, 5, 132, 5, 255, 153, 0, 18, 42, 43, 44, 29, 21, 5, 25, 4, 184, 0, 1]
abbrev dktX5_makeHeap_0 : List UInt8 := dkwX5_makeHeap_0 ++ dktX5_makeHeap_1
theorem dksX5_makeHeap_0 : cX5_makeHeap.data.toList.drop 0 = dktX5_makeHeap_0 := by decide +kernel
theorem dksX5_makeHeap_1 : cX5_makeHeap.data.toList.drop 24 = dktX5_makeHeap_1 := dk_seg dksX5_makeHeap_0 24 rfl rfl
theorem dX5_makeHeap_0 : decode cX5_makeHeap 0 = .ok (.iload_n 3, 1) := dk_29 (dk_at dksX5_makeHeap_0 0 rfl rfl)
theorem dX5_makeHeap_1 : decode cX5_makeHeap 1 = .ok (.iconst 1, 1) := dk_4 (dk_at dksX5_makeHeap_0 1 rfl rfl)
theorem dX5_makeHeap_2 : decode cX5_makeHeap 2 = .ok (.iushr, 1) := dk_124 (dk_at dksX5_makeHeap_0 2 rfl rfl)
theorem dX5_makeHeap_3 : decode cX5_makeHeap 3 = .ok (.istore 5, 2) := dk_54 5 (dk_at dksX5_makeHeap_0 3 rfl rfl)
theorem dX5_makeHeap_5 : decode cX5_makeHeap 5 = .ok (.iload 5, 2) := dk_21 5 (dk_at dksX5_makeHeap_0 5 rfl rfl)
theorem dX5_makeHeap_7 : decode cX5_makeHeap 7 = .ok (.iinc 5 (-1), 3) := dk_132 5 255 (dk_at dksX5_makeHeap_0 7 rfl rfl)
theorem dX5_makeHeap_10 : decode cX5_makeHeap 10 = .ok (.ifCond .eq 18, 3) := dk_153 0 18 (dk_at dksX5_makeHeap_0 10 rfl rfl)
theorem dX5_makeHeap_13 : decode cX5_makeHeap 13 = .ok (.aload_n 0, 1) := dk_42 (dk_at dksX5_makeHeap_0 13 rfl rfl)
theorem dX5_makeHeap_14 : decode cX5_makeHeap 14 = .ok (.aload_n 1, 1) := dk_43 (dk_at dksX5_makeHeap_0 14 rfl rfl)
theorem dX5_makeHeap_15 : decode cX5_makeHeap 15 = .ok (.aload_n 2, 1) := dk_44 (dk_at dksX5_makeHeap_0 15 rfl rfl)
theorem dX5_makeHeap_16 : decode cX5_makeHeap 16 = .ok (.iload_n 3, 1) := dk_29 (dk_at dksX5_makeHeap_0 16 rfl rfl)
theorem dX5_makeHeap_17 : decode cX5_makeHeap 17 = .ok (.iload 5, 2) := dk_21 5 (dk_at dksX5_makeHeap_0 17 rfl rfl)
theorem dX5_makeHeap_19 : decode cX5_makeHeap 19 = .ok (.aload 4, 2) := dk_25 4 (dk_at dksX5_makeHeap_0 19 rfl rfl)
theorem dX5_makeHeap_21 : decode cX5_makeHeap 21 = .ok (.invokestatic 1, 3) := dk_184 0 1 (dk_at dksX5_makeHeap_0 21 rfl rfl)
theorem dX5_makeHeap_24 : decode cX5_makeHeap 24 = .ok (.pop, 1) := dk_87 (dk_at dksX5_makeHeap_1 0 rfl rfl)
theorem dX5_makeHeap_25 : decode cX5_makeHeap 25 = .ok (.goto (-20), 3) := dk_167 255 236 (dk_at dksX5_makeHeap_1 1 rfl rfl)
theorem dX5_makeHeap_28 : decode cX5_makeHeap 28 = .ok (.return_, 1) := dk_177 (dk_at dksX5_makeHeap_1 4 rfl rfl)
theorem q24 : (Jvm.Cond.initialized "IntIndirectHeaps") ∈ lw_all := lw_g (lw_at lw_m1 22 rfl) rfl
theorem q400 : (Jvm.Cond.static ({ cls := "IntIndirectHeaps", name := "upHeap", desc := "([I[I[IIILIntComparator;)I" } : Jvm.MethodName)) ∈ lw_all := lw_g (lw_at lw_m2 158 rfl) rfl
theorem q401 : (Jvm.Cond.code ({ cls := "IntIndirectHeaps", name := "upHeap", desc := "([I[I[IIILIntComparator;)I" } : Jvm.MethodName) prog_8_method_2_code (10 : Nat) (Option.some Jvm.ClassFile.FieldType.int)) ∈ lw_all := lw_g (lw_at lw_m2 159 rfl) rfl
theorem q403 : (Jvm.Cond.static ({ cls := "IntIndirectHeaps", name := "downHeap", desc := "([I[I[IIILIntComparator;)I" } : Jvm.MethodName)) ∈ lw_all := lw_g (lw_at lw_m2 161 rfl) rfl
theorem q404 : (Jvm.Cond.code ({ cls := "IntIndirectHeaps", name := "downHeap", desc := "([I[I[IIILIntComparator;)I" } : Jvm.MethodName) prog_8_method_1_code (11 : Nat) (Option.some Jvm.ClassFile.FieldType.int)) ∈ lw_all := lw_g (lw_at lw_m2 162 rfl) rfl
theorem q500 : (Jvm.Cond.static ({ cls := "IntIndirectHeaps", name := "makeHeap", desc := "([I[I[IILIntComparator;)V" } : Jvm.MethodName)) ∈ lw_all := lw_g (lw_at lw_m3 18 rfl) rfl
theorem q501 : (Jvm.Cond.code ({ cls := "IntIndirectHeaps", name := "makeHeap", desc := "([I[I[IILIntComparator;)V" } : Jvm.MethodName) prog_8_method_3_code (6 : Nat) (Option.none : Option Jvm.ClassFile.FieldType)) ∈ lw_all := lw_g (lw_at lw_m3 19 rfl) rfl
theorem q502 : (Jvm.Cond.methodLink "IntIndirectHeaps" (1 : Nat) ({ cls := "IntIndirectHeaps", name := "downHeap", desc := "([I[I[IIILIntComparator;)I" } : Jvm.MethodName)) ∈ lw_all := lw_g (lw_at lw_m3 20 rfl) rfl
/-! java/util/Arrays -/
set_option maxRecDepth 100000
def RJ0 : String := "java/util/Arrays"
abbrev cJ0_fill : ByteArray := prog_30_method_103_code
def yJ0_fill : MethodName := ⟨RJ0, "fill", "([II)V"⟩
def dkwJ0_fill_0 : List UInt8 := [3, 61, 42, 190, 62, 28, 29, 162, 0, 13, 42, 28, 27, 79, 132, 2, 1, 167, 255, 244, 177]
abbrev dktJ0_fill_0 : List UInt8 := dkwJ0_fill_0 ++ []
theorem dksJ0_fill_0 : cJ0_fill.data.toList.drop 0 = dktJ0_fill_0 := by decide +kernel
theorem dJ0_fill_0 : decode cJ0_fill 0 = .ok (.iconst 0, 1) := dk_3 (dk_at dksJ0_fill_0 0 rfl rfl)
theorem dJ0_fill_1 : decode cJ0_fill 1 = .ok (.istore_n 2, 1) := dk_61 (dk_at dksJ0_fill_0 1 rfl rfl)
theorem dJ0_fill_2 : decode cJ0_fill 2 = .ok (.aload_n 0, 1) := dk_42 (dk_at dksJ0_fill_0 2 rfl rfl)
theorem dJ0_fill_3 : decode cJ0_fill 3 = .ok (.arraylength, 1) := dk_190 (dk_at dksJ0_fill_0 3 rfl rfl)
theorem dJ0_fill_4 : decode cJ0_fill 4 = .ok (.istore_n 3, 1) := dk_62 (dk_at dksJ0_fill_0 4 rfl rfl)
theorem dJ0_fill_5 : decode cJ0_fill 5 = .ok (.iload_n 2, 1) := dk_28 (dk_at dksJ0_fill_0 5 rfl rfl)
theorem dJ0_fill_6 : decode cJ0_fill 6 = .ok (.iload_n 3, 1) := dk_29 (dk_at dksJ0_fill_0 6 rfl rfl)
theorem dJ0_fill_7 : decode cJ0_fill 7 = .ok (.if_icmp .ge 13, 3) := dk_162 0 13 (dk_at dksJ0_fill_0 7 rfl rfl)
theorem dJ0_fill_10 : decode cJ0_fill 10 = .ok (.aload_n 0, 1) := dk_42 (dk_at dksJ0_fill_0 10 rfl rfl)
theorem dJ0_fill_11 : decode cJ0_fill 11 = .ok (.iload_n 2, 1) := dk_28 (dk_at dksJ0_fill_0 11 rfl rfl)
theorem dJ0_fill_12 : decode cJ0_fill 12 = .ok (.iload_n 1, 1) := dk_27 (dk_at dksJ0_fill_0 12 rfl rfl)
theorem dJ0_fill_13 : decode cJ0_fill 13 = .ok (.iastore, 1) := dk_79 (dk_at dksJ0_fill_0 13 rfl rfl)
theorem dJ0_fill_14 : decode cJ0_fill 14 = .ok (.iinc 2 1, 3) := dk_132 2 1 (dk_at dksJ0_fill_0 14 rfl rfl)
theorem dJ0_fill_17 : decode cJ0_fill 17 = .ok (.goto (-12), 3) := dk_167 255 244 (dk_at dksJ0_fill_0 17 rfl rfl)
theorem dJ0_fill_20 : decode cJ0_fill 20 = .ok (.return_, 1) := dk_177 (dk_at dksJ0_fill_0 20 rfl rfl)
theorem q7 : (Jvm.Cond.initialized "java/util/Arrays") ∈ lw_all := lw_g (lw_at lw_m1 5 rfl) rfl
theorem q49 : (Jvm.Cond.static ({ cls := "java/util/Arrays", name := "fill", desc := "([II)V" } : Jvm.MethodName)) ∈ lw_all := lw_g (lw_at lw_m1 47 rfl) rfl
theorem q50 : (Jvm.Cond.code ({ cls := "java/util/Arrays", name := "fill", desc := "([II)V" } : Jvm.MethodName) prog_30_method_103_code (4 : Nat) (Option.none : Option Jvm.ClassFile.FieldType)) ∈ lw_all := lw_g (lw_at lw_m1 48 rfl) rfl
theorem q199 : (Jvm.Cond.static ({ cls := "java/util/Arrays", name := "copyOf", desc := "([BI)[B" } : Jvm.MethodName)) ∈ lw_all := lw_g (lw_at lw_m1 197 rfl) rfl
theorem q200 : (Jvm.Cond.code ({ cls := "java/util/Arrays", name := "copyOf", desc := "([BI)[B" } : Jvm.MethodName) prog_30_method_121_code (3 : Nat) (Option.some (Jvm.ClassFile.FieldType.array Jvm.ClassFile.FieldType.byte))) ∈ lw_all := lw_g (lw_at lw_m1 198 rfl) rfl
theorem q201 : (Jvm.Cond.methodLink "java/util/Arrays" (310 : Nat) ({ cls := "[B", name := "clone", desc := "()Ljava/lang/Object;" } : Jvm.MethodName)) ∈ lw_all := lw_g (lw_at lw_m1 199 rfl) rfl
theorem q207 : (Jvm.Cond.classLink "java/util/Arrays" (311 : Nat) "[B") ∈ lw_all := lw_g (lw_at lw_m1 205 rfl) rfl
theorem q208 : (Jvm.Cond.methodLink "java/util/Arrays" (304 : Nat) ({ cls := "java/lang/Math", name := "min", desc := "(II)I" } : Jvm.MethodName)) ∈ lw_all := lw_g (lw_at lw_m1 206 rfl) rfl
theorem q211 : (Jvm.Cond.methodLink "java/util/Arrays" (150 : Nat) ({ cls := "java/lang/System", name := "arraycopy", desc := "(Ljava/lang/Object;ILjava/lang/Object;II)V" } : Jvm.MethodName)) ∈ lw_all := lw_g (lw_at lw_m1 209 rfl) rfl
theorem q342 : (Jvm.Cond.static ({ cls := "java/util/Arrays", name := "copyOfRange", desc := "([BII)[B" } : Jvm.MethodName)) ∈ lw_all := lw_g (lw_at lw_m2 100 rfl) rfl
theorem q343 : (Jvm.Cond.code ({ cls := "java/util/Arrays", name := "copyOfRange", desc := "([BII)[B" } : Jvm.MethodName) prog_30_method_132_code (3 : Nat) (Option.some (Jvm.ClassFile.FieldType.array Jvm.ClassFile.FieldType.byte))) ∈ lw_all := lw_g (lw_at lw_m2 101 rfl) rfl
theorem q344 : (Jvm.Cond.methodLink "java/util/Arrays" (339 : Nat) ({ cls := "java/util/Arrays", name := "copyOfRangeByte", desc := "([BII)[B" } : Jvm.MethodName)) ∈ lw_all := lw_g (lw_at lw_m2 102 rfl) rfl
theorem q345 : (Jvm.Cond.static ({ cls := "java/util/Arrays", name := "copyOfRangeByte", desc := "([BII)[B" } : Jvm.MethodName)) ∈ lw_all := lw_g (lw_at lw_m2 103 rfl) rfl
theorem q346 : (Jvm.Cond.code ({ cls := "java/util/Arrays", name := "copyOfRangeByte", desc := "([BII)[B" } : Jvm.MethodName) prog_30_method_133_code (5 : Nat) (Option.some (Jvm.ClassFile.FieldType.array Jvm.ClassFile.FieldType.byte))) ∈ lw_all := lw_g (lw_at lw_m2 104 rfl) rfl
theorem q347 : (Jvm.Cond.methodLink "java/util/Arrays" (343 : Nat) ({ cls := "java/util/Arrays", name := "checkLength", desc := "(II)V" } : Jvm.MethodName)) ∈ lw_all := lw_g (lw_at lw_m2 105 rfl) rfl
theorem q348 : (Jvm.Cond.static ({ cls := "java/util/Arrays", name := "checkLength", desc := "(II)V" } : Jvm.MethodName)) ∈ lw_all := lw_g (lw_at lw_m2 106 rfl) rfl
theorem q349 : (Jvm.Cond.code ({ cls := "java/util/Arrays", name := "checkLength", desc := "(II)V" } : Jvm.MethodName) prog_30_method_131_code (2 : Nat) (Option.none : Option Jvm.ClassFile.FieldType)) ∈ lw_all := lw_g (lw_at lw_m2 107 rfl) rfl
/-! IntArrays -/
set_option maxRecDepth 100000
def RX3 : String := "IntArrays"
theorem q6 : (Jvm.Cond.initialized "IntArrays") ∈ lw_all := lw_g (lw_at lw_m1 4 rfl) rfl
theorem q47 : (Jvm.Cond.laysStatic "IntArrays" "EMPTY_ARRAY" "[I") ∈ lw_tbl := lw_at lw_m1 45 rfl
theorem q415 : (Jvm.Cond.static ({ cls := "IntArrays", name := "grow", desc := "([II)[I" } : Jvm.MethodName)) ∈ lw_all := lw_g (lw_at lw_m2 173 rfl) rfl
theorem q416 : (Jvm.Cond.code ({ cls := "IntArrays", name := "grow", desc := "([II)[I" } : Jvm.MethodName) prog_4_method_1_code (2 : Nat) (Option.some (Jvm.ClassFile.FieldType.array Jvm.ClassFile.FieldType.int))) ∈ lw_all := lw_g (lw_at lw_m2 174 rfl) rfl
theorem q417 : (Jvm.Cond.methodLink "IntArrays" (1 : Nat) ({ cls := "IntArrays", name := "grow", desc := "([III)[I" } : Jvm.MethodName)) ∈ lw_all := lw_g (lw_at lw_m2 175 rfl) rfl
theorem q418 : (Jvm.Cond.static ({ cls := "IntArrays", name := "grow", desc := "([III)[I" } : Jvm.MethodName)) ∈ lw_all := lw_g (lw_at lw_m2 176 rfl) rfl
theorem q419 : (Jvm.Cond.code ({ cls := "IntArrays", name := "grow", desc := "([III)[I" } : Jvm.MethodName) prog_4_method_2_code (5 : Nat) (Option.some (Jvm.ClassFile.FieldType.array Jvm.ClassFile.FieldType.int))) ∈ lw_all := lw_g (lw_at lw_m2 177 rfl) rfl
theorem q420 : (Jvm.Cond.constantLong "IntArrays" (9 : Nat) (2147483639 : Int64)) ∈ lw_all := lw_g (lw_at lw_m2 178 rfl) rfl
theorem q421 : (Jvm.Cond.methodLink "IntArrays" (11 : Nat) ({ cls := "java/lang/Math", name := "min", desc := "(JJ)J" } : Jvm.MethodName)) ∈ lw_all := lw_g (lw_at lw_m2 179 rfl) rfl
theorem q424 : (Jvm.Cond.methodLink "IntArrays" (17 : Nat) ({ cls := "java/lang/Math", name := "max", desc := "(JJ)J" } : Jvm.MethodName)) ∈ lw_all := lw_g (lw_at lw_m2 182 rfl) rfl
theorem q427 : (Jvm.Cond.methodLink "IntArrays" (20 : Nat) ({ cls := "java/lang/System", name := "arraycopy", desc := "(Ljava/lang/Object;ILjava/lang/Object;II)V" } : Jvm.MethodName)) ∈ lw_all := lw_g (lw_at lw_m2 185 rfl) rfl
/-! java/lang/Object -/
set_option maxRecDepth 100000
def RJ15 : String := "java/lang/Object"
abbrev cJ15_init : ByteArray := object_method_1_code
def yJ15_init : MethodName := ⟨RJ15, "<init>", "()V"⟩
theorem dJ15_init_0 : decode cJ15_init 0 = .ok (.return_, 1) := by decide +kernel
theorem q32 : (Jvm.Cond.instanceMethod ({ cls := "java/lang/Object", name := "<init>", desc := "()V" } : Jvm.MethodName)) ∈ lw_all := lw_g (lw_at lw_m1 30 rfl) rfl
theorem q33 : (Jvm.Cond.code ({ cls := "java/lang/Object", name := "<init>", desc := "()V" } : Jvm.MethodName) object_method_1_code (1 : Nat) (Option.none : Option Jvm.ClassFile.FieldType)) ∈ lw_all := lw_g (lw_at lw_m1 31 rfl) rfl
theorem q203 : (Jvm.Cond.native ({ cls := "java/lang/Object", name := "clone", desc := "()Ljava/lang/Object;" } : Jvm.MethodName)) ∈ lw_all := lw_g (lw_at lw_m1 201 rfl) rfl
theorem q204 : (Jvm.Cond.instanceMethod ({ cls := "java/lang/Object", name := "clone", desc := "()Ljava/lang/Object;" } : Jvm.MethodName)) ∈ lw_all := lw_g (lw_at lw_m1 202 rfl) rfl
theorem q594 : (Jvm.Cond.initialized "java/lang/Object") ∈ lw_all := lw_g (lw_at lw_m3 112 rfl) rfl
theorem q2 : (Jvm.Cond.initialized "IndirectHeapLaw") ∈ lw_all := lw_g (lw_at lw_m1 0 rfl) rfl
set_option maxRecDepth 100000
theorem q26 : (Jvm.Cond.classLink "IndirectHeapLaw" (7 : Nat) "IndirectHeap") ∈ lw_all := lw_g (lw_at lw_m1 24 rfl) rfl
theorem q28 : (Jvm.Cond.methodLink "IndirectHeapLaw" (9 : Nat) ({ cls := "IndirectHeap", name := "<init>", desc := "()V" } : Jvm.MethodName)) ∈ lw_all := lw_g (lw_at lw_m1 26 rfl) rfl
theorem q83 : (Jvm.Cond.methodLink "IndirectHeapLaw" (13 : Nat) ({ cls := "IndirectHeap", name := "change", desc := "(II)V" } : Jvm.MethodName)) ∈ lw_all := lw_g (lw_at lw_m1 81 rfl) rfl
theorem q405 : (Jvm.Cond.methodLink "IndirectHeapLaw" (18 : Nat) ({ cls := "IndirectHeap", name := "enter", desc := "(I)Z" } : Jvm.MethodName)) ∈ lw_all := lw_g (lw_at lw_m2 163 rfl) rfl
theorem q428 : (Jvm.Cond.methodLink "IndirectHeapLaw" (23 : Nat) ({ cls := "IndirectHeap", name := "leave", desc := "(I)Z" } : Jvm.MethodName)) ∈ lw_all := lw_g (lw_at lw_m2 186 rfl) rfl
theorem q436 : (Jvm.Cond.methodLink "IndirectHeapLaw" (27 : Nat) ({ cls := "IndirectHeap", name := "least", desc := "()I" } : Jvm.MethodName)) ∈ lw_all := lw_g (lw_at lw_m2 194 rfl) rfl
theorem q473 : (Jvm.Cond.methodLink "IndirectHeapLaw" (32 : Nat) ({ cls := "IndirectHeap", name := "take", desc := "()I" } : Jvm.MethodName)) ∈ lw_all := lw_g (lw_at lw_m2 231 rfl) rfl
theorem q483 : (Jvm.Cond.methodLink "IndirectHeapLaw" (36 : Nat) ({ cls := "IndirectHeap", name := "headChanged", desc := "(I)Z" } : Jvm.MethodName)) ∈ lw_all := lw_g (lw_at lw_m3 1 rfl) rfl
theorem q491 : (Jvm.Cond.methodLink "IndirectHeapLaw" (40 : Nat) ({ cls := "IndirectHeap", name := "all", desc := "(I)V" } : Jvm.MethodName)) ∈ lw_all := lw_g (lw_at lw_m3 9 rfl) rfl
theorem q503 : (Jvm.Cond.methodLink "IndirectHeapLaw" (45 : Nat) ({ cls := "IndirectHeap", name := "inside", desc := "(I)Z" } : Jvm.MethodName)) ∈ lw_all := lw_g (lw_at lw_m3 21 rfl) rfl
theorem q507 : (Jvm.Cond.methodLink "IndirectHeapLaw" (49 : Nat) ({ cls := "IndirectHeap", name := "waiting", desc := "()I" } : Jvm.MethodName)) ∈ lw_all := lw_g (lw_at lw_m3 25 rfl) rfl
theorem q511 : (Jvm.Cond.methodLink "IndirectHeapLaw" (53 : Nat) ({ cls := "IndirectHeap", name := "value", desc := "(I)I" } : Jvm.MethodName)) ∈ lw_all := lw_g (lw_at lw_m3 29 rfl) rfl
theorem q515 : (Jvm.Cond.methodLink "IndirectHeapLaw" (58 : Nat) ({ cls := "IndirectHeap", name := "drain", desc := "()V" } : Jvm.MethodName)) ∈ lw_all := lw_g (lw_at lw_m3 33 rfl) rfl
theorem q523 : (Jvm.Cond.classLink "IndirectHeapLaw" (10 : Nat) "IndirectHeapModel") ∈ lw_all := lw_g (lw_at lw_m3 41 rfl) rfl
theorem q525 : (Jvm.Cond.methodLink "IndirectHeapLaw" (12 : Nat) ({ cls := "IndirectHeapModel", name := "<init>", desc := "()V" } : Jvm.MethodName)) ∈ lw_all := lw_g (lw_at lw_m3 43 rfl) rfl
theorem q537 : (Jvm.Cond.methodLink "IndirectHeapLaw" (17 : Nat) ({ cls := "IndirectHeapModel", name := "change", desc := "(II)V" } : Jvm.MethodName)) ∈ lw_all := lw_g (lw_at lw_m3 55 rfl) rfl
theorem q541 : (Jvm.Cond.methodLink "IndirectHeapLaw" (22 : Nat) ({ cls := "IndirectHeapModel", name := "enter", desc := "(I)Z" } : Jvm.MethodName)) ∈ lw_all := lw_g (lw_at lw_m3 59 rfl) rfl
theorem q545 : (Jvm.Cond.methodLink "IndirectHeapLaw" (26 : Nat) ({ cls := "IndirectHeapModel", name := "leave", desc := "(I)Z" } : Jvm.MethodName)) ∈ lw_all := lw_g (lw_at lw_m3 63 rfl) rfl
theorem q549 : (Jvm.Cond.methodLink "IndirectHeapLaw" (31 : Nat) ({ cls := "IndirectHeapModel", name := "least", desc := "()I" } : Jvm.MethodName)) ∈ lw_all := lw_g (lw_at lw_m3 67 rfl) rfl
theorem q557 : (Jvm.Cond.methodLink "IndirectHeapLaw" (35 : Nat) ({ cls := "IndirectHeapModel", name := "take", desc := "()I" } : Jvm.MethodName)) ∈ lw_all := lw_g (lw_at lw_m3 75 rfl) rfl
theorem q561 : (Jvm.Cond.methodLink "IndirectHeapLaw" (39 : Nat) ({ cls := "IndirectHeapModel", name := "headChanged", desc := "(I)Z" } : Jvm.MethodName)) ∈ lw_all := lw_g (lw_at lw_m3 79 rfl) rfl
theorem q565 : (Jvm.Cond.methodLink "IndirectHeapLaw" (44 : Nat) ({ cls := "IndirectHeapModel", name := "all", desc := "(I)V" } : Jvm.MethodName)) ∈ lw_all := lw_g (lw_at lw_m3 83 rfl) rfl
theorem q569 : (Jvm.Cond.methodLink "IndirectHeapLaw" (48 : Nat) ({ cls := "IndirectHeapModel", name := "inside", desc := "(I)Z" } : Jvm.MethodName)) ∈ lw_all := lw_g (lw_at lw_m3 87 rfl) rfl
theorem q573 : (Jvm.Cond.methodLink "IndirectHeapLaw" (52 : Nat) ({ cls := "IndirectHeapModel", name := "waiting", desc := "()I" } : Jvm.MethodName)) ∈ lw_all := lw_g (lw_at lw_m3 91 rfl) rfl
theorem q577 : (Jvm.Cond.methodLink "IndirectHeapLaw" (57 : Nat) ({ cls := "IndirectHeapModel", name := "value", desc := "(I)I" } : Jvm.MethodName)) ∈ lw_all := lw_g (lw_at lw_m3 95 rfl) rfl
theorem q581 : (Jvm.Cond.methodLink "IndirectHeapLaw" (61 : Nat) ({ cls := "IndirectHeapModel", name := "drain", desc := "()V" } : Jvm.MethodName)) ∈ lw_all := lw_g (lw_at lw_m3 99 rfl) rfl
theorem q75 : (Jvm.Cond.arrayClass Jvm.ClassFile.FieldType.int) ∈ lw_all := lw_g (lw_at lw_m1 73 rfl) rfl
set_option maxRecDepth 100000
theorem q166 : (Jvm.Cond.arrayClass Jvm.ClassFile.FieldType.byte) ∈ lw_all := lw_g (lw_at lw_m1 164 rfl) rfl
theorem q536 : (Jvm.Cond.arrayClass Jvm.ClassFile.FieldType.boolean) ∈ lw_all := lw_g (lw_at lw_m3 54 rfl) rfl
/-! the law's own entry -/
set_option maxRecDepth 100000
abbrev cL_law : ByteArray := code
def dkwL_law_12 : List UInt8 := [44, 182, 0, 61, 167, 0, 3, 132, 3, 6, 167, 254, 218, 4, 172]
abbrev dktL_law_12 : List UInt8 := dkwL_law_12 ++ []
def dkwL_law_11 : List UInt8 := [4, 96, 46, 182, 0, 53, 44, 42, 29, 4, 96, 46, 182, 0, 57, 159, 0, 16, 3, 172, 43, 182, 0, 58]
abbrev dktL_law_11 : List UInt8 := dkwL_law_11 ++ dktL_law_12
def dkwL_law_10 : List UInt8 := [182, 0, 48, 159, 0, 52, 3, 172, 43, 182, 0, 49, 44, 182, 0, 52, 159, 0, 39, 3, 172, 43, 42, 29]
abbrev dktL_law_10 : List UInt8 := dkwL_law_10 ++ dktL_law_11
def dkwL_law_9 : List UInt8 := [96, 46, 182, 0, 44, 167, 0, 73, 43, 42, 29, 4, 96, 46, 182, 0, 45, 44, 42, 29, 4, 96, 46]
abbrev dktL_law_9 : List UInt8 := dkwL_law_9 ++ dktL_law_10
def dkwL_law_8 : List UInt8 := [4, 96, 46, 182, 0, 39, 159, 0, 96, 3, 172, 43, 42, 29, 4, 96, 46, 182, 0, 40, 44, 42, 29, 4]
abbrev dktL_law_8 : List UInt8 := dkwL_law_8 ++ dktL_law_9
def dkwL_law_7 : List UInt8 := [182, 0, 32, 44, 182, 0, 35, 159, 0, 119, 3, 172, 43, 42, 29, 4, 96, 46, 182, 0, 36, 44, 42, 29]
abbrev dktL_law_7 : List UInt8 := dkwL_law_7 ++ dktL_law_8
def dkwL_law_6 : List UInt8 := [182, 0, 26, 159, 0, 145, 3, 172, 43, 182, 0, 27, 44, 182, 0, 31, 159, 0, 132, 3, 172, 43]
abbrev dktL_law_6 : List UInt8 := dkwL_law_6 ++ dktL_law_7
def dkwL_law_5 : List UInt8 := [182, 0, 22, 159, 0, 168, 3, 172, 43, 42, 29, 4, 96, 46, 182, 0, 23, 44, 42, 29, 4, 96, 46]
abbrev dktL_law_5 : List UInt8 := dkwL_law_5 ++ dktL_law_6
def dkwL_law_4 : List UInt8 := [46, 182, 0, 17, 167, 0, 189, 43, 42, 29, 4, 96, 46, 182, 0, 18, 44, 42, 29, 4, 96, 46]
abbrev dktL_law_4 : List UInt8 := dkwL_law_4 ++ dktL_law_5
def dkwL_law_3 : List UInt8 := [43, 42, 29, 4, 96, 46, 42, 29, 5, 96, 46, 182, 0, 13, 44, 42, 29, 4, 96, 46, 42, 29, 5, 96]
abbrev dktL_law_3 : List UInt8 := dkwL_law_3 ++ dktL_law_4
def dkwL_law_2 : List UInt8 := [170, 0, 0, 0, 0, 1, 20, 0, 0, 0, 0, 0, 0, 0, 10, 0, 0, 0, 59, 0, 0, 0, 90, 0, 0, 0, 113, 0, 0, 0, 136, 0, 0, 0, 149, 0, 0, 0, 162, 0, 0, 0, 185, 0, 0, 0, 206, 0, 0, 0, 229, 0, 0, 0, 242, 0, 0, 1, 9]
abbrev dktL_law_2 : List UInt8 := dkwL_law_2 ++ dktL_law_3
def dkwL_law_1 : List UInt8 := [163, 1, 35, 42, 29, 46, 16, 15, 126]
abbrev dktL_law_1 : List UInt8 := dkwL_law_1 ++ dktL_law_2
def dkwL_law_0 : List UInt8 := [187, 0, 7, 89, 183, 0, 9, 76, 187, 0, 10, 89, 183, 0, 12, 77, 3, 62, 29, 42, 190, 16, 6, 100]
abbrev dktL_law_0 : List UInt8 := dkwL_law_0 ++ dktL_law_1
theorem dksL_law_0 : cL_law.data.toList.drop 0 = dktL_law_0 := by decide +kernel
theorem dksL_law_1 : cL_law.data.toList.drop 24 = dktL_law_1 := dk_seg dksL_law_0 24 rfl rfl
theorem dksL_law_2 : cL_law.data.toList.drop 33 = dktL_law_2 := dk_seg dksL_law_1 9 rfl rfl
theorem dksL_law_3 : cL_law.data.toList.drop 92 = dktL_law_3 := dk_seg dksL_law_2 59 rfl rfl
theorem dksL_law_4 : cL_law.data.toList.drop 116 = dktL_law_4 := dk_seg dksL_law_3 24 rfl rfl
theorem dksL_law_5 : cL_law.data.toList.drop 138 = dktL_law_5 := dk_seg dksL_law_4 22 rfl rfl
theorem dksL_law_6 : cL_law.data.toList.drop 161 = dktL_law_6 := dk_seg dksL_law_5 23 rfl rfl
theorem dksL_law_7 : cL_law.data.toList.drop 183 = dktL_law_7 := dk_seg dksL_law_6 22 rfl rfl
theorem dksL_law_8 : cL_law.data.toList.drop 207 = dktL_law_8 := dk_seg dksL_law_7 24 rfl rfl
theorem dksL_law_9 : cL_law.data.toList.drop 231 = dktL_law_9 := dk_seg dksL_law_8 24 rfl rfl
theorem dksL_law_10 : cL_law.data.toList.drop 254 = dktL_law_10 := dk_seg dksL_law_9 23 rfl rfl
theorem dksL_law_11 : cL_law.data.toList.drop 278 = dktL_law_11 := dk_seg dksL_law_10 24 rfl rfl
theorem dksL_law_12 : cL_law.data.toList.drop 302 = dktL_law_12 := dk_seg dksL_law_11 24 rfl rfl
theorem dL_law_0 : decode cL_law 0 = .ok (.new 7, 3) := dk_187 0 7 (dk_at dksL_law_0 0 rfl rfl)
theorem dL_law_3 : decode cL_law 3 = .ok (.dup, 1) := dk_89 (dk_at dksL_law_0 3 rfl rfl)
theorem dL_law_4 : decode cL_law 4 = .ok (.invokespecial 9, 3) := dk_183 0 9 (dk_at dksL_law_0 4 rfl rfl)
theorem dL_law_7 : decode cL_law 7 = .ok (.astore_n 1, 1) := dk_76 (dk_at dksL_law_0 7 rfl rfl)
theorem dL_law_8 : decode cL_law 8 = .ok (.new 10, 3) := dk_187 0 10 (dk_at dksL_law_0 8 rfl rfl)
theorem dL_law_11 : decode cL_law 11 = .ok (.dup, 1) := dk_89 (dk_at dksL_law_0 11 rfl rfl)
theorem dL_law_12 : decode cL_law 12 = .ok (.invokespecial 12, 3) := dk_183 0 12 (dk_at dksL_law_0 12 rfl rfl)
theorem dL_law_15 : decode cL_law 15 = .ok (.astore_n 2, 1) := dk_77 (dk_at dksL_law_0 15 rfl rfl)
theorem dL_law_16 : decode cL_law 16 = .ok (.iconst 0, 1) := dk_3 (dk_at dksL_law_0 16 rfl rfl)
theorem dL_law_17 : decode cL_law 17 = .ok (.istore_n 3, 1) := dk_62 (dk_at dksL_law_0 17 rfl rfl)
theorem dL_law_18 : decode cL_law 18 = .ok (.iload_n 3, 1) := dk_29 (dk_at dksL_law_0 18 rfl rfl)
theorem dL_law_19 : decode cL_law 19 = .ok (.aload_n 0, 1) := dk_42 (dk_at dksL_law_0 19 rfl rfl)
theorem dL_law_20 : decode cL_law 20 = .ok (.arraylength, 1) := dk_190 (dk_at dksL_law_0 20 rfl rfl)
theorem dL_law_21 : decode cL_law 21 = .ok (.bipush 6, 2) := dk_16 6 (dk_at dksL_law_0 21 rfl rfl)
theorem dL_law_23 : decode cL_law 23 = .ok (.isub, 1) := dk_100 (dk_at dksL_law_0 23 rfl rfl)
theorem dL_law_24 : decode cL_law 24 = .ok (.if_icmp .gt 291, 3) := dk_163 1 35 (dk_at dksL_law_1 0 rfl rfl)
theorem dL_law_27 : decode cL_law 27 = .ok (.aload_n 0, 1) := dk_42 (dk_at dksL_law_1 3 rfl rfl)
theorem dL_law_28 : decode cL_law 28 = .ok (.iload_n 3, 1) := dk_29 (dk_at dksL_law_1 4 rfl rfl)
theorem dL_law_29 : decode cL_law 29 = .ok (.iaload, 1) := dk_46 (dk_at dksL_law_1 5 rfl rfl)
theorem dL_law_30 : decode cL_law 30 = .ok (.bipush 15, 2) := dk_16 15 (dk_at dksL_law_1 6 rfl rfl)
theorem dL_law_32 : decode cL_law 32 = .ok (.iand, 1) := dk_126 (dk_at dksL_law_1 8 rfl rfl)
theorem dL_law_33 : decode cL_law 33 = .ok (.tableswitch 276 0 10 #[59, 90, 113, 136, 149, 162, 185, 206, 229, 242, 265], 59) := by decide +kernel
theorem dL_law_92 : decode cL_law 92 = .ok (.aload_n 1, 1) := dk_43 (dk_at dksL_law_3 0 rfl rfl)
theorem dL_law_93 : decode cL_law 93 = .ok (.aload_n 0, 1) := dk_42 (dk_at dksL_law_3 1 rfl rfl)
theorem dL_law_94 : decode cL_law 94 = .ok (.iload_n 3, 1) := dk_29 (dk_at dksL_law_3 2 rfl rfl)
theorem dL_law_95 : decode cL_law 95 = .ok (.iconst 1, 1) := dk_4 (dk_at dksL_law_3 3 rfl rfl)
theorem dL_law_96 : decode cL_law 96 = .ok (.iadd, 1) := dk_96 (dk_at dksL_law_3 4 rfl rfl)
theorem dL_law_97 : decode cL_law 97 = .ok (.iaload, 1) := dk_46 (dk_at dksL_law_3 5 rfl rfl)
theorem dL_law_98 : decode cL_law 98 = .ok (.aload_n 0, 1) := dk_42 (dk_at dksL_law_3 6 rfl rfl)
theorem dL_law_99 : decode cL_law 99 = .ok (.iload_n 3, 1) := dk_29 (dk_at dksL_law_3 7 rfl rfl)
theorem dL_law_100 : decode cL_law 100 = .ok (.iconst 2, 1) := dk_5 (dk_at dksL_law_3 8 rfl rfl)
theorem dL_law_101 : decode cL_law 101 = .ok (.iadd, 1) := dk_96 (dk_at dksL_law_3 9 rfl rfl)
theorem dL_law_102 : decode cL_law 102 = .ok (.iaload, 1) := dk_46 (dk_at dksL_law_3 10 rfl rfl)
theorem dL_law_103 : decode cL_law 103 = .ok (.invokevirtual 13, 3) := dk_182 0 13 (dk_at dksL_law_3 11 rfl rfl)
theorem dL_law_106 : decode cL_law 106 = .ok (.aload_n 2, 1) := dk_44 (dk_at dksL_law_3 14 rfl rfl)
theorem dL_law_107 : decode cL_law 107 = .ok (.aload_n 0, 1) := dk_42 (dk_at dksL_law_3 15 rfl rfl)
theorem dL_law_108 : decode cL_law 108 = .ok (.iload_n 3, 1) := dk_29 (dk_at dksL_law_3 16 rfl rfl)
theorem dL_law_109 : decode cL_law 109 = .ok (.iconst 1, 1) := dk_4 (dk_at dksL_law_3 17 rfl rfl)
theorem dL_law_110 : decode cL_law 110 = .ok (.iadd, 1) := dk_96 (dk_at dksL_law_3 18 rfl rfl)
theorem dL_law_111 : decode cL_law 111 = .ok (.iaload, 1) := dk_46 (dk_at dksL_law_3 19 rfl rfl)
theorem dL_law_112 : decode cL_law 112 = .ok (.aload_n 0, 1) := dk_42 (dk_at dksL_law_3 20 rfl rfl)
theorem dL_law_113 : decode cL_law 113 = .ok (.iload_n 3, 1) := dk_29 (dk_at dksL_law_3 21 rfl rfl)
theorem dL_law_114 : decode cL_law 114 = .ok (.iconst 2, 1) := dk_5 (dk_at dksL_law_3 22 rfl rfl)
theorem dL_law_115 : decode cL_law 115 = .ok (.iadd, 1) := dk_96 (dk_at dksL_law_3 23 rfl rfl)
theorem dL_law_116 : decode cL_law 116 = .ok (.iaload, 1) := dk_46 (dk_at dksL_law_4 0 rfl rfl)
theorem dL_law_117 : decode cL_law 117 = .ok (.invokevirtual 17, 3) := dk_182 0 17 (dk_at dksL_law_4 1 rfl rfl)
theorem dL_law_120 : decode cL_law 120 = .ok (.goto 189, 3) := dk_167 0 189 (dk_at dksL_law_4 4 rfl rfl)
theorem dL_law_123 : decode cL_law 123 = .ok (.aload_n 1, 1) := dk_43 (dk_at dksL_law_4 7 rfl rfl)
theorem dL_law_124 : decode cL_law 124 = .ok (.aload_n 0, 1) := dk_42 (dk_at dksL_law_4 8 rfl rfl)
theorem dL_law_125 : decode cL_law 125 = .ok (.iload_n 3, 1) := dk_29 (dk_at dksL_law_4 9 rfl rfl)
theorem dL_law_126 : decode cL_law 126 = .ok (.iconst 1, 1) := dk_4 (dk_at dksL_law_4 10 rfl rfl)
theorem dL_law_127 : decode cL_law 127 = .ok (.iadd, 1) := dk_96 (dk_at dksL_law_4 11 rfl rfl)
theorem dL_law_128 : decode cL_law 128 = .ok (.iaload, 1) := dk_46 (dk_at dksL_law_4 12 rfl rfl)
theorem dL_law_129 : decode cL_law 129 = .ok (.invokevirtual 18, 3) := dk_182 0 18 (dk_at dksL_law_4 13 rfl rfl)
theorem dL_law_132 : decode cL_law 132 = .ok (.aload_n 2, 1) := dk_44 (dk_at dksL_law_4 16 rfl rfl)
theorem dL_law_133 : decode cL_law 133 = .ok (.aload_n 0, 1) := dk_42 (dk_at dksL_law_4 17 rfl rfl)
theorem dL_law_134 : decode cL_law 134 = .ok (.iload_n 3, 1) := dk_29 (dk_at dksL_law_4 18 rfl rfl)
theorem dL_law_135 : decode cL_law 135 = .ok (.iconst 1, 1) := dk_4 (dk_at dksL_law_4 19 rfl rfl)
theorem dL_law_136 : decode cL_law 136 = .ok (.iadd, 1) := dk_96 (dk_at dksL_law_4 20 rfl rfl)
theorem dL_law_137 : decode cL_law 137 = .ok (.iaload, 1) := dk_46 (dk_at dksL_law_4 21 rfl rfl)
theorem dL_law_138 : decode cL_law 138 = .ok (.invokevirtual 22, 3) := dk_182 0 22 (dk_at dksL_law_5 0 rfl rfl)
theorem dL_law_141 : decode cL_law 141 = .ok (.if_icmp .eq 168, 3) := dk_159 0 168 (dk_at dksL_law_5 3 rfl rfl)
theorem dL_law_144 : decode cL_law 144 = .ok (.iconst 0, 1) := dk_3 (dk_at dksL_law_5 6 rfl rfl)
theorem dL_law_145 : decode cL_law 145 = .ok (.ireturn, 1) := dk_172 (dk_at dksL_law_5 7 rfl rfl)
theorem dL_law_146 : decode cL_law 146 = .ok (.aload_n 1, 1) := dk_43 (dk_at dksL_law_5 8 rfl rfl)
theorem dL_law_147 : decode cL_law 147 = .ok (.aload_n 0, 1) := dk_42 (dk_at dksL_law_5 9 rfl rfl)
theorem dL_law_148 : decode cL_law 148 = .ok (.iload_n 3, 1) := dk_29 (dk_at dksL_law_5 10 rfl rfl)
theorem dL_law_149 : decode cL_law 149 = .ok (.iconst 1, 1) := dk_4 (dk_at dksL_law_5 11 rfl rfl)
theorem dL_law_150 : decode cL_law 150 = .ok (.iadd, 1) := dk_96 (dk_at dksL_law_5 12 rfl rfl)
theorem dL_law_151 : decode cL_law 151 = .ok (.iaload, 1) := dk_46 (dk_at dksL_law_5 13 rfl rfl)
theorem dL_law_152 : decode cL_law 152 = .ok (.invokevirtual 23, 3) := dk_182 0 23 (dk_at dksL_law_5 14 rfl rfl)
theorem dL_law_155 : decode cL_law 155 = .ok (.aload_n 2, 1) := dk_44 (dk_at dksL_law_5 17 rfl rfl)
theorem dL_law_156 : decode cL_law 156 = .ok (.aload_n 0, 1) := dk_42 (dk_at dksL_law_5 18 rfl rfl)
theorem dL_law_157 : decode cL_law 157 = .ok (.iload_n 3, 1) := dk_29 (dk_at dksL_law_5 19 rfl rfl)
theorem dL_law_158 : decode cL_law 158 = .ok (.iconst 1, 1) := dk_4 (dk_at dksL_law_5 20 rfl rfl)
theorem dL_law_159 : decode cL_law 159 = .ok (.iadd, 1) := dk_96 (dk_at dksL_law_5 21 rfl rfl)
theorem dL_law_160 : decode cL_law 160 = .ok (.iaload, 1) := dk_46 (dk_at dksL_law_5 22 rfl rfl)
theorem dL_law_161 : decode cL_law 161 = .ok (.invokevirtual 26, 3) := dk_182 0 26 (dk_at dksL_law_6 0 rfl rfl)
theorem dL_law_164 : decode cL_law 164 = .ok (.if_icmp .eq 145, 3) := dk_159 0 145 (dk_at dksL_law_6 3 rfl rfl)
theorem dL_law_167 : decode cL_law 167 = .ok (.iconst 0, 1) := dk_3 (dk_at dksL_law_6 6 rfl rfl)
theorem dL_law_168 : decode cL_law 168 = .ok (.ireturn, 1) := dk_172 (dk_at dksL_law_6 7 rfl rfl)
theorem dL_law_169 : decode cL_law 169 = .ok (.aload_n 1, 1) := dk_43 (dk_at dksL_law_6 8 rfl rfl)
theorem dL_law_170 : decode cL_law 170 = .ok (.invokevirtual 27, 3) := dk_182 0 27 (dk_at dksL_law_6 9 rfl rfl)
theorem dL_law_173 : decode cL_law 173 = .ok (.aload_n 2, 1) := dk_44 (dk_at dksL_law_6 12 rfl rfl)
theorem dL_law_174 : decode cL_law 174 = .ok (.invokevirtual 31, 3) := dk_182 0 31 (dk_at dksL_law_6 13 rfl rfl)
theorem dL_law_177 : decode cL_law 177 = .ok (.if_icmp .eq 132, 3) := dk_159 0 132 (dk_at dksL_law_6 16 rfl rfl)
theorem dL_law_180 : decode cL_law 180 = .ok (.iconst 0, 1) := dk_3 (dk_at dksL_law_6 19 rfl rfl)
theorem dL_law_181 : decode cL_law 181 = .ok (.ireturn, 1) := dk_172 (dk_at dksL_law_6 20 rfl rfl)
theorem dL_law_182 : decode cL_law 182 = .ok (.aload_n 1, 1) := dk_43 (dk_at dksL_law_6 21 rfl rfl)
theorem dL_law_183 : decode cL_law 183 = .ok (.invokevirtual 32, 3) := dk_182 0 32 (dk_at dksL_law_7 0 rfl rfl)
theorem dL_law_186 : decode cL_law 186 = .ok (.aload_n 2, 1) := dk_44 (dk_at dksL_law_7 3 rfl rfl)
theorem dL_law_187 : decode cL_law 187 = .ok (.invokevirtual 35, 3) := dk_182 0 35 (dk_at dksL_law_7 4 rfl rfl)
theorem dL_law_190 : decode cL_law 190 = .ok (.if_icmp .eq 119, 3) := dk_159 0 119 (dk_at dksL_law_7 7 rfl rfl)
theorem dL_law_193 : decode cL_law 193 = .ok (.iconst 0, 1) := dk_3 (dk_at dksL_law_7 10 rfl rfl)
theorem dL_law_194 : decode cL_law 194 = .ok (.ireturn, 1) := dk_172 (dk_at dksL_law_7 11 rfl rfl)
theorem dL_law_195 : decode cL_law 195 = .ok (.aload_n 1, 1) := dk_43 (dk_at dksL_law_7 12 rfl rfl)
theorem dL_law_196 : decode cL_law 196 = .ok (.aload_n 0, 1) := dk_42 (dk_at dksL_law_7 13 rfl rfl)
theorem dL_law_197 : decode cL_law 197 = .ok (.iload_n 3, 1) := dk_29 (dk_at dksL_law_7 14 rfl rfl)
theorem dL_law_198 : decode cL_law 198 = .ok (.iconst 1, 1) := dk_4 (dk_at dksL_law_7 15 rfl rfl)
theorem dL_law_199 : decode cL_law 199 = .ok (.iadd, 1) := dk_96 (dk_at dksL_law_7 16 rfl rfl)
theorem dL_law_200 : decode cL_law 200 = .ok (.iaload, 1) := dk_46 (dk_at dksL_law_7 17 rfl rfl)
theorem dL_law_201 : decode cL_law 201 = .ok (.invokevirtual 36, 3) := dk_182 0 36 (dk_at dksL_law_7 18 rfl rfl)
theorem dL_law_204 : decode cL_law 204 = .ok (.aload_n 2, 1) := dk_44 (dk_at dksL_law_7 21 rfl rfl)
theorem dL_law_205 : decode cL_law 205 = .ok (.aload_n 0, 1) := dk_42 (dk_at dksL_law_7 22 rfl rfl)
theorem dL_law_206 : decode cL_law 206 = .ok (.iload_n 3, 1) := dk_29 (dk_at dksL_law_7 23 rfl rfl)
theorem dL_law_207 : decode cL_law 207 = .ok (.iconst 1, 1) := dk_4 (dk_at dksL_law_8 0 rfl rfl)
theorem dL_law_208 : decode cL_law 208 = .ok (.iadd, 1) := dk_96 (dk_at dksL_law_8 1 rfl rfl)
theorem dL_law_209 : decode cL_law 209 = .ok (.iaload, 1) := dk_46 (dk_at dksL_law_8 2 rfl rfl)
theorem dL_law_210 : decode cL_law 210 = .ok (.invokevirtual 39, 3) := dk_182 0 39 (dk_at dksL_law_8 3 rfl rfl)
theorem dL_law_213 : decode cL_law 213 = .ok (.if_icmp .eq 96, 3) := dk_159 0 96 (dk_at dksL_law_8 6 rfl rfl)
theorem dL_law_216 : decode cL_law 216 = .ok (.iconst 0, 1) := dk_3 (dk_at dksL_law_8 9 rfl rfl)
theorem dL_law_217 : decode cL_law 217 = .ok (.ireturn, 1) := dk_172 (dk_at dksL_law_8 10 rfl rfl)
theorem dL_law_218 : decode cL_law 218 = .ok (.aload_n 1, 1) := dk_43 (dk_at dksL_law_8 11 rfl rfl)
theorem dL_law_219 : decode cL_law 219 = .ok (.aload_n 0, 1) := dk_42 (dk_at dksL_law_8 12 rfl rfl)
theorem dL_law_220 : decode cL_law 220 = .ok (.iload_n 3, 1) := dk_29 (dk_at dksL_law_8 13 rfl rfl)
theorem dL_law_221 : decode cL_law 221 = .ok (.iconst 1, 1) := dk_4 (dk_at dksL_law_8 14 rfl rfl)
theorem dL_law_222 : decode cL_law 222 = .ok (.iadd, 1) := dk_96 (dk_at dksL_law_8 15 rfl rfl)
theorem dL_law_223 : decode cL_law 223 = .ok (.iaload, 1) := dk_46 (dk_at dksL_law_8 16 rfl rfl)
theorem dL_law_224 : decode cL_law 224 = .ok (.invokevirtual 40, 3) := dk_182 0 40 (dk_at dksL_law_8 17 rfl rfl)
theorem dL_law_227 : decode cL_law 227 = .ok (.aload_n 2, 1) := dk_44 (dk_at dksL_law_8 20 rfl rfl)
theorem dL_law_228 : decode cL_law 228 = .ok (.aload_n 0, 1) := dk_42 (dk_at dksL_law_8 21 rfl rfl)
theorem dL_law_229 : decode cL_law 229 = .ok (.iload_n 3, 1) := dk_29 (dk_at dksL_law_8 22 rfl rfl)
theorem dL_law_230 : decode cL_law 230 = .ok (.iconst 1, 1) := dk_4 (dk_at dksL_law_8 23 rfl rfl)
theorem dL_law_231 : decode cL_law 231 = .ok (.iadd, 1) := dk_96 (dk_at dksL_law_9 0 rfl rfl)
theorem dL_law_232 : decode cL_law 232 = .ok (.iaload, 1) := dk_46 (dk_at dksL_law_9 1 rfl rfl)
theorem dL_law_233 : decode cL_law 233 = .ok (.invokevirtual 44, 3) := dk_182 0 44 (dk_at dksL_law_9 2 rfl rfl)
theorem dL_law_236 : decode cL_law 236 = .ok (.goto 73, 3) := dk_167 0 73 (dk_at dksL_law_9 5 rfl rfl)
theorem dL_law_239 : decode cL_law 239 = .ok (.aload_n 1, 1) := dk_43 (dk_at dksL_law_9 8 rfl rfl)
theorem dL_law_240 : decode cL_law 240 = .ok (.aload_n 0, 1) := dk_42 (dk_at dksL_law_9 9 rfl rfl)
theorem dL_law_241 : decode cL_law 241 = .ok (.iload_n 3, 1) := dk_29 (dk_at dksL_law_9 10 rfl rfl)
theorem dL_law_242 : decode cL_law 242 = .ok (.iconst 1, 1) := dk_4 (dk_at dksL_law_9 11 rfl rfl)
theorem dL_law_243 : decode cL_law 243 = .ok (.iadd, 1) := dk_96 (dk_at dksL_law_9 12 rfl rfl)
theorem dL_law_244 : decode cL_law 244 = .ok (.iaload, 1) := dk_46 (dk_at dksL_law_9 13 rfl rfl)
theorem dL_law_245 : decode cL_law 245 = .ok (.invokevirtual 45, 3) := dk_182 0 45 (dk_at dksL_law_9 14 rfl rfl)
theorem dL_law_248 : decode cL_law 248 = .ok (.aload_n 2, 1) := dk_44 (dk_at dksL_law_9 17 rfl rfl)
theorem dL_law_249 : decode cL_law 249 = .ok (.aload_n 0, 1) := dk_42 (dk_at dksL_law_9 18 rfl rfl)
theorem dL_law_250 : decode cL_law 250 = .ok (.iload_n 3, 1) := dk_29 (dk_at dksL_law_9 19 rfl rfl)
theorem dL_law_251 : decode cL_law 251 = .ok (.iconst 1, 1) := dk_4 (dk_at dksL_law_9 20 rfl rfl)
theorem dL_law_252 : decode cL_law 252 = .ok (.iadd, 1) := dk_96 (dk_at dksL_law_9 21 rfl rfl)
theorem dL_law_253 : decode cL_law 253 = .ok (.iaload, 1) := dk_46 (dk_at dksL_law_9 22 rfl rfl)
theorem dL_law_254 : decode cL_law 254 = .ok (.invokevirtual 48, 3) := dk_182 0 48 (dk_at dksL_law_10 0 rfl rfl)
theorem dL_law_257 : decode cL_law 257 = .ok (.if_icmp .eq 52, 3) := dk_159 0 52 (dk_at dksL_law_10 3 rfl rfl)
theorem dL_law_260 : decode cL_law 260 = .ok (.iconst 0, 1) := dk_3 (dk_at dksL_law_10 6 rfl rfl)
theorem dL_law_261 : decode cL_law 261 = .ok (.ireturn, 1) := dk_172 (dk_at dksL_law_10 7 rfl rfl)
theorem dL_law_262 : decode cL_law 262 = .ok (.aload_n 1, 1) := dk_43 (dk_at dksL_law_10 8 rfl rfl)
theorem dL_law_263 : decode cL_law 263 = .ok (.invokevirtual 49, 3) := dk_182 0 49 (dk_at dksL_law_10 9 rfl rfl)
theorem dL_law_266 : decode cL_law 266 = .ok (.aload_n 2, 1) := dk_44 (dk_at dksL_law_10 12 rfl rfl)
theorem dL_law_267 : decode cL_law 267 = .ok (.invokevirtual 52, 3) := dk_182 0 52 (dk_at dksL_law_10 13 rfl rfl)
theorem dL_law_270 : decode cL_law 270 = .ok (.if_icmp .eq 39, 3) := dk_159 0 39 (dk_at dksL_law_10 16 rfl rfl)
theorem dL_law_273 : decode cL_law 273 = .ok (.iconst 0, 1) := dk_3 (dk_at dksL_law_10 19 rfl rfl)
theorem dL_law_274 : decode cL_law 274 = .ok (.ireturn, 1) := dk_172 (dk_at dksL_law_10 20 rfl rfl)
theorem dL_law_275 : decode cL_law 275 = .ok (.aload_n 1, 1) := dk_43 (dk_at dksL_law_10 21 rfl rfl)
theorem dL_law_276 : decode cL_law 276 = .ok (.aload_n 0, 1) := dk_42 (dk_at dksL_law_10 22 rfl rfl)
theorem dL_law_277 : decode cL_law 277 = .ok (.iload_n 3, 1) := dk_29 (dk_at dksL_law_10 23 rfl rfl)
theorem dL_law_278 : decode cL_law 278 = .ok (.iconst 1, 1) := dk_4 (dk_at dksL_law_11 0 rfl rfl)
theorem dL_law_279 : decode cL_law 279 = .ok (.iadd, 1) := dk_96 (dk_at dksL_law_11 1 rfl rfl)
theorem dL_law_280 : decode cL_law 280 = .ok (.iaload, 1) := dk_46 (dk_at dksL_law_11 2 rfl rfl)
theorem dL_law_281 : decode cL_law 281 = .ok (.invokevirtual 53, 3) := dk_182 0 53 (dk_at dksL_law_11 3 rfl rfl)
theorem dL_law_284 : decode cL_law 284 = .ok (.aload_n 2, 1) := dk_44 (dk_at dksL_law_11 6 rfl rfl)
theorem dL_law_285 : decode cL_law 285 = .ok (.aload_n 0, 1) := dk_42 (dk_at dksL_law_11 7 rfl rfl)
theorem dL_law_286 : decode cL_law 286 = .ok (.iload_n 3, 1) := dk_29 (dk_at dksL_law_11 8 rfl rfl)
theorem dL_law_287 : decode cL_law 287 = .ok (.iconst 1, 1) := dk_4 (dk_at dksL_law_11 9 rfl rfl)
theorem dL_law_288 : decode cL_law 288 = .ok (.iadd, 1) := dk_96 (dk_at dksL_law_11 10 rfl rfl)
theorem dL_law_289 : decode cL_law 289 = .ok (.iaload, 1) := dk_46 (dk_at dksL_law_11 11 rfl rfl)
theorem dL_law_290 : decode cL_law 290 = .ok (.invokevirtual 57, 3) := dk_182 0 57 (dk_at dksL_law_11 12 rfl rfl)
theorem dL_law_293 : decode cL_law 293 = .ok (.if_icmp .eq 16, 3) := dk_159 0 16 (dk_at dksL_law_11 15 rfl rfl)
theorem dL_law_296 : decode cL_law 296 = .ok (.iconst 0, 1) := dk_3 (dk_at dksL_law_11 18 rfl rfl)
theorem dL_law_297 : decode cL_law 297 = .ok (.ireturn, 1) := dk_172 (dk_at dksL_law_11 19 rfl rfl)
theorem dL_law_298 : decode cL_law 298 = .ok (.aload_n 1, 1) := dk_43 (dk_at dksL_law_11 20 rfl rfl)
theorem dL_law_299 : decode cL_law 299 = .ok (.invokevirtual 58, 3) := dk_182 0 58 (dk_at dksL_law_11 21 rfl rfl)
theorem dL_law_302 : decode cL_law 302 = .ok (.aload_n 2, 1) := dk_44 (dk_at dksL_law_12 0 rfl rfl)
theorem dL_law_303 : decode cL_law 303 = .ok (.invokevirtual 61, 3) := dk_182 0 61 (dk_at dksL_law_12 1 rfl rfl)
theorem dL_law_306 : decode cL_law 306 = .ok (.goto 3, 3) := dk_167 0 3 (dk_at dksL_law_12 4 rfl rfl)
theorem dL_law_309 : decode cL_law 309 = .ok (.iinc 3 6, 3) := dk_132 3 6 (dk_at dksL_law_12 7 rfl rfl)
theorem dL_law_312 : decode cL_law 312 = .ok (.goto (-294), 3) := dk_167 254 218 (dk_at dksL_law_12 10 rfl rfl)
theorem dL_law_315 : decode cL_law 315 = .ok (.iconst 1, 1) := dk_4 (dk_at dksL_law_12 13 rfl rfl)
theorem dL_law_316 : decode cL_law 316 = .ok (.ireturn, 1) := dk_172 (dk_at dksL_law_12 14 rfl rfl)
/-! the contracts' words -/
abbrev wsX0_init : List Cond := ws_ yX0_init cX0_init 2 none
abbrev wsX0_change : List Cond := ws_ yX0_change cX0_change 4 none
abbrev wsX0_enter : List Cond := ws_ yX0_enter cX0_enter 3 (some .boolean)
abbrev wsX0_leave : List Cond := ws_ yX0_leave cX0_leave 2 (some .boolean)
abbrev wsX0_least : List Cond := ws_ yX0_least cX0_least 1 (some .int)
abbrev wsX0_take : List Cond := ws_ yX0_take cX0_take 1 (some .int)
abbrev wsX0_headChanged : List Cond := ws_ yX0_headChanged cX0_headChanged 3 (some .boolean)
abbrev wsX0_all : List Cond := ws_ yX0_all cX0_all 3 none
abbrev wsX0_inside : List Cond := ws_ yX0_inside cX0_inside 2 (some .boolean)
abbrev wsX0_waiting : List Cond := ws_ yX0_waiting cX0_waiting 1 (some .int)
abbrev wsX0_value : List Cond := ws_ yX0_value cX0_value 2 (some .int)
abbrev wsX0_drain : List Cond := ws_ yX0_drain cX0_drain 1 none
abbrev wsX1_init : List Cond := ws_ yX1_init cX1_init 4 none
abbrev wsX1_size : List Cond := ws_ yX1_size cX1_size 1 (some .int)
abbrev wsX1_first : List Cond := ws_ yX1_first cX1_first 1 (some .int)
abbrev wsX2_init : List Cond := ws_ yX2_init cX2_init 2 none
abbrev wsX2_init_2 : List Cond := ws_ yX2_init_2 cX2_init_2 4 none
abbrev wsX2_contains : List Cond := ws_ yX2_contains cX2_contains 2 (some .boolean)
abbrev wsX2_changed : List Cond := ws_ yX2_changed cX2_changed 4 none
abbrev wsX2_enqueue : List Cond := ws_ yX2_enqueue cX2_enqueue 2 none
abbrev wsX2_remove : List Cond := ws_ yX2_remove cX2_remove 4 (some .boolean)
abbrev wsX2_dequeue : List Cond := ws_ yX2_dequeue cX2_dequeue 2 (some .int)
abbrev wsX2_changed_2 : List Cond := ws_ yX2_changed_2 cX2_changed_2 1 none
abbrev wsX2_allChanged : List Cond := ws_ yX2_allChanged cX2_allChanged 1 none
abbrev wsX2_clear : List Cond := ws_ yX2_clear cX2_clear 1 none
abbrev wsX4_init : List Cond := ws_ yX4_init cX4_init 2 none
abbrev wsX4_change : List Cond := ws_ yX4_change cX4_change 4 none
abbrev wsX4_enter : List Cond := ws_ yX4_enter cX4_enter 4 (some .boolean)
abbrev wsX4_leave : List Cond := ws_ yX4_leave cX4_leave 4 (some .boolean)
abbrev wsX4_least : List Cond := ws_ yX4_least cX4_least 1 (some .int)
abbrev wsX4_head : List Cond := ws_ yX4_head cX4_head 3 (some .int)
abbrev wsX4_take : List Cond := ws_ yX4_take cX4_take 2 (some .int)
abbrev wsX4_headChanged : List Cond := ws_ yX4_headChanged cX4_headChanged 3 (some .boolean)
abbrev wsX4_all : List Cond := ws_ yX4_all cX4_all 3 none
abbrev wsX4_inside : List Cond := ws_ yX4_inside cX4_inside 2 (some .boolean)
abbrev wsX4_waiting : List Cond := ws_ yX4_waiting cX4_waiting 3 (some .int)
abbrev wsX4_value : List Cond := ws_ yX4_value cX4_value 2 (some .int)
abbrev wsX4_drain : List Cond := ws_ yX4_drain cX4_drain 2 none
abbrev wsX5_upHeap : List Cond := ws_ yX5_upHeap cX5_upHeap 10 (some .int)
abbrev wsX5_downHeap : List Cond := ws_ yX5_downHeap cX5_downHeap 11 (some .int)
abbrev wsX5_makeHeap : List Cond := ws_ yX5_makeHeap cX5_makeHeap 6 none
abbrev wsJ0_fill : List Cond := ws_ yJ0_fill cJ0_fill 4 none
end
section
/-! own rows over the kit's: an array's place by its number, a computed int by its name, inherited calls' words -/
abbrev vwCl : List vw_C := [(RX0, TX0, 2), (RX2, TX2, 5), (RX4, TX4, 2)]
theorem lw_U {own : String} {idx : Nat} {C owner : String} {x y : MethodName} {b : ByteArray} {L : Nat} {r : Option FieldType} (h1 : Cond.methodLink own idx x ∈ lw_all) (h2 : Cond.sameMethod x.cls owner x.name x.desc ∈ lw_all) (h3 : Cond.selects C x y ∈ lw_all) (h4 : Cond.instanceMethod y ∈ lw_all) (h5 : Cond.initialized y.cls ∈ lw_all) (h6 : Cond.code y b L r ∈ lw_all) : GoodIn lw_all (va_wsU own idx C owner x y (ws_ y b L r)) := by
  refine lw_app ?_ (lw_meth h6)
  intro w hw
  simp only [List.mem_cons, List.not_mem_nil, or_false] at hw
  rcases hw with e | e | e | e | e
  · rw [e]; exact h1
  · rw [e]; exact h2
  · rw [e]; exact h3
  · rw [e]; exact h4
  · rw [e]; exact h5
theorem va_K_one {D : va_G} {cl : List vw_C} {tys : List (ClassId × FieldType)} {U : State} (hK : va_K D cl tys U) (i j : Nat) {c1 c2 : ClassId} (h1 : tys[i]? = some (c1, .int)) (h2 : tys[j]? = some (c2, .int)) : c1 = c2 := by
  have e1 : U.vm.findClass ("[" ++ FieldType.int.toString) = some c1 := (hK.2 i _ h1).2
  have e2 : U.vm.findClass ("[" ++ FieldType.int.toString) = some c2 := (hK.2 j _ h2).2
  exact Option.some.inj (e1.symm.trans e2)
section XR
variable {p : Program} {l : Launch} {e : Env} {R : Room} {s : State} {m : MethodId} {args : Array Value} {below : List Frame} {meth : Method} {c : Code} {H : Heap} {locs : List Loc} {cells slots : Nat} {Q : State → Prop}
variable {cc : ByteArray} {pc : Nat} {ls : Array Slot} {rest : List Value} {D : va_G} {cl : List vw_C} {A : Nat → Prop} {a : Nat} {tys : List (ClassId × FieldType)} {ws : va_W} {H0 : Heap}
theorem xa_ld (hexec : p.tables.exec = Jvm.exec) (hb : c.code = cc) (hK : va_K D cl tys s) (hP : va_P D cl ws H) (q0 t0 : Nat) {cA : ClassId} {n : Nat} {f : Nat → Int32} (ha : ws[q0]? = some (a, .inl (cA, n, .inl f))) (ht : tys[t0]? = some (cA, .int)) (k : Nat) {i v : Int32} (hi : i = nI k) (hk : k < n) (hn : n < 2 ^ 31) (hv : f k = v) (hdg : decode cc pc = .ok (.iaload, 1))
    (kk : W p l e R s m args below meth c H locs cells slots Q (F0 m (pc + 1) ls (.int v :: rest))) : W p l e R s m args below meth c H locs cells slots Q (F0 m pc ls (.int i :: .ref a :: rest)) := by
  subst hi; subst hv
  have hc : (nI k).toNatClampNeg = k := nI_clamp (Nat.lt_trans hk hn)
  refine va_iald hexec hb hK hP q0 t0 ha ht (vp_in_nI hk hn) hdg ?_
  rw [hc]
  exact kk
theorem xa_st (hexec : p.tables.exec = Jvm.exec) (hb : c.code = cc) (hK : va_K D cl tys s) (hP : va_P D cl ws H) (hD : va_D A ws) (hS : va_S A H0 H locs) (q0 t0 : Nat) {cA : ClassId} {n : Nat} {f : Nat → Int32} (ha : ws[q0]? = some (a, .inl (cA, n, .inl f))) (ht : tys[t0]? = some (cA, .int)) (k : Nat) {i x : Int32} (hi : i = nI k) (hk : k < n) (hn : n < 2 ^ 31) (g : Nat → Int32) (hg : upd f k x = g) (hdg : decode cc pc = .ok (.iastore, 1))
    (kk : ∀ (H1 : Heap) (locs1 : List Loc), va_P D cl (ws.set q0 (a, .inl (cA, n, .inl g))) H1 → va_D A (ws.set q0 (a, .inl (cA, n, .inl g))) → va_S A H0 H1 locs1 → W p l e R s m args below meth c H1 locs1 cells slots Q (F0 m (pc + 1) ls rest)) : W p l e R s m args below meth c H locs cells slots Q (F0 m pc ls (.int x :: .int i :: .ref a :: rest)) := by
  subst hi; subst hg
  have hc : (nI k).toNatClampNeg = k := nI_clamp (Nat.lt_trans hk hn)
  refine va_iast hexec hb hK hP hD hS q0 t0 ha ht (vp_in_nI hk hn) hdg ?_
  rw [hc]
  exact kk
theorem xz_ld (hexec : p.tables.exec = Jvm.exec) (hb : c.code = cc) (hK : va_K D cl tys s) (hP : va_P D cl ws H) (q0 t0 : Nat) {cA : ClassId} {n : Nat} {f : Nat → Int32} (ha : ws[q0]? = some (a, .inl (cA, n, .inl f))) (ht : tys[t0]? = some (cA, .boolean)) (k : Nat) {i v : Int32} (hi : i = nI k) (hk : k < n) (hn : n < 2 ^ 31) (hv : f k = v) (hdg : decode cc pc = .ok (.baload, 1))
    (kk : W p l e R s m args below meth c H locs cells slots Q (F0 m (pc + 1) ls (.int v :: rest))) : W p l e R s m args below meth c H locs cells slots Q (F0 m pc ls (.int i :: .ref a :: rest)) := by
  subst hi; subst hv
  have hc : (nI k).toNatClampNeg = k := nI_clamp (Nat.lt_trans hk hn)
  refine va_zald hexec hb hK hP q0 t0 ha ht (vp_in_nI hk hn) hdg ?_
  rw [hc]
  exact kk
theorem xz_st (hexec : p.tables.exec = Jvm.exec) (hb : c.code = cc) (hK : va_K D cl tys s) (hP : va_P D cl ws H) (hD : va_D A ws) (hS : va_S A H0 H locs) (q0 t0 : Nat) {cA : ClassId} {n : Nat} {f : Nat → Int32} (ha : ws[q0]? = some (a, .inl (cA, n, .inl f))) (ht : tys[t0]? = some (cA, .boolean)) (k : Nat) {i x : Int32} (hi : i = nI k) (hk : k < n) (hn : n < 2 ^ 31) (g : Nat → Int32) (hx : vp_nar .boolean x = x) (hg : upd f k x = g) (hdg : decode cc pc = .ok (.bastore, 1))
    (kk : ∀ (H1 : Heap) (locs1 : List Loc), va_P D cl (ws.set q0 (a, .inl (cA, n, .inl g))) H1 → va_D A (ws.set q0 (a, .inl (cA, n, .inl g))) → va_S A H0 H1 locs1 → W p l e R s m args below meth c H1 locs1 cells slots Q (F0 m (pc + 1) ls rest)) : W p l e R s m args below meth c H locs cells slots Q (F0 m pc ls (.int x :: .int i :: .ref a :: rest)) := by
  subst hi; subst hg
  have hc : (nI k).toNatClampNeg = k := nI_clamp (Nat.lt_trans hk hn)
  refine va_zast hexec hb hK hP hD hS q0 t0 ha ht (vp_in_nI hk hn) hdg ?_
  rw [hc, hx]
  exact kk
theorem xi_add (hexec : p.tables.exec = Jvm.exec) (hb : c.code = cc) {x y : Int32} (v : Int32) (hv : x + y = v) (hdg : decode cc pc = .ok (.iadd, 1)) (k : W p l e R s m args below meth c H locs cells slots Q (F0 m (pc + 1) ls (.int v :: rest))) : W p l e R s m args below meth c H locs cells slots Q (F0 m pc ls (.int y :: .int x :: rest)) := by
  subst hv; exact lv_iadd hexec hb hdg k
theorem xi_sub (hexec : p.tables.exec = Jvm.exec) (hb : c.code = cc) {x y : Int32} (v : Int32) (hv : x - y = v) (hdg : decode cc pc = .ok (.isub, 1)) (k : W p l e R s m args below meth c H locs cells slots Q (F0 m (pc + 1) ls (.int v :: rest))) : W p l e R s m args below meth c H locs cells slots Q (F0 m pc ls (.int y :: .int x :: rest)) := by
  subst hv; exact lv_isub hexec hb hdg k
theorem xi_mul (hexec : p.tables.exec = Jvm.exec) (hb : c.code = cc) {x y : Int32} (v : Int32) (hv : x * y = v) (hdg : decode cc pc = .ok (.imul, 1)) (k : W p l e R s m args below meth c H locs cells slots Q (F0 m (pc + 1) ls (.int v :: rest))) : W p l e R s m args below meth c H locs cells slots Q (F0 m pc ls (.int y :: .int x :: rest)) := by
  subst hv; exact lv_imul hexec hb hdg k
theorem xi_and (hexec : p.tables.exec = Jvm.exec) (hb : c.code = cc) {x y : Int32} (v : Int32) (hv : x &&& y = v) (hdg : decode cc pc = .ok (.iand, 1)) (k : W p l e R s m args below meth c H locs cells slots Q (F0 m (pc + 1) ls (.int v :: rest))) : W p l e R s m args below meth c H locs cells slots Q (F0 m pc ls (.int y :: .int x :: rest)) := by
  subst hv; exact lv_iand hexec hb hdg k
theorem xi_or (hexec : p.tables.exec = Jvm.exec) (hb : c.code = cc) {x y : Int32} (v : Int32) (hv : x ||| y = v) (hdg : decode cc pc = .ok (.ior, 1)) (k : W p l e R s m args below meth c H locs cells slots Q (F0 m (pc + 1) ls (.int v :: rest))) : W p l e R s m args below meth c H locs cells slots Q (F0 m pc ls (.int y :: .int x :: rest)) := by
  subst hv; exact lv_ior hexec hb hdg k
theorem xi_shl (hexec : p.tables.exec = Jvm.exec) (hb : c.code = cc) {x y : Int32} (v : Int32) (hv : x <<< (y &&& 31) = v) (hdg : decode cc pc = .ok (.ishl, 1)) (k : W p l e R s m args below meth c H locs cells slots Q (F0 m (pc + 1) ls (.int v :: rest))) : W p l e R s m args below meth c H locs cells slots Q (F0 m pc ls (.int y :: .int x :: rest)) := by
  subst hv; exact lv_ishl hexec hb hdg k
end XR
/-! small numbers -/
theorem x_and63 (x : Int32) : x &&& 63 = nI (x.toBitVec.toNat % 64) := pk_and x 6 (by decide)
theorem x_and15 (x : Int32) : x &&& 15 = nI (x.toBitVec.toNat % 16) := pk_and x 4 (by decide)
def lo6 (x : Int32) : Nat := x.toBitVec.toNat % 64
theorem lo6_lt (x : Int32) : lo6 x < 64 := Nat.mod_lt _ (by decide)
theorem x_shl1 {i : Nat} (h : i < 1000) : nI i <<< ((1 : Int32) &&& 31) = nI (2 * i) := by
  rw [pk_shlN ((1 : Int32) &&& 31) 1 (by decide) (by omega), Nat.mul_comm]
theorem x_half {i : Nat} (h : i < 2 ^ 31) : ((nI i).toUInt32 >>> ((1 : Int32).toUInt32 &&& Int32.toUInt32 31)).toInt32 = nI (i / 2) := pk_ushrN (by omega) 1 1 (by decide)
theorem x_inc (i : Nat) : nI i + 1 = nI (i + 1) := nI_1 i
theorem x_dec {i : Nat} (h : 0 < i) : nI i - 1 = nI (i - 1) := by
  obtain ⟨j, rfl⟩ : ∃ j, i = j + 1 := ⟨i - 1, by omega⟩
  exact nI_pred j
theorem x_pm1 {i : Nat} (h : 0 < i) : nI i + (-1) = nI (i - 1) := by
  obtain ⟨j, rfl⟩ : ∃ j, i = j + 1 := ⟨i - 1, by omega⟩
  exact pk_m1 j
/-- a value with its key in its low six bits -/
theorem x_oradd (v : Int32) {k : Nat} (hk : k < 64) : (v &&& -64) + nI k = (v &&& -64) ||| nI k := by
  apply Int32.toBitVec_inj.mp
  show (v.toBitVec &&& (-64 : Int32).toBitVec) + (nI k).toBitVec = (v.toBitVec &&& (-64 : Int32).toBitVec) ||| (nI k).toBitVec
  apply BitVec.add_eq_or_of_and_eq_zero
  have h : ∀ k, k < 64 → (-64 : Int32).toBitVec &&& (nI k).toBitVec = 0#32 := by decide +kernel
  rw [BitVec.and_assoc, h k hk, BitVec.and_zero]
theorem x_low (v : Int32) {k : Nat} (hk : k < 64) : ((v &&& -64) ||| nI k) &&& 63 = nI k := by
  apply Int32.toBitVec_inj.mp
  show ((v.toBitVec &&& (-64 : Int32).toBitVec) ||| (nI k).toBitVec) &&& (63 : Int32).toBitVec = (nI k).toBitVec
  have h : ∀ k, k < 64 → (nI k).toBitVec &&& (63 : Int32).toBitVec = (nI k).toBitVec := by decide +kernel
  have h2 : (-64 : Int32).toBitVec &&& (63 : Int32).toBitVec = 0#32 := by decide +kernel
  rw [BitVec.and_or_distrib_right, h k hk, BitVec.and_assoc, h2, BitVec.and_zero, BitVec.zero_or]
theorem x_low0 {k : Nat} (hk : k < 64) : nI k &&& 63 = nI k := by
  have h : ∀ k, k < 64 → nI k &&& 63 = nI k := by decide +kernel
  exact h k hk
theorem x_iinc1 (i : Nat) : nI i + Int32.ofInt 1 = nI (i + 1) := by
  rw [show Int32.ofInt 1 = (1 : Int32) from by decide]
  exact nI_1 i
theorem x_iinc6 (i : Nat) : nI i + Int32.ofInt 6 = nI (i + 6) := by
  rw [show Int32.ofInt 6 = nI 6 from by decide]
  exact nI_add i 6
theorem x_iincm (i : Nat) : nI (i + 1) + Int32.ofInt (-1) = nI i := by
  rw [show Int32.ofInt (-1) = (-1 : Int32) from by decide]
  exact pk_m1 i
/-! the worlds: three arrays (value, heap, inv); the queue with them; the face with them; the model -/
abbrev ww3 (d : ClassId) (av ah an : Nat) (fv : Nat → Int32) (hp : Nat → Nat) (fi : Nat → Int32) : va_W := [(av, .inl (d, 64, .inl fv)), (ah, .inl (d, 64, .inl (hN hp))), (an, .inl (d, 64, .inl fi))]
abbrev BW3 (dC : Nat → ClassId) (dI : Nat → Nat → Nat) (d : ClassId) (A : Nat → Prop) (av ah an : Nat) (fv : Nat → Int32) (u : (Nat → Nat) × (Nat → Int32)) (t : State) : Prop := va_P (dC, dI) vwCl [(av, .inl (d, 64, .inl fv)), (ah, .inl (d, 64, .inl (hN u.1))), (an, .inl (d, 64, .inl u.2))] t.heap ∧ va_K (dC, dI) vwCl [(d, .int)] t ∧ va_D A [(av, .inl (d, 64, .inl fv)), (ah, .inl (d, 64, .inl (hN u.1))), (an, .inl (d, 64, .inl u.2))]
abbrev BW4 (dC : Nat → ClassId) (dI : Nat → Nat → Nat) (d : ClassId) (A : Nat → Prop) (aq av ah an : Nat) (fv : Nat → Int32) (u : Nat × (Nat → Nat) × (Nat → Int32)) (t : State) : Prop := va_P (dC, dI) vwCl [(aq, .inr (1, [.ref av, .ref ah, .int (nI u.1), .null, .ref an])), (av, .inl (d, 64, .inl fv)), (ah, .inl (d, 64, .inl (hN u.2.1))), (an, .inl (d, 64, .inl u.2.2))] t.heap ∧ va_K (dC, dI) vwCl [(d, .int)] t ∧ va_D A [(aq, .inr (1, [.ref av, .ref ah, .int (nI u.1), .null, .ref an])), (av, .inl (d, 64, .inl fv)), (ah, .inl (d, 64, .inl (hN u.2.1))), (an, .inl (d, 64, .inl u.2.2))]
abbrev BW5 (dC : Nat → ClassId) (dI : Nat → Nat → Nat) (d : ClassId) (A : Nat → Prop) (ax aq av ah an : Nat) (u : Nat × (Nat → Int32) × (Nat → Nat) × (Nat → Int32)) (t : State) : Prop := va_P (dC, dI) vwCl [(ax, .inr (0, [.ref av, .ref aq])), (aq, .inr (1, [.ref av, .ref ah, .int (nI u.1), .null, .ref an])), (av, .inl (d, 64, .inl u.2.1)), (ah, .inl (d, 64, .inl (hN u.2.2.1))), (an, .inl (d, 64, .inl u.2.2.2))] t.heap ∧ va_K (dC, dI) vwCl [(d, .int)] t ∧ va_D A [(ax, .inr (0, [.ref av, .ref aq])), (aq, .inr (1, [.ref av, .ref ah, .int (nI u.1), .null, .ref an])), (av, .inl (d, 64, .inl u.2.1)), (ah, .inl (d, 64, .inl (hN u.2.2.1))), (an, .inl (d, 64, .inl u.2.2.2))]
abbrev BM3 (dC : Nat → ClassId) (dI : Nat → Nat → Nat) (d dz : ClassId) (A : Nat → Prop) (ay mv mi : Nat) (u : (Nat → Int32) × (Nat → Int32)) (t : State) : Prop := va_P (dC, dI) vwCl [(ay, .inr (2, [.ref mv, .ref mi])), (mv, .inl (d, 64, .inl u.1)), (mi, .inl (dz, 64, .inl u.2))] t.heap ∧ va_K (dC, dI) vwCl [(d, .int), (dz, .boolean)] t ∧ va_D A [(ay, .inr (2, [.ref mv, .ref mi])), (mv, .inl (d, 64, .inl u.1)), (mi, .inl (dz, 64, .inl u.2))]
end
section
set_option maxHeartbeats 4000000 in
set_option maxRecDepth 100000 in
/-- upHeap's loop: the hole climbs -/
theorem up_loop {p : Program} {l : Launch} {e : Env} {R : Room} {s : State} {m : MethodId} {args : Array Value} {below : List Frame} {meth : Method} {c : Code} {Q : State → Prop} {dC : Nat → ClassId} {dI : Nat → Nat → Nat} {A : Nat → Prop} {H0 : Heap} {d : ClassId} {av ah an : Nat} {fv : Nat → Int32} {M : Nat → Prop} {sz i0 ke : Nat} (hx : p.tables.exec = Jvm.exec) (hb : c.code = cX5_upHeap) (hK : va_K (dC, dI) vwCl [(d, .int)] s) (hs : sz ≤ 64)
    (hexit : ∀ (i : Nat) (hp : Nat → Nat) (fi : Nat → Int32) (H : Heap) (locs : List Loc) (ls : Array Slot), i < sz → DH M sz ke i hp fi → UpI fv sz i0 ke i hp → (i = 0 ∨ kv fv (hp ((i - 1) / 2)) ≤ kv fv ke) → va_P (dC, dI) vwCl [(av, .inl (d, 64, .inl fv)), (ah, .inl (d, 64, .inl (hN hp))), (an, .inl (d, 64, .inl fi))] H → va_D A [(av, .inl (d, 64, .inl fv)), (ah, .inl (d, 64, .inl (hN hp))), (an, .inl (d, 64, .inl fi))] → va_S A H0 H locs → lv_has ls 10 [(0, .ref av), (1, .ref ah), (2, .ref an), (4, .int (nI i)), (6, .int (nI ke))] → W p l e R s m args below meth c H locs 0 0 Q (F0 m 91 ls [])) :
    ∀ (n i : Nat) (hp : Nat → Nat) (fi : Nat → Int32), i < n → i < sz → DH M sz ke i hp fi → UpI fv sz i0 ke i hp → ∀ (H : Heap) (locs : List Loc), va_P (dC, dI) vwCl [(av, .inl (d, 64, .inl fv)), (ah, .inl (d, 64, .inl (hN hp))), (an, .inl (d, 64, .inl fi))] H → va_D A [(av, .inl (d, 64, .inl fv)), (ah, .inl (d, 64, .inl (hN hp))), (an, .inl (d, 64, .inl fi))] → va_S A H0 H locs → ∀ (ls : Array Slot), lv_has ls 10 [(0, .ref av), (1, .ref ah), (2, .ref an), (4, .int (nI i)), (6, .int (nI ke)), (7, .int (fv ke))] → W p l e R s m args below meth c H locs 0 0 Q (F0 m 17 ls []) := by
  intro n
  induction n with
  | zero =>
    intro i hp fi h1
    exact absurd h1 (by omega)
  | succ n ih =>
    intro i hp fi hn hi hH hU H locs hP hD hS ls hl
    refine lv_iload hx hb dX5_upHeap_17 (lv_at hl 3 rfl) ?_
    refine lv_if_eq (tgt := 91) hx hb dX5_upHeap_19 (by decide) (fun c_1 => ?_) (fun c_1 => ?_)
    · have h0 : i = 0 := by
        rcases Nat.eq_zero_or_pos i with q | q
        · exact q
        · exact absurd c_1 (nI_ne0 q (by omega))
      exact hexit i hp fi H locs ls hi hH hU (Or.inl h0) hP hD hS (lv_sub hl [0, 1, 2, 3, 4] rfl)
    · have h0 : 0 < i := by
        rcases Nat.eq_zero_or_pos i with q | q
        · exact absurd (by rw [q]; exact nI_0) c_1
        · exact q
      have hq : (i - 1) / 2 < sz := by omega
      have hqi : (i - 1) / 2 ≠ i := by omega
      refine lv_iload hx hb dX5_upHeap_22 (lv_at hl 3 rfl) ?_
      refine lv_iconst (v := 1) hx hb dX5_upHeap_24 (by decide +kernel) ?_
      refine xi_sub hx hb (nI (i - 1)) (x_dec h0) dX5_upHeap_25 ?_
      refine lv_iconst (v := 1) hx hb dX5_upHeap_26 (by decide +kernel) ?_
      refine lv_iushr (v := nI ((i - 1) / 2)) hx hb dX5_upHeap_27 (x_half (by omega)) ?_
      refine lv_istore (lv' := [(8, .int (nI ((i - 1) / 2))), (0, .ref av), (1, .ref ah), (2, .ref an), (4, .int (nI i)), (6, .int (nI ke)), (7, .int (fv ke))]) hx hb dX5_upHeap_28 hl (by decide) rfl (fun ls hl => ?_)
      refine lv_aload_n hx hb dX5_upHeap_30 rfl (lv_at hl 2 rfl) ?_
      refine lv_iload hx hb dX5_upHeap_31 (lv_at hl 0 rfl) ?_
      refine xa_ld (v := nI (hp ((i - 1) / 2))) hx hb hK hP 1 0 rfl rfl ((i - 1) / 2) rfl (by omega) (by decide) rfl dX5_upHeap_33 ?_
      refine lv_istore (lv' := [(9, .int (nI (hp ((i - 1) / 2)))), (8, .int (nI ((i - 1) / 2))), (0, .ref av), (1, .ref ah), (2, .ref an), (4, .int (nI i)), (6, .int (nI ke)), (7, .int (fv ke))]) hx hb dX5_upHeap_34 hl (by decide) rfl (fun ls hl => ?_)
      refine lv_aload_n hx hb dX5_upHeap_36 rfl (lv_at hl 2 rfl) ?_
      refine lv_iload hx hb dX5_upHeap_37 (lv_at hl 0 rfl) ?_
      refine xa_ld (v := fv (hp ((i - 1) / 2))) hx hb hK hP 0 0 rfl rfl (hp ((i - 1) / 2)) rfl (hH.1 _) (by decide) rfl dX5_upHeap_39 ?_
      refine lv_iload hx hb dX5_upHeap_40 (lv_at hl 7 rfl) ?_
      refine lv_icmp_gt (tgt := 48) hx hb dX5_upHeap_42 (by decide) (fun c_2 => ?_) (fun c_2 => ?_)
      · refine lv_aload_n hx hb dX5_upHeap_48 rfl (lv_at hl 3 rfl) ?_
        refine lv_iload hx hb dX5_upHeap_49 (lv_at hl 5 rfl) ?_
        refine lv_iload hx hb dX5_upHeap_51 (lv_at hl 0 rfl) ?_
        refine xa_st hx hb hK hP hD hS 1 0 rfl rfl i rfl (by omega) (by decide) (hN (va_up hp i (hp ((i - 1) / 2)))) (hN_up _ _ _) dX5_upHeap_53 (fun H locs hP hD hS => ?_)
        have hP : va_P (dC, dI) vwCl [(av, .inl (d, 64, .inl fv)), (ah, .inl (d, 64, .inl (hN (va_up hp i (hp ((i - 1) / 2)))))), (an, .inl (d, 64, .inl fi))] H := hP
        have hD : va_D A [(av, .inl (d, 64, .inl fv)), (ah, .inl (d, 64, .inl (hN (va_up hp i (hp ((i - 1) / 2)))))), (an, .inl (d, 64, .inl fi))] := hD
        refine lv_aload_n hx hb dX5_upHeap_54 rfl (lv_at hl 4 rfl) ?_
        refine lv_aload_n hx hb dX5_upHeap_55 rfl (lv_at hl 3 rfl) ?_
        refine lv_iload hx hb dX5_upHeap_56 (lv_at hl 5 rfl) ?_
        refine xa_ld (v := nI (hp ((i - 1) / 2))) hx hb hK hP 1 0 rfl rfl i rfl (by omega) (by decide) (by rw [hN_at, au_s]) dX5_upHeap_58 ?_
        refine lv_iload hx hb dX5_upHeap_59 (lv_at hl 5 rfl) ?_
        refine xa_st hx hb hK hP hD hS 2 0 rfl rfl (hp ((i - 1) / 2)) rfl (hH.1 _) (by decide) (upd fi (hp ((i - 1) / 2)) (nI i)) rfl dX5_upHeap_61 (fun H locs hP hD hS => ?_)
        have hP : va_P (dC, dI) vwCl [(av, .inl (d, 64, .inl fv)), (ah, .inl (d, 64, .inl (hN (va_up hp i (hp ((i - 1) / 2)))))), (an, .inl (d, 64, .inl (upd fi (hp ((i - 1) / 2)) (nI i))))] H := hP
        have hD : va_D A [(av, .inl (d, 64, .inl fv)), (ah, .inl (d, 64, .inl (hN (va_up hp i (hp ((i - 1) / 2)))))), (an, .inl (d, 64, .inl (upd fi (hp ((i - 1) / 2)) (nI i))))] := hD
        refine lv_iload hx hb dX5_upHeap_62 (lv_at hl 1 rfl) ?_
        refine lv_istore (lv' := [(4, .int (nI ((i - 1) / 2))), (9, .int (nI (hp ((i - 1) / 2)))), (8, .int (nI ((i - 1) / 2))), (0, .ref av), (1, .ref ah), (2, .ref an), (6, .int (nI ke)), (7, .int (fv ke))]) hx hb dX5_upHeap_64 hl (by decide) rfl (fun ls hl => ?_)
        refine lv_goto (tgt := 17) hx hb dX5_upHeap_66 (by decide) ?_
        exact ih ((i - 1) / 2) _ _ (by omega) hq (hH.mv hs hi hq hqi) (hU.step h0 hi (kv_lt.mp c_2)) H locs hP hD hS ls (lv_sub hl [3, 4, 5, 0, 6, 7] rfl)
      · refine lv_goto (tgt := 91) hx hb dX5_upHeap_45 (by decide) ?_
        exact hexit i hp fi H locs ls hi hH hU (Or.inr (Int.not_lt.mp (fun q => c_2 (kv_lt.mpr q)))) hP hD hS (lv_sub hl [2, 3, 4, 5, 6] rfl)
set_option maxHeartbeats 4000000 in
set_option maxRecDepth 100000 in
/-- upHeap: the key at place i climbs -/
theorem metX5_upHeap (l : Launch) (dC : Nat → ClassId) (dI : Nat → Nat → Nat) (d : ClassId) (av ah an z : Nat) (fv : Nat → Int32) (hp : Nat → Nat) (fi : Nat → Int32) (sz i : Nat) (M : Nat → Prop) (hI : DI M sz hp fi) (hU : UpPre fv sz i hp) (hi : i < sz) (hs : sz ≤ 64) : Met l yX5_upHeap wsX5_upHeap ({ frames := 0, cells := 0, slots := 0, locals := 0 }) (va_Pc [.ref av, .ref ah, .ref an, .int (nI sz), .int (nI i), .null] (fun U => U.heap.size = z ∧ va_P (dC, dI) vwCl [(av, .inl (d, 64, .inl fv)), (ah, .inl (d, 64, .inl (hN hp))), (an, .inl (d, 64, .inl fi))] U.heap ∧ va_K (dC, dI) vwCl [(d, .int)] U ∧ va_D (fun _ => True) [(av, .inl (d, 64, .inl fv)), (ah, .inl (d, 64, .inl (hN hp))), (an, .inl (d, 64, .inl fi))])) (va_Qi (fun (r : Int32) (u : (Nat → Nat) × (Nat → Int32)) => ∃ k : Nat, r = nI k ∧ k < sz ∧ DI M sz u.1 u.2 ∧ UpPost fv sz i k u.1) (BW3 dC dI d (va_A [(av, .inl (d, 64, .inl fv)), (ah, .inl (d, 64, .inl (hN hp))), (an, .inl (d, 64, .inl fi))] z) av ah an fv) (va_A [(av, .inl (d, 64, .inl fv)), (ah, .inl (d, 64, .inl (hN hp))), (an, .inl (d, 64, .inl fi))] z)) 0 0 (va_A [(av, .inl (d, 64, .inl fv)), (ah, .inl (d, 64, .inl (hN hp))), (an, .inl (d, 64, .inl fi))] z) := by
  refine Met.ofW (cc := cX5_upHeap) (maxL := 10) (ret := (some .int)) (by decide) rfl ?_
  intro p e s m args below meth c s₁ B hml hv
  obtain ⟨rfl, hsz, hP, hK, hD0⟩ := hv
  have hx := B.exec
  have hb := B.bytes
  have hr := B.returns
  have hts := atoms_spec (ws := wsX5_upHeap) B.pre
  have hts : ∀ w ∈ lw_all, w.before _ s = true := fun w h => hts w (List.mem_cons_of_mem _ h)
  have hown : s.vm.findClass RX5 = some m.cls := findClass_of_methodNamed B.named
  have hlocks := B.notSynchronized
  subst hsz
  have hD := hD0.self (sz := s.heap.size)
  generalize hAe : va_A [(av, .inl (d, 64, .inl fv)), (ah, .inl (d, 64, .inl (hN hp))), (an, .inl (d, 64, .inl fi))] s.heap.size = A at hD ⊢
  have hA : ∀ q : Nat, s.heap.size ≤ q → A q := fun q h => by rw [← hAe]; exact Or.inr h
  have hS : va_S A s.heap s.heap [] := va_S.rf
  have hP : va_P (dC, dI) vwCl [(av, .inl (d, 64, .inl fv)), (ah, .inl (d, 64, .inl (hN hp))), (an, .inl (d, 64, .inl fi))] s.heap := hP
  have hl := lv_entry ([.ref av, .ref ah, .ref an, .int (nI sz), .int (nI i), .null]) (n := 10) (Nat.le_of_ble_eq_true rfl)
  rw [lg_entry_eq]
  generalize (lg_sl ([.ref av, .ref ah, .ref an, .int (nI sz), .int (nI i), .null]) ++ List.replicate (10 - (lg_sl ([.ref av, .ref ah, .ref an, .int (nI sz), .int (nI i), .null])).length) Slot.unset).toArray = ls at hl ⊢
  have hl : lv_has ls 10 [(0, .ref av), (1, .ref ah), (2, .ref an), (3, .int (nI sz)), (4, .int (nI i)), (5, .null)] := hl
  refine lv_aload_n hx hb dX5_upHeap_0 rfl (lv_at hl 1 rfl) ?_
  refine lv_iload hx hb dX5_upHeap_1 (lv_at hl 4 rfl) ?_
  refine xa_ld (v := nI (hp i)) hx hb hK hP 1 0 rfl rfl i rfl (by omega) (by decide) rfl dX5_upHeap_3 ?_
  refine lv_istore (lv' := [(6, .int (nI (hp i))), (0, .ref av), (1, .ref ah), (2, .ref an), (3, .int (nI sz)), (4, .int (nI i)), (5, .null)]) hx hb dX5_upHeap_4 hl (by decide) rfl (fun ls hl => ?_)
  refine lv_aload_n hx hb dX5_upHeap_6 rfl (lv_at hl 1 rfl) ?_
  refine lv_iload hx hb dX5_upHeap_7 (lv_at hl 0 rfl) ?_
  refine xa_ld (v := fv (hp i)) hx hb hK hP 0 0 rfl rfl (hp i) rfl (hI.1 i) (by decide) rfl dX5_upHeap_9 ?_
  refine lv_istore (lv' := [(7, .int (fv (hp i))), (6, .int (nI (hp i))), (0, .ref av), (1, .ref ah), (2, .ref an), (3, .int (nI sz)), (4, .int (nI i)), (5, .null)]) hx hb dX5_upHeap_10 hl (by decide) rfl (fun ls hl => ?_)
  refine lv_aloadN hx hb dX5_upHeap_12 (lv_at hl 7 rfl) ?_
  refine lv_ifnonnullN hx hb dX5_upHeap_14 ?_
  refine up_loop (i0 := i) (M := M) hx hb hK hs ?_ (i + 1) i hp fi (by omega) hi (DH.of hI hs hi) (UpI.start hU _) s.heap [] hP hD hS ls (lv_sub hl [2, 3, 4, 6, 1, 0] rfl)
  intro j hp1 fi1 H locs ls hj hH hU1 hc hP hD hS hl
  refine lv_aload_n hx hb dX5_upHeap_91 rfl (lv_at hl 1 rfl) ?_
  refine lv_iload hx hb dX5_upHeap_92 (lv_at hl 3 rfl) ?_
  refine lv_iload hx hb dX5_upHeap_94 (lv_at hl 4 rfl) ?_
  refine xa_st hx hb hK hP hD hS 1 0 rfl rfl j rfl (by omega) (by decide) (hN (va_up hp1 j (hp i))) (hN_up _ _ _) dX5_upHeap_96 (fun H locs hP hD hS => ?_)
  have hP : va_P (dC, dI) vwCl [(av, .inl (d, 64, .inl fv)), (ah, .inl (d, 64, .inl (hN (va_up hp1 j (hp i))))), (an, .inl (d, 64, .inl fi1))] H := hP
  have hD : va_D A [(av, .inl (d, 64, .inl fv)), (ah, .inl (d, 64, .inl (hN (va_up hp1 j (hp i))))), (an, .inl (d, 64, .inl fi1))] := hD
  refine lv_aload_n hx hb dX5_upHeap_97 rfl (lv_at hl 2 rfl) ?_
  refine lv_iload hx hb dX5_upHeap_98 (lv_at hl 4 rfl) ?_
  refine lv_iload hx hb dX5_upHeap_100 (lv_at hl 3 rfl) ?_
  refine xa_st hx hb hK hP hD hS 2 0 rfl rfl (hp i) rfl (hI.1 i) (by decide) (upd fi1 (hp i) (nI j)) rfl dX5_upHeap_102 (fun H locs hP hD hS => ?_)
  have hP : va_P (dC, dI) vwCl [(av, .inl (d, 64, .inl fv)), (ah, .inl (d, 64, .inl (hN (va_up hp1 j (hp i))))), (an, .inl (d, 64, .inl (upd fi1 (hp i) (nI j))))] H := hP
  have hD : va_D A [(av, .inl (d, 64, .inl fv)), (ah, .inl (d, 64, .inl (hN (va_up hp1 j (hp i))))), (an, .inl (d, 64, .inl (upd fi1 (hp i) (nI j))))] := hD
  refine lv_iload hx hb dX5_upHeap_103 (lv_at hl 3 rfl) ?_
  have hP9 := hP.sub (ws' := [(av, .inl (d, 64, .inl fv)), (ah, .inl (d, 64, .inl (hN (va_up hp1 j (hp i))))), (an, .inl (d, 64, .inl (upd fi1 (hp i) (nI j))))]) [0, 1, 2] rfl
  have hD9 := hD.sub (ws' := [(av, .inl (d, 64, .inl fv)), (ah, .inl (d, 64, .inl (hN (va_up hp1 j (hp i))))), (an, .inl (d, 64, .inl (upd fi1 (hp i) (nI j))))]) [0, 1, 2] (by decide) rfl
  have hK9 := hK.sub (tys' := [(d, .int)]) [0] rfl
  exact W.iret (v := nI j) hx hb hr (fun t ht hW => ⟨⟨nI j, (va_up hp1 j (hp i), upd fi1 (hp i) (nI j)), rfl, ⟨j, rfl, hj, hH.fin hj, hU1.fin hc⟩, by rw [ht]; exact hP9, va_K.moved hW.alike hK9, hD9⟩, hS.F ht⟩) hS.2.2 dX5_upHeap_105
set_option maxHeartbeats 4000000 in
set_option maxRecDepth 100000 in
/-- downHeap's loop: the hole sinks -/
theorem dn_loop {p : Program} {l : Launch} {e : Env} {R : Room} {s : State} {m : MethodId} {args : Array Value} {below : List Frame} {meth : Method} {c : Code} {Q : State → Prop} {dC : Nat → ClassId} {dI : Nat → Nat → Nat} {A : Nat → Prop} {H0 : Heap} {d : ClassId} {av ah an : Nat} {fv : Nat → Int32} {M : Nat → Prop} {sz lo ke : Nat} (hx : p.tables.exec = Jvm.exec) (hb : c.code = cX5_downHeap) (hK : va_K (dC, dI) vwCl [(d, .int)] s) (hs : sz ≤ 64)
    (hexit : ∀ (i : Nat) (hp : Nat → Nat) (fi : Nat → Int32) (H : Heap) (locs : List Loc) (ls : Array Slot), i < sz → DH M sz ke i hp fi → DnI fv sz lo ke i hp → (∀ j, 0 < j → j < sz → (j - 1) / 2 = i → kv fv ke ≤ kv fv (hp j)) → va_P (dC, dI) vwCl [(av, .inl (d, 64, .inl fv)), (ah, .inl (d, 64, .inl (hN hp))), (an, .inl (d, 64, .inl fi))] H → va_D A [(av, .inl (d, 64, .inl fv)), (ah, .inl (d, 64, .inl (hN hp))), (an, .inl (d, 64, .inl fi))] → va_S A H0 H locs → lv_has ls 11 [(0, .ref av), (1, .ref ah), (2, .ref an), (4, .int (nI i)), (6, .int (nI ke))] → W p l e R s m args below meth c H locs 0 0 Q (F0 m 137 ls [])) :
    ∀ (n i : Nat) (hp : Nat → Nat) (fi : Nat → Int32), sz - i < n → i < sz → DH M sz ke i hp fi → DnI fv sz lo ke i hp → ∀ (H : Heap) (locs : List Loc), va_P (dC, dI) vwCl [(av, .inl (d, 64, .inl fv)), (ah, .inl (d, 64, .inl (hN hp))), (an, .inl (d, 64, .inl fi))] H → va_D A [(av, .inl (d, 64, .inl fv)), (ah, .inl (d, 64, .inl (hN hp))), (an, .inl (d, 64, .inl fi))] → va_S A H0 H locs → ∀ (ls : Array Slot), lv_has ls 11 [(0, .ref av), (1, .ref ah), (2, .ref an), (3, .int (nI sz)), (4, .int (nI i)), (6, .int (nI ke)), (7, .int (fv ke))] → W p l e R s m args below meth c H locs 0 0 Q (F0 m 17 ls []) := by
  intro n
  induction n with
  | zero =>
    intro i hp fi h1
    exact absurd h1 (by omega)
  | succ n ih =>
    intro i hp fi hn hi hH hU H locs hP hD hS ls hl
    have h70 : ∀ (q : Nat) (ls : Array Slot), q < sz → 0 < q → (q - 1) / 2 = i → (∀ j, 0 < j → j < sz → (j - 1) / 2 = i → kv fv (hp q) ≤ kv fv (hp j)) → lv_has ls 11 [(0, .ref av), (1, .ref ah), (2, .ref an), (3, .int (nI sz)), (4, .int (nI i)), (6, .int (nI ke)), (7, .int (fv ke)), (8, .int (nI q)), (9, .int (nI (hp q)))] → W p l e R s m args below meth c H locs 0 0 Q (F0 m 70 ls []) := by
      intro q ls hq h0 hqi hmin hl
      refine lv_iload hx hb dX5_downHeap_70 (lv_at hl 6 rfl) ?_
      refine lv_aload_n hx hb dX5_downHeap_72 rfl (lv_at hl 0 rfl) ?_
      refine lv_iload hx hb dX5_downHeap_73 (lv_at hl 8 rfl) ?_
      refine xa_ld (v := fv (hp q)) hx hb hK hP 0 0 rfl rfl (hp q) rfl (hH.1 _) (by decide) rfl dX5_downHeap_75 ?_
      refine lv_icmp_gt (tgt := 82) hx hb dX5_downHeap_76 (by decide) (fun c_4 => ?_) (fun c_4 => ?_)
      · refine lv_aload_n hx hb dX5_downHeap_82 rfl (lv_at hl 1 rfl) ?_
        refine lv_iload hx hb dX5_downHeap_83 (lv_at hl 4 rfl) ?_
        refine lv_iload hx hb dX5_downHeap_85 (lv_at hl 8 rfl) ?_
        refine xa_st hx hb hK hP hD hS 1 0 rfl rfl i rfl (by omega) (by decide) (hN (va_up hp i (hp q))) (hN_up _ _ _) dX5_downHeap_87 (fun H locs hP hD hS => ?_)
        have hP : va_P (dC, dI) vwCl [(av, .inl (d, 64, .inl fv)), (ah, .inl (d, 64, .inl (hN (va_up hp i (hp q))))), (an, .inl (d, 64, .inl fi))] H := hP
        have hD : va_D A [(av, .inl (d, 64, .inl fv)), (ah, .inl (d, 64, .inl (hN (va_up hp i (hp q))))), (an, .inl (d, 64, .inl fi))] := hD
        refine lv_aload_n hx hb dX5_downHeap_88 rfl (lv_at hl 2 rfl) ?_
        refine lv_aload_n hx hb dX5_downHeap_89 rfl (lv_at hl 1 rfl) ?_
        refine lv_iload hx hb dX5_downHeap_90 (lv_at hl 4 rfl) ?_
        refine xa_ld (v := nI (hp q)) hx hb hK hP 1 0 rfl rfl i rfl (by omega) (by decide) (by rw [hN_at, au_s]) dX5_downHeap_92 ?_
        refine lv_iload hx hb dX5_downHeap_93 (lv_at hl 4 rfl) ?_
        refine xa_st hx hb hK hP hD hS 2 0 rfl rfl (hp q) rfl (hH.1 _) (by decide) (upd fi (hp q) (nI i)) rfl dX5_downHeap_95 (fun H locs hP hD hS => ?_)
        have hP : va_P (dC, dI) vwCl [(av, .inl (d, 64, .inl fv)), (ah, .inl (d, 64, .inl (hN (va_up hp i (hp q))))), (an, .inl (d, 64, .inl (upd fi (hp q) (nI i))))] H := hP
        have hD : va_D A [(av, .inl (d, 64, .inl fv)), (ah, .inl (d, 64, .inl (hN (va_up hp i (hp q))))), (an, .inl (d, 64, .inl (upd fi (hp q) (nI i))))] := hD
        refine lv_iload hx hb dX5_downHeap_96 (lv_at hl 7 rfl) ?_
        refine lv_istore (lv' := [(4, .int (nI q)), (0, .ref av), (1, .ref ah), (2, .ref an), (3, .int (nI sz)), (6, .int (nI ke)), (7, .int (fv ke)), (8, .int (nI q)), (9, .int (nI (hp q)))]) hx hb dX5_downHeap_98 hl (by decide) rfl (fun ls hl => ?_)
        refine lv_goto (tgt := 17) hx hb dX5_downHeap_100 (by decide) ?_
        have hlt := kv_lt.mp c_4
        exact ih q _ _ (by omega) hq (hH.mv hs hi hq (by omega)) (hU.step hq h0 hqi (by omega) hmin) H locs hP hD hS ls (lv_sub hl [1, 2, 3, 4, 0, 5, 6] rfl)
      · refine lv_goto (tgt := 137) hx hb dX5_downHeap_79 (by decide) ?_
        have hle : kv fv ke ≤ kv fv (hp q) := Int.not_lt.mp (fun z => c_4 (kv_lt.mpr z))
        exact hexit i hp fi H locs ls hi hH hU (fun j h1 h2 h3 => Int.le_trans hle (hmin j h1 h2 h3)) hP hD hS (lv_sub hl [0, 1, 2, 4, 5] rfl)
    refine lv_iload hx hb dX5_downHeap_17 (lv_at hl 4 rfl) ?_
    refine lv_iconst (v := 1) hx hb dX5_downHeap_19 (by decide +kernel) ?_
    refine xi_shl hx hb (nI (2 * i)) (x_shl1 (by omega)) dX5_downHeap_20 ?_
    refine lv_iconst (v := 1) hx hb dX5_downHeap_21 (by decide +kernel) ?_
    refine xi_add hx hb (nI (2 * i + 1)) (x_inc _) dX5_downHeap_22 ?_
    refine lv_dup hx hb dX5_downHeap_23 rfl ?_
    refine lv_istore (lv' := [(8, .int (nI (2 * i + 1))), (0, .ref av), (1, .ref ah), (2, .ref an), (3, .int (nI sz)), (4, .int (nI i)), (6, .int (nI ke)), (7, .int (fv ke))]) hx hb dX5_downHeap_24 hl (by decide) rfl (fun ls hl => ?_)
    refine lv_iload_n hx hb dX5_downHeap_26 rfl (lv_at hl 4 rfl) ?_
    refine lv_icmp_ge (tgt := 137) hx hb dX5_downHeap_27 (by decide) (fun c_1 => ?_) (fun c_1 => ?_)
    · have h1 : sz ≤ 2 * i + 1 := (nI_leI (by omega) (by omega)).mp c_1
      exact hexit i hp fi H locs ls hi hH hU (fun j h1 h2 h3 => absurd h2 (by omega)) hP hD hS (lv_sub hl [1, 2, 3, 5, 6] rfl)
    · have h1 : 2 * i + 1 < sz := by
        rcases Nat.lt_or_ge (2 * i + 1) sz with q | q
        · exact q
        · exact absurd (nI_le q (by omega)) c_1
      refine lv_aload_n hx hb dX5_downHeap_30 rfl (lv_at hl 2 rfl) ?_
      refine lv_iload hx hb dX5_downHeap_31 (lv_at hl 0 rfl) ?_
      refine xa_ld (v := nI (hp (2 * i + 1))) hx hb hK hP 1 0 rfl rfl (2 * i + 1) rfl (by omega) (by decide) rfl dX5_downHeap_33 ?_
      refine lv_istore (lv' := [(9, .int (nI (hp (2 * i + 1)))), (8, .int (nI (2 * i + 1))), (0, .ref av), (1, .ref ah), (2, .ref an), (3, .int (nI sz)), (4, .int (nI i)), (6, .int (nI ke)), (7, .int (fv ke))]) hx hb dX5_downHeap_34 hl (by decide) rfl (fun ls hl => ?_)
      refine lv_iload hx hb dX5_downHeap_36 (lv_at hl 1 rfl) ?_
      refine lv_iconst (v := 1) hx hb dX5_downHeap_38 (by decide +kernel) ?_
      refine xi_add hx hb (nI (2 * i + 2)) (x_inc _) dX5_downHeap_39 ?_
      refine lv_istore (lv' := [(10, .int (nI (2 * i + 2))), (9, .int (nI (hp (2 * i + 1)))), (8, .int (nI (2 * i + 1))), (0, .ref av), (1, .ref ah), (2, .ref an), (3, .int (nI sz)), (4, .int (nI i)), (6, .int (nI ke)), (7, .int (fv ke))]) hx hb dX5_downHeap_40 hl (by decide) rfl (fun ls hl => ?_)
      refine lv_iload hx hb dX5_downHeap_42 (lv_at hl 0 rfl) ?_
      refine lv_iload_n hx hb dX5_downHeap_44 rfl (lv_at hl 6 rfl) ?_
      refine lv_icmp_ge (tgt := 70) hx hb dX5_downHeap_45 (by decide) (fun c_2 => ?_) (fun c_2 => ?_)
      · have h2 : sz ≤ 2 * i + 2 := (nI_leI (by omega) (by omega)).mp c_2
        exact h70 (2 * i + 1) ls h1 (by omega) (by omega) (fun j a1 a2 a3 => by rw [show j = 2 * i + 1 by omega]; exact Int.le_refl _) (lv_sub hl [3, 4, 5, 6, 7, 8, 9, 2, 1] rfl)
      · have h2 : 2 * i + 2 < sz := by
          rcases Nat.lt_or_ge (2 * i + 2) sz with q | q
          · exact q
          · exact absurd (nI_le q (by omega)) c_2
        refine lv_aload_n hx hb dX5_downHeap_48 rfl (lv_at hl 3 rfl) ?_
        refine lv_aload_n hx hb dX5_downHeap_49 rfl (lv_at hl 4 rfl) ?_
        refine lv_iload hx hb dX5_downHeap_50 (lv_at hl 0 rfl) ?_
        refine xa_ld (v := nI (hp (2 * i + 2))) hx hb hK hP 1 0 rfl rfl (2 * i + 2) rfl (by omega) (by decide) rfl dX5_downHeap_52 ?_
        refine xa_ld (v := fv (hp (2 * i + 2))) hx hb hK hP 0 0 rfl rfl (hp (2 * i + 2)) rfl (hH.1 _) (by decide) rfl dX5_downHeap_53 ?_
        refine lv_aload_n hx hb dX5_downHeap_54 rfl (lv_at hl 3 rfl) ?_
        refine lv_iload hx hb dX5_downHeap_55 (lv_at hl 1 rfl) ?_
        refine xa_ld (v := fv (hp (2 * i + 1))) hx hb hK hP 0 0 rfl rfl (hp (2 * i + 1)) rfl (hH.1 _) (by decide) rfl dX5_downHeap_57 ?_
        refine lv_icmp_ge (tgt := 70) hx hb dX5_downHeap_58 (by decide) (fun c_3 => ?_) (fun c_3 => ?_)
        · have h3 := kv_le.mp c_3
          exact h70 (2 * i + 1) ls h1 (by omega) (by omega) (fun j a1 a2 a3 => by
            rcases (show j = 2 * i + 1 ∨ j = 2 * i + 2 by omega) with z | z
            · rw [z]; exact Int.le_refl _
            · rw [z]; exact h3) (lv_sub hl [3, 4, 5, 6, 7, 8, 9, 2, 1] rfl)
        · refine lv_aload_n hx hb dX5_downHeap_61 rfl (lv_at hl 4 rfl) ?_
          refine lv_iload hx hb dX5_downHeap_62 (lv_at hl 0 rfl) ?_
          refine lv_dup hx hb dX5_downHeap_64 rfl ?_
          refine lv_istore (lv' := [(8, .int (nI (2 * i + 2))), (10, .int (nI (2 * i + 2))), (9, .int (nI (hp (2 * i + 1)))), (0, .ref av), (1, .ref ah), (2, .ref an), (3, .int (nI sz)), (4, .int (nI i)), (6, .int (nI ke)), (7, .int (fv ke))]) hx hb dX5_downHeap_65 hl (by decide) rfl (fun ls hl => ?_)
          refine xa_ld (v := nI (hp (2 * i + 2))) hx hb hK hP 1 0 rfl rfl (2 * i + 2) rfl (by omega) (by decide) rfl dX5_downHeap_67 ?_
          refine lv_istore (lv' := [(9, .int (nI (hp (2 * i + 2)))), (8, .int (nI (2 * i + 2))), (10, .int (nI (2 * i + 2))), (0, .ref av), (1, .ref ah), (2, .ref an), (3, .int (nI sz)), (4, .int (nI i)), (6, .int (nI ke)), (7, .int (fv ke))]) hx hb dX5_downHeap_68 hl (by decide) rfl (fun ls hl => ?_)
          have h3 : kv fv (hp (2 * i + 2)) ≤ kv fv (hp (2 * i + 1)) := Int.le_of_lt (Int.not_le.mp (fun z => c_3 (kv_le.mpr z)))
          exact h70 (2 * i + 2) ls h2 (by omega) (by omega) (fun j a1 a2 a3 => by
            rcases (show j = 2 * i + 1 ∨ j = 2 * i + 2 by omega) with z | z
            · rw [z]; exact h3
            · rw [z]; exact Int.le_refl _) (lv_sub hl [3, 4, 5, 6, 7, 8, 9, 1, 0] rfl)
set_option maxHeartbeats 4000000 in
set_option maxRecDepth 100000 in
/-- downHeap: the key at place i sinks -/
theorem metX5_downHeap (l : Launch) (dC : Nat → ClassId) (dI : Nat → Nat → Nat) (d : ClassId) (av ah an z : Nat) (fv : Nat → Int32) (hp : Nat → Nat) (fi : Nat → Int32) (sz i lo : Nat) (M : Nat → Prop) (hI : DI M sz hp fi) (hU : DnPre fv sz lo i hp) (hi : i < sz) (hs : sz ≤ 64) : Met l yX5_downHeap wsX5_downHeap ({ frames := 0, cells := 0, slots := 0, locals := 0 }) (va_Pc [.ref av, .ref ah, .ref an, .int (nI sz), .int (nI i), .null] (fun U => U.heap.size = z ∧ va_P (dC, dI) vwCl [(av, .inl (d, 64, .inl fv)), (ah, .inl (d, 64, .inl (hN hp))), (an, .inl (d, 64, .inl fi))] U.heap ∧ va_K (dC, dI) vwCl [(d, .int)] U ∧ va_D (fun _ => True) [(av, .inl (d, 64, .inl fv)), (ah, .inl (d, 64, .inl (hN hp))), (an, .inl (d, 64, .inl fi))])) (va_Qi (fun (_ : Int32) (u : (Nat → Nat) × (Nat → Int32)) => DI M sz u.1 u.2 ∧ HO fv sz lo u.1) (BW3 dC dI d (va_A [(av, .inl (d, 64, .inl fv)), (ah, .inl (d, 64, .inl (hN hp))), (an, .inl (d, 64, .inl fi))] z) av ah an fv) (va_A [(av, .inl (d, 64, .inl fv)), (ah, .inl (d, 64, .inl (hN hp))), (an, .inl (d, 64, .inl fi))] z)) 0 0 (va_A [(av, .inl (d, 64, .inl fv)), (ah, .inl (d, 64, .inl (hN hp))), (an, .inl (d, 64, .inl fi))] z) := by
  refine Met.ofW (cc := cX5_downHeap) (maxL := 11) (ret := (some .int)) (by decide) rfl ?_
  intro p e s m args below meth c s₁ B hml hv
  obtain ⟨rfl, hsz, hP, hK, hD0⟩ := hv
  have hx := B.exec
  have hb := B.bytes
  have hr := B.returns
  have hts := atoms_spec (ws := wsX5_downHeap) B.pre
  have hts : ∀ w ∈ lw_all, w.before _ s = true := fun w h => hts w (List.mem_cons_of_mem _ h)
  have hown : s.vm.findClass RX5 = some m.cls := findClass_of_methodNamed B.named
  have hlocks := B.notSynchronized
  subst hsz
  have hD := hD0.self (sz := s.heap.size)
  generalize hAe : va_A [(av, .inl (d, 64, .inl fv)), (ah, .inl (d, 64, .inl (hN hp))), (an, .inl (d, 64, .inl fi))] s.heap.size = A at hD ⊢
  have hA : ∀ q : Nat, s.heap.size ≤ q → A q := fun q h => by rw [← hAe]; exact Or.inr h
  have hS : va_S A s.heap s.heap [] := va_S.rf
  have hP : va_P (dC, dI) vwCl [(av, .inl (d, 64, .inl fv)), (ah, .inl (d, 64, .inl (hN hp))), (an, .inl (d, 64, .inl fi))] s.heap := hP
  have hl := lv_entry ([.ref av, .ref ah, .ref an, .int (nI sz), .int (nI i), .null]) (n := 11) (Nat.le_of_ble_eq_true rfl)
  rw [lg_entry_eq]
  generalize (lg_sl ([.ref av, .ref ah, .ref an, .int (nI sz), .int (nI i), .null]) ++ List.replicate (11 - (lg_sl ([.ref av, .ref ah, .ref an, .int (nI sz), .int (nI i), .null])).length) Slot.unset).toArray = ls at hl ⊢
  have hl : lv_has ls 11 [(0, .ref av), (1, .ref ah), (2, .ref an), (3, .int (nI sz)), (4, .int (nI i)), (5, .null)] := hl
  refine lv_aload_n hx hb dX5_downHeap_0 rfl (lv_at hl 1 rfl) ?_
  refine lv_iload hx hb dX5_downHeap_1 (lv_at hl 4 rfl) ?_
  refine xa_ld (v := nI (hp i)) hx hb hK hP 1 0 rfl rfl i rfl (by omega) (by decide) rfl dX5_downHeap_3 ?_
  refine lv_istore (lv' := [(6, .int (nI (hp i))), (0, .ref av), (1, .ref ah), (2, .ref an), (3, .int (nI sz)), (4, .int (nI i)), (5, .null)]) hx hb dX5_downHeap_4 hl (by decide) rfl (fun ls hl => ?_)
  refine lv_aload_n hx hb dX5_downHeap_6 rfl (lv_at hl 1 rfl) ?_
  refine lv_iload hx hb dX5_downHeap_7 (lv_at hl 0 rfl) ?_
  refine xa_ld (v := fv (hp i)) hx hb hK hP 0 0 rfl rfl (hp i) rfl (hI.1 i) (by decide) rfl dX5_downHeap_9 ?_
  refine lv_istore (lv' := [(7, .int (fv (hp i))), (6, .int (nI (hp i))), (0, .ref av), (1, .ref ah), (2, .ref an), (3, .int (nI sz)), (4, .int (nI i)), (5, .null)]) hx hb dX5_downHeap_10 hl (by decide) rfl (fun ls hl => ?_)
  refine lv_aloadN hx hb dX5_downHeap_12 (lv_at hl 7 rfl) ?_
  refine lv_ifnonnullN hx hb dX5_downHeap_14 ?_
  refine dn_loop (lo := lo) (M := M) hx hb hK hs ?_ (sz + 1) i hp fi (by omega) hi (DH.of hI hs hi) (DnI.start hU hi) s.heap [] hP hD hS ls (lv_sub hl [2, 3, 4, 5, 6, 1, 0] rfl)
  intro j hp1 fi1 H locs ls hj hH hU1 hc hP hD hS hl
  refine lv_aload_n hx hb dX5_downHeap_137 rfl (lv_at hl 1 rfl) ?_
  refine lv_iload hx hb dX5_downHeap_138 (lv_at hl 3 rfl) ?_
  refine lv_iload hx hb dX5_downHeap_140 (lv_at hl 4 rfl) ?_
  refine xa_st hx hb hK hP hD hS 1 0 rfl rfl j rfl (by omega) (by decide) (hN (va_up hp1 j (hp i))) (hN_up _ _ _) dX5_downHeap_142 (fun H locs hP hD hS => ?_)
  have hP : va_P (dC, dI) vwCl [(av, .inl (d, 64, .inl fv)), (ah, .inl (d, 64, .inl (hN (va_up hp1 j (hp i))))), (an, .inl (d, 64, .inl fi1))] H := hP
  have hD : va_D A [(av, .inl (d, 64, .inl fv)), (ah, .inl (d, 64, .inl (hN (va_up hp1 j (hp i))))), (an, .inl (d, 64, .inl fi1))] := hD
  refine lv_aload_n hx hb dX5_downHeap_143 rfl (lv_at hl 2 rfl) ?_
  refine lv_iload hx hb dX5_downHeap_144 (lv_at hl 4 rfl) ?_
  refine lv_iload hx hb dX5_downHeap_146 (lv_at hl 3 rfl) ?_
  refine xa_st hx hb hK hP hD hS 2 0 rfl rfl (hp i) rfl (hI.1 i) (by decide) (upd fi1 (hp i) (nI j)) rfl dX5_downHeap_148 (fun H locs hP hD hS => ?_)
  have hP : va_P (dC, dI) vwCl [(av, .inl (d, 64, .inl fv)), (ah, .inl (d, 64, .inl (hN (va_up hp1 j (hp i))))), (an, .inl (d, 64, .inl (upd fi1 (hp i) (nI j))))] H := hP
  have hD : va_D A [(av, .inl (d, 64, .inl fv)), (ah, .inl (d, 64, .inl (hN (va_up hp1 j (hp i))))), (an, .inl (d, 64, .inl (upd fi1 (hp i) (nI j))))] := hD
  refine lv_iload hx hb dX5_downHeap_149 (lv_at hl 3 rfl) ?_
  have hP9 := hP.sub (ws' := [(av, .inl (d, 64, .inl fv)), (ah, .inl (d, 64, .inl (hN (va_up hp1 j (hp i))))), (an, .inl (d, 64, .inl (upd fi1 (hp i) (nI j))))]) [0, 1, 2] rfl
  have hD9 := hD.sub (ws' := [(av, .inl (d, 64, .inl fv)), (ah, .inl (d, 64, .inl (hN (va_up hp1 j (hp i))))), (an, .inl (d, 64, .inl (upd fi1 (hp i) (nI j))))]) [0, 1, 2] (by decide) rfl
  have hK9 := hK.sub (tys' := [(d, .int)]) [0] rfl
  exact W.iret (v := nI j) hx hb hr (fun t ht hW => ⟨⟨nI j, (va_up hp1 j (hp i), upd fi1 (hp i) (nI j)), rfl, ⟨hH.fin hj, hU1.fin hc⟩, by rw [ht]; exact hP9, va_K.moved hW.alike hK9, hD9⟩, hS.F ht⟩) hS.2.2 dX5_downHeap_151
set_option maxHeartbeats 4000000 in
set_option maxRecDepth 100000 in
/-- makeHeap's loop -/
theorem mk_loop {p : Program} {l : Launch} {e : Env} {R : Room} {s : State} {m : MethodId} {args : Array Value} {below : List Frame} {meth : Method} {c : Code} {Q : State → Prop} {dC : Nat → ClassId} {dI : Nat → Nat → Nat} {A : Nat → Prop} {H0 : Heap} {d : ClassId} {av ah an : Nat} {fv : Nat → Int32} {M : Nat → Prop} {sz : Nat} (hx : p.tables.exec = Jvm.exec) (hb : c.code = cX5_makeHeap) (hml : c.maxLocals = 6) (hown : s.vm.findClass RX5 = some m.cls) (hts : ∀ w ∈ lw_all, w.before args s = true) (hK : va_K (dC, dI) vwCl [(d, .int)] s) (hA : ∀ q : Nat, H0.size ≤ q → A q) (hs : sz ≤ 64) (hR : 1 ≤ R.frames ∧ 30 ≤ R.locals)
    (hexit : ∀ (hp : Nat → Nat) (fi : Nat → Int32) (H : Heap) (locs : List Loc) (ls : Array Slot), DI M sz hp fi → HO fv sz 0 hp → va_P (dC, dI) vwCl [(av, .inl (d, 64, .inl fv)), (ah, .inl (d, 64, .inl (hN hp))), (an, .inl (d, 64, .inl fi))] H → va_D A [(av, .inl (d, 64, .inl fv)), (ah, .inl (d, 64, .inl (hN hp))), (an, .inl (d, 64, .inl fi))] → va_S A H0 H locs → W p l e R s m args below meth c H locs 0 0 Q (F0 m 28 ls [])) :
    ∀ (i : Nat) (hp : Nat → Nat) (fi : Nat → Int32), i ≤ sz / 2 → DI M sz hp fi → HO fv sz i hp → ∀ (H : Heap) (locs : List Loc), va_P (dC, dI) vwCl [(av, .inl (d, 64, .inl fv)), (ah, .inl (d, 64, .inl (hN hp))), (an, .inl (d, 64, .inl fi))] H → va_D A [(av, .inl (d, 64, .inl fv)), (ah, .inl (d, 64, .inl (hN hp))), (an, .inl (d, 64, .inl fi))] → va_S A H0 H locs → ∀ (ls : Array Slot), lv_has ls 6 [(0, .ref av), (1, .ref ah), (2, .ref an), (3, .int (nI sz)), (4, .null), (5, .int (nI i))] → W p l e R s m args below meth c H locs 0 0 Q (F0 m 5 ls []) := by
  intro i
  induction i with
  | zero =>
    intro hp fi hi hI hO H locs hP hD hS ls hl
    refine lv_iload hx hb dX5_makeHeap_5 (lv_at hl 5 rfl) ?_
    refine lv_iinc (v := nI 0 + Int32.ofInt (-1)) (lv' := [(5, .int (nI 0 + Int32.ofInt (-1))), (0, .ref av), (1, .ref ah), (2, .ref an), (3, .int (nI sz)), (4, .null)]) hx hb dX5_makeHeap_7 hl (k := 5) rfl rfl (by decide) rfl (fun ls hl => ?_)
    refine lv_if_eq (tgt := 28) hx hb dX5_makeHeap_10 (by decide) (fun c_1 => ?_) (fun c_1 => ?_)
    · exact hexit hp fi H locs ls hI hO hP hD hS
    · exact absurd nI_0 c_1
  | succ i ih =>
    intro hp fi hi hI hO H locs hP hD hS ls hl
    refine lv_iload hx hb dX5_makeHeap_5 (lv_at hl 5 rfl) ?_
    refine lv_iinc (v := nI i) (lv' := [(5, .int (nI i)), (0, .ref av), (1, .ref ah), (2, .ref an), (3, .int (nI sz)), (4, .null)]) hx hb dX5_makeHeap_7 hl (k := 5) rfl (x_iincm i) (by decide) rfl (fun ls hl => ?_)
    refine lv_if_eq (tgt := 28) hx hb dX5_makeHeap_10 (by decide) (fun c_1 => ?_) (fun c_1 => ?_)
    · exact absurd c_1 (nI_ne0 (by omega) (by omega))
    · refine lv_aload_n hx hb dX5_makeHeap_13 rfl (lv_at hl 1 rfl) ?_
      refine lv_aload_n hx hb dX5_makeHeap_14 rfl (lv_at hl 2 rfl) ?_
      refine lv_aload_n hx hb dX5_makeHeap_15 rfl (lv_at hl 3 rfl) ?_
      refine lv_iload_n hx hb dX5_makeHeap_16 rfl (lv_at hl 4 rfl) ?_
      refine lv_iload hx hb dX5_makeHeap_17 (lv_at hl 0 rfl) ?_
      refine lv_aloadN hx hb dX5_makeHeap_19 (lv_at hl 5 rfl) ?_
      have hPc := hP.sub (ws' := [(av, .inl (d, 64, .inl fv)), (ah, .inl (d, 64, .inl (hN hp))), (an, .inl (d, 64, .inl fi))]) [0, 1, 2] rfl
      have hDc := hD.sub (ws' := [(av, .inl (d, 64, .inl fv)), (ah, .inl (d, 64, .inl (hN hp))), (an, .inl (d, 64, .inl fi))]) [0, 1, 2] (by decide) rfl
      have hKc := hK.sub (tys' := [(d, .int)]) [0] rfl
      have hFc := va_free (wc := [(av, .inl (d, 64, .inl fv)), (ah, .inl (d, 64, .inl (hN hp))), (an, .inl (d, 64, .inl fi))]) hD hS hA [0, 1, 2] rfl
      refine va_calli (va_runS (As := [.ref av, .ref ah, .ref an, .int (nI sz), .int (nI i), .null]) (rest := []) ⟨hx, hb, hml, hown, hts⟩ (metX5_downHeap l dC dI d av ah an H.size fv hp fi sz i i M hI hO.down (by omega) hs) (va_cwS 6 hts (lw_S q502 q403 q24 q404) rfl rfl rfl (by decide +kernel) ⟨hR.1, hR.2⟩) ⟨fun a U g mk q => by obtain ⟨q0, q1, qP, qK, qD⟩ := q; exact ⟨q0, q1, qP, va_K.moved (u := U) (U := U.calling g mk a) (Vm.Alike.refl U.vm) qK, qD⟩, fun U hU hW => ⟨rfl, by rw [hU], by rw [hU]; exact hPc, va_K.moved hW.alike hKc, hDc.weaken (fun _ _ _ _ => trivial)⟩⟩ rfl rfl hl.1 rfl (lv_room (Nat.le_of_ble_eq_true rfl)) dX5_makeHeap_21 ⟨Nat.zero_le _, Nat.zero_le _⟩) hS (fun q _ h => hFc q h) hFc (fun r_1 u t H1 locs ht hvm hw hB hz1 hk1 hS => ?_)
      obtain ⟨hp1, fi1⟩ := u
      obtain ⟨hP1, hK1, hD1⟩ := hB
      rw [ht] at hP1
      have hK1 := va_K.moved hvm.symm hK1
      obtain ⟨hP, hD⟩ := va_join (wr := []) (w1 := [(av, .inl (d, 64, .inl fv)), (ah, .inl (d, 64, .inl (hN hp1))), (an, .inl (d, 64, .inl fi1))]) hP hD [0, 1, 2] [] rfl rfl (by decide) (by decide) hk1 hFc hP1 hD1
      generalize H1 = H at hP hS ⊢
      have hP : va_P (dC, dI) vwCl [(av, .inl (d, 64, .inl fv)), (ah, .inl (d, 64, .inl (hN hp1))), (an, .inl (d, 64, .inl fi1))] H := hP
      have hD : va_D A [(av, .inl (d, 64, .inl fv)), (ah, .inl (d, 64, .inl (hN hp1))), (an, .inl (d, 64, .inl fi1))] := hD
      refine lv_pop hx hb dX5_makeHeap_24 rfl ?_
      refine lv_goto (tgt := 5) hx hb dX5_makeHeap_25 (by decide) ?_
      exact ih hp1 fi1 (by omega) hw.1 hw.2 H locs hP hD hS ls (lv_sub hl [1, 2, 3, 4, 5, 0] rfl)
set_option maxHeartbeats 4000000 in
set_option maxRecDepth 100000 in
/-- makeHeap: any order becomes a heap -/
theorem metX5_makeHeap (l : Launch) (dC : Nat → ClassId) (dI : Nat → Nat → Nat) (d : ClassId) (av ah an z : Nat) (fv : Nat → Int32) (hp : Nat → Nat) (fi : Nat → Int32) (sz : Nat) (M : Nat → Prop) (hI : DI M sz hp fi) (hs : sz ≤ 64) : Met l yX5_makeHeap wsX5_makeHeap ({ frames := 1, cells := 0, slots := 0, locals := 30 }) (va_Pc [.ref av, .ref ah, .ref an, .int (nI sz), .null] (fun U => U.heap.size = z ∧ va_P (dC, dI) vwCl [(av, .inl (d, 64, .inl fv)), (ah, .inl (d, 64, .inl (hN hp))), (an, .inl (d, 64, .inl fi))] U.heap ∧ va_K (dC, dI) vwCl [(d, .int)] U ∧ va_D (fun _ => True) [(av, .inl (d, 64, .inl fv)), (ah, .inl (d, 64, .inl (hN hp))), (an, .inl (d, 64, .inl fi))])) (va_Qv (fun (u : (Nat → Nat) × (Nat → Int32)) => DI M sz u.1 u.2 ∧ HO fv sz 0 u.1) (BW3 dC dI d (va_A [(av, .inl (d, 64, .inl fv)), (ah, .inl (d, 64, .inl (hN hp))), (an, .inl (d, 64, .inl fi))] z) av ah an fv) (va_A [(av, .inl (d, 64, .inl fv)), (ah, .inl (d, 64, .inl (hN hp))), (an, .inl (d, 64, .inl fi))] z)) 0 0 (va_A [(av, .inl (d, 64, .inl fv)), (ah, .inl (d, 64, .inl (hN hp))), (an, .inl (d, 64, .inl fi))] z) := by
  refine Met.ofW (cc := cX5_makeHeap) (maxL := 6) (ret := none) (by decide) rfl ?_
  intro p e s m args below meth c s₁ B hml hv
  obtain ⟨rfl, hsz, hP, hK, hD0⟩ := hv
  have hx := B.exec
  have hb := B.bytes
  have hr := B.returns
  have hts := atoms_spec (ws := wsX5_makeHeap) B.pre
  have hts : ∀ w ∈ lw_all, w.before _ s = true := fun w h => hts w (List.mem_cons_of_mem _ h)
  have hown : s.vm.findClass RX5 = some m.cls := findClass_of_methodNamed B.named
  have hlocks := B.notSynchronized
  subst hsz
  have hD := hD0.self (sz := s.heap.size)
  generalize hAe : va_A [(av, .inl (d, 64, .inl fv)), (ah, .inl (d, 64, .inl (hN hp))), (an, .inl (d, 64, .inl fi))] s.heap.size = A at hD ⊢
  have hA : ∀ q : Nat, s.heap.size ≤ q → A q := fun q h => by rw [← hAe]; exact Or.inr h
  have hS : va_S A s.heap s.heap [] := va_S.rf
  have hP : va_P (dC, dI) vwCl [(av, .inl (d, 64, .inl fv)), (ah, .inl (d, 64, .inl (hN hp))), (an, .inl (d, 64, .inl fi))] s.heap := hP
  have hl := lv_entry ([.ref av, .ref ah, .ref an, .int (nI sz), .null]) (n := 6) (Nat.le_of_ble_eq_true rfl)
  rw [lg_entry_eq]
  generalize (lg_sl ([.ref av, .ref ah, .ref an, .int (nI sz), .null]) ++ List.replicate (6 - (lg_sl ([.ref av, .ref ah, .ref an, .int (nI sz), .null])).length) Slot.unset).toArray = ls at hl ⊢
  have hl : lv_has ls 6 [(0, .ref av), (1, .ref ah), (2, .ref an), (3, .int (nI sz)), (4, .null)] := hl
  refine lv_iload_n hx hb dX5_makeHeap_0 rfl (lv_at hl 3 rfl) ?_
  refine lv_iconst (v := 1) hx hb dX5_makeHeap_1 (by decide +kernel) ?_
  refine lv_iushr (v := nI (sz / 2)) hx hb dX5_makeHeap_2 (x_half (by omega)) ?_
  refine lv_istore (lv' := [(5, .int (nI (sz / 2))), (0, .ref av), (1, .ref ah), (2, .ref an), (3, .int (nI sz)), (4, .null)]) hx hb dX5_makeHeap_3 hl (by decide) rfl (fun ls hl => ?_)
  refine mk_loop (M := M) hx hb hml hown hts hK hA hs ⟨Nat.le_of_ble_eq_true rfl, Nat.le_of_ble_eq_true rfl⟩ ?_ (sz / 2) hp fi (Nat.le_refl _) hI (HO.half fv sz hp) s.heap [] hP hD hS ls (lv_sub hl [1, 2, 3, 4, 5, 0] rfl)
  intro hp1 fi1 H locs ls hI1 hO1 hP hD hS
  have hP9 := hP.sub (ws' := [(av, .inl (d, 64, .inl fv)), (ah, .inl (d, 64, .inl (hN hp1))), (an, .inl (d, 64, .inl fi1))]) [0, 1, 2] rfl
  have hD9 := hD.sub (ws' := [(av, .inl (d, 64, .inl fv)), (ah, .inl (d, 64, .inl (hN hp1))), (an, .inl (d, 64, .inl fi1))]) [0, 1, 2] (by decide) rfl
  have hK9 := hK.sub (tys' := [(d, .int)]) [0] rfl
  exact W.vret hx hb hr (fun t ht hW => ⟨⟨(hp1, fi1), rfl, ⟨hI1, hO1⟩, by rw [ht]; exact hP9, va_K.moved hW.alike hK9, hD9⟩, hS.F ht⟩) hS.2.2 dX5_makeHeap_28
end
section
abbrev BW1 (dC : Nat → ClassId) (dI : Nat → Nat → Nat) (d : ClassId) (A : Nat → Prop) (an : Nat) (u : Nat → Int32) (t : State) : Prop := va_P (dC, dI) vwCl [(an, .inl (d, 64, .inl u))] t.heap ∧ va_K (dC, dI) vwCl [(d, .int)] t ∧ va_D A [(an, .inl (d, 64, .inl u))]
set_option maxHeartbeats 4000000 in
set_option maxRecDepth 100000 in
/-- fill's loop -/
theorem fill_loop {p : Program} {l : Launch} {e : Env} {R : Room} {s : State} {m : MethodId} {args : Array Value} {below : List Frame} {meth : Method} {c : Code} {Q : State → Prop} {cells slots : Nat} {dC : Nat → ClassId} {dI : Nat → Nat → Nat} {A : Nat → Prop} {H0 : Heap} {d : ClassId} {an : Nat} {x : Int32} (hx : p.tables.exec = Jvm.exec) (hb : c.code = cJ0_fill) (hK : va_K (dC, dI) vwCl [(d, .int)] s)
    (hexit : ∀ (f : Nat → Int32) (H : Heap) (locs : List Loc) (ls : Array Slot), (∀ j, j < 64 → f j = x) → va_P (dC, dI) vwCl [(an, .inl (d, 64, .inl f))] H → va_D A [(an, .inl (d, 64, .inl f))] → va_S A H0 H locs → W p l e R s m args below meth c H locs cells slots Q (F0 m 20 ls [])) :
    ∀ (n i : Nat) (f : Nat → Int32), 64 - i < n → i ≤ 64 → (∀ j, j < i → f j = x) → ∀ (H : Heap) (locs : List Loc), va_P (dC, dI) vwCl [(an, .inl (d, 64, .inl f))] H → va_D A [(an, .inl (d, 64, .inl f))] → va_S A H0 H locs → ∀ (ls : Array Slot), lv_has ls 4 [(0, .ref an), (1, .int x), (2, .int (nI i)), (3, .int (nI 64))] → W p l e R s m args below meth c H locs cells slots Q (F0 m 5 ls []) := by
  intro n
  induction n with
  | zero =>
    intro i f h1
    exact absurd h1 (by omega)
  | succ n ih =>
    intro i f hn hi hf H locs hP hD hS ls hl
    refine lv_iload_n hx hb dJ0_fill_5 rfl (lv_at hl 2 rfl) ?_
    refine lv_iload_n hx hb dJ0_fill_6 rfl (lv_at hl 3 rfl) ?_
    refine lv_icmp_ge (tgt := 20) hx hb dJ0_fill_7 (by decide) (fun c_1 => ?_) (fun c_1 => ?_)
    · have h64 : 64 ≤ i := (nI_leI (by omega) (by omega)).mp c_1
      exact hexit f H locs ls (fun j hj => hf j (by omega)) hP hD hS
    · have h64 : i < 64 := by
        rcases Nat.lt_or_ge i 64 with q | q
        · exact q
        · exact absurd (nI_le q (by omega)) c_1
      refine lv_aload_n hx hb dJ0_fill_10 rfl (lv_at hl 0 rfl) ?_
      refine lv_iload_n hx hb dJ0_fill_11 rfl (lv_at hl 2 rfl) ?_
      refine lv_iload_n hx hb dJ0_fill_12 rfl (lv_at hl 1 rfl) ?_
      refine xa_st hx hb hK hP hD hS 0 0 rfl rfl i rfl h64 (by decide) (upd f i x) rfl dJ0_fill_13 (fun H locs hP hD hS => ?_)
      have hP : va_P (dC, dI) vwCl [(an, .inl (d, 64, .inl (upd f i x)))] H := hP
      have hD : va_D A [(an, .inl (d, 64, .inl (upd f i x)))] := hD
      refine lv_iinc (v := nI (i + 1)) (lv' := [(2, .int (nI (i + 1))), (0, .ref an), (1, .int x), (3, .int (nI 64))]) hx hb dJ0_fill_14 hl (k := 2) rfl (x_iinc1 i) (by decide) rfl (fun ls hl => ?_)
      refine lv_goto (tgt := 5) hx hb dJ0_fill_17 (by decide) ?_
      exact ih (i + 1) _ (by omega) (by omega) (fun j hj => by
        by_cases q : j = i
        · rw [q, ud_e, if_pos rfl]
        · rw [ud_e, if_neg q]; exact hf j (by omega)) H locs hP hD hS ls (lv_sub hl [1, 2, 0, 3] rfl)
set_option maxHeartbeats 4000000 in
set_option maxRecDepth 100000 in
/-- Arrays.fill of an array of 64 ints -/
theorem metJ0_fill (l : Launch) (dC : Nat → ClassId) (dI : Nat → Nat → Nat) (d : ClassId) (an z : Nat) (f : Nat → Int32) (x : Int32) : Met l yJ0_fill wsJ0_fill ({ frames := 0, cells := 0, slots := 0, locals := 0 }) (va_Pc [.ref an, .int x] (fun U => U.heap.size = z ∧ va_P (dC, dI) vwCl [(an, .inl (d, 64, .inl f))] U.heap ∧ va_K (dC, dI) vwCl [(d, .int)] U ∧ va_D (fun _ => True) [(an, .inl (d, 64, .inl f))])) (va_Qv (fun u : Nat → Int32 => ∀ j, j < 64 → u j = x) (BW1 dC dI d (va_A [(an, .inl (d, 64, .inl f))] z) an) (va_A [(an, .inl (d, 64, .inl f))] z)) 0 0 (va_A [(an, .inl (d, 64, .inl f))] z) := by
  refine Met.ofW (cc := cJ0_fill) (maxL := 4) (ret := none) (by decide) rfl ?_
  intro p e s m args below meth c s₁ B hml hv
  obtain ⟨rfl, hsz, hP, hK, hD0⟩ := hv
  have hx := B.exec
  have hb := B.bytes
  have hr := B.returns
  have hts := atoms_spec (ws := wsJ0_fill) B.pre
  have hts : ∀ w ∈ lw_all, w.before _ s = true := fun w h => hts w (List.mem_cons_of_mem _ h)
  have hown : s.vm.findClass RJ0 = some m.cls := findClass_of_methodNamed B.named
  have hlocks := B.notSynchronized
  subst hsz
  have hD := hD0.self (sz := s.heap.size)
  generalize hAe : va_A [(an, .inl (d, 64, .inl f))] s.heap.size = A at hD ⊢
  have hA : ∀ q : Nat, s.heap.size ≤ q → A q := fun q h => by rw [← hAe]; exact Or.inr h
  have hS : va_S A s.heap s.heap [] := va_S.rf
  have hP : va_P (dC, dI) vwCl [(an, .inl (d, 64, .inl f))] s.heap := hP
  have hl := lv_entry ([.ref an, .int x]) (n := 4) (Nat.le_of_ble_eq_true rfl)
  rw [lg_entry_eq]
  generalize (lg_sl ([.ref an, .int x]) ++ List.replicate (4 - (lg_sl ([.ref an, .int x])).length) Slot.unset).toArray = ls at hl ⊢
  have hl : lv_has ls 4 [(0, .ref an), (1, .int x)] := hl
  refine lv_iconst (v := nI 0) hx hb dJ0_fill_0 (by decide +kernel) ?_
  refine lv_istore_n (lv' := [(2, .int (nI 0)), (0, .ref an), (1, .int x)]) hx hb dJ0_fill_1 rfl hl (by decide) rfl (fun ls hl => ?_)
  refine lv_aload_n hx hb dJ0_fill_2 rfl (lv_at hl 1 rfl) ?_
  refine va_alen (v := nI 64) hx hb hK hP 0 0 rfl rfl rfl dJ0_fill_3 ?_
  refine lv_istore_n (lv' := [(3, .int (nI 64)), (2, .int (nI 0)), (0, .ref an), (1, .int x)]) hx hb dJ0_fill_4 rfl hl (by decide) rfl (fun ls hl => ?_)
  refine fill_loop hx hb hK ?_ 65 0 f (by omega) (by omega) (fun j hj => absurd hj (by omega)) s.heap [] hP hD hS ls (lv_sub hl [2, 3, 1, 0] rfl)
  intro f1 H locs ls hf hP hD hS
  have hP9 := hP.sub (ws' := [(an, .inl (d, 64, .inl f1))]) [0] rfl
  have hD9 := hD.sub (ws' := [(an, .inl (d, 64, .inl f1))]) [0] (by decide) rfl
  have hK9 := hK.sub (tys' := [(d, .int)]) [0] rfl
  exact W.vret hx hb hr (fun t ht hW => ⟨⟨f1, rfl, hf, by rw [ht]; exact hP9, va_K.moved hW.alike hK9, hD9⟩, hS.F ht⟩) hS.2.2 dJ0_fill_20
abbrev BQ1 (dC : Nat → ClassId) (dI : Nat → Nat → Nat) (d : ClassId) (A : Nat → Prop) (aq av : Nat) (_ : Unit) (t : State) : Prop := ∃ ah : Nat, va_P (dC, dI) vwCl [(aq, .inr (1, [.ref av, .ref ah, .int (nI 0), .null, .null])), (ah, .inl (d, 64, .inl (hN (fun _ => 0))))] t.heap ∧ va_K (dC, dI) vwCl [(d, .int)] t ∧ va_D A [(aq, .inr (1, [.ref av, .ref ah, .int (nI 0), .null, .null])), (ah, .inl (d, 64, .inl (hN (fun _ => 0))))]
set_option maxHeartbeats 4000000 in
set_option maxRecDepth 100000 in
/-- the upper constructor: a heap array of 64 comes -/
theorem metX1_init (l : Launch) (dC : Nat → ClassId) (dI : Nat → Nat → Nat) (d : ClassId) (aq av z : Nat) (vz : Value) (hvn : narrow (.array .int) vz = vz) (hvf : fits (.array .int) vz = true) : Met l yX1_init wsX1_init ({ frames := 1, cells := 1, slots := 64, locals := 12 }) (va_Pc [.ref aq, .ref av, .int (nI 64), .null] (fun U => U.heap.size = z ∧ va_P (dC, dI) vwCl [(aq, .inr (1, [.null, .null, .int 0, .null, .null]))] U.heap ∧ va_K (dC, dI) vwCl [(d, .int)] U ∧ va_D (fun _ => True) [(aq, .inr (1, [.null, .null, .int 0, .null, .null]))] ∧ va_Z "IntArrays" "EMPTY_ARRAY" "[I" vz (va_A [(aq, .inr (1, [.null, .null, .int 0, .null, .null]))] z) U U.heap)) (va_Qv (fun _ : Unit => True) (BQ1 dC dI d (va_A [(aq, .inr (1, [.null, .null, .int 0, .null, .null]))] z) aq av) (va_A [(aq, .inr (1, [.null, .null, .int 0, .null, .null]))] z)) 1 64 (va_A [(aq, .inr (1, [.null, .null, .int 0, .null, .null]))] z) := by
  refine Met.ofW (cc := cX1_init) (maxL := 4) (ret := none) (by decide) rfl ?_
  intro p e s m args below meth c s₁ B hml hv
  obtain ⟨rfl, hsz, hP, hK, hD0, hZ⟩ := hv
  have hx := B.exec
  have hb := B.bytes
  have hr := B.returns
  have hts := atoms_spec (ws := wsX1_init) B.pre
  have hts : ∀ w ∈ lw_all, w.before _ s = true := fun w h => hts w (List.mem_cons_of_mem _ h)
  have hown : s.vm.findClass RX1 = some m.cls := findClass_of_methodNamed B.named
  have hlocks := B.notSynchronized
  have hin : meth.name = "<init>" := (name_of_methodNamed B.named B.method).1
  subst hsz
  have hD := hD0.self (sz := s.heap.size)
  generalize hAe : va_A [(aq, .inr (1, [.null, .null, .int 0, .null, .null]))] s.heap.size = A at hD hZ ⊢
  have hA : ∀ q : Nat, s.heap.size ≤ q → A q := fun q h => by rw [← hAe]; exact Or.inr h
  have hS : va_S A s.heap s.heap [] := va_S.rf
  have hP : va_P (dC, dI) vwCl [(aq, .inr (1, [.null, .null, .int 0, .null, .null]))] s.heap := hP
  have hl := lv_entry ([.ref aq, .ref av, .int (nI 64), .null]) (n := 4) (Nat.le_of_ble_eq_true rfl)
  rw [lg_entry_eq]
  generalize (lg_sl ([.ref aq, .ref av, .int (nI 64), .null]) ++ List.replicate (4 - (lg_sl ([.ref aq, .ref av, .int (nI 64), .null])).length) Slot.unset).toArray = ls at hl ⊢
  have hl : lv_has ls 4 [(0, .ref aq), (1, .ref av), (2, .int (nI 64)), (3, .null)] := hl
  refine lv_aload_n hx hb dX1_init_0 rfl (lv_at hl 0 rfl) ?_
  refine W.objInit hx hb hown (hts _ q45) (hts _ q32) (hts _ q33) rfl (by rw [hml]; exact hl.1) rfl dX1_init_1 (Nat.le_of_ble_eq_true rfl) (Nat.le_of_ble_eq_true rfl) ?_
  refine W.eq (g2 := F0 m 4 ls []) rfl ?_
  refine lv_aload_n hx hb dX1_init_4 rfl (lv_at hl 0 rfl) ?_
  refine va_gets (v := vz) hx hb hZ hS hown (hts _ q46) (fun _ h9 => h9) dX1_init_5 ?_
  refine va_put (D := (dC, dI)) (ci := 1) (v := vz) (ty := .array .int) (C := RX2) (T := TX2) (N := 5) hx hb hts in_X2 tyX2 tyX2_ok nmX2 hown hK hP hD hS 0 rfl rfl 1 (by decide) (hts _ q55) (fun _ h9 => h9) rfl (by decide +kernel) hvn hvf (Nat.le_of_ble_eq_true rfl) dX1_init_8 (fun H locs hP hD hS => ?_)
  have hP : va_P (dC, dI) vwCl [(aq, .inr (1, [.null, vz, .int 0, .null, .null]))] H := hP
  have hD : va_D A [(aq, .inr (1, [.null, vz, .int 0, .null, .null]))] := hD
  refine lv_iload_n hx hb dX1_init_11 rfl (lv_at hl 2 rfl) ?_
  refine lv_if_le (tgt := 22) hx hb dX1_init_12 (by decide) (fun c_1 => ?_) (fun c_1 => ?_)
  · exact absurd c_1 (nI_nle (by omega) (by omega))
  · refine lv_aload_n hx hb dX1_init_15 rfl (lv_at hl 0 rfl) ?_
    refine lv_iload_n hx hb dX1_init_16 rfl (lv_at hl 2 rfl) ?_
    refine va_newa (atype := .int) (ty := .int) (n := nI 64) (N' := 64) (a0 := (64, .inl (fun _ => 0))) hx hb (hts _ q75) rfl hK hP hD hS hA (fun _ => rfl) (by decide +kernel) (by decide +kernel) (by decide +kernel) (Nat.le_of_ble_eq_true rfl) (Nat.le_of_ble_eq_true rfl) dX1_init_17 (fun ah dX H hKx hP hD hS => ?_)
    have hdd : d = dX := va_K_one hKx 0 1 rfl rfl
    subst hdd
    have hP : va_P (dC, dI) vwCl [(aq, .inr (1, [.null, vz, .int 0, .null, .null])), (ah, .inl (d, 64, .inl (hN (fun _ => 0))))] H := by rw [← hN_0]; exact hP
    have hD : va_D A [(aq, .inr (1, [.null, vz, .int 0, .null, .null])), (ah, .inl (d, 64, .inl (hN (fun _ => 0))))] := by rw [← hN_0]; exact hD
    refine va_put (D := (dC, dI)) (ci := 1) (v := .ref ah) (ty := .array .int) (C := RX2) (T := TX2) (N := 5) hx hb hts in_X2 tyX2 tyX2_ok nmX2 hown hK hP hD hS 0 rfl rfl 1 (by decide) (hts _ q55) (fun _ h9 => h9) rfl (by decide +kernel) rfl rfl (Nat.le_of_ble_eq_true rfl) dX1_init_19 (fun H locs hP hD hS => ?_)
    have hP : va_P (dC, dI) vwCl [(aq, .inr (1, [.null, .ref ah, .int 0, .null, .null])), (ah, .inl (d, 64, .inl (hN (fun _ => 0))))] H := hP
    have hD : va_D A [(aq, .inr (1, [.null, .ref ah, .int 0, .null, .null])), (ah, .inl (d, 64, .inl (hN (fun _ => 0))))] := hD
    refine lv_aload_n hx hb dX1_init_22 rfl (lv_at hl 0 rfl) ?_
    refine lv_aload_n hx hb dX1_init_23 rfl (lv_at hl 1 rfl) ?_
    refine va_putF (D := (dC, dI)) (ci := 1) (v := .ref av) (ty := .array .int) (C := RX2) (T := TX2) (N := 5) hx hb hts in_X2 tyX2 tyX2_ok nmX2 hown hK hP hD hS 0 rfl rfl 0 (by decide) (hts _ q52) (fun _ h9 => h9) rfl hin rfl (by decide +kernel) rfl rfl (Nat.le_of_ble_eq_true rfl) dX1_init_24 (fun H locs hP hD hS => ?_)
    have hP : va_P (dC, dI) vwCl [(aq, .inr (1, [.ref av, .ref ah, .int 0, .null, .null])), (ah, .inl (d, 64, .inl (hN (fun _ => 0))))] H := hP
    have hD : va_D A [(aq, .inr (1, [.ref av, .ref ah, .int 0, .null, .null])), (ah, .inl (d, 64, .inl (hN (fun _ => 0))))] := hD
    refine lv_aload_n hx hb dX1_init_27 rfl (lv_at hl 0 rfl) ?_
    refine lv_aload_nN hx hb dX1_init_28 rfl (lv_at hl 3 rfl) ?_
    refine va_put (D := (dC, dI)) (ci := 1) (v := .null) (ty := .object "IntComparator") (C := RX2) (T := TX2) (N := 5) hx hb hts in_X2 tyX2 tyX2_ok nmX2 hown hK hP hD hS 0 rfl rfl 3 (by decide) (hts _ q61) (fun _ h9 => h9) rfl (by decide +kernel) rfl rfl (Nat.le_of_ble_eq_true rfl) dX1_init_29 (fun H locs hP hD hS => ?_)
    have hP : va_P (dC, dI) vwCl [(aq, .inr (1, [.ref av, .ref ah, .int 0, .null, .null])), (ah, .inl (d, 64, .inl (hN (fun _ => 0))))] H := hP
    have hD : va_D A [(aq, .inr (1, [.ref av, .ref ah, .int 0, .null, .null])), (ah, .inl (d, 64, .inl (hN (fun _ => 0))))] := hD
    have hP : va_P (dC, dI) vwCl [(aq, .inr (1, [.ref av, .ref ah, .int (nI 0), .null, .null])), (ah, .inl (d, 64, .inl (hN (fun _ => 0))))] H := by rw [nI_0]; exact hP
    have hD : va_D A [(aq, .inr (1, [.ref av, .ref ah, .int (nI 0), .null, .null])), (ah, .inl (d, 64, .inl (hN (fun _ => 0))))] := by rw [nI_0]; exact hD
    have hP9 := hP.sub (ws' := [(aq, .inr (1, [.ref av, .ref ah, .int (nI 0), .null, .null])), (ah, .inl (d, 64, .inl (hN (fun _ => 0))))]) [0, 1] rfl
    have hD9 := hD.sub (ws' := [(aq, .inr (1, [.ref av, .ref ah, .int (nI 0), .null, .null])), (ah, .inl (d, 64, .inl (hN (fun _ => 0))))]) [0, 1] (by decide) rfl
    have hK9 := hK.sub (tys' := [(d, .int)]) [0] rfl
    exact W.vret hx hb hr (fun t ht hW => ⟨⟨(), rfl, trivial, ah, by rw [ht]; exact hP9, va_K.moved hW.alike hK9, hD9⟩, hS.F ht⟩) hS.2.2 dX1_init_32
abbrev BQ2 (dC : Nat → ClassId) (dI : Nat → Nat → Nat) (d : ClassId) (A : Nat → Prop) (aq av : Nat) (fv : Nat → Int32) (u : Nat → Int32) (t : State) : Prop := ∃ ah an : Nat, va_P (dC, dI) vwCl [(aq, .inr (1, [.ref av, .ref ah, .int (nI 0), .null, .ref an])), (av, .inl (d, 64, .inl fv)), (ah, .inl (d, 64, .inl (hN (fun _ => 0)))), (an, .inl (d, 64, .inl u))] t.heap ∧ va_K (dC, dI) vwCl [(d, .int)] t ∧ va_D A [(aq, .inr (1, [.ref av, .ref ah, .int (nI 0), .null, .ref an])), (av, .inl (d, 64, .inl fv)), (ah, .inl (d, 64, .inl (hN (fun _ => 0)))), (an, .inl (d, 64, .inl u))]
set_option maxHeartbeats 4000000 in
set_option maxRecDepth 100000 in
/-- the queue's constructor: heap and inv come -/
theorem metX2_init_2 (l : Launch) (dC : Nat → ClassId) (dI : Nat → Nat → Nat) (d : ClassId) (aq av z : Nat) (fv : Nat → Int32) (vz : Value) (hvn : narrow (.array .int) vz = vz) (hvf : fits (.array .int) vz = true) : Met l yX2_init_2 wsX2_init_2 ({ frames := 2, cells := 2, slots := 128, locals := 35 }) (va_Pc [.ref aq, .ref av, .int (nI 64), .null] (fun U => U.heap.size = z ∧ va_P (dC, dI) vwCl [(aq, .inr (1, [.null, .null, .int 0, .null, .null])), (av, .inl (d, 64, .inl fv))] U.heap ∧ va_K (dC, dI) vwCl [(d, .int)] U ∧ va_D (fun _ => True) [(aq, .inr (1, [.null, .null, .int 0, .null, .null])), (av, .inl (d, 64, .inl fv))] ∧ va_Z "IntArrays" "EMPTY_ARRAY" "[I" vz (va_A [(aq, .inr (1, [.null, .null, .int 0, .null, .null])), (av, .inl (d, 64, .inl fv))] z) U U.heap)) (va_Qv (fun u : Nat → Int32 => ∀ j, j < 64 → u j = -1) (BQ2 dC dI d (va_A [(aq, .inr (1, [.null, .null, .int 0, .null, .null])), (av, .inl (d, 64, .inl fv))] z) aq av fv) (va_A [(aq, .inr (1, [.null, .null, .int 0, .null, .null])), (av, .inl (d, 64, .inl fv))] z)) 2 128 (va_A [(aq, .inr (1, [.null, .null, .int 0, .null, .null])), (av, .inl (d, 64, .inl fv))] z) := by
  refine Met.ofW (cc := cX2_init_2) (maxL := 4) (ret := none) (by decide) rfl ?_
  intro p e s m args below meth c s₁ B hml hv
  obtain ⟨rfl, hsz, hP, hK, hD0, hZ⟩ := hv
  have hx := B.exec
  have hb := B.bytes
  have hr := B.returns
  have hts := atoms_spec (ws := wsX2_init_2) B.pre
  have hts : ∀ w ∈ lw_all, w.before _ s = true := fun w h => hts w (List.mem_cons_of_mem _ h)
  have hown : s.vm.findClass RX2 = some m.cls := findClass_of_methodNamed B.named
  have hlocks := B.notSynchronized
  have hin : meth.name = "<init>" := (name_of_methodNamed B.named B.method).1
  subst hsz
  have hD := hD0.self (sz := s.heap.size)
  generalize hAe : va_A [(aq, .inr (1, [.null, .null, .int 0, .null, .null])), (av, .inl (d, 64, .inl fv))] s.heap.size = A at hD hZ ⊢
  have hA : ∀ q : Nat, s.heap.size ≤ q → A q := fun q h => by rw [← hAe]; exact Or.inr h
  have hS : va_S A s.heap s.heap [] := va_S.rf
  have hP : va_P (dC, dI) vwCl [(aq, .inr (1, [.null, .null, .int 0, .null, .null])), (av, .inl (d, 64, .inl fv))] s.heap := hP
  have hl := lv_entry ([.ref aq, .ref av, .int (nI 64), .null]) (n := 4) (Nat.le_of_ble_eq_true rfl)
  rw [lg_entry_eq]
  generalize (lg_sl ([.ref aq, .ref av, .int (nI 64), .null]) ++ List.replicate (4 - (lg_sl ([.ref aq, .ref av, .int (nI 64), .null])).length) Slot.unset).toArray = ls at hl ⊢
  have hl : lv_has ls 4 [(0, .ref aq), (1, .ref av), (2, .int (nI 64)), (3, .null)] := hl
  refine lv_aload_n hx hb dX2_init_2_0 rfl (lv_at hl 0 rfl) ?_
  refine lv_aload_n hx hb dX2_init_2_1 rfl (lv_at hl 1 rfl) ?_
  refine lv_iload_n hx hb dX2_init_2_2 rfl (lv_at hl 2 rfl) ?_
  refine lv_aload_nN hx hb dX2_init_2_3 rfl (lv_at hl 3 rfl) ?_
  have hPc := hP.sub (ws' := [(aq, .inr (1, [.null, .null, .int 0, .null, .null]))]) [0] rfl
  have hDc := hD.sub (ws' := [(aq, .inr (1, [.null, .null, .int 0, .null, .null]))]) [0] (by decide) rfl
  have hKc := hK.sub (tys' := [(d, .int)]) [0] rfl
  have hFc := va_free (wc := [(aq, .inr (1, [.null, .null, .int 0, .null, .null]))]) hD hS hA [0] rfl
  refine va_callv (va_runI (As := [.ref av, .int (nI 64), .null]) (rest := []) ⟨hx, hb, hml, hown, hts⟩ (metX1_init l dC dI d aq av s.heap.size vz hvn hvf) (cwI 3 hts (lw_meth q44) rfl rfl rfl (hts _ q4) (hts _ q42) (hts _ q43) rfl (by decide +kernel) ⟨Nat.le_of_ble_eq_true rfl, Nat.le_of_ble_eq_true rfl⟩) ⟨fun a U g mk q => by obtain ⟨q0, q1, qP, qK, qD, qZ⟩ := q; exact ⟨q0, q1, qP, va_K.moved (u := U) (U := U.calling g mk a) (Vm.Alike.refl U.vm) qK, qD, va_Z.moved (u := U) (U := U.calling g mk a) (Vm.Alike.refl U.vm) qZ⟩, fun U hU hW => ⟨rfl, by rw [hU], by rw [hU]; exact hPc, va_K.moved hW.alike hKc, hDc.weaken (fun _ _ _ _ => trivial), by rw [hU]; exact va_Z.moved hW.alike ((va_Z.kept hZ hS.2.1).narrow hFc)⟩⟩ rfl rfl hl.1 rfl (lv_room (Nat.le_of_ble_eq_true rfl)) dX2_init_2_4 ⟨Nat.le_of_ble_eq_true rfl, Nat.le_of_ble_eq_true rfl⟩) hS (fun q _ h => hFc q h) hFc (fun u t H1 locs ht hvm hw hB hz1 hk1 hS => ?_)
  obtain ⟨ah, hP1, hK1, hD1⟩ := hB
  rw [ht] at hP1
  have hK1 := va_K.moved hvm.symm hK1
  obtain ⟨hP, hD⟩ := va_join (wr := [(av, .inl (d, 64, .inl fv))]) (w1 := [(aq, .inr (1, [.ref av, .ref ah, .int (nI 0), .null, .null])), (ah, .inl (d, 64, .inl (hN (fun _ => 0))))]) hP hD [0] [1] rfl rfl (by decide) (by decide) hk1 hFc hP1 hD1
  generalize H1 = H at hP hS ⊢
  have hP : va_P (dC, dI) vwCl [(av, .inl (d, 64, .inl fv)), (aq, .inr (1, [.ref av, .ref ah, .int (nI 0), .null, .null])), (ah, .inl (d, 64, .inl (hN (fun _ => 0))))] H := hP
  have hD : va_D A [(av, .inl (d, 64, .inl fv)), (aq, .inr (1, [.ref av, .ref ah, .int (nI 0), .null, .null])), (ah, .inl (d, 64, .inl (hN (fun _ => 0))))] := hD
  refine lv_aload_n hx hb dX2_init_2_7 rfl (lv_at hl 0 rfl) ?_
  refine lv_aload_n hx hb dX2_init_2_8 rfl (lv_at hl 1 rfl) ?_
  refine va_alen (v := nI 64) hx hb hK hP 0 0 rfl rfl rfl dX2_init_2_9 ?_
  refine va_newa (atype := .int) (ty := .int) (n := nI 64) (N' := 64) (a0 := (64, .inl (fun _ => 0))) hx hb (hts _ q75) rfl hK hP hD hS hA (fun _ => rfl) (by decide +kernel) (by decide +kernel) (by decide +kernel) (Nat.le_of_ble_eq_true rfl) (Nat.le_of_ble_eq_true rfl) dX2_init_2_10 (fun an dX H hKx hP hD hS => ?_)
  have hdd : d = dX := va_K_one hKx 0 1 rfl rfl
  subst hdd
  have hP : va_P (dC, dI) vwCl [(av, .inl (d, 64, .inl fv)), (aq, .inr (1, [.ref av, .ref ah, .int (nI 0), .null, .null])), (ah, .inl (d, 64, .inl (hN (fun _ => 0)))), (an, .inl (d, 64, .inl (fun _ => 0)))] H := hP
  have hD : va_D A [(av, .inl (d, 64, .inl fv)), (aq, .inr (1, [.ref av, .ref ah, .int (nI 0), .null, .null])), (ah, .inl (d, 64, .inl (hN (fun _ => 0)))), (an, .inl (d, 64, .inl (fun _ => 0)))] := hD
  refine va_putF (D := (dC, dI)) (ci := 1) (v := .ref an) (ty := .array .int) (C := RX2) (T := TX2) (N := 5) hx hb hts in_X2 tyX2 tyX2_ok nmX2 hown hK hP hD hS 1 rfl rfl 4 (by decide) (hts _ q51) (fun _ h9 => h9) rfl hin rfl (by decide +kernel) rfl rfl (Nat.le_of_ble_eq_true rfl) dX2_init_2_12 (fun H locs hP hD hS => ?_)
  have hP : va_P (dC, dI) vwCl [(av, .inl (d, 64, .inl fv)), (aq, .inr (1, [.ref av, .ref ah, .int (nI 0), .null, .ref an])), (ah, .inl (d, 64, .inl (hN (fun _ => 0)))), (an, .inl (d, 64, .inl (fun _ => 0)))] H := hP
  have hD : va_D A [(av, .inl (d, 64, .inl fv)), (aq, .inr (1, [.ref av, .ref ah, .int (nI 0), .null, .ref an])), (ah, .inl (d, 64, .inl (hN (fun _ => 0)))), (an, .inl (d, 64, .inl (fun _ => 0)))] := hD
  refine lv_aload_n hx hb dX2_init_2_15 rfl (lv_at hl 0 rfl) ?_
  refine va_get (D := (dC, dI)) (ci := 1) (v := .ref an) (C := RX2) (T := TX2) (N := 5) hx hb hts in_X2 hown hK hP 1 rfl rfl 4 (by decide) (hts _ q51) (fun _ h9 => h9) rfl dX2_init_2_16 ?_
  refine lv_iconst (v := (-1)) hx hb dX2_init_2_19 (by decide +kernel) ?_
  have hPc := hP.sub (ws' := [(an, .inl (d, 64, .inl (fun _ => 0)))]) [3] rfl
  have hDc := hD.sub (ws' := [(an, .inl (d, 64, .inl (fun _ => 0)))]) [3] (by decide) rfl
  have hKc := hK.sub (tys' := [(d, .int)]) [0] rfl
  have hFc := va_free (wc := [(an, .inl (d, 64, .inl (fun _ => 0)))]) hD hS hA [3] rfl
  refine va_callv (va_runS (As := [.ref an, .int (-1)]) (rest := []) ⟨hx, hb, hml, hown, hts⟩ (metJ0_fill l dC dI d an H.size (fun _ => 0) (-1)) (va_cwS 2 hts (lw_S q48 q49 q7 q50) rfl rfl rfl (by decide +kernel) ⟨Nat.le_of_ble_eq_true rfl, Nat.le_of_ble_eq_true rfl⟩) ⟨fun a U g mk q => by obtain ⟨q0, q1, qP, qK, qD⟩ := q; exact ⟨q0, q1, qP, va_K.moved (u := U) (U := U.calling g mk a) (Vm.Alike.refl U.vm) qK, qD⟩, fun U hU hW => ⟨rfl, by rw [hU], by rw [hU]; exact hPc, va_K.moved hW.alike hKc, hDc.weaken (fun _ _ _ _ => trivial)⟩⟩ rfl rfl hl.1 rfl (lv_room (Nat.le_of_ble_eq_true rfl)) dX2_init_2_20 ⟨Nat.le_of_ble_eq_true rfl, Nat.le_of_ble_eq_true rfl⟩) hS (fun q _ h => hFc q h) hFc (fun u t H1 locs ht hvm hw hB hz1 hk1 hS => ?_)
  obtain ⟨f1, rfl⟩ : ∃ y, y = u := ⟨_, rfl⟩
  obtain ⟨hP1, hK1, hD1⟩ := hB
  rw [ht] at hP1
  have hK1 := va_K.moved hvm.symm hK1
  obtain ⟨hP, hD⟩ := va_join (wr := [(av, .inl (d, 64, .inl fv)), (aq, .inr (1, [.ref av, .ref ah, .int (nI 0), .null, .ref an])), (ah, .inl (d, 64, .inl (hN (fun _ => 0))))]) (w1 := [(an, .inl (d, 64, .inl f1))]) hP hD [3] [0, 1, 2] rfl rfl (by decide) (by decide) hk1 hFc hP1 hD1
  generalize H1 = H at hP hS ⊢
  have hP : va_P (dC, dI) vwCl [(av, .inl (d, 64, .inl fv)), (aq, .inr (1, [.ref av, .ref ah, .int (nI 0), .null, .ref an])), (ah, .inl (d, 64, .inl (hN (fun _ => 0)))), (an, .inl (d, 64, .inl f1))] H := hP
  have hD : va_D A [(av, .inl (d, 64, .inl fv)), (aq, .inr (1, [.ref av, .ref ah, .int (nI 0), .null, .ref an])), (ah, .inl (d, 64, .inl (hN (fun _ => 0)))), (an, .inl (d, 64, .inl f1))] := hD
  have hP9 := hP.sub (ws' := [(aq, .inr (1, [.ref av, .ref ah, .int (nI 0), .null, .ref an])), (av, .inl (d, 64, .inl fv)), (ah, .inl (d, 64, .inl (hN (fun _ => 0)))), (an, .inl (d, 64, .inl f1))]) [1, 0, 2, 3] rfl
  have hD9 := hD.sub (ws' := [(aq, .inr (1, [.ref av, .ref ah, .int (nI 0), .null, .ref an])), (av, .inl (d, 64, .inl fv)), (ah, .inl (d, 64, .inl (hN (fun _ => 0)))), (an, .inl (d, 64, .inl f1))]) [1, 0, 2, 3] (by decide) rfl
  have hK9 := hK.sub (tys' := [(d, .int)]) [0] rfl
  exact W.vret hx hb hr (fun t ht hW => ⟨⟨f1, rfl, hw, ah, an, by rw [ht]; exact hP9, va_K.moved hW.alike hK9, hD9⟩, hS.F ht⟩) hS.2.2 dX2_init_2_23
set_option maxHeartbeats 4000000 in
set_option maxRecDepth 100000 in
/-- the queue's constructor of one array -/
theorem metX2_init (l : Launch) (dC : Nat → ClassId) (dI : Nat → Nat → Nat) (d : ClassId) (aq av z : Nat) (fv : Nat → Int32) (vz : Value) (hvn : narrow (.array .int) vz = vz) (hvf : fits (.array .int) vz = true) : Met l yX2_init wsX2_init ({ frames := 3, cells := 2, slots := 128, locals := 58 }) (va_Pc [.ref aq, .ref av] (fun U => U.heap.size = z ∧ va_P (dC, dI) vwCl [(aq, .inr (1, [.null, .null, .int 0, .null, .null])), (av, .inl (d, 64, .inl fv))] U.heap ∧ va_K (dC, dI) vwCl [(d, .int)] U ∧ va_D (fun _ => True) [(aq, .inr (1, [.null, .null, .int 0, .null, .null])), (av, .inl (d, 64, .inl fv))] ∧ va_Z "IntArrays" "EMPTY_ARRAY" "[I" vz (va_A [(aq, .inr (1, [.null, .null, .int 0, .null, .null])), (av, .inl (d, 64, .inl fv))] z) U U.heap)) (va_Qv (fun u : Nat → Int32 => ∀ j, j < 64 → u j = -1) (BQ2 dC dI d (va_A [(aq, .inr (1, [.null, .null, .int 0, .null, .null])), (av, .inl (d, 64, .inl fv))] z) aq av fv) (va_A [(aq, .inr (1, [.null, .null, .int 0, .null, .null])), (av, .inl (d, 64, .inl fv))] z)) 2 128 (va_A [(aq, .inr (1, [.null, .null, .int 0, .null, .null])), (av, .inl (d, 64, .inl fv))] z) := by
  refine Met.ofW (cc := cX2_init) (maxL := 2) (ret := none) (by decide) rfl ?_
  intro p e s m args below meth c s₁ B hml hv
  obtain ⟨rfl, hsz, hP, hK, hD0, hZ⟩ := hv
  have hx := B.exec
  have hb := B.bytes
  have hr := B.returns
  have hts := atoms_spec (ws := wsX2_init) B.pre
  have hts : ∀ w ∈ lw_all, w.before _ s = true := fun w h => hts w (List.mem_cons_of_mem _ h)
  have hown : s.vm.findClass RX2 = some m.cls := findClass_of_methodNamed B.named
  have hlocks := B.notSynchronized
  have hin : meth.name = "<init>" := (name_of_methodNamed B.named B.method).1
  subst hsz
  have hD := hD0.self (sz := s.heap.size)
  generalize hAe : va_A [(aq, .inr (1, [.null, .null, .int 0, .null, .null])), (av, .inl (d, 64, .inl fv))] s.heap.size = A at hD hZ ⊢
  have hA : ∀ q : Nat, s.heap.size ≤ q → A q := fun q h => by rw [← hAe]; exact Or.inr h
  have hS : va_S A s.heap s.heap [] := va_S.rf
  have hP : va_P (dC, dI) vwCl [(aq, .inr (1, [.null, .null, .int 0, .null, .null])), (av, .inl (d, 64, .inl fv))] s.heap := hP
  have hl := lv_entry ([.ref aq, .ref av]) (n := 2) (Nat.le_of_ble_eq_true rfl)
  rw [lg_entry_eq]
  generalize (lg_sl ([.ref aq, .ref av]) ++ List.replicate (2 - (lg_sl ([.ref aq, .ref av])).length) Slot.unset).toArray = ls at hl ⊢
  have hl : lv_has ls 2 [(0, .ref aq), (1, .ref av)] := hl
  refine lv_aload_n hx hb dX2_init_0 rfl (lv_at hl 0 rfl) ?_
  refine lv_aload_n hx hb dX2_init_1 rfl (lv_at hl 1 rfl) ?_
  refine lv_aload_n hx hb dX2_init_2 rfl (lv_at hl 1 rfl) ?_
  refine va_alen (v := nI 64) hx hb hK hP 1 0 rfl rfl rfl dX2_init_3 ?_
  refine lv_null hx hb dX2_init_4 ?_
  have hPc := hP.sub (ws' := [(aq, .inr (1, [.null, .null, .int 0, .null, .null])), (av, .inl (d, 64, .inl fv))]) [0, 1] rfl
  have hDc := hD.sub (ws' := [(aq, .inr (1, [.null, .null, .int 0, .null, .null])), (av, .inl (d, 64, .inl fv))]) [0, 1] (by decide) rfl
  have hKc := hK.sub (tys' := [(d, .int)]) [0] rfl
  have hFc := va_free (wc := [(aq, .inr (1, [.null, .null, .int 0, .null, .null])), (av, .inl (d, 64, .inl fv))]) hD hS hA [0, 1] rfl
  refine va_callv (va_runI (As := [.ref av, .int (nI 64), .null]) (rest := []) ⟨hx, hb, hml, hown, hts⟩ (metX2_init_2 l dC dI d aq av s.heap.size fv vz hvn hvf) (cwI 3 hts (lw_meth q41) rfl rfl rfl (hts _ q5) (hts _ q39) (hts _ q40) rfl (by decide +kernel) ⟨Nat.le_of_ble_eq_true rfl, Nat.le_of_ble_eq_true rfl⟩) ⟨fun a U g mk q => by obtain ⟨q0, q1, qP, qK, qD, qZ⟩ := q; exact ⟨q0, q1, qP, va_K.moved (u := U) (U := U.calling g mk a) (Vm.Alike.refl U.vm) qK, qD, va_Z.moved (u := U) (U := U.calling g mk a) (Vm.Alike.refl U.vm) qZ⟩, fun U hU hW => ⟨rfl, by rw [hU], by rw [hU]; exact hPc, va_K.moved hW.alike hKc, hDc.weaken (fun _ _ _ _ => trivial), by rw [hU]; exact va_Z.moved hW.alike ((va_Z.kept hZ hS.2.1).narrow hFc)⟩⟩ rfl rfl hl.1 rfl (lv_room (Nat.le_of_ble_eq_true rfl)) dX2_init_5 ⟨Nat.le_of_ble_eq_true rfl, Nat.le_of_ble_eq_true rfl⟩) hS (fun q _ h => hFc q h) hFc (fun u t H1 locs ht hvm hw hB hz1 hk1 hS => ?_)
  obtain ⟨f1, rfl⟩ : ∃ y, y = u := ⟨_, rfl⟩
  obtain ⟨ah, an, hP1, hK1, hD1⟩ := hB
  rw [ht] at hP1
  have hK1 := va_K.moved hvm.symm hK1
  obtain ⟨hP, hD⟩ := va_join (wr := []) (w1 := [(aq, .inr (1, [.ref av, .ref ah, .int (nI 0), .null, .ref an])), (av, .inl (d, 64, .inl fv)), (ah, .inl (d, 64, .inl (hN (fun _ => 0)))), (an, .inl (d, 64, .inl f1))]) hP hD [0, 1] [] rfl rfl (by decide) (by decide) hk1 hFc hP1 hD1
  generalize H1 = H at hP hS ⊢
  have hP : va_P (dC, dI) vwCl [(aq, .inr (1, [.ref av, .ref ah, .int (nI 0), .null, .ref an])), (av, .inl (d, 64, .inl fv)), (ah, .inl (d, 64, .inl (hN (fun _ => 0)))), (an, .inl (d, 64, .inl f1))] H := hP
  have hD : va_D A [(aq, .inr (1, [.ref av, .ref ah, .int (nI 0), .null, .ref an])), (av, .inl (d, 64, .inl fv)), (ah, .inl (d, 64, .inl (hN (fun _ => 0)))), (an, .inl (d, 64, .inl f1))] := hD
  have hP9 := hP.sub (ws' := [(aq, .inr (1, [.ref av, .ref ah, .int (nI 0), .null, .ref an])), (av, .inl (d, 64, .inl fv)), (ah, .inl (d, 64, .inl (hN (fun _ => 0)))), (an, .inl (d, 64, .inl f1))]) [0, 1, 2, 3] rfl
  have hD9 := hD.sub (ws' := [(aq, .inr (1, [.ref av, .ref ah, .int (nI 0), .null, .ref an])), (av, .inl (d, 64, .inl fv)), (ah, .inl (d, 64, .inl (hN (fun _ => 0)))), (an, .inl (d, 64, .inl f1))]) [0, 1, 2, 3] (by decide) rfl
  have hK9 := hK.sub (tys' := [(d, .int)]) [0] rfl
  exact W.vret hx hb hr (fun t ht hW => ⟨⟨f1, rfl, hw, ah, an, by rw [ht]; exact hP9, va_K.moved hW.alike hK9, hD9⟩, hS.F ht⟩) hS.2.2 dX2_init_8
set_option maxHeartbeats 4000000 in
set_option maxRecDepth 100000 in
/-- IndirectHeap(): value[i] = i -/
theorem ini0_loop {p : Program} {l : Launch} {e : Env} {R : Room} {s : State} {m : MethodId} {args : Array Value} {below : List Frame} {meth : Method} {c : Code} {Q : State → Prop} {cells slots : Nat} {dC : Nat → ClassId} {dI : Nat → Nat → Nat} {A : Nat → Prop} {H0 : Heap} {d : ClassId} {ax av : Nat} (hx : p.tables.exec = Jvm.exec) (hb : c.code = cX0_init) (hown : s.vm.findClass RX0 = some m.cls) (hts : ∀ w ∈ lw_all, w.before args s = true) (hK : va_K (dC, dI) vwCl [(d, .int)] s)
    (hexit : ∀ (f : Nat → Int32) (H : Heap) (locs : List Loc) (ls : Array Slot), (∀ j, j < 64 → f j = nI j) → va_P (dC, dI) vwCl [(ax, .inr (0, [.ref av, .null])), (av, .inl (d, 64, .inl f))] H → va_D A [(ax, .inr (0, [.ref av, .null])), (av, .inl (d, 64, .inl f))] → va_S A H0 H locs → lv_has ls 2 [(0, .ref ax)] → W p l e R s m args below meth c H locs cells slots Q (F0 m 33 ls [])) :
    ∀ (n i : Nat) (f : Nat → Int32), 64 - i < n → i ≤ 64 → (∀ j, j < i → f j = nI j) → ∀ (H : Heap) (locs : List Loc), va_P (dC, dI) vwCl [(ax, .inr (0, [.ref av, .null])), (av, .inl (d, 64, .inl f))] H → va_D A [(ax, .inr (0, [.ref av, .null])), (av, .inl (d, 64, .inl f))] → va_S A H0 H locs → ∀ (ls : Array Slot), lv_has ls 2 [(0, .ref ax), (1, .int (nI i))] → W p l e R s m args below meth c H locs cells slots Q (F0 m 14 ls []) := by
  intro n
  induction n with
  | zero =>
    intro i f h1
    exact absurd h1 (by omega)
  | succ n ih =>
    intro i f hn hi hf H locs hP hD hS ls hl
    refine lv_iload_n hx hb dX0_init_14 rfl (lv_at hl 1 rfl) ?_
    refine lv_bipush (v := nI 64) hx hb dX0_init_15 (by decide +kernel) ?_
    refine lv_icmp_ge (tgt := 33) hx hb dX0_init_17 (by decide) (fun c_1 => ?_) (fun c_1 => ?_)
    · have h64 : 64 ≤ i := (nI_leI (by omega) (by omega)).mp c_1
      exact hexit f H locs ls (fun j hj => hf j (by omega)) hP hD hS (lv_sub hl [0] rfl)
    · have h64 : i < 64 := by
        rcases Nat.lt_or_ge i 64 with q | q
        · exact q
        · exact absurd (nI_le q (by omega)) c_1
      refine lv_aload_n hx hb dX0_init_20 rfl (lv_at hl 0 rfl) ?_
      refine va_get (D := (dC, dI)) (ci := 0) (v := .ref av) (C := RX0) (T := TX0) (N := 2) hx hb hts in_X0 hown hK hP 0 rfl rfl 0 (by decide) (hts _ q76) (fun _ h9 => h9) rfl dX0_init_21 ?_
      refine lv_iload_n hx hb dX0_init_24 rfl (lv_at hl 1 rfl) ?_
      refine lv_iload_n hx hb dX0_init_25 rfl (lv_at hl 1 rfl) ?_
      refine xa_st hx hb hK hP hD hS 1 0 rfl rfl i rfl h64 (by decide) (upd f i (nI i)) rfl dX0_init_26 (fun H locs hP hD hS => ?_)
      have hP : va_P (dC, dI) vwCl [(ax, .inr (0, [.ref av, .null])), (av, .inl (d, 64, .inl (upd f i (nI i))))] H := hP
      have hD : va_D A [(ax, .inr (0, [.ref av, .null])), (av, .inl (d, 64, .inl (upd f i (nI i))))] := hD
      refine lv_iinc (v := nI (i + 1)) (lv' := [(1, .int (nI (i + 1))), (0, .ref ax)]) hx hb dX0_init_27 hl (k := 1) rfl (x_iinc1 i) (by decide) rfl (fun ls hl => ?_)
      refine lv_goto (tgt := 14) hx hb dX0_init_30 (by decide) ?_
      exact ih (i + 1) _ (by omega) (by omega) (fun j hj => by
        by_cases q : j = i
        · rw [q, ud_e, if_pos rfl]
        · rw [ud_e, if_neg q]; exact hf j (by omega)) H locs hP hD hS ls (lv_sub hl [1, 0] rfl)
set_option maxHeartbeats 4000000 in
set_option maxRecDepth 100000 in
/-- IndirectHeap(): value, queue, heap, inv come -/
theorem metX0_init (l : Launch) (dC : Nat → ClassId) (dI : Nat → Nat → Nat) (ax z : Nat) (vz : Value) (hvn : narrow (.array .int) vz = vz) (hvf : fits (.array .int) vz = true) : Met l yX0_init wsX0_init ({ frames := 4, cells := 4, slots := 197, locals := 79 }) (va_Pc [.ref ax] (fun U => U.heap.size = z ∧ va_P (dC, dI) vwCl [(ax, .inr (0, [.null, .null]))] U.heap ∧ va_K (dC, dI) vwCl [] U ∧ va_D (fun _ => True) [(ax, .inr (0, [.null, .null]))] ∧ va_Z "IntArrays" "EMPTY_ARRAY" "[I" vz (va_A [(ax, .inr (0, [.null, .null]))] z) U U.heap)) (va_Qv (fun u : Nat × (Nat → Int32) × (Nat → Nat) × (Nat → Int32) => (∀ k, k < 64 → u.2.1 k = nI k) ∧ Good (fun _ => False) u.1 u.2.1 u.2.2.1 u.2.2.2 ∧ u.1 = 0) (fun u t => ∃ (d : ClassId) (aq av ah an : Nat), BW5 dC dI d (va_A [(ax, .inr (0, [.null, .null]))] z) ax aq av ah an u t) (va_A [(ax, .inr (0, [.null, .null]))] z)) 4 197 (va_A [(ax, .inr (0, [.null, .null]))] z) := by
  refine Met.ofW (cc := cX0_init) (maxL := 2) (ret := none) (by decide) rfl ?_
  intro p e s m args below meth c s₁ B hml hv
  obtain ⟨rfl, hsz, hP, hK, hD0, hZ⟩ := hv
  have hx := B.exec
  have hb := B.bytes
  have hr := B.returns
  have hts := atoms_spec (ws := wsX0_init) B.pre
  have hts : ∀ w ∈ lw_all, w.before _ s = true := fun w h => hts w (List.mem_cons_of_mem _ h)
  have hown : s.vm.findClass RX0 = some m.cls := findClass_of_methodNamed B.named
  have hlocks := B.notSynchronized
  have hin : meth.name = "<init>" := (name_of_methodNamed B.named B.method).1
  subst hsz
  have hD := hD0.self (sz := s.heap.size)
  generalize hAe : va_A [(ax, .inr (0, [.null, .null]))] s.heap.size = A at hD hZ ⊢
  have hA : ∀ q : Nat, s.heap.size ≤ q → A q := fun q h => by rw [← hAe]; exact Or.inr h
  have hS : va_S A s.heap s.heap [] := va_S.rf
  have hP : va_P (dC, dI) vwCl [(ax, .inr (0, [.null, .null]))] s.heap := hP
  have hl := lv_entry ([.ref ax]) (n := 2) (Nat.le_of_ble_eq_true rfl)
  rw [lg_entry_eq]
  generalize (lg_sl ([.ref ax]) ++ List.replicate (2 - (lg_sl ([.ref ax])).length) Slot.unset).toArray = ls at hl ⊢
  have hl : lv_has ls 2 [(0, .ref ax)] := hl
  refine lv_aload_n hx hb dX0_init_0 rfl (lv_at hl 0 rfl) ?_
  refine W.objInit hx hb hown (hts _ q31) (hts _ q32) (hts _ q33) rfl (by rw [hml]; exact hl.1) rfl dX0_init_1 (Nat.le_of_ble_eq_true rfl) (Nat.le_of_ble_eq_true rfl) ?_
  refine W.eq (g2 := F0 m 4 ls []) rfl ?_
  refine lv_aload_n hx hb dX0_init_4 rfl (lv_at hl 0 rfl) ?_
  refine lv_bipush (v := nI 64) hx hb dX0_init_5 (by decide +kernel) ?_
  refine va_newa (atype := .int) (ty := .int) (n := nI 64) (N' := 64) (a0 := (64, .inl (fun _ => 0))) hx hb (hts _ q75) rfl hK hP hD hS hA (fun _ => rfl) (by decide +kernel) (by decide +kernel) (by decide +kernel) (Nat.le_of_ble_eq_true rfl) (Nat.le_of_ble_eq_true rfl) dX0_init_7 (fun av d H hKx hP hD hS => ?_)
  have hK : va_K (dC, dI) vwCl [(d, .int)] s := hKx
  have hP : va_P (dC, dI) vwCl [(ax, .inr (0, [.null, .null])), (av, .inl (d, 64, .inl (fun _ => 0)))] H := hP
  have hD : va_D A [(ax, .inr (0, [.null, .null])), (av, .inl (d, 64, .inl (fun _ => 0)))] := hD
  refine va_putF (D := (dC, dI)) (ci := 0) (v := .ref av) (ty := .array .int) (C := RX0) (T := TX0) (N := 2) hx hb hts in_X0 tyX0 tyX0_ok nmX0 hown hK hP hD hS 0 rfl rfl 0 (by decide) (hts _ q76) (fun _ h9 => h9) rfl hin rfl (by decide +kernel) rfl rfl (Nat.le_of_ble_eq_true rfl) dX0_init_9 (fun H locs hP hD hS => ?_)
  have hP : va_P (dC, dI) vwCl [(ax, .inr (0, [.ref av, .null])), (av, .inl (d, 64, .inl (fun _ => 0)))] H := hP
  have hD : va_D A [(ax, .inr (0, [.ref av, .null])), (av, .inl (d, 64, .inl (fun _ => 0)))] := hD
  refine lv_iconst (v := nI 0) hx hb dX0_init_12 (by decide +kernel) ?_
  refine lv_istore_n (lv' := [(1, .int (nI 0)), (0, .ref ax)]) hx hb dX0_init_13 rfl hl (by decide) rfl (fun ls hl => ?_)
  refine ini0_loop hx hb hown hts hK ?_ 65 0 _ (by omega) (by omega) (fun j hj => absurd hj (by omega)) H _ hP hD hS ls (lv_sub hl [1, 0] rfl)
  intro fv H locs ls hfv hP hD hS hl
  refine lv_aload_n hx hb dX0_init_33 rfl (lv_at hl 0 rfl) ?_
  refine va_new (ci := 1) (fs := [.null, .null, .int 0, .null, .null]) (C := RX2) (T := TX2) (N := 5) hx hb hts in_X2 tyX2 tyX2_ok hown (hts _ q34) (hts _ q35) (hts _ q5) hK hP hD hS hA rfl (fun j hj => by rcases (show j = 0 ∨ j = 1 ∨ j = 2 ∨ j = 3 ∨ j = 4 by omega) with rfl | rfl | rfl | rfl | rfl <;> rfl) (Nat.le_of_ble_eq_true rfl) (Nat.le_of_ble_eq_true rfl) dX0_init_34 (fun aq H hP hD hS => ?_)
  have hP : va_P (dC, dI) vwCl [(ax, .inr (0, [.ref av, .null])), (av, .inl (d, 64, .inl fv)), (aq, .inr (1, [.null, .null, .int 0, .null, .null]))] H := hP
  have hD : va_D A [(ax, .inr (0, [.ref av, .null])), (av, .inl (d, 64, .inl fv)), (aq, .inr (1, [.null, .null, .int 0, .null, .null]))] := hD
  refine lv_dup hx hb dX0_init_37 rfl ?_
  refine lv_aload_n hx hb dX0_init_38 rfl (lv_at hl 0 rfl) ?_
  refine va_get (D := (dC, dI)) (ci := 0) (v := .ref av) (C := RX0) (T := TX0) (N := 2) hx hb hts in_X0 hown hK hP 0 rfl rfl 0 (by decide) (hts _ q76) (fun _ h9 => h9) rfl dX0_init_39 ?_
  have hPc := hP.sub (ws' := [(aq, .inr (1, [.null, .null, .int 0, .null, .null])), (av, .inl (d, 64, .inl fv))]) [2, 1] rfl
  have hDc := hD.sub (ws' := [(aq, .inr (1, [.null, .null, .int 0, .null, .null])), (av, .inl (d, 64, .inl fv))]) [2, 1] (by decide) rfl
  have hKc := hK.sub (tys' := [(d, .int)]) [0] rfl
  have hFc := va_free (wc := [(aq, .inr (1, [.null, .null, .int 0, .null, .null])), (av, .inl (d, 64, .inl fv))]) hD hS hA [2, 1] rfl
  refine va_callv (va_runI (As := [.ref av]) (rest := [.ref aq, .ref ax]) ⟨hx, hb, hml, hown, hts⟩ (metX2_init l dC dI d aq av H.size fv vz hvn hvf) (cwI 1 hts (lw_meth q38) rfl rfl rfl (hts _ q5) (hts _ q36) (hts _ q37) rfl (by decide +kernel) ⟨Nat.le_of_ble_eq_true rfl, Nat.le_of_ble_eq_true rfl⟩) ⟨fun a U g mk q => by obtain ⟨q0, q1, qP, qK, qD, qZ⟩ := q; exact ⟨q0, q1, qP, va_K.moved (u := U) (U := U.calling g mk a) (Vm.Alike.refl U.vm) qK, qD, va_Z.moved (u := U) (U := U.calling g mk a) (Vm.Alike.refl U.vm) qZ⟩, fun U hU hW => ⟨rfl, by rw [hU], by rw [hU]; exact hPc, va_K.moved hW.alike hKc, hDc.weaken (fun _ _ _ _ => trivial), by rw [hU]; exact va_Z.moved hW.alike ((va_Z.kept hZ hS.2.1).narrow hFc)⟩⟩ rfl rfl hl.1 rfl (lv_room (Nat.le_of_ble_eq_true rfl)) dX0_init_42 ⟨Nat.le_of_ble_eq_true rfl, Nat.le_of_ble_eq_true rfl⟩) hS (fun q _ h => hFc q h) hFc (fun u t H1 locs ht hvm hw hB hz1 hk1 hS => ?_)
  obtain ⟨fi, rfl⟩ : ∃ y, y = u := ⟨_, rfl⟩
  obtain ⟨ah, an, hP1, hK1, hD1⟩ := hB
  rw [ht] at hP1
  have hK1 := va_K.moved hvm.symm hK1
  obtain ⟨hP, hD⟩ := va_join (wr := [(ax, .inr (0, [.ref av, .null]))]) (w1 := [(aq, .inr (1, [.ref av, .ref ah, .int (nI 0), .null, .ref an])), (av, .inl (d, 64, .inl fv)), (ah, .inl (d, 64, .inl (hN (fun _ => 0)))), (an, .inl (d, 64, .inl fi))]) hP hD [2, 1] [0] rfl rfl (by decide) (by decide) hk1 hFc hP1 hD1
  generalize H1 = H at hP hS ⊢
  have hP : va_P (dC, dI) vwCl [(ax, .inr (0, [.ref av, .null])), (aq, .inr (1, [.ref av, .ref ah, .int (nI 0), .null, .ref an])), (av, .inl (d, 64, .inl fv)), (ah, .inl (d, 64, .inl (hN (fun _ => 0)))), (an, .inl (d, 64, .inl fi))] H := hP
  have hD : va_D A [(ax, .inr (0, [.ref av, .null])), (aq, .inr (1, [.ref av, .ref ah, .int (nI 0), .null, .ref an])), (av, .inl (d, 64, .inl fv)), (ah, .inl (d, 64, .inl (hN (fun _ => 0)))), (an, .inl (d, 64, .inl fi))] := hD
  refine va_putF (D := (dC, dI)) (ci := 0) (v := .ref aq) (ty := .object "IntHeapIndirectPriorityQueue") (C := RX0) (T := TX0) (N := 2) hx hb hts in_X0 tyX0 tyX0_ok nmX0 hown hK hP hD hS 0 rfl rfl 1 (by decide) (hts _ q77) (fun _ h9 => h9) rfl hin rfl (by decide +kernel) rfl rfl (Nat.le_of_ble_eq_true rfl) dX0_init_45 (fun H locs hP hD hS => ?_)
  have hP : va_P (dC, dI) vwCl [(ax, .inr (0, [.ref av, .ref aq])), (aq, .inr (1, [.ref av, .ref ah, .int (nI 0), .null, .ref an])), (av, .inl (d, 64, .inl fv)), (ah, .inl (d, 64, .inl (hN (fun _ => 0)))), (an, .inl (d, 64, .inl fi))] H := hP
  have hD : va_D A [(ax, .inr (0, [.ref av, .ref aq])), (aq, .inr (1, [.ref av, .ref ah, .int (nI 0), .null, .ref an])), (av, .inl (d, 64, .inl fv)), (ah, .inl (d, 64, .inl (hN (fun _ => 0)))), (an, .inl (d, 64, .inl fi))] := hD
  have hP9 := hP.sub (ws' := [(ax, .inr (0, [.ref av, .ref aq])), (aq, .inr (1, [.ref av, .ref ah, .int (nI 0), .null, .ref an])), (av, .inl (d, 64, .inl fv)), (ah, .inl (d, 64, .inl (hN (fun _ => 0)))), (an, .inl (d, 64, .inl fi))]) [0, 1, 2, 3, 4] rfl
  have hD9 := hD.sub (ws' := [(ax, .inr (0, [.ref av, .ref aq])), (aq, .inr (1, [.ref av, .ref ah, .int (nI 0), .null, .ref an])), (av, .inl (d, 64, .inl fv)), (ah, .inl (d, 64, .inl (hN (fun _ => 0)))), (an, .inl (d, 64, .inl fi))]) [0, 1, 2, 3, 4] (by decide) rfl
  have hK9 := hK.sub (tys' := [(d, .int)]) [0] rfl
  exact W.vret hx hb hr (fun t ht hW => ⟨⟨(0, fv, (fun _ => 0), fi), rfl, ⟨hfv, ⟨Nat.zero_le _, DI.zero (fun _ => (show 0 < 64 by decide)) hw, HO.zero _ _⟩, rfl⟩, d, aq, av, ah, an, by rw [ht]; exact hP9, va_K.moved hW.alike hK9, hD9⟩, hS.F ht⟩) hS.2.2 dX0_init_48
set_option maxHeartbeats 4000000 in
set_option maxRecDepth 100000 in
/-- IndirectHeapModel(): value[i] = i -/
theorem ini4_loop {p : Program} {l : Launch} {e : Env} {R : Room} {s : State} {m : MethodId} {args : Array Value} {below : List Frame} {meth : Method} {c : Code} {Q : State → Prop} {cells slots : Nat} {dC : Nat → ClassId} {dI : Nat → Nat → Nat} {A : Nat → Prop} {H0 : Heap} {d : ClassId} {dz : ClassId} {mi : Nat} {fb : Nat → Int32} {ax av : Nat} (hx : p.tables.exec = Jvm.exec) (hb : c.code = cX4_init) (hown : s.vm.findClass RX4 = some m.cls) (hts : ∀ w ∈ lw_all, w.before args s = true) (hK : va_K (dC, dI) vwCl [(d, .int), (dz, .boolean)] s)
    (hexit : ∀ (f : Nat → Int32) (H : Heap) (locs : List Loc) (ls : Array Slot), (∀ j, j < 64 → f j = nI j) → va_P (dC, dI) vwCl [(ax, .inr (2, [.ref av, .ref mi])), (av, .inl (d, 64, .inl f)), (mi, .inl (dz, 64, .inl fb))] H → va_D A [(ax, .inr (2, [.ref av, .ref mi])), (av, .inl (d, 64, .inl f)), (mi, .inl (dz, 64, .inl fb))] → va_S A H0 H locs → lv_has ls 2 [(0, .ref ax)] → W p l e R s m args below meth c H locs cells slots Q (F0 m 41 ls [])) :
    ∀ (n i : Nat) (f : Nat → Int32), 64 - i < n → i ≤ 64 → (∀ j, j < i → f j = nI j) → ∀ (H : Heap) (locs : List Loc), va_P (dC, dI) vwCl [(ax, .inr (2, [.ref av, .ref mi])), (av, .inl (d, 64, .inl f)), (mi, .inl (dz, 64, .inl fb))] H → va_D A [(ax, .inr (2, [.ref av, .ref mi])), (av, .inl (d, 64, .inl f)), (mi, .inl (dz, 64, .inl fb))] → va_S A H0 H locs → ∀ (ls : Array Slot), lv_has ls 2 [(0, .ref ax), (1, .int (nI i))] → W p l e R s m args below meth c H locs cells slots Q (F0 m 22 ls []) := by
  intro n
  induction n with
  | zero =>
    intro i f h1
    exact absurd h1 (by omega)
  | succ n ih =>
    intro i f hn hi hf H locs hP hD hS ls hl
    refine lv_iload_n hx hb dX4_init_22 rfl (lv_at hl 1 rfl) ?_
    refine lv_bipush (v := nI 64) hx hb dX4_init_23 (by decide +kernel) ?_
    refine lv_icmp_ge (tgt := 41) hx hb dX4_init_25 (by decide) (fun c_1 => ?_) (fun c_1 => ?_)
    · have h64 : 64 ≤ i := (nI_leI (by omega) (by omega)).mp c_1
      exact hexit f H locs ls (fun j hj => hf j (by omega)) hP hD hS (lv_sub hl [0] rfl)
    · have h64 : i < 64 := by
        rcases Nat.lt_or_ge i 64 with q | q
        · exact q
        · exact absurd (nI_le q (by omega)) c_1
      refine lv_aload_n hx hb dX4_init_28 rfl (lv_at hl 0 rfl) ?_
      refine va_get (D := (dC, dI)) (ci := 2) (v := .ref av) (C := RX4) (T := TX4) (N := 2) hx hb hts in_X4 hown hK hP 0 rfl rfl 0 (by decide) (hts _ q529) (fun _ h9 => h9) rfl dX4_init_29 ?_
      refine lv_iload_n hx hb dX4_init_32 rfl (lv_at hl 1 rfl) ?_
      refine lv_iload_n hx hb dX4_init_33 rfl (lv_at hl 1 rfl) ?_
      refine xa_st hx hb hK hP hD hS 1 0 rfl rfl i rfl h64 (by decide) (upd f i (nI i)) rfl dX4_init_34 (fun H locs hP hD hS => ?_)
      have hP : va_P (dC, dI) vwCl [(ax, .inr (2, [.ref av, .ref mi])), (av, .inl (d, 64, .inl (upd f i (nI i)))), (mi, .inl (dz, 64, .inl fb))] H := hP
      have hD : va_D A [(ax, .inr (2, [.ref av, .ref mi])), (av, .inl (d, 64, .inl (upd f i (nI i)))), (mi, .inl (dz, 64, .inl fb))] := hD
      refine lv_iinc (v := nI (i + 1)) (lv' := [(1, .int (nI (i + 1))), (0, .ref ax)]) hx hb dX4_init_35 hl (k := 1) rfl (x_iinc1 i) (by decide) rfl (fun ls hl => ?_)
      refine lv_goto (tgt := 22) hx hb dX4_init_38 (by decide) ?_
      exact ih (i + 1) _ (by omega) (by omega) (fun j hj => by
        by_cases q : j = i
        · rw [q, ud_e, if_pos rfl]
        · rw [ud_e, if_neg q]; exact hf j (by omega)) H locs hP hD hS ls (lv_sub hl [1, 0] rfl)
set_option maxHeartbeats 4000000 in
set_option maxRecDepth 100000 in
/-- IndirectHeapModel(): value, in come -/
theorem metX4_init (l : Launch) (dC : Nat → ClassId) (dI : Nat → Nat → Nat) (d : ClassId) (ay z : Nat) : Met l yX4_init wsX4_init ({ frames := 1, cells := 2, slots := 128, locals := 12 }) (va_Pc [.ref ay] (fun U => U.heap.size = z ∧ va_P (dC, dI) vwCl [(ay, .inr (2, [.null, .null]))] U.heap ∧ va_K (dC, dI) vwCl [(d, .int)] U ∧ va_D (fun _ => True) [(ay, .inr (2, [.null, .null]))])) (va_Qv (fun u : (Nat → Int32) × (Nat → Int32) => (∀ k, k < 64 → u.1 k = nI k) ∧ ∀ k, k < 64 → u.2 k = 0) (fun u t => ∃ (dz : ClassId) (mv mi : Nat), BM3 dC dI d dz (va_A [(ay, .inr (2, [.null, .null]))] z) ay mv mi u t) (va_A [(ay, .inr (2, [.null, .null]))] z)) 2 128 (va_A [(ay, .inr (2, [.null, .null]))] z) := by
  refine Met.ofW (cc := cX4_init) (maxL := 2) (ret := none) (by decide) rfl ?_
  intro p e s m args below meth c s₁ B hml hv
  obtain ⟨rfl, hsz, hP, hK, hD0⟩ := hv
  have hx := B.exec
  have hb := B.bytes
  have hr := B.returns
  have hts := atoms_spec (ws := wsX4_init) B.pre
  have hts : ∀ w ∈ lw_all, w.before _ s = true := fun w h => hts w (List.mem_cons_of_mem _ h)
  have hown : s.vm.findClass RX4 = some m.cls := findClass_of_methodNamed B.named
  have hlocks := B.notSynchronized
  have hin : meth.name = "<init>" := (name_of_methodNamed B.named B.method).1
  subst hsz
  have hD := hD0.self (sz := s.heap.size)
  generalize hAe : va_A [(ay, .inr (2, [.null, .null]))] s.heap.size = A at hD ⊢
  have hA : ∀ q : Nat, s.heap.size ≤ q → A q := fun q h => by rw [← hAe]; exact Or.inr h
  have hS : va_S A s.heap s.heap [] := va_S.rf
  have hP : va_P (dC, dI) vwCl [(ay, .inr (2, [.null, .null]))] s.heap := hP
  have hl := lv_entry ([.ref ay]) (n := 2) (Nat.le_of_ble_eq_true rfl)
  rw [lg_entry_eq]
  generalize (lg_sl ([.ref ay]) ++ List.replicate (2 - (lg_sl ([.ref ay])).length) Slot.unset).toArray = ls at hl ⊢
  have hl : lv_has ls 2 [(0, .ref ay)] := hl
  refine lv_aload_n hx hb dX4_init_0 rfl (lv_at hl 0 rfl) ?_
  refine W.objInit hx hb hown (hts _ q528) (hts _ q32) (hts _ q33) rfl (by rw [hml]; exact hl.1) rfl dX4_init_1 (Nat.le_of_ble_eq_true rfl) (Nat.le_of_ble_eq_true rfl) ?_
  refine W.eq (g2 := F0 m 4 ls []) rfl ?_
  refine lv_aload_n hx hb dX4_init_4 rfl (lv_at hl 0 rfl) ?_
  refine lv_bipush (v := nI 64) hx hb dX4_init_5 (by decide +kernel) ?_
  refine va_newa (atype := .int) (ty := .int) (n := nI 64) (N' := 64) (a0 := (64, .inl (fun _ => 0))) hx hb (hts _ q75) rfl hK hP hD hS hA (fun _ => rfl) (by decide +kernel) (by decide +kernel) (by decide +kernel) (Nat.le_of_ble_eq_true rfl) (Nat.le_of_ble_eq_true rfl) dX4_init_7 (fun mv dX H hKx hP hD hS => ?_)
  have hdd : d = dX := va_K_one hKx 0 1 rfl rfl
  subst hdd
  have hP : va_P (dC, dI) vwCl [(ay, .inr (2, [.null, .null])), (mv, .inl (d, 64, .inl (fun _ => 0)))] H := hP
  have hD : va_D A [(ay, .inr (2, [.null, .null])), (mv, .inl (d, 64, .inl (fun _ => 0)))] := hD
  refine va_putF (D := (dC, dI)) (ci := 2) (v := .ref mv) (ty := .array .int) (C := RX4) (T := TX4) (N := 2) hx hb hts in_X4 tyX4 tyX4_ok nmX4 hown hK hP hD hS 0 rfl rfl 0 (by decide) (hts _ q529) (fun _ h9 => h9) rfl hin rfl (by decide +kernel) rfl rfl (Nat.le_of_ble_eq_true rfl) dX4_init_9 (fun H locs hP hD hS => ?_)
  have hP : va_P (dC, dI) vwCl [(ay, .inr (2, [.ref mv, .null])), (mv, .inl (d, 64, .inl (fun _ => 0)))] H := hP
  have hD : va_D A [(ay, .inr (2, [.ref mv, .null])), (mv, .inl (d, 64, .inl (fun _ => 0)))] := hD
  refine lv_aload_n hx hb dX4_init_12 rfl (lv_at hl 0 rfl) ?_
  refine lv_bipush (v := nI 64) hx hb dX4_init_13 (by decide +kernel) ?_
  refine va_newa (atype := .boolean) (ty := .boolean) (n := nI 64) (N' := 64) (a0 := (64, .inl (fun _ => 0))) hx hb (hts _ q536) rfl hK hP hD hS hA (fun _ => rfl) (by decide +kernel) (by decide +kernel) (by decide +kernel) (Nat.le_of_ble_eq_true rfl) (Nat.le_of_ble_eq_true rfl) dX4_init_15 (fun mi dz H hKx hP hD hS => ?_)
  have hK : va_K (dC, dI) vwCl [(d, .int), (dz, .boolean)] s := hKx
  have hP : va_P (dC, dI) vwCl [(ay, .inr (2, [.ref mv, .null])), (mv, .inl (d, 64, .inl (fun _ => 0))), (mi, .inl (dz, 64, .inl (fun _ => 0)))] H := hP
  have hD : va_D A [(ay, .inr (2, [.ref mv, .null])), (mv, .inl (d, 64, .inl (fun _ => 0))), (mi, .inl (dz, 64, .inl (fun _ => 0)))] := hD
  refine va_putF (D := (dC, dI)) (ci := 2) (v := .ref mi) (ty := .array .boolean) (C := RX4) (T := TX4) (N := 2) hx hb hts in_X4 tyX4 tyX4_ok nmX4 hown hK hP hD hS 0 rfl rfl 1 (by decide) (hts _ q530) (fun _ h9 => h9) rfl hin rfl (by decide +kernel) rfl rfl (Nat.le_of_ble_eq_true rfl) dX4_init_17 (fun H locs hP hD hS => ?_)
  have hP : va_P (dC, dI) vwCl [(ay, .inr (2, [.ref mv, .ref mi])), (mv, .inl (d, 64, .inl (fun _ => 0))), (mi, .inl (dz, 64, .inl (fun _ => 0)))] H := hP
  have hD : va_D A [(ay, .inr (2, [.ref mv, .ref mi])), (mv, .inl (d, 64, .inl (fun _ => 0))), (mi, .inl (dz, 64, .inl (fun _ => 0)))] := hD
  refine lv_iconst (v := nI 0) hx hb dX4_init_20 (by decide +kernel) ?_
  refine lv_istore_n (lv' := [(1, .int (nI 0)), (0, .ref ay)]) hx hb dX4_init_21 rfl hl (by decide) rfl (fun ls hl => ?_)
  refine ini4_loop hx hb hown hts hK ?_ 65 0 _ (by omega) (by omega) (fun j hj => absurd hj (by omega)) H _ hP hD hS ls (lv_sub hl [1, 0] rfl)
  intro fv H locs ls hfv hP hD hS hl
  have hP9 := hP.sub (ws' := [(ay, .inr (2, [.ref mv, .ref mi])), (mv, .inl (d, 64, .inl fv)), (mi, .inl (dz, 64, .inl (fun _ => 0)))]) [0, 1, 2] rfl
  have hD9 := hD.sub (ws' := [(ay, .inr (2, [.ref mv, .ref mi])), (mv, .inl (d, 64, .inl fv)), (mi, .inl (dz, 64, .inl (fun _ => 0)))]) [0, 1, 2] (by decide) rfl
  have hK9 := hK.sub (tys' := [(d, .int), (dz, .boolean)]) [0, 1] rfl
  exact W.vret hx hb hr (fun t ht hW => ⟨⟨(fv, (fun _ => 0)), rfl, ⟨hfv, fun _ _ => rfl⟩, dz, mv, mi, by rw [ht]; exact hP9, va_K.moved hW.alike hK9, hD9⟩, hS.F ht⟩) hS.2.2 dX4_init_41
end
section
theorem DI.out {M : Nat → Prop} {sz : Nat} {hp : Nat → Nat} {fi : Nat → Int32} (h : DI M sz hp fi) (hs : sz ≤ 64) {k : Nat} (hl : fi k < 0) : ¬ M k := by
  intro hM
  obtain ⟨j, hj, -, e⟩ := h.pos hM
  rw [e] at hl
  exact nI_pos (by omega) hl
theorem DI.inn {M : Nat → Prop} {sz : Nat} {hp : Nat → Nat} {fi : Nat → Int32} (h : DI M sz hp fi) {k : Nat} (hk : k < 64) (hl : ¬ fi k < 0) : M k := by
  by_cases hM : M k
  · exact hM
  · exact absurd (by rw [h.2.2.2.2 k hk hM]; decide) hl
theorem x_le0 {x : Int32} (h : ¬ 0 ≤ x) : x < 0 := Int32.not_le.mp h
theorem x_nlt0 {x : Int32} (h : 0 ≤ x) : ¬ x < 0 := Int32.not_lt.mpr h
theorem Good.pop0 {M : Nat → Prop} {sz : Nat} {fv : Nat → Int32} {hp : Nat → Nat} {fi : Nat → Int32} (h0 : sz = 0) (h : DI M (sz + 1) hp fi) : Good (fun j => M j ∧ j ≠ hp 0) sz fv hp (upd fi (hp 0) (-1)) := by
  subst h0
  exact ⟨Nat.zero_le _, h.pop (by decide), HO.zero _ _⟩
set_option maxHeartbeats 4000000 in
set_option maxRecDepth 100000 in
/-- size() -/
theorem metX1_size (l : Launch) (dC : Nat → ClassId) (dI : Nat → Nat → Nat) (d : ClassId) (aq av ah an z : Nat) (fv : Nat → Int32) (hp : Nat → Nat) (fi : Nat → Int32) (sz : Nat) : Met l yX1_size wsX1_size ({ frames := 0, cells := 0, slots := 0, locals := 0 }) (va_Pc [.ref aq] (fun U => U.heap.size = z ∧ va_P (dC, dI) vwCl [(aq, .inr (1, [.ref av, .ref ah, .int (nI sz), .null, .ref an])), (av, .inl (d, 64, .inl fv)), (ah, .inl (d, 64, .inl (hN hp))), (an, .inl (d, 64, .inl fi))] U.heap ∧ va_K (dC, dI) vwCl [(d, .int)] U ∧ va_D (fun _ => True) [(aq, .inr (1, [.ref av, .ref ah, .int (nI sz), .null, .ref an])), (av, .inl (d, 64, .inl fv)), (ah, .inl (d, 64, .inl (hN hp))), (an, .inl (d, 64, .inl fi))])) (va_Qi (fun (r : Int32) (_ : Unit) => r = nI sz) (fun _ => BW4 dC dI d (va_A [(aq, .inr (1, [.ref av, .ref ah, .int (nI sz), .null, .ref an])), (av, .inl (d, 64, .inl fv)), (ah, .inl (d, 64, .inl (hN hp))), (an, .inl (d, 64, .inl fi))] z) aq av ah an fv (sz, hp, fi)) (va_A [(aq, .inr (1, [.ref av, .ref ah, .int (nI sz), .null, .ref an])), (av, .inl (d, 64, .inl fv)), (ah, .inl (d, 64, .inl (hN hp))), (an, .inl (d, 64, .inl fi))] z)) 0 0 (va_A [(aq, .inr (1, [.ref av, .ref ah, .int (nI sz), .null, .ref an])), (av, .inl (d, 64, .inl fv)), (ah, .inl (d, 64, .inl (hN hp))), (an, .inl (d, 64, .inl fi))] z) := by
  refine Met.ofW (cc := cX1_size) (maxL := 1) (ret := (some .int)) (by decide) rfl ?_
  intro p e s m args below meth c s₁ B hml hv
  obtain ⟨rfl, hsz, hP, hK, hD0⟩ := hv
  have hx := B.exec
  have hb := B.bytes
  have hr := B.returns
  have hts := atoms_spec (ws := wsX1_size) B.pre
  have hts : ∀ w ∈ lw_all, w.before _ s = true := fun w h => hts w (List.mem_cons_of_mem _ h)
  have hown : s.vm.findClass RX1 = some m.cls := findClass_of_methodNamed B.named
  have hlocks := B.notSynchronized
  subst hsz
  have hD := hD0.self (sz := s.heap.size)
  generalize hAe : va_A [(aq, .inr (1, [.ref av, .ref ah, .int (nI sz), .null, .ref an])), (av, .inl (d, 64, .inl fv)), (ah, .inl (d, 64, .inl (hN hp))), (an, .inl (d, 64, .inl fi))] s.heap.size = A at hD ⊢
  have hA : ∀ q : Nat, s.heap.size ≤ q → A q := fun q h => by rw [← hAe]; exact Or.inr h
  have hS : va_S A s.heap s.heap [] := va_S.rf
  have hP : va_P (dC, dI) vwCl [(aq, .inr (1, [.ref av, .ref ah, .int (nI sz), .null, .ref an])), (av, .inl (d, 64, .inl fv)), (ah, .inl (d, 64, .inl (hN hp))), (an, .inl (d, 64, .inl fi))] s.heap := hP
  have hl := lv_entry ([.ref aq]) (n := 1) (Nat.le_of_ble_eq_true rfl)
  rw [lg_entry_eq]
  generalize (lg_sl ([.ref aq]) ++ List.replicate (1 - (lg_sl ([.ref aq])).length) Slot.unset).toArray = ls at hl ⊢
  have hl : lv_has ls 1 [(0, .ref aq)] := hl
  refine lv_aload_n hx hb dX1_size_0 rfl (lv_at hl 0 rfl) ?_
  refine va_get (D := (dC, dI)) (ci := 1) (v := .int (nI sz)) (C := RX2) (T := TX2) (N := 5) hx hb hts in_X2 hown hK hP 0 rfl rfl 2 (by decide) (hts _ q58) (fun _ h9 => h9) rfl dX1_size_1 ?_
  have hP9 := hP.sub (ws' := [(aq, .inr (1, [.ref av, .ref ah, .int (nI sz), .null, .ref an])), (av, .inl (d, 64, .inl fv)), (ah, .inl (d, 64, .inl (hN hp))), (an, .inl (d, 64, .inl fi))]) [0, 1, 2, 3] rfl
  have hD9 := hD.sub (ws' := [(aq, .inr (1, [.ref av, .ref ah, .int (nI sz), .null, .ref an])), (av, .inl (d, 64, .inl fv)), (ah, .inl (d, 64, .inl (hN hp))), (an, .inl (d, 64, .inl fi))]) [0, 1, 2, 3] (by decide) rfl
  have hK9 := hK.sub (tys' := [(d, .int)]) [0] rfl
  exact W.iret (v := (nI sz)) hx hb hr (fun t ht hW => ⟨⟨(nI sz), (), rfl, rfl, by rw [ht]; exact hP9, va_K.moved hW.alike hK9, hD9⟩, hS.F ht⟩) hS.2.2 dX1_size_4
set_option maxHeartbeats 4000000 in
set_option maxRecDepth 100000 in
/-- first() -/
theorem metX1_first (l : Launch) (dC : Nat → ClassId) (dI : Nat → Nat → Nat) (d : ClassId) (aq av ah an z : Nat) (fv : Nat → Int32) (hp : Nat → Nat) (fi : Nat → Int32) (sz : Nat) (hs0 : 0 < sz) (hs : sz ≤ 64) (hb0 : hp 0 < 64) : Met l yX1_first wsX1_first ({ frames := 0, cells := 0, slots := 0, locals := 0 }) (va_Pc [.ref aq] (fun U => U.heap.size = z ∧ va_P (dC, dI) vwCl [(aq, .inr (1, [.ref av, .ref ah, .int (nI sz), .null, .ref an])), (av, .inl (d, 64, .inl fv)), (ah, .inl (d, 64, .inl (hN hp))), (an, .inl (d, 64, .inl fi))] U.heap ∧ va_K (dC, dI) vwCl [(d, .int)] U ∧ va_D (fun _ => True) [(aq, .inr (1, [.ref av, .ref ah, .int (nI sz), .null, .ref an])), (av, .inl (d, 64, .inl fv)), (ah, .inl (d, 64, .inl (hN hp))), (an, .inl (d, 64, .inl fi))])) (va_Qi (fun (r : Int32) (_ : Unit) => r = nI (hp 0)) (fun _ => BW4 dC dI d (va_A [(aq, .inr (1, [.ref av, .ref ah, .int (nI sz), .null, .ref an])), (av, .inl (d, 64, .inl fv)), (ah, .inl (d, 64, .inl (hN hp))), (an, .inl (d, 64, .inl fi))] z) aq av ah an fv (sz, hp, fi)) (va_A [(aq, .inr (1, [.ref av, .ref ah, .int (nI sz), .null, .ref an])), (av, .inl (d, 64, .inl fv)), (ah, .inl (d, 64, .inl (hN hp))), (an, .inl (d, 64, .inl fi))] z)) 0 0 (va_A [(aq, .inr (1, [.ref av, .ref ah, .int (nI sz), .null, .ref an])), (av, .inl (d, 64, .inl fv)), (ah, .inl (d, 64, .inl (hN hp))), (an, .inl (d, 64, .inl fi))] z) := by
  refine Met.ofW (cc := cX1_first) (maxL := 1) (ret := (some .int)) (by decide) rfl ?_
  intro p e s m args below meth c s₁ B hml hv
  obtain ⟨rfl, hsz, hP, hK, hD0⟩ := hv
  have hx := B.exec
  have hb := B.bytes
  have hr := B.returns
  have hts := atoms_spec (ws := wsX1_first) B.pre
  have hts : ∀ w ∈ lw_all, w.before _ s = true := fun w h => hts w (List.mem_cons_of_mem _ h)
  have hown : s.vm.findClass RX1 = some m.cls := findClass_of_methodNamed B.named
  have hlocks := B.notSynchronized
  subst hsz
  have hD := hD0.self (sz := s.heap.size)
  generalize hAe : va_A [(aq, .inr (1, [.ref av, .ref ah, .int (nI sz), .null, .ref an])), (av, .inl (d, 64, .inl fv)), (ah, .inl (d, 64, .inl (hN hp))), (an, .inl (d, 64, .inl fi))] s.heap.size = A at hD ⊢
  have hA : ∀ q : Nat, s.heap.size ≤ q → A q := fun q h => by rw [← hAe]; exact Or.inr h
  have hS : va_S A s.heap s.heap [] := va_S.rf
  have hP : va_P (dC, dI) vwCl [(aq, .inr (1, [.ref av, .ref ah, .int (nI sz), .null, .ref an])), (av, .inl (d, 64, .inl fv)), (ah, .inl (d, 64, .inl (hN hp))), (an, .inl (d, 64, .inl fi))] s.heap := hP
  have hl := lv_entry ([.ref aq]) (n := 1) (Nat.le_of_ble_eq_true rfl)
  rw [lg_entry_eq]
  generalize (lg_sl ([.ref aq]) ++ List.replicate (1 - (lg_sl ([.ref aq])).length) Slot.unset).toArray = ls at hl ⊢
  have hl : lv_has ls 1 [(0, .ref aq)] := hl
  refine lv_aload_n hx hb dX1_first_0 rfl (lv_at hl 0 rfl) ?_
  refine va_get (D := (dC, dI)) (ci := 1) (v := .int (nI sz)) (C := RX2) (T := TX2) (N := 5) hx hb hts in_X2 hown hK hP 0 rfl rfl 2 (by decide) (hts _ q58) (fun _ h9 => h9) rfl dX1_first_1 ?_
  refine lv_if_ne (tgt := 15) hx hb dX1_first_4 (by decide) (fun c_1 => ?_) (fun c_1 => ?_)
  · refine lv_aload_n hx hb dX1_first_15 rfl (lv_at hl 0 rfl) ?_
    refine va_get (D := (dC, dI)) (ci := 1) (v := .ref ah) (C := RX2) (T := TX2) (N := 5) hx hb hts in_X2 hown hK hP 0 rfl rfl 1 (by decide) (hts _ q55) (fun _ h9 => h9) rfl dX1_first_16 ?_
    refine lv_iconst (v := nI 0) hx hb dX1_first_19 (by decide +kernel) ?_
    refine xa_ld (v := nI (hp 0)) hx hb hK hP 2 0 rfl rfl 0 rfl (by decide) (by decide) rfl dX1_first_20 ?_
    have hP9 := hP.sub (ws' := [(aq, .inr (1, [.ref av, .ref ah, .int (nI sz), .null, .ref an])), (av, .inl (d, 64, .inl fv)), (ah, .inl (d, 64, .inl (hN hp))), (an, .inl (d, 64, .inl fi))]) [0, 1, 2, 3] rfl
    have hD9 := hD.sub (ws' := [(aq, .inr (1, [.ref av, .ref ah, .int (nI sz), .null, .ref an])), (av, .inl (d, 64, .inl fv)), (ah, .inl (d, 64, .inl (hN hp))), (an, .inl (d, 64, .inl fi))]) [0, 1, 2, 3] (by decide) rfl
    have hK9 := hK.sub (tys' := [(d, .int)]) [0] rfl
    exact W.iret (v := (nI (hp 0))) hx hb hr (fun t ht hW => ⟨⟨(nI (hp 0)), (), rfl, rfl, by rw [ht]; exact hP9, va_K.moved hW.alike hK9, hD9⟩, hS.F ht⟩) hS.2.2 dX1_first_21
  · exact absurd c_1 (nI_ne0 hs0 (by omega))
set_option maxHeartbeats 4000000 in
set_option maxRecDepth 100000 in
/-- contains(k) -/
theorem metX2_contains (l : Launch) (dC : Nat → ClassId) (dI : Nat → Nat → Nat) (d : ClassId) (aq av ah an z : Nat) (fv : Nat → Int32) (hp : Nat → Nat) (fi : Nat → Int32) (sz : Nat) (k : Nat) (M : Nat → Prop) (hI : DI M sz hp fi) (hs : sz ≤ 64) (hk : k < 64) : Met l yX2_contains wsX2_contains ({ frames := 0, cells := 0, slots := 0, locals := 0 }) (va_Pc [.ref aq, .int (nI k)] (fun U => U.heap.size = z ∧ va_P (dC, dI) vwCl [(aq, .inr (1, [.ref av, .ref ah, .int (nI sz), .null, .ref an])), (av, .inl (d, 64, .inl fv)), (ah, .inl (d, 64, .inl (hN hp))), (an, .inl (d, 64, .inl fi))] U.heap ∧ va_K (dC, dI) vwCl [(d, .int)] U ∧ va_D (fun _ => True) [(aq, .inr (1, [.ref av, .ref ah, .int (nI sz), .null, .ref an])), (av, .inl (d, 64, .inl fv)), (ah, .inl (d, 64, .inl (hN hp))), (an, .inl (d, 64, .inl fi))])) (va_Qi (fun (r : Int32) (_ : Unit) => (M k ∧ r = 1) ∨ (¬ M k ∧ r = 0)) (fun _ => BW4 dC dI d (va_A [(aq, .inr (1, [.ref av, .ref ah, .int (nI sz), .null, .ref an])), (av, .inl (d, 64, .inl fv)), (ah, .inl (d, 64, .inl (hN hp))), (an, .inl (d, 64, .inl fi))] z) aq av ah an fv (sz, hp, fi)) (va_A [(aq, .inr (1, [.ref av, .ref ah, .int (nI sz), .null, .ref an])), (av, .inl (d, 64, .inl fv)), (ah, .inl (d, 64, .inl (hN hp))), (an, .inl (d, 64, .inl fi))] z)) 0 0 (va_A [(aq, .inr (1, [.ref av, .ref ah, .int (nI sz), .null, .ref an])), (av, .inl (d, 64, .inl fv)), (ah, .inl (d, 64, .inl (hN hp))), (an, .inl (d, 64, .inl fi))] z) := by
  refine Met.ofW (cc := cX2_contains) (maxL := 2) (ret := (some .boolean)) (by decide) rfl ?_
  intro p e s m args below meth c s₁ B hml hv
  obtain ⟨rfl, hsz, hP, hK, hD0⟩ := hv
  have hx := B.exec
  have hb := B.bytes
  have hr := B.returns
  have hts := atoms_spec (ws := wsX2_contains) B.pre
  have hts : ∀ w ∈ lw_all, w.before _ s = true := fun w h => hts w (List.mem_cons_of_mem _ h)
  have hown : s.vm.findClass RX2 = some m.cls := findClass_of_methodNamed B.named
  have hlocks := B.notSynchronized
  subst hsz
  have hD := hD0.self (sz := s.heap.size)
  generalize hAe : va_A [(aq, .inr (1, [.ref av, .ref ah, .int (nI sz), .null, .ref an])), (av, .inl (d, 64, .inl fv)), (ah, .inl (d, 64, .inl (hN hp))), (an, .inl (d, 64, .inl fi))] s.heap.size = A at hD ⊢
  have hA : ∀ q : Nat, s.heap.size ≤ q → A q := fun q h => by rw [← hAe]; exact Or.inr h
  have hS : va_S A s.heap s.heap [] := va_S.rf
  have hP : va_P (dC, dI) vwCl [(aq, .inr (1, [.ref av, .ref ah, .int (nI sz), .null, .ref an])), (av, .inl (d, 64, .inl fv)), (ah, .inl (d, 64, .inl (hN hp))), (an, .inl (d, 64, .inl fi))] s.heap := hP
  have hl := lv_entry ([.ref aq, .int (nI k)]) (n := 2) (Nat.le_of_ble_eq_true rfl)
  rw [lg_entry_eq]
  generalize (lg_sl ([.ref aq, .int (nI k)]) ++ List.replicate (2 - (lg_sl ([.ref aq, .int (nI k)])).length) Slot.unset).toArray = ls at hl ⊢
  have hl : lv_has ls 2 [(0, .ref aq), (1, .int (nI k))] := hl
  refine lv_aload_n hx hb dX2_contains_0 rfl (lv_at hl 0 rfl) ?_
  refine va_get (D := (dC, dI)) (ci := 1) (v := .ref an) (C := RX2) (T := TX2) (N := 5) hx hb hts in_X2 hown hK hP 0 rfl rfl 4 (by decide) (hts _ q51) (fun _ h9 => h9) rfl dX2_contains_1 ?_
  refine lv_iload_n hx hb dX2_contains_4 rfl (lv_at hl 1 rfl) ?_
  refine xa_ld (v := fi k) hx hb hK hP 3 0 rfl rfl k rfl hk (by decide) rfl dX2_contains_5 ?_
  refine lv_if_lt (tgt := 13) hx hb dX2_contains_6 (by decide) (fun c_1 => ?_) (fun c_1 => ?_)
  · refine lv_iconst (v := 0) hx hb dX2_contains_13 (by decide +kernel) ?_
    have hP9 := hP.sub (ws' := [(aq, .inr (1, [.ref av, .ref ah, .int (nI sz), .null, .ref an])), (av, .inl (d, 64, .inl fv)), (ah, .inl (d, 64, .inl (hN hp))), (an, .inl (d, 64, .inl fi))]) [0, 1, 2, 3] rfl
    have hD9 := hD.sub (ws' := [(aq, .inr (1, [.ref av, .ref ah, .int (nI sz), .null, .ref an])), (av, .inl (d, 64, .inl fv)), (ah, .inl (d, 64, .inl (hN hp))), (an, .inl (d, 64, .inl fi))]) [0, 1, 2, 3] (by decide) rfl
    have hK9 := hK.sub (tys' := [(d, .int)]) [0] rfl
    exact W.zret (v := 0) hx hb hr rfl (fun t ht hW => ⟨⟨0, (), rfl, Or.inr ⟨hI.out hs c_1, rfl⟩, by rw [ht]; exact hP9, va_K.moved hW.alike hK9, hD9⟩, hS.F ht⟩) hS.2.2 dX2_contains_14
  · refine lv_iconst (v := 1) hx hb dX2_contains_9 (by decide +kernel) ?_
    refine lv_goto (tgt := 14) hx hb dX2_contains_10 (by decide) ?_
    have hP9 := hP.sub (ws' := [(aq, .inr (1, [.ref av, .ref ah, .int (nI sz), .null, .ref an])), (av, .inl (d, 64, .inl fv)), (ah, .inl (d, 64, .inl (hN hp))), (an, .inl (d, 64, .inl fi))]) [0, 1, 2, 3] rfl
    have hD9 := hD.sub (ws' := [(aq, .inr (1, [.ref av, .ref ah, .int (nI sz), .null, .ref an])), (av, .inl (d, 64, .inl fv)), (ah, .inl (d, 64, .inl (hN hp))), (an, .inl (d, 64, .inl fi))]) [0, 1, 2, 3] (by decide) rfl
    have hK9 := hK.sub (tys' := [(d, .int)]) [0] rfl
    exact W.zret (v := 1) hx hb hr rfl (fun t ht hW => ⟨⟨1, (), rfl, Or.inl ⟨hI.inn hk c_1, rfl⟩, by rw [ht]; exact hP9, va_K.moved hW.alike hK9, hD9⟩, hS.F ht⟩) hS.2.2 dX2_contains_14
set_option maxHeartbeats 4000000 in
set_option maxRecDepth 100000 in
/-- changed(k) -/
theorem metX2_changed (l : Launch) (dC : Nat → ClassId) (dI : Nat → Nat → Nat) (d : ClassId) (aq av ah an z : Nat) (fv : Nat → Int32) (hp : Nat → Nat) (fi : Nat → Int32) (sz : Nat) (k : Nat) (M : Nat → Prop) (fv0 : Nat → Int32) (hI : DI M sz hp fi) (hs : sz ≤ 64) (hM : M k) (hO : HO fv0 sz 0 hp) (hv : ∀ j, j ≠ k → fv j = fv0 j) : Met l yX2_changed wsX2_changed ({ frames := 1, cells := 0, slots := 0, locals := 30 }) (va_Pc [.ref aq, .int (nI k)] (fun U => U.heap.size = z ∧ va_P (dC, dI) vwCl [(aq, .inr (1, [.ref av, .ref ah, .int (nI sz), .null, .ref an])), (av, .inl (d, 64, .inl fv)), (ah, .inl (d, 64, .inl (hN hp))), (an, .inl (d, 64, .inl fi))] U.heap ∧ va_K (dC, dI) vwCl [(d, .int)] U ∧ va_D (fun _ => True) [(aq, .inr (1, [.ref av, .ref ah, .int (nI sz), .null, .ref an])), (av, .inl (d, 64, .inl fv)), (ah, .inl (d, 64, .inl (hN hp))), (an, .inl (d, 64, .inl fi))])) (va_Qv (fun u : Nat × (Nat → Nat) × (Nat → Int32) => u.1 = sz ∧ Good M u.1 fv u.2.1 u.2.2) (BW4 dC dI d (va_A [(aq, .inr (1, [.ref av, .ref ah, .int (nI sz), .null, .ref an])), (av, .inl (d, 64, .inl fv)), (ah, .inl (d, 64, .inl (hN hp))), (an, .inl (d, 64, .inl fi))] z) aq av ah an fv) (va_A [(aq, .inr (1, [.ref av, .ref ah, .int (nI sz), .null, .ref an])), (av, .inl (d, 64, .inl fv)), (ah, .inl (d, 64, .inl (hN hp))), (an, .inl (d, 64, .inl fi))] z)) 0 0 (va_A [(aq, .inr (1, [.ref av, .ref ah, .int (nI sz), .null, .ref an])), (av, .inl (d, 64, .inl fv)), (ah, .inl (d, 64, .inl (hN hp))), (an, .inl (d, 64, .inl fi))] z) := by
  refine Met.ofW (cc := cX2_changed) (maxL := 4) (ret := none) (by decide) rfl ?_
  intro p e s m args below meth c s₁ B hml hv
  obtain ⟨rfl, hsz, hP, hK, hD0⟩ := hv
  have hx := B.exec
  have hb := B.bytes
  have hr := B.returns
  have hts := atoms_spec (ws := wsX2_changed) B.pre
  have hts : ∀ w ∈ lw_all, w.before _ s = true := fun w h => hts w (List.mem_cons_of_mem _ h)
  have hown : s.vm.findClass RX2 = some m.cls := findClass_of_methodNamed B.named
  have hlocks := B.notSynchronized
  subst hsz
  have hD := hD0.self (sz := s.heap.size)
  generalize hAe : va_A [(aq, .inr (1, [.ref av, .ref ah, .int (nI sz), .null, .ref an])), (av, .inl (d, 64, .inl fv)), (ah, .inl (d, 64, .inl (hN hp))), (an, .inl (d, 64, .inl fi))] s.heap.size = A at hD ⊢
  have hA : ∀ q : Nat, s.heap.size ≤ q → A q := fun q h => by rw [← hAe]; exact Or.inr h
  have hS : va_S A s.heap s.heap [] := va_S.rf
  have hP : va_P (dC, dI) vwCl [(aq, .inr (1, [.ref av, .ref ah, .int (nI sz), .null, .ref an])), (av, .inl (d, 64, .inl fv)), (ah, .inl (d, 64, .inl (hN hp))), (an, .inl (d, 64, .inl fi))] s.heap := hP
  have hl := lv_entry ([.ref aq, .int (nI k)]) (n := 4) (Nat.le_of_ble_eq_true rfl)
  rw [lg_entry_eq]
  generalize (lg_sl ([.ref aq, .int (nI k)]) ++ List.replicate (4 - (lg_sl ([.ref aq, .int (nI k)])).length) Slot.unset).toArray = ls at hl ⊢
  have hl : lv_has ls 4 [(0, .ref aq), (1, .int (nI k))] := hl
  have hk : k < 64 := hI.lt hM
  obtain ⟨i, hi, hpi, hfi⟩ := hI.pos hM
  refine lv_aload_n hx hb dX2_changed_0 rfl (lv_at hl 0 rfl) ?_
  refine va_get (D := (dC, dI)) (ci := 1) (v := .ref an) (C := RX2) (T := TX2) (N := 5) hx hb hts in_X2 hown hK hP 0 rfl rfl 4 (by decide) (hts _ q51) (fun _ h9 => h9) rfl dX2_changed_1 ?_
  refine lv_iload_n hx hb dX2_changed_4 rfl (lv_at hl 1 rfl) ?_
  refine xa_ld (v := nI i) hx hb hK hP 3 0 rfl rfl k rfl hk (by decide) hfi dX2_changed_5 ?_
  refine lv_istore_n (lv' := [(2, .int (nI i)), (0, .ref aq), (1, .int (nI k))]) hx hb dX2_changed_6 rfl hl (by decide) rfl (fun ls hl => ?_)
  refine lv_iload_n hx hb dX2_changed_7 rfl (lv_at hl 0 rfl) ?_
  refine lv_if_ge (tgt := 43) hx hb dX2_changed_8 (by decide) (fun c_1 => ?_) (fun c_1 => ?_)
  · refine lv_aload_n hx hb dX2_changed_43 rfl (lv_at hl 1 rfl) ?_
    refine va_get (D := (dC, dI)) (ci := 1) (v := .ref av) (C := RX2) (T := TX2) (N := 5) hx hb hts in_X2 hown hK hP 0 rfl rfl 0 (by decide) (hts _ q53) (u_same (hts _ q54)) rfl dX2_changed_44 ?_
    refine lv_aload_n hx hb dX2_changed_47 rfl (lv_at hl 1 rfl) ?_
    refine va_get (D := (dC, dI)) (ci := 1) (v := .ref ah) (C := RX2) (T := TX2) (N := 5) hx hb hts in_X2 hown hK hP 0 rfl rfl 1 (by decide) (hts _ q56) (u_same (hts _ q57)) rfl dX2_changed_48 ?_
    refine lv_aload_n hx hb dX2_changed_51 rfl (lv_at hl 1 rfl) ?_
    refine va_get (D := (dC, dI)) (ci := 1) (v := .ref an) (C := RX2) (T := TX2) (N := 5) hx hb hts in_X2 hown hK hP 0 rfl rfl 4 (by decide) (hts _ q51) (fun _ h9 => h9) rfl dX2_changed_52 ?_
    refine lv_aload_n hx hb dX2_changed_55 rfl (lv_at hl 1 rfl) ?_
    refine va_get (D := (dC, dI)) (ci := 1) (v := .int (nI sz)) (C := RX2) (T := TX2) (N := 5) hx hb hts in_X2 hown hK hP 0 rfl rfl 2 (by decide) (hts _ q59) (u_same (hts _ q60)) rfl dX2_changed_56 ?_
    refine lv_iload_n hx hb dX2_changed_59 rfl (lv_at hl 0 rfl) ?_
    refine lv_aload_n hx hb dX2_changed_60 rfl (lv_at hl 1 rfl) ?_
    refine va_get (D := (dC, dI)) (ci := 1) (v := .null) (C := RX2) (T := TX2) (N := 5) hx hb hts in_X2 hown hK hP 0 rfl rfl 3 (by decide) (hts _ q62) (u_same (hts _ q63)) rfl dX2_changed_61 ?_
    have hPc := hP.sub (ws' := [(av, .inl (d, 64, .inl fv)), (ah, .inl (d, 64, .inl (hN hp))), (an, .inl (d, 64, .inl fi))]) [1, 2, 3] rfl
    have hDc := hD.sub (ws' := [(av, .inl (d, 64, .inl fv)), (ah, .inl (d, 64, .inl (hN hp))), (an, .inl (d, 64, .inl fi))]) [1, 2, 3] (by decide) rfl
    have hKc := hK.sub (tys' := [(d, .int)]) [0] rfl
    have hFc := va_free (wc := [(av, .inl (d, 64, .inl fv)), (ah, .inl (d, 64, .inl (hN hp))), (an, .inl (d, 64, .inl fi))]) hD hS hA [1, 2, 3] rfl
    refine va_calli (va_runS (As := [.ref av, .ref ah, .ref an, .int (nI sz), .int (nI i), .null]) (rest := []) ⟨hx, hb, hml, hown, hts⟩ (metX5_upHeap l dC dI d av ah an s.heap.size fv hp fi sz i M hI (HO.key hO hI hs hi (by rw [hpi]; exact hv)) hi hs) (va_cwS 6 hts (lw_S q399 q400 q24 q401) rfl rfl rfl (by decide +kernel) ⟨Nat.le_of_ble_eq_true rfl, Nat.le_of_ble_eq_true rfl⟩) ⟨fun a U g mk q => by obtain ⟨q0, q1, qP, qK, qD⟩ := q; exact ⟨q0, q1, qP, va_K.moved (u := U) (U := U.calling g mk a) (Vm.Alike.refl U.vm) qK, qD⟩, fun U hU hW => ⟨rfl, by rw [hU], by rw [hU]; exact hPc, va_K.moved hW.alike hKc, hDc.weaken (fun _ _ _ _ => trivial)⟩⟩ rfl rfl hl.1 rfl (lv_room (Nat.le_of_ble_eq_true rfl)) dX2_changed_64 ⟨Nat.le_of_ble_eq_true rfl, Nat.le_of_ble_eq_true rfl⟩) hS (fun q _ h => hFc q h) hFc (fun r_1 u t H1 locs ht hvm hw hB hz1 hk1 hS => ?_)
    obtain ⟨hp1, fi1⟩ := u
    obtain ⟨k1, er1, hks1, hI1, hU1⟩ := hw
    dsimp only at hI1 hU1
    obtain ⟨hP1, hK1, hD1⟩ := hB
    rw [ht] at hP1
    have hK1 := va_K.moved hvm.symm hK1
    obtain ⟨hP, hD⟩ := va_join (wr := [(aq, .inr (1, [.ref av, .ref ah, .int (nI sz), .null, .ref an]))]) (w1 := [(av, .inl (d, 64, .inl fv)), (ah, .inl (d, 64, .inl (hN hp1))), (an, .inl (d, 64, .inl fi1))]) hP hD [1, 2, 3] [0] rfl rfl (by decide) (by decide) hk1 hFc hP1 hD1
    generalize H1 = H at hP hS ⊢
    have hP : va_P (dC, dI) vwCl [(aq, .inr (1, [.ref av, .ref ah, .int (nI sz), .null, .ref an])), (av, .inl (d, 64, .inl fv)), (ah, .inl (d, 64, .inl (hN hp1))), (an, .inl (d, 64, .inl fi1))] H := hP
    have hD : va_D A [(aq, .inr (1, [.ref av, .ref ah, .int (nI sz), .null, .ref an])), (av, .inl (d, 64, .inl fv)), (ah, .inl (d, 64, .inl (hN hp1))), (an, .inl (d, 64, .inl fi1))] := hD
    subst er1
    refine lv_istore_n (lv' := [(3, .int (nI k1)), (2, .int (nI i)), (0, .ref aq), (1, .int (nI k))]) hx hb dX2_changed_67 rfl hl (by decide) rfl (fun ls hl => ?_)
    refine lv_aload_n hx hb dX2_changed_68 rfl (lv_at hl 2 rfl) ?_
    refine va_get (D := (dC, dI)) (ci := 1) (v := .ref av) (C := RX2) (T := TX2) (N := 5) hx hb hts in_X2 hown hK hP 0 rfl rfl 0 (by decide) (hts _ q53) (u_same (hts _ q54)) rfl dX2_changed_69 ?_
    refine lv_aload_n hx hb dX2_changed_72 rfl (lv_at hl 2 rfl) ?_
    refine va_get (D := (dC, dI)) (ci := 1) (v := .ref ah) (C := RX2) (T := TX2) (N := 5) hx hb hts in_X2 hown hK hP 0 rfl rfl 1 (by decide) (hts _ q56) (u_same (hts _ q57)) rfl dX2_changed_73 ?_
    refine lv_aload_n hx hb dX2_changed_76 rfl (lv_at hl 2 rfl) ?_
    refine va_get (D := (dC, dI)) (ci := 1) (v := .ref an) (C := RX2) (T := TX2) (N := 5) hx hb hts in_X2 hown hK hP 0 rfl rfl 4 (by decide) (hts _ q51) (fun _ h9 => h9) rfl dX2_changed_77 ?_
    refine lv_aload_n hx hb dX2_changed_80 rfl (lv_at hl 2 rfl) ?_
    refine va_get (D := (dC, dI)) (ci := 1) (v := .int (nI sz)) (C := RX2) (T := TX2) (N := 5) hx hb hts in_X2 hown hK hP 0 rfl rfl 2 (by decide) (hts _ q59) (u_same (hts _ q60)) rfl dX2_changed_81 ?_
    refine lv_iload_n hx hb dX2_changed_84 rfl (lv_at hl 0 rfl) ?_
    refine lv_aload_n hx hb dX2_changed_85 rfl (lv_at hl 2 rfl) ?_
    refine va_get (D := (dC, dI)) (ci := 1) (v := .null) (C := RX2) (T := TX2) (N := 5) hx hb hts in_X2 hown hK hP 0 rfl rfl 3 (by decide) (hts _ q62) (u_same (hts _ q63)) rfl dX2_changed_86 ?_
    have hPc := hP.sub (ws' := [(av, .inl (d, 64, .inl fv)), (ah, .inl (d, 64, .inl (hN hp1))), (an, .inl (d, 64, .inl fi1))]) [1, 2, 3] rfl
    have hDc := hD.sub (ws' := [(av, .inl (d, 64, .inl fv)), (ah, .inl (d, 64, .inl (hN hp1))), (an, .inl (d, 64, .inl fi1))]) [1, 2, 3] (by decide) rfl
    have hKc := hK.sub (tys' := [(d, .int)]) [0] rfl
    have hFc := va_free (wc := [(av, .inl (d, 64, .inl fv)), (ah, .inl (d, 64, .inl (hN hp1))), (an, .inl (d, 64, .inl fi1))]) hD hS hA [1, 2, 3] rfl
    refine va_calli (va_runS (As := [.ref av, .ref ah, .ref an, .int (nI sz), .int (nI k1), .null]) (rest := []) ⟨hx, hb, hml, hown, hts⟩ (metX5_downHeap l dC dI d av ah an H.size fv hp1 fi1 sz k1 0 M hI1 hU1.down hks1 hs) (va_cwS 6 hts (lw_S q402 q403 q24 q404) rfl rfl rfl (by decide +kernel) ⟨Nat.le_of_ble_eq_true rfl, Nat.le_of_ble_eq_true rfl⟩) ⟨fun a U g mk q => by obtain ⟨q0, q1, qP, qK, qD⟩ := q; exact ⟨q0, q1, qP, va_K.moved (u := U) (U := U.calling g mk a) (Vm.Alike.refl U.vm) qK, qD⟩, fun U hU hW => ⟨rfl, by rw [hU], by rw [hU]; exact hPc, va_K.moved hW.alike hKc, hDc.weaken (fun _ _ _ _ => trivial)⟩⟩ rfl rfl hl.1 rfl (lv_room (Nat.le_of_ble_eq_true rfl)) dX2_changed_89 ⟨Nat.le_of_ble_eq_true rfl, Nat.le_of_ble_eq_true rfl⟩) hS (fun q _ h => hFc q h) hFc (fun r_2 u t H1 locs ht hvm hw hB hz1 hk1 hS => ?_)
    obtain ⟨hp2, fi2⟩ := u
    obtain ⟨hI2, hO2⟩ := hw
    dsimp only at hI2 hO2
    obtain ⟨hP1, hK1, hD1⟩ := hB
    rw [ht] at hP1
    have hK1 := va_K.moved hvm.symm hK1
    obtain ⟨hP, hD⟩ := va_join (wr := [(aq, .inr (1, [.ref av, .ref ah, .int (nI sz), .null, .ref an]))]) (w1 := [(av, .inl (d, 64, .inl fv)), (ah, .inl (d, 64, .inl (hN hp2))), (an, .inl (d, 64, .inl fi2))]) hP hD [1, 2, 3] [0] rfl rfl (by decide) (by decide) hk1 hFc hP1 hD1
    generalize H1 = H at hP hS ⊢
    have hP : va_P (dC, dI) vwCl [(aq, .inr (1, [.ref av, .ref ah, .int (nI sz), .null, .ref an])), (av, .inl (d, 64, .inl fv)), (ah, .inl (d, 64, .inl (hN hp2))), (an, .inl (d, 64, .inl fi2))] H := hP
    have hD : va_D A [(aq, .inr (1, [.ref av, .ref ah, .int (nI sz), .null, .ref an])), (av, .inl (d, 64, .inl fv)), (ah, .inl (d, 64, .inl (hN hp2))), (an, .inl (d, 64, .inl fi2))] := hD
    refine lv_pop hx hb dX2_changed_92 rfl ?_
    have hP9 := hP.sub (ws' := [(aq, .inr (1, [.ref av, .ref ah, .int (nI sz), .null, .ref an])), (av, .inl (d, 64, .inl fv)), (ah, .inl (d, 64, .inl (hN hp2))), (an, .inl (d, 64, .inl fi2))]) [0, 1, 2, 3] rfl
    have hD9 := hD.sub (ws' := [(aq, .inr (1, [.ref av, .ref ah, .int (nI sz), .null, .ref an])), (av, .inl (d, 64, .inl fv)), (ah, .inl (d, 64, .inl (hN hp2))), (an, .inl (d, 64, .inl fi2))]) [0, 1, 2, 3] (by decide) rfl
    have hK9 := hK.sub (tys' := [(d, .int)]) [0] rfl
    exact W.vret hx hb hr (fun t ht hW => ⟨⟨(sz, hp2, fi2), rfl, ⟨rfl, hs, hI2, hO2⟩, by rw [ht]; exact hP9, va_K.moved hW.alike hK9, hD9⟩, hS.F ht⟩) hS.2.2 dX2_changed_93
  · exact absurd (nI_pos' (by omega)) c_1
set_option maxHeartbeats 4000000 in
set_option maxRecDepth 100000 in
/-- enqueue(k) -/
theorem metX2_enqueue (l : Launch) (dC : Nat → ClassId) (dI : Nat → Nat → Nat) (d : ClassId) (aq av ah an z : Nat) (fv : Nat → Int32) (hp : Nat → Nat) (fi : Nat → Int32) (sz : Nat) (k : Nat) (M : Nat → Prop) (hI : DI M sz hp fi) (hs : sz < 64) (hM : ¬ M k) (hk : k < 64) (hO : HO fv sz 0 hp) : Met l yX2_enqueue wsX2_enqueue ({ frames := 1, cells := 0, slots := 0, locals := 30 }) (va_Pc [.ref aq, .int (nI k)] (fun U => U.heap.size = z ∧ va_P (dC, dI) vwCl [(aq, .inr (1, [.ref av, .ref ah, .int (nI sz), .null, .ref an])), (av, .inl (d, 64, .inl fv)), (ah, .inl (d, 64, .inl (hN hp))), (an, .inl (d, 64, .inl fi))] U.heap ∧ va_K (dC, dI) vwCl [(d, .int)] U ∧ va_D (fun _ => True) [(aq, .inr (1, [.ref av, .ref ah, .int (nI sz), .null, .ref an])), (av, .inl (d, 64, .inl fv)), (ah, .inl (d, 64, .inl (hN hp))), (an, .inl (d, 64, .inl fi))])) (va_Qv (fun u : Nat × (Nat → Nat) × (Nat → Int32) => u.1 = sz + 1 ∧ Good (fun j => M j ∨ j = k) u.1 fv u.2.1 u.2.2) (BW4 dC dI d (va_A [(aq, .inr (1, [.ref av, .ref ah, .int (nI sz), .null, .ref an])), (av, .inl (d, 64, .inl fv)), (ah, .inl (d, 64, .inl (hN hp))), (an, .inl (d, 64, .inl fi))] z) aq av ah an fv) (va_A [(aq, .inr (1, [.ref av, .ref ah, .int (nI sz), .null, .ref an])), (av, .inl (d, 64, .inl fv)), (ah, .inl (d, 64, .inl (hN hp))), (an, .inl (d, 64, .inl fi))] z)) 0 0 (va_A [(aq, .inr (1, [.ref av, .ref ah, .int (nI sz), .null, .ref an])), (av, .inl (d, 64, .inl fv)), (ah, .inl (d, 64, .inl (hN hp))), (an, .inl (d, 64, .inl fi))] z) := by
  refine Met.ofW (cc := cX2_enqueue) (maxL := 2) (ret := none) (by decide) rfl ?_
  intro p e s m args below meth c s₁ B hml hv
  obtain ⟨rfl, hsz, hP, hK, hD0⟩ := hv
  have hx := B.exec
  have hb := B.bytes
  have hr := B.returns
  have hts := atoms_spec (ws := wsX2_enqueue) B.pre
  have hts : ∀ w ∈ lw_all, w.before _ s = true := fun w h => hts w (List.mem_cons_of_mem _ h)
  have hown : s.vm.findClass RX2 = some m.cls := findClass_of_methodNamed B.named
  have hlocks := B.notSynchronized
  subst hsz
  have hD := hD0.self (sz := s.heap.size)
  generalize hAe : va_A [(aq, .inr (1, [.ref av, .ref ah, .int (nI sz), .null, .ref an])), (av, .inl (d, 64, .inl fv)), (ah, .inl (d, 64, .inl (hN hp))), (an, .inl (d, 64, .inl fi))] s.heap.size = A at hD ⊢
  have hA : ∀ q : Nat, s.heap.size ≤ q → A q := fun q h => by rw [← hAe]; exact Or.inr h
  have hS : va_S A s.heap s.heap [] := va_S.rf
  have hP : va_P (dC, dI) vwCl [(aq, .inr (1, [.ref av, .ref ah, .int (nI sz), .null, .ref an])), (av, .inl (d, 64, .inl fv)), (ah, .inl (d, 64, .inl (hN hp))), (an, .inl (d, 64, .inl fi))] s.heap := hP
  have hl := lv_entry ([.ref aq, .int (nI k)]) (n := 2) (Nat.le_of_ble_eq_true rfl)
  rw [lg_entry_eq]
  generalize (lg_sl ([.ref aq, .int (nI k)]) ++ List.replicate (2 - (lg_sl ([.ref aq, .int (nI k)])).length) Slot.unset).toArray = ls at hl ⊢
  have hl : lv_has ls 2 [(0, .ref aq), (1, .int (nI k))] := hl
  refine lv_aload_n hx hb dX2_enqueue_0 rfl (lv_at hl 0 rfl) ?_
  refine va_get (D := (dC, dI)) (ci := 1) (v := .ref an) (C := RX2) (T := TX2) (N := 5) hx hb hts in_X2 hown hK hP 0 rfl rfl 4 (by decide) (hts _ q51) (fun _ h9 => h9) rfl dX2_enqueue_1 ?_
  refine lv_iload_n hx hb dX2_enqueue_4 rfl (lv_at hl 1 rfl) ?_
  refine xa_ld (v := fi k) hx hb hK hP 3 0 rfl rfl k rfl hk (by decide) rfl dX2_enqueue_5 ?_
  refine lv_if_lt (tgt := 41) hx hb dX2_enqueue_6 (by decide) (fun c_1 => ?_) (fun c_1 => ?_)
  · refine lv_aload_n hx hb dX2_enqueue_41 rfl (lv_at hl 0 rfl) ?_
    refine va_get (D := (dC, dI)) (ci := 1) (v := .int (nI sz)) (C := RX2) (T := TX2) (N := 5) hx hb hts in_X2 hown hK hP 0 rfl rfl 2 (by decide) (hts _ q59) (u_same (hts _ q60)) rfl dX2_enqueue_42 ?_
    refine lv_aload_n hx hb dX2_enqueue_45 rfl (lv_at hl 0 rfl) ?_
    refine va_get (D := (dC, dI)) (ci := 1) (v := .ref ah) (C := RX2) (T := TX2) (N := 5) hx hb hts in_X2 hown hK hP 0 rfl rfl 1 (by decide) (hts _ q56) (u_same (hts _ q57)) rfl dX2_enqueue_46 ?_
    refine va_alen (v := nI 64) hx hb hK hP 2 0 rfl rfl rfl dX2_enqueue_49 ?_
    refine lv_icmp_ne (tgt := 70) hx hb dX2_enqueue_50 (by decide) (fun c_2 => ?_) (fun c_2 => ?_)
    · refine lv_aload_n hx hb dX2_enqueue_70 rfl (lv_at hl 0 rfl) ?_
      refine va_get (D := (dC, dI)) (ci := 1) (v := .ref an) (C := RX2) (T := TX2) (N := 5) hx hb hts in_X2 hown hK hP 0 rfl rfl 4 (by decide) (hts _ q51) (fun _ h9 => h9) rfl dX2_enqueue_71 ?_
      refine lv_aload_n hx hb dX2_enqueue_74 rfl (lv_at hl 0 rfl) ?_
      refine va_get (D := (dC, dI)) (ci := 1) (v := .ref ah) (C := RX2) (T := TX2) (N := 5) hx hb hts in_X2 hown hK hP 0 rfl rfl 1 (by decide) (hts _ q56) (u_same (hts _ q57)) rfl dX2_enqueue_75 ?_
      refine lv_aload_n hx hb dX2_enqueue_78 rfl (lv_at hl 0 rfl) ?_
      refine va_get (D := (dC, dI)) (ci := 1) (v := .int (nI sz)) (C := RX2) (T := TX2) (N := 5) hx hb hts in_X2 hown hK hP 0 rfl rfl 2 (by decide) (hts _ q59) (u_same (hts _ q60)) rfl dX2_enqueue_79 ?_
      refine lv_iload_n hx hb dX2_enqueue_82 rfl (lv_at hl 1 rfl) ?_
      refine lv_dup_x2 hx hb dX2_enqueue_83 rfl rfl rfl ?_
      refine xa_st hx hb hK hP hD hS 2 0 rfl rfl sz rfl hs (by decide) (hN (va_up hp sz k)) (hN_up _ _ _) dX2_enqueue_84 (fun H locs hP hD hS => ?_)
      have hP : va_P (dC, dI) vwCl [(aq, .inr (1, [.ref av, .ref ah, .int (nI sz), .null, .ref an])), (av, .inl (d, 64, .inl fv)), (ah, .inl (d, 64, .inl (hN (va_up hp sz k)))), (an, .inl (d, 64, .inl fi))] H := hP
      have hD : va_D A [(aq, .inr (1, [.ref av, .ref ah, .int (nI sz), .null, .ref an])), (av, .inl (d, 64, .inl fv)), (ah, .inl (d, 64, .inl (hN (va_up hp sz k)))), (an, .inl (d, 64, .inl fi))] := hD
      refine lv_aload_n hx hb dX2_enqueue_85 rfl (lv_at hl 0 rfl) ?_
      refine lv_dup hx hb dX2_enqueue_86 rfl ?_
      refine va_get (D := (dC, dI)) (ci := 1) (v := .int (nI sz)) (C := RX2) (T := TX2) (N := 5) hx hb hts in_X2 hown hK hP 0 rfl rfl 2 (by decide) (hts _ q59) (u_same (hts _ q60)) rfl dX2_enqueue_87 ?_
      refine lv_dup_x1 hx hb dX2_enqueue_90 rfl rfl ?_
      refine lv_iconst (v := 1) hx hb dX2_enqueue_91 (by decide +kernel) ?_
      refine xi_add hx hb (nI (sz + 1)) (x_inc _) dX2_enqueue_92 ?_
      refine va_put (D := (dC, dI)) (ci := 1) (v := .int (nI (sz + 1))) (ty := .int) (C := RX2) (T := TX2) (N := 5) hx hb hts in_X2 tyX2 tyX2_ok nmX2 hown hK hP hD hS 0 rfl rfl 2 (by decide) (hts _ q59) (u_same (hts _ q60)) rfl (by decide +kernel) rfl rfl (Nat.le_of_ble_eq_true rfl) dX2_enqueue_93 (fun H locs hP hD hS => ?_)
      have hP : va_P (dC, dI) vwCl [(aq, .inr (1, [.ref av, .ref ah, .int (nI (sz + 1)), .null, .ref an])), (av, .inl (d, 64, .inl fv)), (ah, .inl (d, 64, .inl (hN (va_up hp sz k)))), (an, .inl (d, 64, .inl fi))] H := hP
      have hD : va_D A [(aq, .inr (1, [.ref av, .ref ah, .int (nI (sz + 1)), .null, .ref an])), (av, .inl (d, 64, .inl fv)), (ah, .inl (d, 64, .inl (hN (va_up hp sz k)))), (an, .inl (d, 64, .inl fi))] := hD
      refine xa_st hx hb hK hP hD hS 3 0 rfl rfl k rfl hk (by decide) (upd fi k (nI sz)) rfl dX2_enqueue_96 (fun H locs hP hD hS => ?_)
      have hP : va_P (dC, dI) vwCl [(aq, .inr (1, [.ref av, .ref ah, .int (nI (sz + 1)), .null, .ref an])), (av, .inl (d, 64, .inl fv)), (ah, .inl (d, 64, .inl (hN (va_up hp sz k)))), (an, .inl (d, 64, .inl (upd fi k (nI sz))))] H := hP
      have hD : va_D A [(aq, .inr (1, [.ref av, .ref ah, .int (nI (sz + 1)), .null, .ref an])), (av, .inl (d, 64, .inl fv)), (ah, .inl (d, 64, .inl (hN (va_up hp sz k)))), (an, .inl (d, 64, .inl (upd fi k (nI sz))))] := hD
      refine lv_aload_n hx hb dX2_enqueue_97 rfl (lv_at hl 0 rfl) ?_
      refine va_get (D := (dC, dI)) (ci := 1) (v := .ref av) (C := RX2) (T := TX2) (N := 5) hx hb hts in_X2 hown hK hP 0 rfl rfl 0 (by decide) (hts _ q53) (u_same (hts _ q54)) rfl dX2_enqueue_98 ?_
      refine lv_aload_n hx hb dX2_enqueue_101 rfl (lv_at hl 0 rfl) ?_
      refine va_get (D := (dC, dI)) (ci := 1) (v := .ref ah) (C := RX2) (T := TX2) (N := 5) hx hb hts in_X2 hown hK hP 0 rfl rfl 1 (by decide) (hts _ q56) (u_same (hts _ q57)) rfl dX2_enqueue_102 ?_
      refine lv_aload_n hx hb dX2_enqueue_105 rfl (lv_at hl 0 rfl) ?_
      refine va_get (D := (dC, dI)) (ci := 1) (v := .ref an) (C := RX2) (T := TX2) (N := 5) hx hb hts in_X2 hown hK hP 0 rfl rfl 4 (by decide) (hts _ q51) (fun _ h9 => h9) rfl dX2_enqueue_106 ?_
      refine lv_aload_n hx hb dX2_enqueue_109 rfl (lv_at hl 0 rfl) ?_
      refine va_get (D := (dC, dI)) (ci := 1) (v := .int (nI (sz + 1))) (C := RX2) (T := TX2) (N := 5) hx hb hts in_X2 hown hK hP 0 rfl rfl 2 (by decide) (hts _ q59) (u_same (hts _ q60)) rfl dX2_enqueue_110 ?_
      refine lv_aload_n hx hb dX2_enqueue_113 rfl (lv_at hl 0 rfl) ?_
      refine va_get (D := (dC, dI)) (ci := 1) (v := .int (nI (sz + 1))) (C := RX2) (T := TX2) (N := 5) hx hb hts in_X2 hown hK hP 0 rfl rfl 2 (by decide) (hts _ q59) (u_same (hts _ q60)) rfl dX2_enqueue_114 ?_
      refine lv_iconst (v := 1) hx hb dX2_enqueue_117 (by decide +kernel) ?_
      refine xi_sub hx hb (nI sz) (nI_pred sz) dX2_enqueue_118 ?_
      refine lv_aload_n hx hb dX2_enqueue_119 rfl (lv_at hl 0 rfl) ?_
      refine va_get (D := (dC, dI)) (ci := 1) (v := .null) (C := RX2) (T := TX2) (N := 5) hx hb hts in_X2 hown hK hP 0 rfl rfl 3 (by decide) (hts _ q62) (u_same (hts _ q63)) rfl dX2_enqueue_120 ?_
      have hPc := hP.sub (ws' := [(av, .inl (d, 64, .inl fv)), (ah, .inl (d, 64, .inl (hN (va_up hp sz k)))), (an, .inl (d, 64, .inl (upd fi k (nI sz))))]) [1, 2, 3] rfl
      have hDc := hD.sub (ws' := [(av, .inl (d, 64, .inl fv)), (ah, .inl (d, 64, .inl (hN (va_up hp sz k)))), (an, .inl (d, 64, .inl (upd fi k (nI sz))))]) [1, 2, 3] (by decide) rfl
      have hKc := hK.sub (tys' := [(d, .int)]) [0] rfl
      have hFc := va_free (wc := [(av, .inl (d, 64, .inl fv)), (ah, .inl (d, 64, .inl (hN (va_up hp sz k)))), (an, .inl (d, 64, .inl (upd fi k (nI sz))))]) hD hS hA [1, 2, 3] rfl
      refine va_calli (va_runS (As := [.ref av, .ref ah, .ref an, .int (nI (sz + 1)), .int (nI sz), .null]) (rest := []) ⟨hx, hb, hml, hown, hts⟩ (metX5_upHeap l dC dI d av ah an H.size fv (va_up hp sz k) (upd fi k (nI sz)) (sz + 1) sz (fun j => M j ∨ j = k) (DI.push hI hk hM) (HO.push hO) (Nat.lt_succ_self sz) hs) (va_cwS 6 hts (lw_S q399 q400 q24 q401) rfl rfl rfl (by decide +kernel) ⟨Nat.le_of_ble_eq_true rfl, Nat.le_of_ble_eq_true rfl⟩) ⟨fun a U g mk q => by obtain ⟨q0, q1, qP, qK, qD⟩ := q; exact ⟨q0, q1, qP, va_K.moved (u := U) (U := U.calling g mk a) (Vm.Alike.refl U.vm) qK, qD⟩, fun U hU hW => ⟨rfl, by rw [hU], by rw [hU]; exact hPc, va_K.moved hW.alike hKc, hDc.weaken (fun _ _ _ _ => trivial)⟩⟩ rfl rfl hl.1 rfl (lv_room (Nat.le_of_ble_eq_true rfl)) dX2_enqueue_123 ⟨Nat.le_of_ble_eq_true rfl, Nat.le_of_ble_eq_true rfl⟩) hS (fun q _ h => hFc q h) hFc (fun r_1 u t H1 locs ht hvm hw hB hz1 hk1 hS => ?_)
      obtain ⟨hp1, fi1⟩ := u
      obtain ⟨k1, er1, hks1, hI1, hU1⟩ := hw
      dsimp only at hI1 hU1
      obtain ⟨hP1, hK1, hD1⟩ := hB
      rw [ht] at hP1
      have hK1 := va_K.moved hvm.symm hK1
      obtain ⟨hP, hD⟩ := va_join (wr := [(aq, .inr (1, [.ref av, .ref ah, .int (nI (sz + 1)), .null, .ref an]))]) (w1 := [(av, .inl (d, 64, .inl fv)), (ah, .inl (d, 64, .inl (hN hp1))), (an, .inl (d, 64, .inl fi1))]) hP hD [1, 2, 3] [0] rfl rfl (by decide) (by decide) hk1 hFc hP1 hD1
      generalize H1 = H at hP hS ⊢
      have hP : va_P (dC, dI) vwCl [(aq, .inr (1, [.ref av, .ref ah, .int (nI (sz + 1)), .null, .ref an])), (av, .inl (d, 64, .inl fv)), (ah, .inl (d, 64, .inl (hN hp1))), (an, .inl (d, 64, .inl fi1))] H := hP
      have hD : va_D A [(aq, .inr (1, [.ref av, .ref ah, .int (nI (sz + 1)), .null, .ref an])), (av, .inl (d, 64, .inl fv)), (ah, .inl (d, 64, .inl (hN hp1))), (an, .inl (d, 64, .inl fi1))] := hD
      refine lv_pop hx hb dX2_enqueue_126 rfl ?_
      have hP9 := hP.sub (ws' := [(aq, .inr (1, [.ref av, .ref ah, .int (nI (sz + 1)), .null, .ref an])), (av, .inl (d, 64, .inl fv)), (ah, .inl (d, 64, .inl (hN hp1))), (an, .inl (d, 64, .inl fi1))]) [0, 1, 2, 3] rfl
      have hD9 := hD.sub (ws' := [(aq, .inr (1, [.ref av, .ref ah, .int (nI (sz + 1)), .null, .ref an])), (av, .inl (d, 64, .inl fv)), (ah, .inl (d, 64, .inl (hN hp1))), (an, .inl (d, 64, .inl fi1))]) [0, 1, 2, 3] (by decide) rfl
      have hK9 := hK.sub (tys' := [(d, .int)]) [0] rfl
      exact W.vret hx hb hr (fun t ht hW => ⟨⟨(sz + 1, hp1, fi1), rfl, ⟨rfl, hs, hI1, hU1.leaf⟩, by rw [ht]; exact hP9, va_K.moved hW.alike hK9, hD9⟩, hS.F ht⟩) hS.2.2 dX2_enqueue_127
    · exact absurd ((nI_eq (by omega) (by omega)).mp c_2) (by omega)
  · exact absurd (hI.inn hk c_1) hM
set_option maxHeartbeats 4000000 in
set_option maxRecDepth 100000 in
/-- dequeue() -/
theorem metX2_dequeue (l : Launch) (dC : Nat → ClassId) (dI : Nat → Nat → Nat) (d : ClassId) (aq av ah an z : Nat) (fv : Nat → Int32) (hp : Nat → Nat) (fi : Nat → Int32) (sz : Nat) (M : Nat → Prop) (hI : DI M (sz + 1) hp fi) (hs : sz < 64) (hO : HO fv (sz + 1) 0 hp) : Met l yX2_dequeue wsX2_dequeue ({ frames := 1, cells := 0, slots := 0, locals := 30 }) (va_Pc [.ref aq] (fun U => U.heap.size = z ∧ va_P (dC, dI) vwCl [(aq, .inr (1, [.ref av, .ref ah, .int (nI (sz + 1)), .null, .ref an])), (av, .inl (d, 64, .inl fv)), (ah, .inl (d, 64, .inl (hN hp))), (an, .inl (d, 64, .inl fi))] U.heap ∧ va_K (dC, dI) vwCl [(d, .int)] U ∧ va_D (fun _ => True) [(aq, .inr (1, [.ref av, .ref ah, .int (nI (sz + 1)), .null, .ref an])), (av, .inl (d, 64, .inl fv)), (ah, .inl (d, 64, .inl (hN hp))), (an, .inl (d, 64, .inl fi))])) (va_Qi (fun (r : Int32) (u : Nat × (Nat → Nat) × (Nat → Int32)) => r = nI (hp 0) ∧ u.1 = sz ∧ Good (fun j => M j ∧ j ≠ hp 0) u.1 fv u.2.1 u.2.2) (BW4 dC dI d (va_A [(aq, .inr (1, [.ref av, .ref ah, .int (nI (sz + 1)), .null, .ref an])), (av, .inl (d, 64, .inl fv)), (ah, .inl (d, 64, .inl (hN hp))), (an, .inl (d, 64, .inl fi))] z) aq av ah an fv) (va_A [(aq, .inr (1, [.ref av, .ref ah, .int (nI (sz + 1)), .null, .ref an])), (av, .inl (d, 64, .inl fv)), (ah, .inl (d, 64, .inl (hN hp))), (an, .inl (d, 64, .inl fi))] z)) 0 0 (va_A [(aq, .inr (1, [.ref av, .ref ah, .int (nI (sz + 1)), .null, .ref an])), (av, .inl (d, 64, .inl fv)), (ah, .inl (d, 64, .inl (hN hp))), (an, .inl (d, 64, .inl fi))] z) := by
  refine Met.ofW (cc := cX2_dequeue) (maxL := 2) (ret := (some .int)) (by decide) rfl ?_
  intro p e s m args below meth c s₁ B hml hv
  obtain ⟨rfl, hsz, hP, hK, hD0⟩ := hv
  have hx := B.exec
  have hb := B.bytes
  have hr := B.returns
  have hts := atoms_spec (ws := wsX2_dequeue) B.pre
  have hts : ∀ w ∈ lw_all, w.before _ s = true := fun w h => hts w (List.mem_cons_of_mem _ h)
  have hown : s.vm.findClass RX2 = some m.cls := findClass_of_methodNamed B.named
  have hlocks := B.notSynchronized
  subst hsz
  have hD := hD0.self (sz := s.heap.size)
  generalize hAe : va_A [(aq, .inr (1, [.ref av, .ref ah, .int (nI (sz + 1)), .null, .ref an])), (av, .inl (d, 64, .inl fv)), (ah, .inl (d, 64, .inl (hN hp))), (an, .inl (d, 64, .inl fi))] s.heap.size = A at hD ⊢
  have hA : ∀ q : Nat, s.heap.size ≤ q → A q := fun q h => by rw [← hAe]; exact Or.inr h
  have hS : va_S A s.heap s.heap [] := va_S.rf
  have hP : va_P (dC, dI) vwCl [(aq, .inr (1, [.ref av, .ref ah, .int (nI (sz + 1)), .null, .ref an])), (av, .inl (d, 64, .inl fv)), (ah, .inl (d, 64, .inl (hN hp))), (an, .inl (d, 64, .inl fi))] s.heap := hP
  have hl := lv_entry ([.ref aq]) (n := 2) (Nat.le_of_ble_eq_true rfl)
  rw [lg_entry_eq]
  generalize (lg_sl ([.ref aq]) ++ List.replicate (2 - (lg_sl ([.ref aq])).length) Slot.unset).toArray = ls at hl ⊢
  have hl : lv_has ls 2 [(0, .ref aq)] := hl
  refine lv_aload_n hx hb dX2_dequeue_0 rfl (lv_at hl 0 rfl) ?_
  refine va_get (D := (dC, dI)) (ci := 1) (v := .int (nI (sz + 1))) (C := RX2) (T := TX2) (N := 5) hx hb hts in_X2 hown hK hP 0 rfl rfl 2 (by decide) (hts _ q59) (u_same (hts _ q60)) rfl dX2_dequeue_1 ?_
  refine lv_if_ne (tgt := 15) hx hb dX2_dequeue_4 (by decide) (fun c_1 => ?_) (fun c_1 => ?_)
  · refine lv_aload_n hx hb dX2_dequeue_15 rfl (lv_at hl 0 rfl) ?_
    refine va_get (D := (dC, dI)) (ci := 1) (v := .ref ah) (C := RX2) (T := TX2) (N := 5) hx hb hts in_X2 hown hK hP 0 rfl rfl 1 (by decide) (hts _ q56) (u_same (hts _ q57)) rfl dX2_dequeue_16 ?_
    refine lv_iconst (v := nI 0) hx hb dX2_dequeue_19 (by decide +kernel) ?_
    refine xa_ld (v := nI (hp 0)) hx hb hK hP 2 0 rfl rfl 0 rfl (by decide) (by decide) rfl dX2_dequeue_20 ?_
    refine lv_istore_n (lv' := [(1, .int (nI (hp 0))), (0, .ref aq)]) hx hb dX2_dequeue_21 rfl hl (by decide) rfl (fun ls hl => ?_)
    refine lv_aload_n hx hb dX2_dequeue_22 rfl (lv_at hl 1 rfl) ?_
    refine lv_dup hx hb dX2_dequeue_23 rfl ?_
    refine va_get (D := (dC, dI)) (ci := 1) (v := .int (nI (sz + 1))) (C := RX2) (T := TX2) (N := 5) hx hb hts in_X2 hown hK hP 0 rfl rfl 2 (by decide) (hts _ q59) (u_same (hts _ q60)) rfl dX2_dequeue_24 ?_
    refine lv_iconst (v := 1) hx hb dX2_dequeue_27 (by decide +kernel) ?_
    refine xi_sub hx hb (nI sz) (nI_pred sz) dX2_dequeue_28 ?_
    refine lv_dup_x1 hx hb dX2_dequeue_29 rfl rfl ?_
    refine va_put (D := (dC, dI)) (ci := 1) (v := .int (nI sz)) (ty := .int) (C := RX2) (T := TX2) (N := 5) hx hb hts in_X2 tyX2 tyX2_ok nmX2 hown hK hP hD hS 0 rfl rfl 2 (by decide) (hts _ q59) (u_same (hts _ q60)) rfl (by decide +kernel) rfl rfl (Nat.le_of_ble_eq_true rfl) dX2_dequeue_30 (fun H locs hP hD hS => ?_)
    have hP : va_P (dC, dI) vwCl [(aq, .inr (1, [.ref av, .ref ah, .int (nI sz), .null, .ref an])), (av, .inl (d, 64, .inl fv)), (ah, .inl (d, 64, .inl (hN hp))), (an, .inl (d, 64, .inl fi))] H := hP
    have hD : va_D A [(aq, .inr (1, [.ref av, .ref ah, .int (nI sz), .null, .ref an])), (av, .inl (d, 64, .inl fv)), (ah, .inl (d, 64, .inl (hN hp))), (an, .inl (d, 64, .inl fi))] := hD
    refine lv_if_eq (tgt := 58) hx hb dX2_dequeue_33 (by decide) (fun c_2 => ?_) (fun c_2 => ?_)
    · have h0 : sz = 0 := by
        rcases Nat.eq_zero_or_pos sz with q | q
        · exact q
        · exact absurd c_2 (nI_ne0 q (by omega))
      refine lv_aload_n hx hb dX2_dequeue_58 rfl (lv_at hl 1 rfl) ?_
      refine va_get (D := (dC, dI)) (ci := 1) (v := .ref an) (C := RX2) (T := TX2) (N := 5) hx hb hts in_X2 hown hK hP 0 rfl rfl 4 (by decide) (hts _ q51) (fun _ h9 => h9) rfl dX2_dequeue_59 ?_
      refine lv_iload_n hx hb dX2_dequeue_62 rfl (lv_at hl 0 rfl) ?_
      refine lv_iconst (v := (-1)) hx hb dX2_dequeue_63 (by decide +kernel) ?_
      refine xa_st hx hb hK hP hD hS 3 0 rfl rfl (hp 0) rfl (hI.1 0) (by decide) (upd fi (hp 0) (-1)) rfl dX2_dequeue_64 (fun H locs hP hD hS => ?_)
      have hP : va_P (dC, dI) vwCl [(aq, .inr (1, [.ref av, .ref ah, .int (nI sz), .null, .ref an])), (av, .inl (d, 64, .inl fv)), (ah, .inl (d, 64, .inl (hN hp))), (an, .inl (d, 64, .inl (upd fi (hp 0) (-1))))] H := hP
      have hD : va_D A [(aq, .inr (1, [.ref av, .ref ah, .int (nI sz), .null, .ref an])), (av, .inl (d, 64, .inl fv)), (ah, .inl (d, 64, .inl (hN hp))), (an, .inl (d, 64, .inl (upd fi (hp 0) (-1))))] := hD
      refine lv_aload_n hx hb dX2_dequeue_65 rfl (lv_at hl 1 rfl) ?_
      refine va_get (D := (dC, dI)) (ci := 1) (v := .int (nI sz)) (C := RX2) (T := TX2) (N := 5) hx hb hts in_X2 hown hK hP 0 rfl rfl 2 (by decide) (hts _ q59) (u_same (hts _ q60)) rfl dX2_dequeue_66 ?_
      refine lv_if_eq (tgt := 97) hx hb dX2_dequeue_69 (by decide) (fun c_3 => ?_) (fun c_3 => ?_)
      · refine lv_iload_n hx hb dX2_dequeue_97 rfl (lv_at hl 0 rfl) ?_
        have hP9 := hP.sub (ws' := [(aq, .inr (1, [.ref av, .ref ah, .int (nI sz), .null, .ref an])), (av, .inl (d, 64, .inl fv)), (ah, .inl (d, 64, .inl (hN hp))), (an, .inl (d, 64, .inl (upd fi (hp 0) (-1))))]) [0, 1, 2, 3] rfl
        have hD9 := hD.sub (ws' := [(aq, .inr (1, [.ref av, .ref ah, .int (nI sz), .null, .ref an])), (av, .inl (d, 64, .inl fv)), (ah, .inl (d, 64, .inl (hN hp))), (an, .inl (d, 64, .inl (upd fi (hp 0) (-1))))]) [0, 1, 2, 3] (by decide) rfl
        have hK9 := hK.sub (tys' := [(d, .int)]) [0] rfl
        exact W.iret (v := (nI (hp 0))) hx hb hr (fun t ht hW => ⟨⟨(nI (hp 0)), (sz, hp, upd fi (hp 0) (-1)), rfl, ⟨rfl, rfl, Good.pop0 h0 hI⟩, by rw [ht]; exact hP9, va_K.moved hW.alike hK9, hD9⟩, hS.F ht⟩) hS.2.2 dX2_dequeue_98
      · exact absurd c_2 c_3
    · have h0 : 0 < sz := by
        rcases Nat.eq_zero_or_pos sz with q | q
        · exact absurd (by rw [q]; exact nI_0) c_2
        · exact q
      have hne : hp sz ≠ hp 0 := fun q => absurd (hI.inj hs (Nat.lt_succ_self sz) (Nat.succ_pos sz) q) (by omega)
      refine lv_aload_n hx hb dX2_dequeue_36 rfl (lv_at hl 1 rfl) ?_
      refine va_get (D := (dC, dI)) (ci := 1) (v := .ref an) (C := RX2) (T := TX2) (N := 5) hx hb hts in_X2 hown hK hP 0 rfl rfl 4 (by decide) (hts _ q51) (fun _ h9 => h9) rfl dX2_dequeue_37 ?_
      refine lv_aload_n hx hb dX2_dequeue_40 rfl (lv_at hl 1 rfl) ?_
      refine va_get (D := (dC, dI)) (ci := 1) (v := .ref ah) (C := RX2) (T := TX2) (N := 5) hx hb hts in_X2 hown hK hP 0 rfl rfl 1 (by decide) (hts _ q56) (u_same (hts _ q57)) rfl dX2_dequeue_41 ?_
      refine lv_iconst (v := nI 0) hx hb dX2_dequeue_44 (by decide +kernel) ?_
      refine lv_aload_n hx hb dX2_dequeue_45 rfl (lv_at hl 1 rfl) ?_
      refine va_get (D := (dC, dI)) (ci := 1) (v := .ref ah) (C := RX2) (T := TX2) (N := 5) hx hb hts in_X2 hown hK hP 0 rfl rfl 1 (by decide) (hts _ q56) (u_same (hts _ q57)) rfl dX2_dequeue_46 ?_
      refine lv_aload_n hx hb dX2_dequeue_49 rfl (lv_at hl 1 rfl) ?_
      refine va_get (D := (dC, dI)) (ci := 1) (v := .int (nI sz)) (C := RX2) (T := TX2) (N := 5) hx hb hts in_X2 hown hK hP 0 rfl rfl 2 (by decide) (hts _ q59) (u_same (hts _ q60)) rfl dX2_dequeue_50 ?_
      refine xa_ld (v := nI (hp sz)) hx hb hK hP 2 0 rfl rfl sz rfl hs (by decide) rfl dX2_dequeue_53 ?_
      refine lv_dup_x2 hx hb dX2_dequeue_54 rfl rfl rfl ?_
      refine xa_st hx hb hK hP hD hS 2 0 rfl rfl 0 rfl (by decide) (by decide) (hN (va_up hp 0 (hp sz))) (hN_up _ _ _) dX2_dequeue_55 (fun H locs hP hD hS => ?_)
      have hP : va_P (dC, dI) vwCl [(aq, .inr (1, [.ref av, .ref ah, .int (nI sz), .null, .ref an])), (av, .inl (d, 64, .inl fv)), (ah, .inl (d, 64, .inl (hN (va_up hp 0 (hp sz))))), (an, .inl (d, 64, .inl fi))] H := hP
      have hD : va_D A [(aq, .inr (1, [.ref av, .ref ah, .int (nI sz), .null, .ref an])), (av, .inl (d, 64, .inl fv)), (ah, .inl (d, 64, .inl (hN (va_up hp 0 (hp sz))))), (an, .inl (d, 64, .inl fi))] := hD
      refine lv_iconst (v := nI 0) hx hb dX2_dequeue_56 (by decide +kernel) ?_
      refine xa_st hx hb hK hP hD hS 3 0 rfl rfl (hp sz) rfl (hI.1 _) (by decide) (upd fi (hp sz) (nI 0)) rfl dX2_dequeue_57 (fun H locs hP hD hS => ?_)
      have hP : va_P (dC, dI) vwCl [(aq, .inr (1, [.ref av, .ref ah, .int (nI sz), .null, .ref an])), (av, .inl (d, 64, .inl fv)), (ah, .inl (d, 64, .inl (hN (va_up hp 0 (hp sz))))), (an, .inl (d, 64, .inl (upd fi (hp sz) (nI 0))))] H := hP
      have hD : va_D A [(aq, .inr (1, [.ref av, .ref ah, .int (nI sz), .null, .ref an])), (av, .inl (d, 64, .inl fv)), (ah, .inl (d, 64, .inl (hN (va_up hp 0 (hp sz))))), (an, .inl (d, 64, .inl (upd fi (hp sz) (nI 0))))] := hD
      refine lv_aload_n hx hb dX2_dequeue_58 rfl (lv_at hl 1 rfl) ?_
      refine va_get (D := (dC, dI)) (ci := 1) (v := .ref an) (C := RX2) (T := TX2) (N := 5) hx hb hts in_X2 hown hK hP 0 rfl rfl 4 (by decide) (hts _ q51) (fun _ h9 => h9) rfl dX2_dequeue_59 ?_
      refine lv_iload_n hx hb dX2_dequeue_62 rfl (lv_at hl 0 rfl) ?_
      refine lv_iconst (v := (-1)) hx hb dX2_dequeue_63 (by decide +kernel) ?_
      refine xa_st hx hb hK hP hD hS 3 0 rfl rfl (hp 0) rfl (hI.1 0) (by decide) (upd (upd fi (hp 0) (-1)) (hp sz) (nI 0)) (ud_cm hne) dX2_dequeue_64 (fun H locs hP hD hS => ?_)
      have hP : va_P (dC, dI) vwCl [(aq, .inr (1, [.ref av, .ref ah, .int (nI sz), .null, .ref an])), (av, .inl (d, 64, .inl fv)), (ah, .inl (d, 64, .inl (hN (va_up hp 0 (hp sz))))), (an, .inl (d, 64, .inl (upd (upd fi (hp 0) (-1)) (hp sz) (nI 0))))] H := hP
      have hD : va_D A [(aq, .inr (1, [.ref av, .ref ah, .int (nI sz), .null, .ref an])), (av, .inl (d, 64, .inl fv)), (ah, .inl (d, 64, .inl (hN (va_up hp 0 (hp sz))))), (an, .inl (d, 64, .inl (upd (upd fi (hp 0) (-1)) (hp sz) (nI 0))))] := hD
      refine lv_aload_n hx hb dX2_dequeue_65 rfl (lv_at hl 1 rfl) ?_
      refine va_get (D := (dC, dI)) (ci := 1) (v := .int (nI sz)) (C := RX2) (T := TX2) (N := 5) hx hb hts in_X2 hown hK hP 0 rfl rfl 2 (by decide) (hts _ q59) (u_same (hts _ q60)) rfl dX2_dequeue_66 ?_
      refine lv_if_eq (tgt := 97) hx hb dX2_dequeue_69 (by decide) (fun c_3 => ?_) (fun c_3 => ?_)
      · exact absurd c_3 c_2
      · refine lv_aload_n hx hb dX2_dequeue_72 rfl (lv_at hl 1 rfl) ?_
        refine va_get (D := (dC, dI)) (ci := 1) (v := .ref av) (C := RX2) (T := TX2) (N := 5) hx hb hts in_X2 hown hK hP 0 rfl rfl 0 (by decide) (hts _ q53) (u_same (hts _ q54)) rfl dX2_dequeue_73 ?_
        refine lv_aload_n hx hb dX2_dequeue_76 rfl (lv_at hl 1 rfl) ?_
        refine va_get (D := (dC, dI)) (ci := 1) (v := .ref ah) (C := RX2) (T := TX2) (N := 5) hx hb hts in_X2 hown hK hP 0 rfl rfl 1 (by decide) (hts _ q56) (u_same (hts _ q57)) rfl dX2_dequeue_77 ?_
        refine lv_aload_n hx hb dX2_dequeue_80 rfl (lv_at hl 1 rfl) ?_
        refine va_get (D := (dC, dI)) (ci := 1) (v := .ref an) (C := RX2) (T := TX2) (N := 5) hx hb hts in_X2 hown hK hP 0 rfl rfl 4 (by decide) (hts _ q51) (fun _ h9 => h9) rfl dX2_dequeue_81 ?_
        refine lv_aload_n hx hb dX2_dequeue_84 rfl (lv_at hl 1 rfl) ?_
        refine va_get (D := (dC, dI)) (ci := 1) (v := .int (nI sz)) (C := RX2) (T := TX2) (N := 5) hx hb hts in_X2 hown hK hP 0 rfl rfl 2 (by decide) (hts _ q59) (u_same (hts _ q60)) rfl dX2_dequeue_85 ?_
        refine lv_iconst (v := nI 0) hx hb dX2_dequeue_88 (by decide +kernel) ?_
        refine lv_aload_n hx hb dX2_dequeue_89 rfl (lv_at hl 1 rfl) ?_
        refine va_get (D := (dC, dI)) (ci := 1) (v := .null) (C := RX2) (T := TX2) (N := 5) hx hb hts in_X2 hown hK hP 0 rfl rfl 3 (by decide) (hts _ q62) (u_same (hts _ q63)) rfl dX2_dequeue_90 ?_
        have hPc := hP.sub (ws' := [(av, .inl (d, 64, .inl fv)), (ah, .inl (d, 64, .inl (hN (va_up hp 0 (hp sz))))), (an, .inl (d, 64, .inl (upd (upd fi (hp 0) (-1)) (hp sz) (nI 0))))]) [1, 2, 3] rfl
        have hDc := hD.sub (ws' := [(av, .inl (d, 64, .inl fv)), (ah, .inl (d, 64, .inl (hN (va_up hp 0 (hp sz))))), (an, .inl (d, 64, .inl (upd (upd fi (hp 0) (-1)) (hp sz) (nI 0))))]) [1, 2, 3] (by decide) rfl
        have hKc := hK.sub (tys' := [(d, .int)]) [0] rfl
        have hFc := va_free (wc := [(av, .inl (d, 64, .inl fv)), (ah, .inl (d, 64, .inl (hN (va_up hp 0 (hp sz))))), (an, .inl (d, 64, .inl (upd (upd fi (hp 0) (-1)) (hp sz) (nI 0))))]) hD hS hA [1, 2, 3] rfl
        refine va_calli (va_runS (As := [.ref av, .ref ah, .ref an, .int (nI sz), .int (nI 0), .null]) (rest := []) ⟨hx, hb, hml, hown, hts⟩ (metX5_downHeap l dC dI d av ah an H.size fv (va_up hp 0 (hp sz)) (upd (upd fi (hp 0) (-1)) (hp sz) (nI 0)) sz 0 0 (fun j => M j ∧ j ≠ hp 0) (DI.cut hI hs h0) (HO.pop hO) h0 (Nat.le_of_lt hs)) (va_cwS 6 hts (lw_S q402 q403 q24 q404) rfl rfl rfl (by decide +kernel) ⟨Nat.le_of_ble_eq_true rfl, Nat.le_of_ble_eq_true rfl⟩) ⟨fun a U g mk q => by obtain ⟨q0, q1, qP, qK, qD⟩ := q; exact ⟨q0, q1, qP, va_K.moved (u := U) (U := U.calling g mk a) (Vm.Alike.refl U.vm) qK, qD⟩, fun U hU hW => ⟨rfl, by rw [hU], by rw [hU]; exact hPc, va_K.moved hW.alike hKc, hDc.weaken (fun _ _ _ _ => trivial)⟩⟩ rfl rfl hl.1 rfl (lv_room (Nat.le_of_ble_eq_true rfl)) dX2_dequeue_93 ⟨Nat.le_of_ble_eq_true rfl, Nat.le_of_ble_eq_true rfl⟩) hS (fun q _ h => hFc q h) hFc (fun r_2 u t H1 locs ht hvm hw hB hz1 hk1 hS => ?_)
        obtain ⟨hp2, fi2⟩ := u
        obtain ⟨hI2, hO2⟩ := hw
        dsimp only at hI2 hO2
        obtain ⟨hP1, hK1, hD1⟩ := hB
        rw [ht] at hP1
        have hK1 := va_K.moved hvm.symm hK1
        obtain ⟨hP, hD⟩ := va_join (wr := [(aq, .inr (1, [.ref av, .ref ah, .int (nI sz), .null, .ref an]))]) (w1 := [(av, .inl (d, 64, .inl fv)), (ah, .inl (d, 64, .inl (hN hp2))), (an, .inl (d, 64, .inl fi2))]) hP hD [1, 2, 3] [0] rfl rfl (by decide) (by decide) hk1 hFc hP1 hD1
        generalize H1 = H at hP hS ⊢
        have hP : va_P (dC, dI) vwCl [(aq, .inr (1, [.ref av, .ref ah, .int (nI sz), .null, .ref an])), (av, .inl (d, 64, .inl fv)), (ah, .inl (d, 64, .inl (hN hp2))), (an, .inl (d, 64, .inl fi2))] H := hP
        have hD : va_D A [(aq, .inr (1, [.ref av, .ref ah, .int (nI sz), .null, .ref an])), (av, .inl (d, 64, .inl fv)), (ah, .inl (d, 64, .inl (hN hp2))), (an, .inl (d, 64, .inl fi2))] := hD
        refine lv_pop hx hb dX2_dequeue_96 rfl ?_
        refine lv_iload_n hx hb dX2_dequeue_97 rfl (lv_at hl 0 rfl) ?_
        have hP9 := hP.sub (ws' := [(aq, .inr (1, [.ref av, .ref ah, .int (nI sz), .null, .ref an])), (av, .inl (d, 64, .inl fv)), (ah, .inl (d, 64, .inl (hN hp2))), (an, .inl (d, 64, .inl fi2))]) [0, 1, 2, 3] rfl
        have hD9 := hD.sub (ws' := [(aq, .inr (1, [.ref av, .ref ah, .int (nI sz), .null, .ref an])), (av, .inl (d, 64, .inl fv)), (ah, .inl (d, 64, .inl (hN hp2))), (an, .inl (d, 64, .inl fi2))]) [0, 1, 2, 3] (by decide) rfl
        have hK9 := hK.sub (tys' := [(d, .int)]) [0] rfl
        exact W.iret (v := (nI (hp 0))) hx hb hr (fun t ht hW => ⟨⟨(nI (hp 0)), (sz, hp2, fi2), rfl, ⟨rfl, rfl, Nat.le_of_lt hs, hI2, hO2⟩, by rw [ht]; exact hP9, va_K.moved hW.alike hK9, hD9⟩, hS.F ht⟩) hS.2.2 dX2_dequeue_98
  · exact absurd c_1 (nI_ne0 (by omega) (by omega))
set_option maxHeartbeats 4000000 in
set_option maxRecDepth 100000 in
/-- changed(): the head's value is another -/
theorem metX2_changed_2 (l : Launch) (dC : Nat → ClassId) (dI : Nat → Nat → Nat) (d : ClassId) (aq av ah an z : Nat) (fv : Nat → Int32) (hp : Nat → Nat) (fi : Nat → Int32) (sz : Nat) (M : Nat → Prop) (fv0 : Nat → Int32) (hI : DI M sz hp fi) (hs : sz ≤ 64) (hs0 : 0 < sz) (hO : HO fv0 sz 0 hp) (hv : ∀ j, j ≠ hp 0 → fv j = fv0 j) : Met l yX2_changed_2 wsX2_changed_2 ({ frames := 1, cells := 0, slots := 0, locals := 30 }) (va_Pc [.ref aq] (fun U => U.heap.size = z ∧ va_P (dC, dI) vwCl [(aq, .inr (1, [.ref av, .ref ah, .int (nI sz), .null, .ref an])), (av, .inl (d, 64, .inl fv)), (ah, .inl (d, 64, .inl (hN hp))), (an, .inl (d, 64, .inl fi))] U.heap ∧ va_K (dC, dI) vwCl [(d, .int)] U ∧ va_D (fun _ => True) [(aq, .inr (1, [.ref av, .ref ah, .int (nI sz), .null, .ref an])), (av, .inl (d, 64, .inl fv)), (ah, .inl (d, 64, .inl (hN hp))), (an, .inl (d, 64, .inl fi))])) (va_Qv (fun u : Nat × (Nat → Nat) × (Nat → Int32) => u.1 = sz ∧ Good M u.1 fv u.2.1 u.2.2) (BW4 dC dI d (va_A [(aq, .inr (1, [.ref av, .ref ah, .int (nI sz), .null, .ref an])), (av, .inl (d, 64, .inl fv)), (ah, .inl (d, 64, .inl (hN hp))), (an, .inl (d, 64, .inl fi))] z) aq av ah an fv) (va_A [(aq, .inr (1, [.ref av, .ref ah, .int (nI sz), .null, .ref an])), (av, .inl (d, 64, .inl fv)), (ah, .inl (d, 64, .inl (hN hp))), (an, .inl (d, 64, .inl fi))] z)) 0 0 (va_A [(aq, .inr (1, [.ref av, .ref ah, .int (nI sz), .null, .ref an])), (av, .inl (d, 64, .inl fv)), (ah, .inl (d, 64, .inl (hN hp))), (an, .inl (d, 64, .inl fi))] z) := by
  refine Met.ofW (cc := cX2_changed_2) (maxL := 1) (ret := none) (by decide) rfl ?_
  intro p e s m args below meth c s₁ B hml hv
  obtain ⟨rfl, hsz, hP, hK, hD0⟩ := hv
  have hx := B.exec
  have hb := B.bytes
  have hr := B.returns
  have hts := atoms_spec (ws := wsX2_changed_2) B.pre
  have hts : ∀ w ∈ lw_all, w.before _ s = true := fun w h => hts w (List.mem_cons_of_mem _ h)
  have hown : s.vm.findClass RX2 = some m.cls := findClass_of_methodNamed B.named
  have hlocks := B.notSynchronized
  subst hsz
  have hD := hD0.self (sz := s.heap.size)
  generalize hAe : va_A [(aq, .inr (1, [.ref av, .ref ah, .int (nI sz), .null, .ref an])), (av, .inl (d, 64, .inl fv)), (ah, .inl (d, 64, .inl (hN hp))), (an, .inl (d, 64, .inl fi))] s.heap.size = A at hD ⊢
  have hA : ∀ q : Nat, s.heap.size ≤ q → A q := fun q h => by rw [← hAe]; exact Or.inr h
  have hS : va_S A s.heap s.heap [] := va_S.rf
  have hP : va_P (dC, dI) vwCl [(aq, .inr (1, [.ref av, .ref ah, .int (nI sz), .null, .ref an])), (av, .inl (d, 64, .inl fv)), (ah, .inl (d, 64, .inl (hN hp))), (an, .inl (d, 64, .inl fi))] s.heap := hP
  have hl := lv_entry ([.ref aq]) (n := 1) (Nat.le_of_ble_eq_true rfl)
  rw [lg_entry_eq]
  generalize (lg_sl ([.ref aq]) ++ List.replicate (1 - (lg_sl ([.ref aq])).length) Slot.unset).toArray = ls at hl ⊢
  have hl : lv_has ls 1 [(0, .ref aq)] := hl
  refine lv_aload_n hx hb dX2_changed_2_0 rfl (lv_at hl 0 rfl) ?_
  refine va_get (D := (dC, dI)) (ci := 1) (v := .ref av) (C := RX2) (T := TX2) (N := 5) hx hb hts in_X2 hown hK hP 0 rfl rfl 0 (by decide) (hts _ q53) (u_same (hts _ q54)) rfl dX2_changed_2_1 ?_
  refine lv_aload_n hx hb dX2_changed_2_4 rfl (lv_at hl 0 rfl) ?_
  refine va_get (D := (dC, dI)) (ci := 1) (v := .ref ah) (C := RX2) (T := TX2) (N := 5) hx hb hts in_X2 hown hK hP 0 rfl rfl 1 (by decide) (hts _ q56) (u_same (hts _ q57)) rfl dX2_changed_2_5 ?_
  refine lv_aload_n hx hb dX2_changed_2_8 rfl (lv_at hl 0 rfl) ?_
  refine va_get (D := (dC, dI)) (ci := 1) (v := .ref an) (C := RX2) (T := TX2) (N := 5) hx hb hts in_X2 hown hK hP 0 rfl rfl 4 (by decide) (hts _ q51) (fun _ h9 => h9) rfl dX2_changed_2_9 ?_
  refine lv_aload_n hx hb dX2_changed_2_12 rfl (lv_at hl 0 rfl) ?_
  refine va_get (D := (dC, dI)) (ci := 1) (v := .int (nI sz)) (C := RX2) (T := TX2) (N := 5) hx hb hts in_X2 hown hK hP 0 rfl rfl 2 (by decide) (hts _ q59) (u_same (hts _ q60)) rfl dX2_changed_2_13 ?_
  refine lv_iconst (v := nI 0) hx hb dX2_changed_2_16 (by decide +kernel) ?_
  refine lv_aload_n hx hb dX2_changed_2_17 rfl (lv_at hl 0 rfl) ?_
  refine va_get (D := (dC, dI)) (ci := 1) (v := .null) (C := RX2) (T := TX2) (N := 5) hx hb hts in_X2 hown hK hP 0 rfl rfl 3 (by decide) (hts _ q62) (u_same (hts _ q63)) rfl dX2_changed_2_18 ?_
  have hPc := hP.sub (ws' := [(av, .inl (d, 64, .inl fv)), (ah, .inl (d, 64, .inl (hN hp))), (an, .inl (d, 64, .inl fi))]) [1, 2, 3] rfl
  have hDc := hD.sub (ws' := [(av, .inl (d, 64, .inl fv)), (ah, .inl (d, 64, .inl (hN hp))), (an, .inl (d, 64, .inl fi))]) [1, 2, 3] (by decide) rfl
  have hKc := hK.sub (tys' := [(d, .int)]) [0] rfl
  have hFc := va_free (wc := [(av, .inl (d, 64, .inl fv)), (ah, .inl (d, 64, .inl (hN hp))), (an, .inl (d, 64, .inl fi))]) hD hS hA [1, 2, 3] rfl
  refine va_calli (va_runS (As := [.ref av, .ref ah, .ref an, .int (nI sz), .int (nI 0), .null]) (rest := []) ⟨hx, hb, hml, hown, hts⟩ (metX5_downHeap l dC dI d av ah an s.heap.size fv hp fi sz 0 0 M hI (HO.head hO hI hs hs0 hv) hs0 hs) (va_cwS 6 hts (lw_S q402 q403 q24 q404) rfl rfl rfl (by decide +kernel) ⟨Nat.le_of_ble_eq_true rfl, Nat.le_of_ble_eq_true rfl⟩) ⟨fun a U g mk q => by obtain ⟨q0, q1, qP, qK, qD⟩ := q; exact ⟨q0, q1, qP, va_K.moved (u := U) (U := U.calling g mk a) (Vm.Alike.refl U.vm) qK, qD⟩, fun U hU hW => ⟨rfl, by rw [hU], by rw [hU]; exact hPc, va_K.moved hW.alike hKc, hDc.weaken (fun _ _ _ _ => trivial)⟩⟩ rfl rfl hl.1 rfl (lv_room (Nat.le_of_ble_eq_true rfl)) dX2_changed_2_21 ⟨Nat.le_of_ble_eq_true rfl, Nat.le_of_ble_eq_true rfl⟩) hS (fun q _ h => hFc q h) hFc (fun r_2 u t H1 locs ht hvm hw hB hz1 hk1 hS => ?_)
  obtain ⟨hp2, fi2⟩ := u
  obtain ⟨hI2, hO2⟩ := hw
  dsimp only at hI2 hO2
  obtain ⟨hP1, hK1, hD1⟩ := hB
  rw [ht] at hP1
  have hK1 := va_K.moved hvm.symm hK1
  obtain ⟨hP, hD⟩ := va_join (wr := [(aq, .inr (1, [.ref av, .ref ah, .int (nI sz), .null, .ref an]))]) (w1 := [(av, .inl (d, 64, .inl fv)), (ah, .inl (d, 64, .inl (hN hp2))), (an, .inl (d, 64, .inl fi2))]) hP hD [1, 2, 3] [0] rfl rfl (by decide) (by decide) hk1 hFc hP1 hD1
  generalize H1 = H at hP hS ⊢
  have hP : va_P (dC, dI) vwCl [(aq, .inr (1, [.ref av, .ref ah, .int (nI sz), .null, .ref an])), (av, .inl (d, 64, .inl fv)), (ah, .inl (d, 64, .inl (hN hp2))), (an, .inl (d, 64, .inl fi2))] H := hP
  have hD : va_D A [(aq, .inr (1, [.ref av, .ref ah, .int (nI sz), .null, .ref an])), (av, .inl (d, 64, .inl fv)), (ah, .inl (d, 64, .inl (hN hp2))), (an, .inl (d, 64, .inl fi2))] := hD
  refine lv_pop hx hb dX2_changed_2_24 rfl ?_
  have hP9 := hP.sub (ws' := [(aq, .inr (1, [.ref av, .ref ah, .int (nI sz), .null, .ref an])), (av, .inl (d, 64, .inl fv)), (ah, .inl (d, 64, .inl (hN hp2))), (an, .inl (d, 64, .inl fi2))]) [0, 1, 2, 3] rfl
  have hD9 := hD.sub (ws' := [(aq, .inr (1, [.ref av, .ref ah, .int (nI sz), .null, .ref an])), (av, .inl (d, 64, .inl fv)), (ah, .inl (d, 64, .inl (hN hp2))), (an, .inl (d, 64, .inl fi2))]) [0, 1, 2, 3] (by decide) rfl
  have hK9 := hK.sub (tys' := [(d, .int)]) [0] rfl
  exact W.vret hx hb hr (fun t ht hW => ⟨⟨(sz, hp2, fi2), rfl, ⟨rfl, hs, hI2, hO2⟩, by rw [ht]; exact hP9, va_K.moved hW.alike hK9, hD9⟩, hS.F ht⟩) hS.2.2 dX2_changed_2_25
set_option maxHeartbeats 4000000 in
set_option maxRecDepth 100000 in
/-- allChanged() -/
theorem metX2_allChanged (l : Launch) (dC : Nat → ClassId) (dI : Nat → Nat → Nat) (d : ClassId) (aq av ah an z : Nat) (fv : Nat → Int32) (hp : Nat → Nat) (fi : Nat → Int32) (sz : Nat) (M : Nat → Prop) (hI : DI M sz hp fi) (hs : sz ≤ 64) : Met l yX2_allChanged wsX2_allChanged ({ frames := 2, cells := 0, slots := 0, locals := 55 }) (va_Pc [.ref aq] (fun U => U.heap.size = z ∧ va_P (dC, dI) vwCl [(aq, .inr (1, [.ref av, .ref ah, .int (nI sz), .null, .ref an])), (av, .inl (d, 64, .inl fv)), (ah, .inl (d, 64, .inl (hN hp))), (an, .inl (d, 64, .inl fi))] U.heap ∧ va_K (dC, dI) vwCl [(d, .int)] U ∧ va_D (fun _ => True) [(aq, .inr (1, [.ref av, .ref ah, .int (nI sz), .null, .ref an])), (av, .inl (d, 64, .inl fv)), (ah, .inl (d, 64, .inl (hN hp))), (an, .inl (d, 64, .inl fi))])) (va_Qv (fun u : Nat × (Nat → Nat) × (Nat → Int32) => u.1 = sz ∧ Good M u.1 fv u.2.1 u.2.2) (BW4 dC dI d (va_A [(aq, .inr (1, [.ref av, .ref ah, .int (nI sz), .null, .ref an])), (av, .inl (d, 64, .inl fv)), (ah, .inl (d, 64, .inl (hN hp))), (an, .inl (d, 64, .inl fi))] z) aq av ah an fv) (va_A [(aq, .inr (1, [.ref av, .ref ah, .int (nI sz), .null, .ref an])), (av, .inl (d, 64, .inl fv)), (ah, .inl (d, 64, .inl (hN hp))), (an, .inl (d, 64, .inl fi))] z)) 0 0 (va_A [(aq, .inr (1, [.ref av, .ref ah, .int (nI sz), .null, .ref an])), (av, .inl (d, 64, .inl fv)), (ah, .inl (d, 64, .inl (hN hp))), (an, .inl (d, 64, .inl fi))] z) := by
  refine Met.ofW (cc := cX2_allChanged) (maxL := 1) (ret := none) (by decide) rfl ?_
  intro p e s m args below meth c s₁ B hml hv
  obtain ⟨rfl, hsz, hP, hK, hD0⟩ := hv
  have hx := B.exec
  have hb := B.bytes
  have hr := B.returns
  have hts := atoms_spec (ws := wsX2_allChanged) B.pre
  have hts : ∀ w ∈ lw_all, w.before _ s = true := fun w h => hts w (List.mem_cons_of_mem _ h)
  have hown : s.vm.findClass RX2 = some m.cls := findClass_of_methodNamed B.named
  have hlocks := B.notSynchronized
  subst hsz
  have hD := hD0.self (sz := s.heap.size)
  generalize hAe : va_A [(aq, .inr (1, [.ref av, .ref ah, .int (nI sz), .null, .ref an])), (av, .inl (d, 64, .inl fv)), (ah, .inl (d, 64, .inl (hN hp))), (an, .inl (d, 64, .inl fi))] s.heap.size = A at hD ⊢
  have hA : ∀ q : Nat, s.heap.size ≤ q → A q := fun q h => by rw [← hAe]; exact Or.inr h
  have hS : va_S A s.heap s.heap [] := va_S.rf
  have hP : va_P (dC, dI) vwCl [(aq, .inr (1, [.ref av, .ref ah, .int (nI sz), .null, .ref an])), (av, .inl (d, 64, .inl fv)), (ah, .inl (d, 64, .inl (hN hp))), (an, .inl (d, 64, .inl fi))] s.heap := hP
  have hl := lv_entry ([.ref aq]) (n := 1) (Nat.le_of_ble_eq_true rfl)
  rw [lg_entry_eq]
  generalize (lg_sl ([.ref aq]) ++ List.replicate (1 - (lg_sl ([.ref aq])).length) Slot.unset).toArray = ls at hl ⊢
  have hl : lv_has ls 1 [(0, .ref aq)] := hl
  refine lv_aload_n hx hb dX2_allChanged_0 rfl (lv_at hl 0 rfl) ?_
  refine va_get (D := (dC, dI)) (ci := 1) (v := .ref av) (C := RX2) (T := TX2) (N := 5) hx hb hts in_X2 hown hK hP 0 rfl rfl 0 (by decide) (hts _ q53) (u_same (hts _ q54)) rfl dX2_allChanged_1 ?_
  refine lv_aload_n hx hb dX2_allChanged_4 rfl (lv_at hl 0 rfl) ?_
  refine va_get (D := (dC, dI)) (ci := 1) (v := .ref ah) (C := RX2) (T := TX2) (N := 5) hx hb hts in_X2 hown hK hP 0 rfl rfl 1 (by decide) (hts _ q56) (u_same (hts _ q57)) rfl dX2_allChanged_5 ?_
  refine lv_aload_n hx hb dX2_allChanged_8 rfl (lv_at hl 0 rfl) ?_
  refine va_get (D := (dC, dI)) (ci := 1) (v := .ref an) (C := RX2) (T := TX2) (N := 5) hx hb hts in_X2 hown hK hP 0 rfl rfl 4 (by decide) (hts _ q51) (fun _ h9 => h9) rfl dX2_allChanged_9 ?_
  refine lv_aload_n hx hb dX2_allChanged_12 rfl (lv_at hl 0 rfl) ?_
  refine va_get (D := (dC, dI)) (ci := 1) (v := .int (nI sz)) (C := RX2) (T := TX2) (N := 5) hx hb hts in_X2 hown hK hP 0 rfl rfl 2 (by decide) (hts _ q59) (u_same (hts _ q60)) rfl dX2_allChanged_13 ?_
  refine lv_aload_n hx hb dX2_allChanged_16 rfl (lv_at hl 0 rfl) ?_
  refine va_get (D := (dC, dI)) (ci := 1) (v := .null) (C := RX2) (T := TX2) (N := 5) hx hb hts in_X2 hown hK hP 0 rfl rfl 3 (by decide) (hts _ q62) (u_same (hts _ q63)) rfl dX2_allChanged_17 ?_
  have hPc := hP.sub (ws' := [(av, .inl (d, 64, .inl fv)), (ah, .inl (d, 64, .inl (hN hp))), (an, .inl (d, 64, .inl fi))]) [1, 2, 3] rfl
  have hDc := hD.sub (ws' := [(av, .inl (d, 64, .inl fv)), (ah, .inl (d, 64, .inl (hN hp))), (an, .inl (d, 64, .inl fi))]) [1, 2, 3] (by decide) rfl
  have hKc := hK.sub (tys' := [(d, .int)]) [0] rfl
  have hFc := va_free (wc := [(av, .inl (d, 64, .inl fv)), (ah, .inl (d, 64, .inl (hN hp))), (an, .inl (d, 64, .inl fi))]) hD hS hA [1, 2, 3] rfl
  refine va_callv (va_runS (As := [.ref av, .ref ah, .ref an, .int (nI sz), .null]) (rest := []) ⟨hx, hb, hml, hown, hts⟩ (metX5_makeHeap l dC dI d av ah an s.heap.size fv hp fi sz M hI hs) (va_cwS 5 hts (lw_S q499 q500 q24 q501) rfl rfl rfl (by decide +kernel) ⟨Nat.le_of_ble_eq_true rfl, Nat.le_of_ble_eq_true rfl⟩) ⟨fun a U g mk q => by obtain ⟨q0, q1, qP, qK, qD⟩ := q; exact ⟨q0, q1, qP, va_K.moved (u := U) (U := U.calling g mk a) (Vm.Alike.refl U.vm) qK, qD⟩, fun U hU hW => ⟨rfl, by rw [hU], by rw [hU]; exact hPc, va_K.moved hW.alike hKc, hDc.weaken (fun _ _ _ _ => trivial)⟩⟩ rfl rfl hl.1 rfl (lv_room (Nat.le_of_ble_eq_true rfl)) dX2_allChanged_20 ⟨Nat.le_of_ble_eq_true rfl, Nat.le_of_ble_eq_true rfl⟩) hS (fun q _ h => hFc q h) hFc (fun u t H1 locs ht hvm hw hB hz1 hk1 hS => ?_)
  obtain ⟨hp2, fi2⟩ := u
  obtain ⟨hI2, hO2⟩ := hw
  dsimp only at hI2 hO2
  obtain ⟨hP1, hK1, hD1⟩ := hB
  rw [ht] at hP1
  have hK1 := va_K.moved hvm.symm hK1
  obtain ⟨hP, hD⟩ := va_join (wr := [(aq, .inr (1, [.ref av, .ref ah, .int (nI sz), .null, .ref an]))]) (w1 := [(av, .inl (d, 64, .inl fv)), (ah, .inl (d, 64, .inl (hN hp2))), (an, .inl (d, 64, .inl fi2))]) hP hD [1, 2, 3] [0] rfl rfl (by decide) (by decide) hk1 hFc hP1 hD1
  generalize H1 = H at hP hS ⊢
  have hP : va_P (dC, dI) vwCl [(aq, .inr (1, [.ref av, .ref ah, .int (nI sz), .null, .ref an])), (av, .inl (d, 64, .inl fv)), (ah, .inl (d, 64, .inl (hN hp2))), (an, .inl (d, 64, .inl fi2))] H := hP
  have hD : va_D A [(aq, .inr (1, [.ref av, .ref ah, .int (nI sz), .null, .ref an])), (av, .inl (d, 64, .inl fv)), (ah, .inl (d, 64, .inl (hN hp2))), (an, .inl (d, 64, .inl fi2))] := hD
  have hP9 := hP.sub (ws' := [(aq, .inr (1, [.ref av, .ref ah, .int (nI sz), .null, .ref an])), (av, .inl (d, 64, .inl fv)), (ah, .inl (d, 64, .inl (hN hp2))), (an, .inl (d, 64, .inl fi2))]) [0, 1, 2, 3] rfl
  have hD9 := hD.sub (ws' := [(aq, .inr (1, [.ref av, .ref ah, .int (nI sz), .null, .ref an])), (av, .inl (d, 64, .inl fv)), (ah, .inl (d, 64, .inl (hN hp2))), (an, .inl (d, 64, .inl fi2))]) [0, 1, 2, 3] (by decide) rfl
  have hK9 := hK.sub (tys' := [(d, .int)]) [0] rfl
  exact W.vret hx hb hr (fun t ht hW => ⟨⟨(sz, hp2, fi2), rfl, ⟨rfl, hs, hI2, hO2⟩, by rw [ht]; exact hP9, va_K.moved hW.alike hK9, hD9⟩, hS.F ht⟩) hS.2.2 dX2_allChanged_23
set_option maxHeartbeats 4000000 in
set_option maxRecDepth 100000 in
/-- remove(k) -/
theorem metX2_remove (l : Launch) (dC : Nat → ClassId) (dI : Nat → Nat → Nat) (d : ClassId) (aq av ah an z : Nat) (fv : Nat → Int32) (hp : Nat → Nat) (fi : Nat → Int32) (sz : Nat) (k : Nat) (M : Nat → Prop) (hI : DI M sz hp fi) (hs : sz ≤ 64) (hk : k < 64) (hO : HO fv sz 0 hp) : Met l yX2_remove wsX2_remove ({ frames := 1, cells := 0, slots := 0, locals := 30 }) (va_Pc [.ref aq, .int (nI k)] (fun U => U.heap.size = z ∧ va_P (dC, dI) vwCl [(aq, .inr (1, [.ref av, .ref ah, .int (nI sz), .null, .ref an])), (av, .inl (d, 64, .inl fv)), (ah, .inl (d, 64, .inl (hN hp))), (an, .inl (d, 64, .inl fi))] U.heap ∧ va_K (dC, dI) vwCl [(d, .int)] U ∧ va_D (fun _ => True) [(aq, .inr (1, [.ref av, .ref ah, .int (nI sz), .null, .ref an])), (av, .inl (d, 64, .inl fv)), (ah, .inl (d, 64, .inl (hN hp))), (an, .inl (d, 64, .inl fi))])) (va_Qi (fun (r : Int32) (u : Nat × (Nat → Nat) × (Nat → Int32)) => ((M k ∧ r = 1 ∧ sz = u.1 + 1) ∨ (¬ M k ∧ r = 0 ∧ u.1 = sz)) ∧ Good (fun j => M j ∧ j ≠ k) u.1 fv u.2.1 u.2.2) (BW4 dC dI d (va_A [(aq, .inr (1, [.ref av, .ref ah, .int (nI sz), .null, .ref an])), (av, .inl (d, 64, .inl fv)), (ah, .inl (d, 64, .inl (hN hp))), (an, .inl (d, 64, .inl fi))] z) aq av ah an fv) (va_A [(aq, .inr (1, [.ref av, .ref ah, .int (nI sz), .null, .ref an])), (av, .inl (d, 64, .inl fv)), (ah, .inl (d, 64, .inl (hN hp))), (an, .inl (d, 64, .inl fi))] z)) 0 0 (va_A [(aq, .inr (1, [.ref av, .ref ah, .int (nI sz), .null, .ref an])), (av, .inl (d, 64, .inl fv)), (ah, .inl (d, 64, .inl (hN hp))), (an, .inl (d, 64, .inl fi))] z) := by
  refine Met.ofW (cc := cX2_remove) (maxL := 4) (ret := (some .boolean)) (by decide) rfl ?_
  intro p e s m args below meth c s₁ B hml hv
  obtain ⟨rfl, hsz, hP, hK, hD0⟩ := hv
  have hx := B.exec
  have hb := B.bytes
  have hr := B.returns
  have hts := atoms_spec (ws := wsX2_remove) B.pre
  have hts : ∀ w ∈ lw_all, w.before _ s = true := fun w h => hts w (List.mem_cons_of_mem _ h)
  have hown : s.vm.findClass RX2 = some m.cls := findClass_of_methodNamed B.named
  have hlocks := B.notSynchronized
  subst hsz
  have hD := hD0.self (sz := s.heap.size)
  generalize hAe : va_A [(aq, .inr (1, [.ref av, .ref ah, .int (nI sz), .null, .ref an])), (av, .inl (d, 64, .inl fv)), (ah, .inl (d, 64, .inl (hN hp))), (an, .inl (d, 64, .inl fi))] s.heap.size = A at hD ⊢
  have hA : ∀ q : Nat, s.heap.size ≤ q → A q := fun q h => by rw [← hAe]; exact Or.inr h
  have hS : va_S A s.heap s.heap [] := va_S.rf
  have hP : va_P (dC, dI) vwCl [(aq, .inr (1, [.ref av, .ref ah, .int (nI sz), .null, .ref an])), (av, .inl (d, 64, .inl fv)), (ah, .inl (d, 64, .inl (hN hp))), (an, .inl (d, 64, .inl fi))] s.heap := hP
  have hl := lv_entry ([.ref aq, .int (nI k)]) (n := 4) (Nat.le_of_ble_eq_true rfl)
  rw [lg_entry_eq]
  generalize (lg_sl ([.ref aq, .int (nI k)]) ++ List.replicate (4 - (lg_sl ([.ref aq, .int (nI k)])).length) Slot.unset).toArray = ls at hl ⊢
  have hl : lv_has ls 4 [(0, .ref aq), (1, .int (nI k))] := hl
  refine lv_aload_n hx hb dX2_remove_0 rfl (lv_at hl 0 rfl) ?_
  refine va_get (D := (dC, dI)) (ci := 1) (v := .ref an) (C := RX2) (T := TX2) (N := 5) hx hb hts in_X2 hown hK hP 0 rfl rfl 4 (by decide) (hts _ q51) (fun _ h9 => h9) rfl dX2_remove_1 ?_
  refine lv_iload_n hx hb dX2_remove_4 rfl (lv_at hl 1 rfl) ?_
  refine xa_ld (v := fi k) hx hb hK hP 3 0 rfl rfl k rfl hk (by decide) rfl dX2_remove_5 ?_
  refine lv_istore_n (lv' := [(2, .int (fi k)), (0, .ref aq), (1, .int (nI k))]) hx hb dX2_remove_6 rfl hl (by decide) rfl (fun ls hl => ?_)
  refine lv_iload_n hx hb dX2_remove_7 rfl (lv_at hl 0 rfl) ?_
  refine lv_if_ge (tgt := 13) hx hb dX2_remove_8 (by decide) (fun c_1 => ?_) (fun c_1 => ?_)
  · have hM : M k := hI.inn hk (x_nlt0 c_1)
    obtain ⟨i, hi, hpi, hfi⟩ := hI.pos hM
    obtain ⟨s1, rfl⟩ : ∃ s1, sz = s1 + 1 := ⟨sz - 1, by omega⟩
    rw [hfi] at hl
    refine lv_aload_n hx hb dX2_remove_13 rfl (lv_at hl 1 rfl) ?_
    refine va_get (D := (dC, dI)) (ci := 1) (v := .ref an) (C := RX2) (T := TX2) (N := 5) hx hb hts in_X2 hown hK hP 0 rfl rfl 4 (by decide) (hts _ q51) (fun _ h9 => h9) rfl dX2_remove_14 ?_
    refine lv_iload_n hx hb dX2_remove_17 rfl (lv_at hl 2 rfl) ?_
    refine lv_iconst (v := (-1)) hx hb dX2_remove_18 (by decide +kernel) ?_
    refine xa_st hx hb hK hP hD hS 3 0 rfl rfl k rfl hk (by decide) (upd fi k (-1)) rfl dX2_remove_19 (fun H locs hP hD hS => ?_)
    have hP : va_P (dC, dI) vwCl [(aq, .inr (1, [.ref av, .ref ah, .int (nI (s1 + 1)), .null, .ref an])), (av, .inl (d, 64, .inl fv)), (ah, .inl (d, 64, .inl (hN hp))), (an, .inl (d, 64, .inl (upd fi k (-1))))] H := hP
    have hD : va_D A [(aq, .inr (1, [.ref av, .ref ah, .int (nI (s1 + 1)), .null, .ref an])), (av, .inl (d, 64, .inl fv)), (ah, .inl (d, 64, .inl (hN hp))), (an, .inl (d, 64, .inl (upd fi k (-1))))] := hD
    refine lv_iload_n hx hb dX2_remove_20 rfl (lv_at hl 0 rfl) ?_
    refine lv_aload_n hx hb dX2_remove_21 rfl (lv_at hl 1 rfl) ?_
    refine lv_dup hx hb dX2_remove_22 rfl ?_
    refine va_get (D := (dC, dI)) (ci := 1) (v := .int (nI (s1 + 1))) (C := RX2) (T := TX2) (N := 5) hx hb hts in_X2 hown hK hP 0 rfl rfl 2 (by decide) (hts _ q59) (u_same (hts _ q60)) rfl dX2_remove_23 ?_
    refine lv_iconst (v := 1) hx hb dX2_remove_26 (by decide +kernel) ?_
    refine xi_sub hx hb (nI s1) (nI_pred s1) dX2_remove_27 ?_
    refine lv_dup_x1 hx hb dX2_remove_28 rfl rfl ?_
    refine va_put (D := (dC, dI)) (ci := 1) (v := .int (nI s1)) (ty := .int) (C := RX2) (T := TX2) (N := 5) hx hb hts in_X2 tyX2 tyX2_ok nmX2 hown hK hP hD hS 0 rfl rfl 2 (by decide) (hts _ q59) (u_same (hts _ q60)) rfl (by decide +kernel) rfl rfl (Nat.le_of_ble_eq_true rfl) dX2_remove_29 (fun H locs hP hD hS => ?_)
    have hP : va_P (dC, dI) vwCl [(aq, .inr (1, [.ref av, .ref ah, .int (nI s1), .null, .ref an])), (av, .inl (d, 64, .inl fv)), (ah, .inl (d, 64, .inl (hN hp))), (an, .inl (d, 64, .inl (upd fi k (-1))))] H := hP
    have hD : va_D A [(aq, .inr (1, [.ref av, .ref ah, .int (nI s1), .null, .ref an])), (av, .inl (d, 64, .inl fv)), (ah, .inl (d, 64, .inl (hN hp))), (an, .inl (d, 64, .inl (upd fi k (-1))))] := hD
    refine lv_icmp_ge (tgt := 107) hx hb dX2_remove_32 (by decide) (fun c_2 => ?_) (fun c_2 => ?_)
    · have hi1 : i = s1 := by
        have h9 := (nI_leI (by omega) (by omega)).mp c_2
        omega
      have hI1 : DI (fun j => M j ∧ j ≠ k) s1 hp (upd fi k (-1)) := by
        have h9 := hI.pop (by omega)
        rw [← hi1, hpi] at h9
        rw [← hi1]
        exact h9
      refine lv_iconst (v := 1) hx hb dX2_remove_107 (by decide +kernel) ?_
      have hP9 := hP.sub (ws' := [(aq, .inr (1, [.ref av, .ref ah, .int (nI s1), .null, .ref an])), (av, .inl (d, 64, .inl fv)), (ah, .inl (d, 64, .inl (hN hp))), (an, .inl (d, 64, .inl (upd fi k (-1))))]) [0, 1, 2, 3] rfl
      have hD9 := hD.sub (ws' := [(aq, .inr (1, [.ref av, .ref ah, .int (nI s1), .null, .ref an])), (av, .inl (d, 64, .inl fv)), (ah, .inl (d, 64, .inl (hN hp))), (an, .inl (d, 64, .inl (upd fi k (-1))))]) [0, 1, 2, 3] (by decide) rfl
      have hK9 := hK.sub (tys' := [(d, .int)]) [0] rfl
      exact W.zret (v := 1) hx hb hr rfl (fun t ht hW => ⟨⟨1, (s1, hp, upd fi k (-1)), rfl, ⟨Or.inl ⟨hM, rfl, rfl⟩, Nat.le_of_succ_le hs, hI1, hO.less⟩, by rw [ht]; exact hP9, va_K.moved hW.alike hK9, hD9⟩, hS.F ht⟩) hS.2.2 dX2_remove_108
    · have hi1 : i < s1 := by
        rcases Nat.lt_or_ge i s1 with q | q
        · exact q
        · exact absurd (nI_le q (by omega)) c_2
      have hIc : DI (fun j => M j ∧ j ≠ k) s1 (va_up hp i (hp s1)) (upd (upd fi k (-1)) (hp s1) (nI i)) := by
        have h9 := hI.cut (by omega) hi1
        rw [hpi] at h9
        exact h9
      refine lv_aload_n hx hb dX2_remove_35 rfl (lv_at hl 1 rfl) ?_
      refine va_get (D := (dC, dI)) (ci := 1) (v := .ref an) (C := RX2) (T := TX2) (N := 5) hx hb hts in_X2 hown hK hP 0 rfl rfl 4 (by decide) (hts _ q51) (fun _ h9 => h9) rfl dX2_remove_36 ?_
      refine lv_aload_n hx hb dX2_remove_39 rfl (lv_at hl 1 rfl) ?_
      refine va_get (D := (dC, dI)) (ci := 1) (v := .ref ah) (C := RX2) (T := TX2) (N := 5) hx hb hts in_X2 hown hK hP 0 rfl rfl 1 (by decide) (hts _ q56) (u_same (hts _ q57)) rfl dX2_remove_40 ?_
      refine lv_iload_n hx hb dX2_remove_43 rfl (lv_at hl 0 rfl) ?_
      refine lv_aload_n hx hb dX2_remove_44 rfl (lv_at hl 1 rfl) ?_
      refine va_get (D := (dC, dI)) (ci := 1) (v := .ref ah) (C := RX2) (T := TX2) (N := 5) hx hb hts in_X2 hown hK hP 0 rfl rfl 1 (by decide) (hts _ q56) (u_same (hts _ q57)) rfl dX2_remove_45 ?_
      refine lv_aload_n hx hb dX2_remove_48 rfl (lv_at hl 1 rfl) ?_
      refine va_get (D := (dC, dI)) (ci := 1) (v := .int (nI s1)) (C := RX2) (T := TX2) (N := 5) hx hb hts in_X2 hown hK hP 0 rfl rfl 2 (by decide) (hts _ q59) (u_same (hts _ q60)) rfl dX2_remove_49 ?_
      refine xa_ld (v := nI (hp s1)) hx hb hK hP 2 0 rfl rfl s1 rfl (by omega) (by decide) rfl dX2_remove_52 ?_
      refine lv_dup_x2 hx hb dX2_remove_53 rfl rfl rfl ?_
      refine xa_st hx hb hK hP hD hS 2 0 rfl rfl i rfl (by omega) (by decide) (hN (va_up hp i (hp s1))) (hN_up _ _ _) dX2_remove_54 (fun H locs hP hD hS => ?_)
      have hP : va_P (dC, dI) vwCl [(aq, .inr (1, [.ref av, .ref ah, .int (nI s1), .null, .ref an])), (av, .inl (d, 64, .inl fv)), (ah, .inl (d, 64, .inl (hN (va_up hp i (hp s1))))), (an, .inl (d, 64, .inl (upd fi k (-1))))] H := hP
      have hD : va_D A [(aq, .inr (1, [.ref av, .ref ah, .int (nI s1), .null, .ref an])), (av, .inl (d, 64, .inl fv)), (ah, .inl (d, 64, .inl (hN (va_up hp i (hp s1))))), (an, .inl (d, 64, .inl (upd fi k (-1))))] := hD
      refine lv_iload_n hx hb dX2_remove_55 rfl (lv_at hl 0 rfl) ?_
      refine xa_st hx hb hK hP hD hS 3 0 rfl rfl (hp s1) rfl (hI.1 _) (by decide) (upd (upd fi k (-1)) (hp s1) (nI i)) rfl dX2_remove_56 (fun H locs hP hD hS => ?_)
      have hP : va_P (dC, dI) vwCl [(aq, .inr (1, [.ref av, .ref ah, .int (nI s1), .null, .ref an])), (av, .inl (d, 64, .inl fv)), (ah, .inl (d, 64, .inl (hN (va_up hp i (hp s1))))), (an, .inl (d, 64, .inl (upd (upd fi k (-1)) (hp s1) (nI i))))] H := hP
      have hD : va_D A [(aq, .inr (1, [.ref av, .ref ah, .int (nI s1), .null, .ref an])), (av, .inl (d, 64, .inl fv)), (ah, .inl (d, 64, .inl (hN (va_up hp i (hp s1))))), (an, .inl (d, 64, .inl (upd (upd fi k (-1)) (hp s1) (nI i))))] := hD
      refine lv_aload_n hx hb dX2_remove_57 rfl (lv_at hl 1 rfl) ?_
      refine va_get (D := (dC, dI)) (ci := 1) (v := .ref av) (C := RX2) (T := TX2) (N := 5) hx hb hts in_X2 hown hK hP 0 rfl rfl 0 (by decide) (hts _ q53) (u_same (hts _ q54)) rfl dX2_remove_58 ?_
      refine lv_aload_n hx hb dX2_remove_61 rfl (lv_at hl 1 rfl) ?_
      refine va_get (D := (dC, dI)) (ci := 1) (v := .ref ah) (C := RX2) (T := TX2) (N := 5) hx hb hts in_X2 hown hK hP 0 rfl rfl 1 (by decide) (hts _ q56) (u_same (hts _ q57)) rfl dX2_remove_62 ?_
      refine lv_aload_n hx hb dX2_remove_65 rfl (lv_at hl 1 rfl) ?_
      refine va_get (D := (dC, dI)) (ci := 1) (v := .ref an) (C := RX2) (T := TX2) (N := 5) hx hb hts in_X2 hown hK hP 0 rfl rfl 4 (by decide) (hts _ q51) (fun _ h9 => h9) rfl dX2_remove_66 ?_
      refine lv_aload_n hx hb dX2_remove_69 rfl (lv_at hl 1 rfl) ?_
      refine va_get (D := (dC, dI)) (ci := 1) (v := .int (nI s1)) (C := RX2) (T := TX2) (N := 5) hx hb hts in_X2 hown hK hP 0 rfl rfl 2 (by decide) (hts _ q59) (u_same (hts _ q60)) rfl dX2_remove_70 ?_
      refine lv_iload_n hx hb dX2_remove_73 rfl (lv_at hl 0 rfl) ?_
      refine lv_aload_n hx hb dX2_remove_74 rfl (lv_at hl 1 rfl) ?_
      refine va_get (D := (dC, dI)) (ci := 1) (v := .null) (C := RX2) (T := TX2) (N := 5) hx hb hts in_X2 hown hK hP 0 rfl rfl 3 (by decide) (hts _ q62) (u_same (hts _ q63)) rfl dX2_remove_75 ?_
      have hPc := hP.sub (ws' := [(av, .inl (d, 64, .inl fv)), (ah, .inl (d, 64, .inl (hN (va_up hp i (hp s1))))), (an, .inl (d, 64, .inl (upd (upd fi k (-1)) (hp s1) (nI i))))]) [1, 2, 3] rfl
      have hDc := hD.sub (ws' := [(av, .inl (d, 64, .inl fv)), (ah, .inl (d, 64, .inl (hN (va_up hp i (hp s1))))), (an, .inl (d, 64, .inl (upd (upd fi k (-1)) (hp s1) (nI i))))]) [1, 2, 3] (by decide) rfl
      have hKc := hK.sub (tys' := [(d, .int)]) [0] rfl
      have hFc := va_free (wc := [(av, .inl (d, 64, .inl fv)), (ah, .inl (d, 64, .inl (hN (va_up hp i (hp s1))))), (an, .inl (d, 64, .inl (upd (upd fi k (-1)) (hp s1) (nI i))))]) hD hS hA [1, 2, 3] rfl
      refine va_calli (va_runS (As := [.ref av, .ref ah, .ref an, .int (nI s1), .int (nI i), .null]) (rest := []) ⟨hx, hb, hml, hown, hts⟩ (metX5_upHeap l dC dI d av ah an H.size fv (va_up hp i (hp s1)) (upd (upd fi k (-1)) (hp s1) (nI i)) s1 i (fun j => M j ∧ j ≠ k) hIc (hO.cut hi1) hi1 (Nat.le_of_succ_le hs)) (va_cwS 6 hts (lw_S q399 q400 q24 q401) rfl rfl rfl (by decide +kernel) ⟨Nat.le_of_ble_eq_true rfl, Nat.le_of_ble_eq_true rfl⟩) ⟨fun a U g mk q => by obtain ⟨q0, q1, qP, qK, qD⟩ := q; exact ⟨q0, q1, qP, va_K.moved (u := U) (U := U.calling g mk a) (Vm.Alike.refl U.vm) qK, qD⟩, fun U hU hW => ⟨rfl, by rw [hU], by rw [hU]; exact hPc, va_K.moved hW.alike hKc, hDc.weaken (fun _ _ _ _ => trivial)⟩⟩ rfl rfl hl.1 rfl (lv_room (Nat.le_of_ble_eq_true rfl)) dX2_remove_78 ⟨Nat.le_of_ble_eq_true rfl, Nat.le_of_ble_eq_true rfl⟩) hS (fun q _ h => hFc q h) hFc (fun r_1 u t H1 locs ht hvm hw hB hz1 hk1 hS => ?_)
      obtain ⟨hp1, fi1⟩ := u
      obtain ⟨k1, er1, hks1, hI1, hU1⟩ := hw
      dsimp only at hI1 hU1
      obtain ⟨hP1, hK1, hD1⟩ := hB
      rw [ht] at hP1
      have hK1 := va_K.moved hvm.symm hK1
      obtain ⟨hP, hD⟩ := va_join (wr := [(aq, .inr (1, [.ref av, .ref ah, .int (nI s1), .null, .ref an]))]) (w1 := [(av, .inl (d, 64, .inl fv)), (ah, .inl (d, 64, .inl (hN hp1))), (an, .inl (d, 64, .inl fi1))]) hP hD [1, 2, 3] [0] rfl rfl (by decide) (by decide) hk1 hFc hP1 hD1
      generalize H1 = H at hP hS ⊢
      have hP : va_P (dC, dI) vwCl [(aq, .inr (1, [.ref av, .ref ah, .int (nI s1), .null, .ref an])), (av, .inl (d, 64, .inl fv)), (ah, .inl (d, 64, .inl (hN hp1))), (an, .inl (d, 64, .inl fi1))] H := hP
      have hD : va_D A [(aq, .inr (1, [.ref av, .ref ah, .int (nI s1), .null, .ref an])), (av, .inl (d, 64, .inl fv)), (ah, .inl (d, 64, .inl (hN hp1))), (an, .inl (d, 64, .inl fi1))] := hD
      subst er1
      refine lv_istore_n (lv' := [(3, .int (nI k1)), (2, .int (nI i)), (0, .ref aq), (1, .int (nI k))]) hx hb dX2_remove_81 rfl hl (by decide) rfl (fun ls hl => ?_)
      refine lv_aload_n hx hb dX2_remove_82 rfl (lv_at hl 2 rfl) ?_
      refine va_get (D := (dC, dI)) (ci := 1) (v := .ref av) (C := RX2) (T := TX2) (N := 5) hx hb hts in_X2 hown hK hP 0 rfl rfl 0 (by decide) (hts _ q53) (u_same (hts _ q54)) rfl dX2_remove_83 ?_
      refine lv_aload_n hx hb dX2_remove_86 rfl (lv_at hl 2 rfl) ?_
      refine va_get (D := (dC, dI)) (ci := 1) (v := .ref ah) (C := RX2) (T := TX2) (N := 5) hx hb hts in_X2 hown hK hP 0 rfl rfl 1 (by decide) (hts _ q56) (u_same (hts _ q57)) rfl dX2_remove_87 ?_
      refine lv_aload_n hx hb dX2_remove_90 rfl (lv_at hl 2 rfl) ?_
      refine va_get (D := (dC, dI)) (ci := 1) (v := .ref an) (C := RX2) (T := TX2) (N := 5) hx hb hts in_X2 hown hK hP 0 rfl rfl 4 (by decide) (hts _ q51) (fun _ h9 => h9) rfl dX2_remove_91 ?_
      refine lv_aload_n hx hb dX2_remove_94 rfl (lv_at hl 2 rfl) ?_
      refine va_get (D := (dC, dI)) (ci := 1) (v := .int (nI s1)) (C := RX2) (T := TX2) (N := 5) hx hb hts in_X2 hown hK hP 0 rfl rfl 2 (by decide) (hts _ q59) (u_same (hts _ q60)) rfl dX2_remove_95 ?_
      refine lv_iload_n hx hb dX2_remove_98 rfl (lv_at hl 0 rfl) ?_
      refine lv_aload_n hx hb dX2_remove_99 rfl (lv_at hl 2 rfl) ?_
      refine va_get (D := (dC, dI)) (ci := 1) (v := .null) (C := RX2) (T := TX2) (N := 5) hx hb hts in_X2 hown hK hP 0 rfl rfl 3 (by decide) (hts _ q62) (u_same (hts _ q63)) rfl dX2_remove_100 ?_
      have hPc := hP.sub (ws' := [(av, .inl (d, 64, .inl fv)), (ah, .inl (d, 64, .inl (hN hp1))), (an, .inl (d, 64, .inl fi1))]) [1, 2, 3] rfl
      have hDc := hD.sub (ws' := [(av, .inl (d, 64, .inl fv)), (ah, .inl (d, 64, .inl (hN hp1))), (an, .inl (d, 64, .inl fi1))]) [1, 2, 3] (by decide) rfl
      have hKc := hK.sub (tys' := [(d, .int)]) [0] rfl
      have hFc := va_free (wc := [(av, .inl (d, 64, .inl fv)), (ah, .inl (d, 64, .inl (hN hp1))), (an, .inl (d, 64, .inl fi1))]) hD hS hA [1, 2, 3] rfl
      refine va_calli (va_runS (As := [.ref av, .ref ah, .ref an, .int (nI s1), .int (nI k1), .null]) (rest := []) ⟨hx, hb, hml, hown, hts⟩ (metX5_downHeap l dC dI d av ah an H.size fv hp1 fi1 s1 k1 0 (fun j => M j ∧ j ≠ k) hI1 hU1.down hks1 (Nat.le_of_succ_le hs)) (va_cwS 6 hts (lw_S q402 q403 q24 q404) rfl rfl rfl (by decide +kernel) ⟨Nat.le_of_ble_eq_true rfl, Nat.le_of_ble_eq_true rfl⟩) ⟨fun a U g mk q => by obtain ⟨q0, q1, qP, qK, qD⟩ := q; exact ⟨q0, q1, qP, va_K.moved (u := U) (U := U.calling g mk a) (Vm.Alike.refl U.vm) qK, qD⟩, fun U hU hW => ⟨rfl, by rw [hU], by rw [hU]; exact hPc, va_K.moved hW.alike hKc, hDc.weaken (fun _ _ _ _ => trivial)⟩⟩ rfl rfl hl.1 rfl (lv_room (Nat.le_of_ble_eq_true rfl)) dX2_remove_103 ⟨Nat.le_of_ble_eq_true rfl, Nat.le_of_ble_eq_true rfl⟩) hS (fun q _ h => hFc q h) hFc (fun r_2 u t H1 locs ht hvm hw hB hz1 hk1 hS => ?_)
      obtain ⟨hp2, fi2⟩ := u
      obtain ⟨hI2, hO2⟩ := hw
      dsimp only at hI2 hO2
      obtain ⟨hP1, hK1, hD1⟩ := hB
      rw [ht] at hP1
      have hK1 := va_K.moved hvm.symm hK1
      obtain ⟨hP, hD⟩ := va_join (wr := [(aq, .inr (1, [.ref av, .ref ah, .int (nI s1), .null, .ref an]))]) (w1 := [(av, .inl (d, 64, .inl fv)), (ah, .inl (d, 64, .inl (hN hp2))), (an, .inl (d, 64, .inl fi2))]) hP hD [1, 2, 3] [0] rfl rfl (by decide) (by decide) hk1 hFc hP1 hD1
      generalize H1 = H at hP hS ⊢
      have hP : va_P (dC, dI) vwCl [(aq, .inr (1, [.ref av, .ref ah, .int (nI s1), .null, .ref an])), (av, .inl (d, 64, .inl fv)), (ah, .inl (d, 64, .inl (hN hp2))), (an, .inl (d, 64, .inl fi2))] H := hP
      have hD : va_D A [(aq, .inr (1, [.ref av, .ref ah, .int (nI s1), .null, .ref an])), (av, .inl (d, 64, .inl fv)), (ah, .inl (d, 64, .inl (hN hp2))), (an, .inl (d, 64, .inl fi2))] := hD
      refine lv_pop hx hb dX2_remove_106 rfl ?_
      refine lv_iconst (v := 1) hx hb dX2_remove_107 (by decide +kernel) ?_
      have hP9 := hP.sub (ws' := [(aq, .inr (1, [.ref av, .ref ah, .int (nI s1), .null, .ref an])), (av, .inl (d, 64, .inl fv)), (ah, .inl (d, 64, .inl (hN hp2))), (an, .inl (d, 64, .inl fi2))]) [0, 1, 2, 3] rfl
      have hD9 := hD.sub (ws' := [(aq, .inr (1, [.ref av, .ref ah, .int (nI s1), .null, .ref an])), (av, .inl (d, 64, .inl fv)), (ah, .inl (d, 64, .inl (hN hp2))), (an, .inl (d, 64, .inl fi2))]) [0, 1, 2, 3] (by decide) rfl
      have hK9 := hK.sub (tys' := [(d, .int)]) [0] rfl
      exact W.zret (v := 1) hx hb hr rfl (fun t ht hW => ⟨⟨1, (s1, hp2, fi2), rfl, ⟨Or.inl ⟨hM, rfl, rfl⟩, Nat.le_of_succ_le hs, hI2, hO2⟩, by rw [ht]; exact hP9, va_K.moved hW.alike hK9, hD9⟩, hS.F ht⟩) hS.2.2 dX2_remove_108
  · have hM : ¬ M k := hI.out hs (x_le0 c_1)
    refine lv_iconst (v := 0) hx hb dX2_remove_11 (by decide +kernel) ?_
    have hP9 := hP.sub (ws' := [(aq, .inr (1, [.ref av, .ref ah, .int (nI sz), .null, .ref an])), (av, .inl (d, 64, .inl fv)), (ah, .inl (d, 64, .inl (hN hp))), (an, .inl (d, 64, .inl fi))]) [0, 1, 2, 3] rfl
    have hD9 := hD.sub (ws' := [(aq, .inr (1, [.ref av, .ref ah, .int (nI sz), .null, .ref an])), (av, .inl (d, 64, .inl fv)), (ah, .inl (d, 64, .inl (hN hp))), (an, .inl (d, 64, .inl fi))]) [0, 1, 2, 3] (by decide) rfl
    have hK9 := hK.sub (tys' := [(d, .int)]) [0] rfl
    exact W.zret (v := 0) hx hb hr rfl (fun t ht hW => ⟨⟨0, (sz, hp, fi), rfl, ⟨Or.inr ⟨hM, rfl, rfl⟩, hs, hI.congr (fun j => ⟨fun q => ⟨q, fun e => hM (e ▸ q)⟩, fun q => q.1⟩), hO⟩, by rw [ht]; exact hP9, va_K.moved hW.alike hK9, hD9⟩, hS.F ht⟩) hS.2.2 dX2_remove_12
set_option maxHeartbeats 4000000 in
set_option maxRecDepth 100000 in
/-- clear() -/
theorem metX2_clear (l : Launch) (dC : Nat → ClassId) (dI : Nat → Nat → Nat) (d : ClassId) (aq av ah an z : Nat) (fv : Nat → Int32) (hp : Nat → Nat) (fi : Nat → Int32) (sz : Nat) (hh : ∀ j, hp j < 64) : Met l yX2_clear wsX2_clear ({ frames := 1, cells := 0, slots := 0, locals := 23 }) (va_Pc [.ref aq] (fun U => U.heap.size = z ∧ va_P (dC, dI) vwCl [(aq, .inr (1, [.ref av, .ref ah, .int (nI sz), .null, .ref an])), (av, .inl (d, 64, .inl fv)), (ah, .inl (d, 64, .inl (hN hp))), (an, .inl (d, 64, .inl fi))] U.heap ∧ va_K (dC, dI) vwCl [(d, .int)] U ∧ va_D (fun _ => True) [(aq, .inr (1, [.ref av, .ref ah, .int (nI sz), .null, .ref an])), (av, .inl (d, 64, .inl fv)), (ah, .inl (d, 64, .inl (hN hp))), (an, .inl (d, 64, .inl fi))])) (va_Qv (fun u : Nat × (Nat → Nat) × (Nat → Int32) => u.1 = 0 ∧ Good (fun _ => False) u.1 fv u.2.1 u.2.2) (BW4 dC dI d (va_A [(aq, .inr (1, [.ref av, .ref ah, .int (nI sz), .null, .ref an])), (av, .inl (d, 64, .inl fv)), (ah, .inl (d, 64, .inl (hN hp))), (an, .inl (d, 64, .inl fi))] z) aq av ah an fv) (va_A [(aq, .inr (1, [.ref av, .ref ah, .int (nI sz), .null, .ref an])), (av, .inl (d, 64, .inl fv)), (ah, .inl (d, 64, .inl (hN hp))), (an, .inl (d, 64, .inl fi))] z)) 0 0 (va_A [(aq, .inr (1, [.ref av, .ref ah, .int (nI sz), .null, .ref an])), (av, .inl (d, 64, .inl fv)), (ah, .inl (d, 64, .inl (hN hp))), (an, .inl (d, 64, .inl fi))] z) := by
  refine Met.ofW (cc := cX2_clear) (maxL := 1) (ret := none) (by decide) rfl ?_
  intro p e s m args below meth c s₁ B hml hv
  obtain ⟨rfl, hsz, hP, hK, hD0⟩ := hv
  have hx := B.exec
  have hb := B.bytes
  have hr := B.returns
  have hts := atoms_spec (ws := wsX2_clear) B.pre
  have hts : ∀ w ∈ lw_all, w.before _ s = true := fun w h => hts w (List.mem_cons_of_mem _ h)
  have hown : s.vm.findClass RX2 = some m.cls := findClass_of_methodNamed B.named
  have hlocks := B.notSynchronized
  subst hsz
  have hD := hD0.self (sz := s.heap.size)
  generalize hAe : va_A [(aq, .inr (1, [.ref av, .ref ah, .int (nI sz), .null, .ref an])), (av, .inl (d, 64, .inl fv)), (ah, .inl (d, 64, .inl (hN hp))), (an, .inl (d, 64, .inl fi))] s.heap.size = A at hD ⊢
  have hA : ∀ q : Nat, s.heap.size ≤ q → A q := fun q h => by rw [← hAe]; exact Or.inr h
  have hS : va_S A s.heap s.heap [] := va_S.rf
  have hP : va_P (dC, dI) vwCl [(aq, .inr (1, [.ref av, .ref ah, .int (nI sz), .null, .ref an])), (av, .inl (d, 64, .inl fv)), (ah, .inl (d, 64, .inl (hN hp))), (an, .inl (d, 64, .inl fi))] s.heap := hP
  have hl := lv_entry ([.ref aq]) (n := 1) (Nat.le_of_ble_eq_true rfl)
  rw [lg_entry_eq]
  generalize (lg_sl ([.ref aq]) ++ List.replicate (1 - (lg_sl ([.ref aq])).length) Slot.unset).toArray = ls at hl ⊢
  have hl : lv_has ls 1 [(0, .ref aq)] := hl
  refine lv_aload_n hx hb dX2_clear_0 rfl (lv_at hl 0 rfl) ?_
  refine lv_iconst (v := nI 0) hx hb dX2_clear_1 (by decide +kernel) ?_
  refine va_put (D := (dC, dI)) (ci := 1) (v := .int (nI 0)) (ty := .int) (C := RX2) (T := TX2) (N := 5) hx hb hts in_X2 tyX2 tyX2_ok nmX2 hown hK hP hD hS 0 rfl rfl 2 (by decide) (hts _ q59) (u_same (hts _ q60)) rfl (by decide +kernel) rfl rfl (Nat.le_of_ble_eq_true rfl) dX2_clear_2 (fun H locs hP hD hS => ?_)
  have hP : va_P (dC, dI) vwCl [(aq, .inr (1, [.ref av, .ref ah, .int (nI 0), .null, .ref an])), (av, .inl (d, 64, .inl fv)), (ah, .inl (d, 64, .inl (hN hp))), (an, .inl (d, 64, .inl fi))] H := hP
  have hD : va_D A [(aq, .inr (1, [.ref av, .ref ah, .int (nI 0), .null, .ref an])), (av, .inl (d, 64, .inl fv)), (ah, .inl (d, 64, .inl (hN hp))), (an, .inl (d, 64, .inl fi))] := hD
  refine lv_aload_n hx hb dX2_clear_5 rfl (lv_at hl 0 rfl) ?_
  refine va_get (D := (dC, dI)) (ci := 1) (v := .ref an) (C := RX2) (T := TX2) (N := 5) hx hb hts in_X2 hown hK hP 0 rfl rfl 4 (by decide) (hts _ q51) (fun _ h9 => h9) rfl dX2_clear_6 ?_
  refine lv_iconst (v := (-1)) hx hb dX2_clear_9 (by decide +kernel) ?_
  have hPc := hP.sub (ws' := [(an, .inl (d, 64, .inl fi))]) [3] rfl
  have hDc := hD.sub (ws' := [(an, .inl (d, 64, .inl fi))]) [3] (by decide) rfl
  have hKc := hK.sub (tys' := [(d, .int)]) [0] rfl
  have hFc := va_free (wc := [(an, .inl (d, 64, .inl fi))]) hD hS hA [3] rfl
  refine va_callv (va_runS (As := [.ref an, .int (-1)]) (rest := []) ⟨hx, hb, hml, hown, hts⟩ (metJ0_fill l dC dI d an H.size fi (-1)) (va_cwS 2 hts (lw_S q48 q49 q7 q50) rfl rfl rfl (by decide +kernel) ⟨Nat.le_of_ble_eq_true rfl, Nat.le_of_ble_eq_true rfl⟩) ⟨fun a U g mk q => by obtain ⟨q0, q1, qP, qK, qD⟩ := q; exact ⟨q0, q1, qP, va_K.moved (u := U) (U := U.calling g mk a) (Vm.Alike.refl U.vm) qK, qD⟩, fun U hU hW => ⟨rfl, by rw [hU], by rw [hU]; exact hPc, va_K.moved hW.alike hKc, hDc.weaken (fun _ _ _ _ => trivial)⟩⟩ rfl rfl hl.1 rfl (lv_room (Nat.le_of_ble_eq_true rfl)) dX2_clear_10 ⟨Nat.le_of_ble_eq_true rfl, Nat.le_of_ble_eq_true rfl⟩) hS (fun q _ h => hFc q h) hFc (fun u t H1 locs ht hvm hw hB hz1 hk1 hS => ?_)
  obtain ⟨f1, rfl⟩ : ∃ y, y = u := ⟨_, rfl⟩
  obtain ⟨hP1, hK1, hD1⟩ := hB
  rw [ht] at hP1
  have hK1 := va_K.moved hvm.symm hK1
  obtain ⟨hP, hD⟩ := va_join (wr := [(aq, .inr (1, [.ref av, .ref ah, .int (nI 0), .null, .ref an])), (av, .inl (d, 64, .inl fv)), (ah, .inl (d, 64, .inl (hN hp)))]) (w1 := [(an, .inl (d, 64, .inl f1))]) hP hD [3] [0, 1, 2] rfl rfl (by decide) (by decide) hk1 hFc hP1 hD1
  generalize H1 = H at hP hS ⊢
  have hP : va_P (dC, dI) vwCl [(aq, .inr (1, [.ref av, .ref ah, .int (nI 0), .null, .ref an])), (av, .inl (d, 64, .inl fv)), (ah, .inl (d, 64, .inl (hN hp))), (an, .inl (d, 64, .inl f1))] H := hP
  have hD : va_D A [(aq, .inr (1, [.ref av, .ref ah, .int (nI 0), .null, .ref an])), (av, .inl (d, 64, .inl fv)), (ah, .inl (d, 64, .inl (hN hp))), (an, .inl (d, 64, .inl f1))] := hD
  have hP9 := hP.sub (ws' := [(aq, .inr (1, [.ref av, .ref ah, .int (nI 0), .null, .ref an])), (av, .inl (d, 64, .inl fv)), (ah, .inl (d, 64, .inl (hN hp))), (an, .inl (d, 64, .inl f1))]) [0, 1, 2, 3] rfl
  have hD9 := hD.sub (ws' := [(aq, .inr (1, [.ref av, .ref ah, .int (nI 0), .null, .ref an])), (av, .inl (d, 64, .inl fv)), (ah, .inl (d, 64, .inl (hN hp))), (an, .inl (d, 64, .inl f1))]) [0, 1, 2, 3] (by decide) rfl
  have hK9 := hK.sub (tys' := [(d, .int)]) [0] rfl
  exact W.vret hx hb hr (fun t ht hW => ⟨⟨(0, hp, f1), rfl, ⟨rfl, Nat.zero_le _, DI.zero hh hw, HO.zero _ _⟩, by rw [ht]; exact hP9, va_K.moved hW.alike hK9, hD9⟩, hS.F ht⟩) hS.2.2 dX2_clear_13
end
section
/-- the value v with the key k in its low six bits -/
def nv (v : Int32) (k : Nat) : Int32 := (v &&& (-64)) ||| nI k
theorem HO.off {fv : Nat → Int32} {sz k : Nat} {x : Int32} {hp : Nat → Nat} (h : HO fv sz 0 hp) (hn : ∀ j, j < sz → hp j ≠ k) : HO (upd fv k x) sz 0 hp := by
  intro j h0 hj hl
  have h1 := h j h0 hj hl
  unfold kv at h1 ⊢
  rw [ud_e, ud_e, if_neg (hn j hj), if_neg (hn _ (by omega))]
  exact h1
theorem x_nb {r : Int32} (h : r = 1 ∨ r = 0) : narrow .boolean (.int r) = .int r := by
  rcases h with h | h <;> rw [h] <;> rfl
set_option maxHeartbeats 4000000 in
set_option maxRecDepth 100000 in
/-- change(i, v) -/
theorem metX0_change (l : Launch) (dC : Nat → ClassId) (dI : Nat → Nat → Nat) (d : ClassId) (ax aq av ah an z : Nat) (fv : Nat → Int32) (hp : Nat → Nat) (fi : Nat → Int32) (sz : Nat) (M : Nat → Prop) (hG : Good M sz fv hp fi) (p0 p1 : Int32) : Met l yX0_change wsX0_change ({ frames := 3, cells := 0, slots := 0, locals := 80 }) (va_Pc [.ref ax, .int p0, .int p1] (fun U => U.heap.size = z ∧ va_P (dC, dI) vwCl [(ax, .inr (0, [.ref av, .ref aq])), (aq, .inr (1, [.ref av, .ref ah, .int (nI sz), .null, .ref an])), (av, .inl (d, 64, .inl fv)), (ah, .inl (d, 64, .inl (hN hp))), (an, .inl (d, 64, .inl fi))] U.heap ∧ va_K (dC, dI) vwCl [(d, .int)] U ∧ va_D (fun _ => True) [(ax, .inr (0, [.ref av, .ref aq])), (aq, .inr (1, [.ref av, .ref ah, .int (nI sz), .null, .ref an])), (av, .inl (d, 64, .inl fv)), (ah, .inl (d, 64, .inl (hN hp))), (an, .inl (d, 64, .inl fi))])) (va_Qv (fun u : Nat × (Nat → Int32) × (Nat → Nat) × (Nat → Int32) => u.1 = sz ∧ u.2.1 = upd fv (lo6 p0) (nv p1 (lo6 p0)) ∧ Good M u.1 u.2.1 u.2.2.1 u.2.2.2) (BW5 dC dI d (va_A [(ax, .inr (0, [.ref av, .ref aq])), (aq, .inr (1, [.ref av, .ref ah, .int (nI sz), .null, .ref an])), (av, .inl (d, 64, .inl fv)), (ah, .inl (d, 64, .inl (hN hp))), (an, .inl (d, 64, .inl fi))] z) ax aq av ah an) (va_A [(ax, .inr (0, [.ref av, .ref aq])), (aq, .inr (1, [.ref av, .ref ah, .int (nI sz), .null, .ref an])), (av, .inl (d, 64, .inl fv)), (ah, .inl (d, 64, .inl (hN hp))), (an, .inl (d, 64, .inl fi))] z)) 0 0 (va_A [(ax, .inr (0, [.ref av, .ref aq])), (aq, .inr (1, [.ref av, .ref ah, .int (nI sz), .null, .ref an])), (av, .inl (d, 64, .inl fv)), (ah, .inl (d, 64, .inl (hN hp))), (an, .inl (d, 64, .inl fi))] z) := by
  refine Met.ofW (cc := cX0_change) (maxL := 4) (ret := none) (by decide) rfl ?_
  intro p e s m args below meth c s₁ B hml hv
  obtain ⟨rfl, hsz, hP, hK, hD0⟩ := hv
  have hx := B.exec
  have hb := B.bytes
  have hr := B.returns
  have hts := atoms_spec (ws := wsX0_change) B.pre
  have hts : ∀ w ∈ lw_all, w.before _ s = true := fun w h => hts w (List.mem_cons_of_mem _ h)
  have hown : s.vm.findClass RX0 = some m.cls := findClass_of_methodNamed B.named
  have hlocks := B.notSynchronized
  subst hsz
  have hD := hD0.self (sz := s.heap.size)
  generalize hAe : va_A [(ax, .inr (0, [.ref av, .ref aq])), (aq, .inr (1, [.ref av, .ref ah, .int (nI sz), .null, .ref an])), (av, .inl (d, 64, .inl fv)), (ah, .inl (d, 64, .inl (hN hp))), (an, .inl (d, 64, .inl fi))] s.heap.size = A at hD ⊢
  have hA : ∀ q : Nat, s.heap.size ≤ q → A q := fun q h => by rw [← hAe]; exact Or.inr h
  have hS : va_S A s.heap s.heap [] := va_S.rf
  have hP : va_P (dC, dI) vwCl [(ax, .inr (0, [.ref av, .ref aq])), (aq, .inr (1, [.ref av, .ref ah, .int (nI sz), .null, .ref an])), (av, .inl (d, 64, .inl fv)), (ah, .inl (d, 64, .inl (hN hp))), (an, .inl (d, 64, .inl fi))] s.heap := hP
  have hl := lv_entry ([.ref ax, .int p0, .int p1]) (n := 4) (Nat.le_of_ble_eq_true rfl)
  rw [lg_entry_eq]
  generalize (lg_sl ([.ref ax, .int p0, .int p1]) ++ List.replicate (4 - (lg_sl ([.ref ax, .int p0, .int p1])).length) Slot.unset).toArray = ls at hl ⊢
  have hl : lv_has ls 4 [(0, .ref ax), (1, .int p0), (2, .int p1)] := hl
  refine lv_iload_n hx hb dX0_change_0 rfl (lv_at hl 1 rfl) ?_
  refine lv_bipush (v := 63) hx hb dX0_change_1 (by decide +kernel) ?_
  refine xi_and hx hb (nI (lo6 p0)) (x_and63 p0) dX0_change_3 ?_
  refine lv_istore_n (lv' := [(3, .int (nI (lo6 p0))), (0, .ref ax), (1, .int p0), (2, .int p1)]) hx hb dX0_change_4 rfl hl (by decide) rfl (fun ls hl => ?_)
  refine lv_aload_n hx hb dX0_change_5 rfl (lv_at hl 1 rfl) ?_
  refine va_get (D := (dC, dI)) (ci := 0) (v := .ref av) (C := RX0) (T := TX0) (N := 2) hx hb hts in_X0 hown hK hP 0 rfl rfl 0 (by decide) (hts _ q76) (fun _ h9 => h9) rfl dX0_change_6 ?_
  refine lv_iload_n hx hb dX0_change_9 rfl (lv_at hl 0 rfl) ?_
  refine lv_iload_n hx hb dX0_change_10 rfl (lv_at hl 3 rfl) ?_
  refine lv_bipush (v := (-64)) hx hb dX0_change_11 (by decide +kernel) ?_
  refine xi_and hx hb (p1 &&& (-64)) rfl dX0_change_13 ?_
  refine lv_iload_n hx hb dX0_change_14 rfl (lv_at hl 0 rfl) ?_
  refine xi_or hx hb (nv p1 (lo6 p0)) rfl dX0_change_15 ?_
  refine xa_st hx hb hK hP hD hS 2 0 rfl rfl (lo6 p0) rfl (lo6_lt p0) (by decide) (upd fv (lo6 p0) (nv p1 (lo6 p0))) rfl dX0_change_16 (fun H locs hP hD hS => ?_)
  have hP : va_P (dC, dI) vwCl [(ax, .inr (0, [.ref av, .ref aq])), (aq, .inr (1, [.ref av, .ref ah, .int (nI sz), .null, .ref an])), (av, .inl (d, 64, .inl (upd fv (lo6 p0) (nv p1 (lo6 p0))))), (ah, .inl (d, 64, .inl (hN hp))), (an, .inl (d, 64, .inl fi))] H := hP
  have hD : va_D A [(ax, .inr (0, [.ref av, .ref aq])), (aq, .inr (1, [.ref av, .ref ah, .int (nI sz), .null, .ref an])), (av, .inl (d, 64, .inl (upd fv (lo6 p0) (nv p1 (lo6 p0))))), (ah, .inl (d, 64, .inl (hN hp))), (an, .inl (d, 64, .inl fi))] := hD
  refine lv_aload_n hx hb dX0_change_17 rfl (lv_at hl 1 rfl) ?_
  refine va_get (D := (dC, dI)) (ci := 0) (v := .ref aq) (C := RX0) (T := TX0) (N := 2) hx hb hts in_X0 hown hK hP 0 rfl rfl 1 (by decide) (hts _ q77) (fun _ h9 => h9) rfl dX0_change_18 ?_
  refine lv_iload_n hx hb dX0_change_21 rfl (lv_at hl 0 rfl) ?_
  have hPc := hP.sub (ws' := [(aq, .inr (1, [.ref av, .ref ah, .int (nI sz), .null, .ref an])), (av, .inl (d, 64, .inl (upd fv (lo6 p0) (nv p1 (lo6 p0))))), (ah, .inl (d, 64, .inl (hN hp))), (an, .inl (d, 64, .inl fi))]) [1, 2, 3, 4] rfl
  have hDc := hD.sub (ws' := [(aq, .inr (1, [.ref av, .ref ah, .int (nI sz), .null, .ref an])), (av, .inl (d, 64, .inl (upd fv (lo6 p0) (nv p1 (lo6 p0))))), (ah, .inl (d, 64, .inl (hN hp))), (an, .inl (d, 64, .inl fi))]) [1, 2, 3, 4] (by decide) rfl
  have hKc := hK.sub (tys' := [(d, .int)]) [0] rfl
  have hFc := va_free (wc := [(aq, .inr (1, [.ref av, .ref ah, .int (nI sz), .null, .ref an])), (av, .inl (d, 64, .inl (upd fv (lo6 p0) (nv p1 (lo6 p0))))), (ah, .inl (d, 64, .inl (hN hp))), (an, .inl (d, 64, .inl fi))]) hD hS hA [1, 2, 3, 4] rfl
  refine va_calli (va_runV (As := [.int (nI (lo6 p0))]) (rest := []) ⟨hx, hb, hml, hown, hts⟩ (metX2_contains l dC dI d aq av ah an H.size (upd fv (lo6 p0) (nv p1 (lo6 p0))) hp fi sz (lo6 p0) M hG.2.1 hG.1 (lo6_lt p0)) (cwV 1 hts (lw_V q87 q88 q89 q5 q90) rfl rfl rfl (by decide +kernel) ⟨Nat.le_of_ble_eq_true rfl, Nat.le_of_ble_eq_true rfl⟩) ⟨fun a U g mk q => by obtain ⟨q0, q1, qP, qK, qD⟩ := q; exact ⟨q0, q1, qP, va_K.moved (u := U) (U := U.calling g mk a) (Vm.Alike.refl U.vm) qK, qD⟩, va_recv hKc hPc (ci := 1) (q0 := 0) rfl rfl, fun U hU hW => ⟨rfl, by rw [hU], by rw [hU]; exact hPc, va_K.moved hW.alike hKc, hDc.weaken (fun _ _ _ _ => trivial)⟩⟩ rfl rfl hl.1 rfl (lv_room (Nat.le_of_ble_eq_true rfl)) dX0_change_22 ⟨Nat.le_of_ble_eq_true rfl, Nat.le_of_ble_eq_true rfl⟩) hS (fun q _ h => hFc q h) hFc (fun r_1 u t H1 locs ht hvm hw hB hz1 hk1 hS => ?_)
  obtain ⟨hP1, hK1, hD1⟩ := hB
  rw [ht] at hP1
  have hK1 := va_K.moved hvm.symm hK1
  obtain ⟨hP, hD⟩ := va_join (wr := [(ax, .inr (0, [.ref av, .ref aq]))]) (w1 := [(aq, .inr (1, [.ref av, .ref ah, .int (nI sz), .null, .ref an])), (av, .inl (d, 64, .inl (upd fv (lo6 p0) (nv p1 (lo6 p0))))), (ah, .inl (d, 64, .inl (hN hp))), (an, .inl (d, 64, .inl fi))]) hP hD [1, 2, 3, 4] [0] rfl rfl (by decide) (by decide) hk1 hFc hP1 hD1
  generalize H1 = H at hP hS ⊢
  have hP : va_P (dC, dI) vwCl [(ax, .inr (0, [.ref av, .ref aq])), (aq, .inr (1, [.ref av, .ref ah, .int (nI sz), .null, .ref an])), (av, .inl (d, 64, .inl (upd fv (lo6 p0) (nv p1 (lo6 p0))))), (ah, .inl (d, 64, .inl (hN hp))), (an, .inl (d, 64, .inl fi))] H := hP
  have hD : va_D A [(ax, .inr (0, [.ref av, .ref aq])), (aq, .inr (1, [.ref av, .ref ah, .int (nI sz), .null, .ref an])), (av, .inl (d, 64, .inl (upd fv (lo6 p0) (nv p1 (lo6 p0))))), (ah, .inl (d, 64, .inl (hN hp))), (an, .inl (d, 64, .inl fi))] := hD
  refine lv_if_eq (tgt := 36) hx hb dX0_change_25 (by decide) (fun c_1 => ?_) (fun c_1 => ?_)
  · have hM : ¬ M (lo6 p0) := by
      rcases hw with ⟨-, q⟩ | ⟨q, -⟩
      · exact absurd (q.symm.trans c_1) (by decide)
      · exact q
    have hP9 := hP.sub (ws' := [(ax, .inr (0, [.ref av, .ref aq])), (aq, .inr (1, [.ref av, .ref ah, .int (nI sz), .null, .ref an])), (av, .inl (d, 64, .inl (upd fv (lo6 p0) (nv p1 (lo6 p0))))), (ah, .inl (d, 64, .inl (hN hp))), (an, .inl (d, 64, .inl fi))]) [0, 1, 2, 3, 4] rfl
    have hD9 := hD.sub (ws' := [(ax, .inr (0, [.ref av, .ref aq])), (aq, .inr (1, [.ref av, .ref ah, .int (nI sz), .null, .ref an])), (av, .inl (d, 64, .inl (upd fv (lo6 p0) (nv p1 (lo6 p0))))), (ah, .inl (d, 64, .inl (hN hp))), (an, .inl (d, 64, .inl fi))]) [0, 1, 2, 3, 4] (by decide) rfl
    have hK9 := hK.sub (tys' := [(d, .int)]) [0] rfl
    exact W.vret hx hb hr (fun t ht hW => ⟨⟨(sz, upd fv (lo6 p0) (nv p1 (lo6 p0)), hp, fi), rfl, ⟨rfl, rfl, hG.1, hG.2.1, hG.2.2.off (fun j hj e => hM (by rw [← e]; exact hG.2.1.2.2.1 j hj))⟩, by rw [ht]; exact hP9, va_K.moved hW.alike hK9, hD9⟩, hS.F ht⟩) hS.2.2 dX0_change_36
  · have hM : M (lo6 p0) := by
      rcases hw with ⟨q, -⟩ | ⟨-, q⟩
      · exact q
      · exact absurd q c_1
    refine lv_aload_n hx hb dX0_change_28 rfl (lv_at hl 1 rfl) ?_
    refine va_get (D := (dC, dI)) (ci := 0) (v := .ref aq) (C := RX0) (T := TX0) (N := 2) hx hb hts in_X0 hown hK hP 0 rfl rfl 1 (by decide) (hts _ q77) (fun _ h9 => h9) rfl dX0_change_29 ?_
    refine lv_iload_n hx hb dX0_change_32 rfl (lv_at hl 0 rfl) ?_
    have hPc := hP.sub (ws' := [(aq, .inr (1, [.ref av, .ref ah, .int (nI sz), .null, .ref an])), (av, .inl (d, 64, .inl (upd fv (lo6 p0) (nv p1 (lo6 p0))))), (ah, .inl (d, 64, .inl (hN hp))), (an, .inl (d, 64, .inl fi))]) [1, 2, 3, 4] rfl
    have hDc := hD.sub (ws' := [(aq, .inr (1, [.ref av, .ref ah, .int (nI sz), .null, .ref an])), (av, .inl (d, 64, .inl (upd fv (lo6 p0) (nv p1 (lo6 p0))))), (ah, .inl (d, 64, .inl (hN hp))), (an, .inl (d, 64, .inl fi))]) [1, 2, 3, 4] (by decide) rfl
    have hKc := hK.sub (tys' := [(d, .int)]) [0] rfl
    have hFc := va_free (wc := [(aq, .inr (1, [.ref av, .ref ah, .int (nI sz), .null, .ref an])), (av, .inl (d, 64, .inl (upd fv (lo6 p0) (nv p1 (lo6 p0))))), (ah, .inl (d, 64, .inl (hN hp))), (an, .inl (d, 64, .inl fi))]) hD hS hA [1, 2, 3, 4] rfl
    refine va_callv (va_runV (As := [.int (nI (lo6 p0))]) (rest := []) ⟨hx, hb, hml, hown, hts⟩ (metX2_changed l dC dI d aq av ah an H.size (upd fv (lo6 p0) (nv p1 (lo6 p0))) hp fi sz (lo6 p0) M fv hG.2.1 hG.1 hM hG.2.2 (fun j hj => pk_un hj)) (cwV 1 hts (lw_V q91 q92 q93 q5 q94) rfl rfl rfl (by decide +kernel) ⟨Nat.le_of_ble_eq_true rfl, Nat.le_of_ble_eq_true rfl⟩) ⟨fun a U g mk q => by obtain ⟨q0, q1, qP, qK, qD⟩ := q; exact ⟨q0, q1, qP, va_K.moved (u := U) (U := U.calling g mk a) (Vm.Alike.refl U.vm) qK, qD⟩, va_recv hKc hPc (ci := 1) (q0 := 0) rfl rfl, fun U hU hW => ⟨rfl, by rw [hU], by rw [hU]; exact hPc, va_K.moved hW.alike hKc, hDc.weaken (fun _ _ _ _ => trivial)⟩⟩ rfl rfl hl.1 rfl (lv_room (Nat.le_of_ble_eq_true rfl)) dX0_change_33 ⟨Nat.le_of_ble_eq_true rfl, Nat.le_of_ble_eq_true rfl⟩) hS (fun q _ h => hFc q h) hFc (fun u t H1 locs ht hvm hw2 hB hz1 hk1 hS => ?_)
    obtain ⟨sz2, hp2, fi2⟩ := u
    obtain ⟨hu, hG2⟩ := hw2
    dsimp only at hu hG2
    have hu : sz = sz2 := hu.symm
    subst hu
    obtain ⟨hP1, hK1, hD1⟩ := hB
    rw [ht] at hP1
    have hK1 := va_K.moved hvm.symm hK1
    obtain ⟨hP, hD⟩ := va_join (wr := [(ax, .inr (0, [.ref av, .ref aq]))]) (w1 := [(aq, .inr (1, [.ref av, .ref ah, .int (nI sz), .null, .ref an])), (av, .inl (d, 64, .inl (upd fv (lo6 p0) (nv p1 (lo6 p0))))), (ah, .inl (d, 64, .inl (hN hp2))), (an, .inl (d, 64, .inl fi2))]) hP hD [1, 2, 3, 4] [0] rfl rfl (by decide) (by decide) hk1 hFc hP1 hD1
    generalize H1 = H at hP hS ⊢
    have hP : va_P (dC, dI) vwCl [(ax, .inr (0, [.ref av, .ref aq])), (aq, .inr (1, [.ref av, .ref ah, .int (nI sz), .null, .ref an])), (av, .inl (d, 64, .inl (upd fv (lo6 p0) (nv p1 (lo6 p0))))), (ah, .inl (d, 64, .inl (hN hp2))), (an, .inl (d, 64, .inl fi2))] H := hP
    have hD : va_D A [(ax, .inr (0, [.ref av, .ref aq])), (aq, .inr (1, [.ref av, .ref ah, .int (nI sz), .null, .ref an])), (av, .inl (d, 64, .inl (upd fv (lo6 p0) (nv p1 (lo6 p0))))), (ah, .inl (d, 64, .inl (hN hp2))), (an, .inl (d, 64, .inl fi2))] := hD
    have hP9 := hP.sub (ws' := [(ax, .inr (0, [.ref av, .ref aq])), (aq, .inr (1, [.ref av, .ref ah, .int (nI sz), .null, .ref an])), (av, .inl (d, 64, .inl (upd fv (lo6 p0) (nv p1 (lo6 p0))))), (ah, .inl (d, 64, .inl (hN hp2))), (an, .inl (d, 64, .inl fi2))]) [0, 1, 2, 3, 4] rfl
    have hD9 := hD.sub (ws' := [(ax, .inr (0, [.ref av, .ref aq])), (aq, .inr (1, [.ref av, .ref ah, .int (nI sz), .null, .ref an])), (av, .inl (d, 64, .inl (upd fv (lo6 p0) (nv p1 (lo6 p0))))), (ah, .inl (d, 64, .inl (hN hp2))), (an, .inl (d, 64, .inl fi2))]) [0, 1, 2, 3, 4] (by decide) rfl
    have hK9 := hK.sub (tys' := [(d, .int)]) [0] rfl
    exact W.vret hx hb hr (fun t ht hW => ⟨⟨(sz, upd fv (lo6 p0) (nv p1 (lo6 p0)), hp2, fi2), rfl, ⟨rfl, rfl, hG2⟩, by rw [ht]; exact hP9, va_K.moved hW.alike hK9, hD9⟩, hS.F ht⟩) hS.2.2 dX0_change_36
set_option maxHeartbeats 4000000 in
set_option maxRecDepth 100000 in
/-- enter(i) -/
theorem metX0_enter (l : Launch) (dC : Nat → ClassId) (dI : Nat → Nat → Nat) (d : ClassId) (ax aq av ah an z : Nat) (fv : Nat → Int32) (hp : Nat → Nat) (fi : Nat → Int32) (sz : Nat) (M : Nat → Prop) (hG : Good M sz fv hp fi) (p0 : Int32) (hroom : ¬ M (lo6 p0) → sz < 64) : Met l yX0_enter wsX0_enter ({ frames := 3, cells := 0, slots := 0, locals := 80 }) (va_Pc [.ref ax, .int p0] (fun U => U.heap.size = z ∧ va_P (dC, dI) vwCl [(ax, .inr (0, [.ref av, .ref aq])), (aq, .inr (1, [.ref av, .ref ah, .int (nI sz), .null, .ref an])), (av, .inl (d, 64, .inl fv)), (ah, .inl (d, 64, .inl (hN hp))), (an, .inl (d, 64, .inl fi))] U.heap ∧ va_K (dC, dI) vwCl [(d, .int)] U ∧ va_D (fun _ => True) [(ax, .inr (0, [.ref av, .ref aq])), (aq, .inr (1, [.ref av, .ref ah, .int (nI sz), .null, .ref an])), (av, .inl (d, 64, .inl fv)), (ah, .inl (d, 64, .inl (hN hp))), (an, .inl (d, 64, .inl fi))])) (va_Qi (fun (r : Int32) (u : Nat × (Nat → Int32) × (Nat → Nat) × (Nat → Int32)) => u.2.1 = fv ∧ ((M (lo6 p0) ∧ r = 0 ∧ u.1 = sz) ∨ (¬ M (lo6 p0) ∧ r = 1 ∧ u.1 = sz + 1)) ∧ Good (fun j => M j ∨ j = lo6 p0) u.1 u.2.1 u.2.2.1 u.2.2.2) (BW5 dC dI d (va_A [(ax, .inr (0, [.ref av, .ref aq])), (aq, .inr (1, [.ref av, .ref ah, .int (nI sz), .null, .ref an])), (av, .inl (d, 64, .inl fv)), (ah, .inl (d, 64, .inl (hN hp))), (an, .inl (d, 64, .inl fi))] z) ax aq av ah an) (va_A [(ax, .inr (0, [.ref av, .ref aq])), (aq, .inr (1, [.ref av, .ref ah, .int (nI sz), .null, .ref an])), (av, .inl (d, 64, .inl fv)), (ah, .inl (d, 64, .inl (hN hp))), (an, .inl (d, 64, .inl fi))] z)) 0 0 (va_A [(ax, .inr (0, [.ref av, .ref aq])), (aq, .inr (1, [.ref av, .ref ah, .int (nI sz), .null, .ref an])), (av, .inl (d, 64, .inl fv)), (ah, .inl (d, 64, .inl (hN hp))), (an, .inl (d, 64, .inl fi))] z) := by
  refine Met.ofW (cc := cX0_enter) (maxL := 3) (ret := (some .boolean)) (by decide) rfl ?_
  intro p e s m args below meth c s₁ B hml hv
  obtain ⟨rfl, hsz, hP, hK, hD0⟩ := hv
  have hx := B.exec
  have hb := B.bytes
  have hr := B.returns
  have hts := atoms_spec (ws := wsX0_enter) B.pre
  have hts : ∀ w ∈ lw_all, w.before _ s = true := fun w h => hts w (List.mem_cons_of_mem _ h)
  have hown : s.vm.findClass RX0 = some m.cls := findClass_of_methodNamed B.named
  have hlocks := B.notSynchronized
  subst hsz
  have hD := hD0.self (sz := s.heap.size)
  generalize hAe : va_A [(ax, .inr (0, [.ref av, .ref aq])), (aq, .inr (1, [.ref av, .ref ah, .int (nI sz), .null, .ref an])), (av, .inl (d, 64, .inl fv)), (ah, .inl (d, 64, .inl (hN hp))), (an, .inl (d, 64, .inl fi))] s.heap.size = A at hD ⊢
  have hA : ∀ q : Nat, s.heap.size ≤ q → A q := fun q h => by rw [← hAe]; exact Or.inr h
  have hS : va_S A s.heap s.heap [] := va_S.rf
  have hP : va_P (dC, dI) vwCl [(ax, .inr (0, [.ref av, .ref aq])), (aq, .inr (1, [.ref av, .ref ah, .int (nI sz), .null, .ref an])), (av, .inl (d, 64, .inl fv)), (ah, .inl (d, 64, .inl (hN hp))), (an, .inl (d, 64, .inl fi))] s.heap := hP
  have hl := lv_entry ([.ref ax, .int p0]) (n := 3) (Nat.le_of_ble_eq_true rfl)
  rw [lg_entry_eq]
  generalize (lg_sl ([.ref ax, .int p0]) ++ List.replicate (3 - (lg_sl ([.ref ax, .int p0])).length) Slot.unset).toArray = ls at hl ⊢
  have hl : lv_has ls 3 [(0, .ref ax), (1, .int p0)] := hl
  refine lv_iload_n hx hb dX0_enter_0 rfl (lv_at hl 1 rfl) ?_
  refine lv_bipush (v := 63) hx hb dX0_enter_1 (by decide +kernel) ?_
  refine xi_and hx hb (nI (lo6 p0)) (x_and63 p0) dX0_enter_3 ?_
  refine lv_istore_n (lv' := [(2, .int (nI (lo6 p0))), (0, .ref ax), (1, .int p0)]) hx hb dX0_enter_4 rfl hl (by decide) rfl (fun ls hl => ?_)
  refine lv_aload_n hx hb dX0_enter_5 rfl (lv_at hl 1 rfl) ?_
  refine va_get (D := (dC, dI)) (ci := 0) (v := .ref aq) (C := RX0) (T := TX0) (N := 2) hx hb hts in_X0 hown hK hP 0 rfl rfl 1 (by decide) (hts _ q77) (fun _ h9 => h9) rfl dX0_enter_6 ?_
  refine lv_iload_n hx hb dX0_enter_9 rfl (lv_at hl 0 rfl) ?_
  have hPc := hP.sub (ws' := [(aq, .inr (1, [.ref av, .ref ah, .int (nI sz), .null, .ref an])), (av, .inl (d, 64, .inl fv)), (ah, .inl (d, 64, .inl (hN hp))), (an, .inl (d, 64, .inl fi))]) [1, 2, 3, 4] rfl
  have hDc := hD.sub (ws' := [(aq, .inr (1, [.ref av, .ref ah, .int (nI sz), .null, .ref an])), (av, .inl (d, 64, .inl fv)), (ah, .inl (d, 64, .inl (hN hp))), (an, .inl (d, 64, .inl fi))]) [1, 2, 3, 4] (by decide) rfl
  have hKc := hK.sub (tys' := [(d, .int)]) [0] rfl
  have hFc := va_free (wc := [(aq, .inr (1, [.ref av, .ref ah, .int (nI sz), .null, .ref an])), (av, .inl (d, 64, .inl fv)), (ah, .inl (d, 64, .inl (hN hp))), (an, .inl (d, 64, .inl fi))]) hD hS hA [1, 2, 3, 4] rfl
  refine va_calli (va_runV (As := [.int (nI (lo6 p0))]) (rest := []) ⟨hx, hb, hml, hown, hts⟩ (metX2_contains l dC dI d aq av ah an s.heap.size fv hp fi sz (lo6 p0) M hG.2.1 hG.1 (lo6_lt p0)) (cwV 1 hts (lw_V q87 q88 q89 q5 q90) rfl rfl rfl (by decide +kernel) ⟨Nat.le_of_ble_eq_true rfl, Nat.le_of_ble_eq_true rfl⟩) ⟨fun a U g mk q => by obtain ⟨q0, q1, qP, qK, qD⟩ := q; exact ⟨q0, q1, qP, va_K.moved (u := U) (U := U.calling g mk a) (Vm.Alike.refl U.vm) qK, qD⟩, va_recv hKc hPc (ci := 1) (q0 := 0) rfl rfl, fun U hU hW => ⟨rfl, by rw [hU], by rw [hU]; exact hPc, va_K.moved hW.alike hKc, hDc.weaken (fun _ _ _ _ => trivial)⟩⟩ rfl rfl hl.1 rfl (lv_room (Nat.le_of_ble_eq_true rfl)) dX0_enter_10 ⟨Nat.le_of_ble_eq_true rfl, Nat.le_of_ble_eq_true rfl⟩) hS (fun q _ h => hFc q h) hFc (fun r_1 u t H1 locs ht hvm hw hB hz1 hk1 hS => ?_)
  obtain ⟨hP1, hK1, hD1⟩ := hB
  rw [ht] at hP1
  have hK1 := va_K.moved hvm.symm hK1
  obtain ⟨hP, hD⟩ := va_join (wr := [(ax, .inr (0, [.ref av, .ref aq]))]) (w1 := [(aq, .inr (1, [.ref av, .ref ah, .int (nI sz), .null, .ref an])), (av, .inl (d, 64, .inl fv)), (ah, .inl (d, 64, .inl (hN hp))), (an, .inl (d, 64, .inl fi))]) hP hD [1, 2, 3, 4] [0] rfl rfl (by decide) (by decide) hk1 hFc hP1 hD1
  generalize H1 = H at hP hS ⊢
  have hP : va_P (dC, dI) vwCl [(ax, .inr (0, [.ref av, .ref aq])), (aq, .inr (1, [.ref av, .ref ah, .int (nI sz), .null, .ref an])), (av, .inl (d, 64, .inl fv)), (ah, .inl (d, 64, .inl (hN hp))), (an, .inl (d, 64, .inl fi))] H := hP
  have hD : va_D A [(ax, .inr (0, [.ref av, .ref aq])), (aq, .inr (1, [.ref av, .ref ah, .int (nI sz), .null, .ref an])), (av, .inl (d, 64, .inl fv)), (ah, .inl (d, 64, .inl (hN hp))), (an, .inl (d, 64, .inl fi))] := hD
  refine lv_if_eq (tgt := 18) hx hb dX0_enter_13 (by decide) (fun c_1 => ?_) (fun c_1 => ?_)
  · have hM : ¬ M (lo6 p0) := by
      rcases hw with ⟨-, q⟩ | ⟨q, -⟩
      · exact absurd (q.symm.trans c_1) (by decide)
      · exact q
    refine lv_aload_n hx hb dX0_enter_18 rfl (lv_at hl 1 rfl) ?_
    refine va_get (D := (dC, dI)) (ci := 0) (v := .ref aq) (C := RX0) (T := TX0) (N := 2) hx hb hts in_X0 hown hK hP 0 rfl rfl 1 (by decide) (hts _ q77) (fun _ h9 => h9) rfl dX0_enter_19 ?_
    refine lv_iload_n hx hb dX0_enter_22 rfl (lv_at hl 0 rfl) ?_
    have hPc := hP.sub (ws' := [(aq, .inr (1, [.ref av, .ref ah, .int (nI sz), .null, .ref an])), (av, .inl (d, 64, .inl fv)), (ah, .inl (d, 64, .inl (hN hp))), (an, .inl (d, 64, .inl fi))]) [1, 2, 3, 4] rfl
    have hDc := hD.sub (ws' := [(aq, .inr (1, [.ref av, .ref ah, .int (nI sz), .null, .ref an])), (av, .inl (d, 64, .inl fv)), (ah, .inl (d, 64, .inl (hN hp))), (an, .inl (d, 64, .inl fi))]) [1, 2, 3, 4] (by decide) rfl
    have hKc := hK.sub (tys' := [(d, .int)]) [0] rfl
    have hFc := va_free (wc := [(aq, .inr (1, [.ref av, .ref ah, .int (nI sz), .null, .ref an])), (av, .inl (d, 64, .inl fv)), (ah, .inl (d, 64, .inl (hN hp))), (an, .inl (d, 64, .inl fi))]) hD hS hA [1, 2, 3, 4] rfl
    refine va_callv (va_runV (As := [.int (nI (lo6 p0))]) (rest := []) ⟨hx, hb, hml, hown, hts⟩ (metX2_enqueue l dC dI d aq av ah an H.size fv hp fi sz (lo6 p0) M hG.2.1 (hroom hM) hM (lo6_lt p0) hG.2.2) (cwV 1 hts (lw_V q409 q410 q411 q5 q412) rfl rfl rfl (by decide +kernel) ⟨Nat.le_of_ble_eq_true rfl, Nat.le_of_ble_eq_true rfl⟩) ⟨fun a U g mk q => by obtain ⟨q0, q1, qP, qK, qD⟩ := q; exact ⟨q0, q1, qP, va_K.moved (u := U) (U := U.calling g mk a) (Vm.Alike.refl U.vm) qK, qD⟩, va_recv hKc hPc (ci := 1) (q0 := 0) rfl rfl, fun U hU hW => ⟨rfl, by rw [hU], by rw [hU]; exact hPc, va_K.moved hW.alike hKc, hDc.weaken (fun _ _ _ _ => trivial)⟩⟩ rfl rfl hl.1 rfl (lv_room (Nat.le_of_ble_eq_true rfl)) dX0_enter_23 ⟨Nat.le_of_ble_eq_true rfl, Nat.le_of_ble_eq_true rfl⟩) hS (fun q _ h => hFc q h) hFc (fun u t H1 locs ht hvm hw hB hz1 hk1 hS => ?_)
    obtain ⟨sz2, hp2, fi2⟩ := u
    obtain ⟨hu, hG2⟩ := hw
    dsimp only at hu hG2
    have hu : sz + 1 = sz2 := hu.symm
    subst hu
    obtain ⟨hP1, hK1, hD1⟩ := hB
    rw [ht] at hP1
    have hK1 := va_K.moved hvm.symm hK1
    obtain ⟨hP, hD⟩ := va_join (wr := [(ax, .inr (0, [.ref av, .ref aq]))]) (w1 := [(aq, .inr (1, [.ref av, .ref ah, .int (nI (sz + 1)), .null, .ref an])), (av, .inl (d, 64, .inl fv)), (ah, .inl (d, 64, .inl (hN hp2))), (an, .inl (d, 64, .inl fi2))]) hP hD [1, 2, 3, 4] [0] rfl rfl (by decide) (by decide) hk1 hFc hP1 hD1
    generalize H1 = H at hP hS ⊢
    have hP : va_P (dC, dI) vwCl [(ax, .inr (0, [.ref av, .ref aq])), (aq, .inr (1, [.ref av, .ref ah, .int (nI (sz + 1)), .null, .ref an])), (av, .inl (d, 64, .inl fv)), (ah, .inl (d, 64, .inl (hN hp2))), (an, .inl (d, 64, .inl fi2))] H := hP
    have hD : va_D A [(ax, .inr (0, [.ref av, .ref aq])), (aq, .inr (1, [.ref av, .ref ah, .int (nI (sz + 1)), .null, .ref an])), (av, .inl (d, 64, .inl fv)), (ah, .inl (d, 64, .inl (hN hp2))), (an, .inl (d, 64, .inl fi2))] := hD
    refine lv_iconst (v := 1) hx hb dX0_enter_26 (by decide +kernel) ?_
    have hP9 := hP.sub (ws' := [(ax, .inr (0, [.ref av, .ref aq])), (aq, .inr (1, [.ref av, .ref ah, .int (nI (sz + 1)), .null, .ref an])), (av, .inl (d, 64, .inl fv)), (ah, .inl (d, 64, .inl (hN hp2))), (an, .inl (d, 64, .inl fi2))]) [0, 1, 2, 3, 4] rfl
    have hD9 := hD.sub (ws' := [(ax, .inr (0, [.ref av, .ref aq])), (aq, .inr (1, [.ref av, .ref ah, .int (nI (sz + 1)), .null, .ref an])), (av, .inl (d, 64, .inl fv)), (ah, .inl (d, 64, .inl (hN hp2))), (an, .inl (d, 64, .inl fi2))]) [0, 1, 2, 3, 4] (by decide) rfl
    have hK9 := hK.sub (tys' := [(d, .int)]) [0] rfl
    exact W.zret (v := 1) hx hb hr rfl (fun t ht hW => ⟨⟨1, (sz + 1, fv, hp2, fi2), rfl, ⟨rfl, Or.inr ⟨hM, rfl, rfl⟩, hG2⟩, by rw [ht]; exact hP9, va_K.moved hW.alike hK9, hD9⟩, hS.F ht⟩) hS.2.2 dX0_enter_27
  · have hM : M (lo6 p0) := by
      rcases hw with ⟨q, -⟩ | ⟨-, q⟩
      · exact q
      · exact absurd q c_1
    refine lv_iconst (v := 0) hx hb dX0_enter_16 (by decide +kernel) ?_
    have hP9 := hP.sub (ws' := [(ax, .inr (0, [.ref av, .ref aq])), (aq, .inr (1, [.ref av, .ref ah, .int (nI sz), .null, .ref an])), (av, .inl (d, 64, .inl fv)), (ah, .inl (d, 64, .inl (hN hp))), (an, .inl (d, 64, .inl fi))]) [0, 1, 2, 3, 4] rfl
    have hD9 := hD.sub (ws' := [(ax, .inr (0, [.ref av, .ref aq])), (aq, .inr (1, [.ref av, .ref ah, .int (nI sz), .null, .ref an])), (av, .inl (d, 64, .inl fv)), (ah, .inl (d, 64, .inl (hN hp))), (an, .inl (d, 64, .inl fi))]) [0, 1, 2, 3, 4] (by decide) rfl
    have hK9 := hK.sub (tys' := [(d, .int)]) [0] rfl
    exact W.zret (v := 0) hx hb hr rfl (fun t ht hW => ⟨⟨0, (sz, fv, hp, fi), rfl, ⟨rfl, Or.inl ⟨hM, rfl, rfl⟩, hG.1, hG.2.1.congr (fun j => ⟨Or.inl, fun q => q.elim id (fun e => by rw [e]; exact hM)⟩), hG.2.2⟩, by rw [ht]; exact hP9, va_K.moved hW.alike hK9, hD9⟩, hS.F ht⟩) hS.2.2 dX0_enter_17
set_option maxHeartbeats 4000000 in
set_option maxRecDepth 100000 in
/-- leave(i) -/
theorem metX0_leave (l : Launch) (dC : Nat → ClassId) (dI : Nat → Nat → Nat) (d : ClassId) (ax aq av ah an z : Nat) (fv : Nat → Int32) (hp : Nat → Nat) (fi : Nat → Int32) (sz : Nat) (M : Nat → Prop) (hG : Good M sz fv hp fi) (p0 : Int32) : Met l yX0_leave wsX0_leave ({ frames := 3, cells := 0, slots := 0, locals := 80 }) (va_Pc [.ref ax, .int p0] (fun U => U.heap.size = z ∧ va_P (dC, dI) vwCl [(ax, .inr (0, [.ref av, .ref aq])), (aq, .inr (1, [.ref av, .ref ah, .int (nI sz), .null, .ref an])), (av, .inl (d, 64, .inl fv)), (ah, .inl (d, 64, .inl (hN hp))), (an, .inl (d, 64, .inl fi))] U.heap ∧ va_K (dC, dI) vwCl [(d, .int)] U ∧ va_D (fun _ => True) [(ax, .inr (0, [.ref av, .ref aq])), (aq, .inr (1, [.ref av, .ref ah, .int (nI sz), .null, .ref an])), (av, .inl (d, 64, .inl fv)), (ah, .inl (d, 64, .inl (hN hp))), (an, .inl (d, 64, .inl fi))])) (va_Qi (fun (r : Int32) (u : Nat × (Nat → Int32) × (Nat → Nat) × (Nat → Int32)) => u.2.1 = fv ∧ ((M (lo6 p0) ∧ r = 1 ∧ sz = u.1 + 1) ∨ (¬ M (lo6 p0) ∧ r = 0 ∧ u.1 = sz)) ∧ Good (fun j => M j ∧ j ≠ lo6 p0) u.1 u.2.1 u.2.2.1 u.2.2.2) (BW5 dC dI d (va_A [(ax, .inr (0, [.ref av, .ref aq])), (aq, .inr (1, [.ref av, .ref ah, .int (nI sz), .null, .ref an])), (av, .inl (d, 64, .inl fv)), (ah, .inl (d, 64, .inl (hN hp))), (an, .inl (d, 64, .inl fi))] z) ax aq av ah an) (va_A [(ax, .inr (0, [.ref av, .ref aq])), (aq, .inr (1, [.ref av, .ref ah, .int (nI sz), .null, .ref an])), (av, .inl (d, 64, .inl fv)), (ah, .inl (d, 64, .inl (hN hp))), (an, .inl (d, 64, .inl fi))] z)) 0 0 (va_A [(ax, .inr (0, [.ref av, .ref aq])), (aq, .inr (1, [.ref av, .ref ah, .int (nI sz), .null, .ref an])), (av, .inl (d, 64, .inl fv)), (ah, .inl (d, 64, .inl (hN hp))), (an, .inl (d, 64, .inl fi))] z) := by
  refine Met.ofW (cc := cX0_leave) (maxL := 2) (ret := (some .boolean)) (by decide) rfl ?_
  intro p e s m args below meth c s₁ B hml hv
  obtain ⟨rfl, hsz, hP, hK, hD0⟩ := hv
  have hx := B.exec
  have hb := B.bytes
  have hr := B.returns
  have hts := atoms_spec (ws := wsX0_leave) B.pre
  have hts : ∀ w ∈ lw_all, w.before _ s = true := fun w h => hts w (List.mem_cons_of_mem _ h)
  have hown : s.vm.findClass RX0 = some m.cls := findClass_of_methodNamed B.named
  have hlocks := B.notSynchronized
  subst hsz
  have hD := hD0.self (sz := s.heap.size)
  generalize hAe : va_A [(ax, .inr (0, [.ref av, .ref aq])), (aq, .inr (1, [.ref av, .ref ah, .int (nI sz), .null, .ref an])), (av, .inl (d, 64, .inl fv)), (ah, .inl (d, 64, .inl (hN hp))), (an, .inl (d, 64, .inl fi))] s.heap.size = A at hD ⊢
  have hA : ∀ q : Nat, s.heap.size ≤ q → A q := fun q h => by rw [← hAe]; exact Or.inr h
  have hS : va_S A s.heap s.heap [] := va_S.rf
  have hP : va_P (dC, dI) vwCl [(ax, .inr (0, [.ref av, .ref aq])), (aq, .inr (1, [.ref av, .ref ah, .int (nI sz), .null, .ref an])), (av, .inl (d, 64, .inl fv)), (ah, .inl (d, 64, .inl (hN hp))), (an, .inl (d, 64, .inl fi))] s.heap := hP
  have hl := lv_entry ([.ref ax, .int p0]) (n := 2) (Nat.le_of_ble_eq_true rfl)
  rw [lg_entry_eq]
  generalize (lg_sl ([.ref ax, .int p0]) ++ List.replicate (2 - (lg_sl ([.ref ax, .int p0])).length) Slot.unset).toArray = ls at hl ⊢
  have hl : lv_has ls 2 [(0, .ref ax), (1, .int p0)] := hl
  refine lv_aload_n hx hb dX0_leave_0 rfl (lv_at hl 0 rfl) ?_
  refine va_get (D := (dC, dI)) (ci := 0) (v := .ref aq) (C := RX0) (T := TX0) (N := 2) hx hb hts in_X0 hown hK hP 0 rfl rfl 1 (by decide) (hts _ q77) (fun _ h9 => h9) rfl dX0_leave_1 ?_
  refine lv_iload_n hx hb dX0_leave_4 rfl (lv_at hl 1 rfl) ?_
  refine lv_bipush (v := 63) hx hb dX0_leave_5 (by decide +kernel) ?_
  refine xi_and hx hb (nI (lo6 p0)) (x_and63 p0) dX0_leave_7 ?_
  have hPc := hP.sub (ws' := [(aq, .inr (1, [.ref av, .ref ah, .int (nI sz), .null, .ref an])), (av, .inl (d, 64, .inl fv)), (ah, .inl (d, 64, .inl (hN hp))), (an, .inl (d, 64, .inl fi))]) [1, 2, 3, 4] rfl
  have hDc := hD.sub (ws' := [(aq, .inr (1, [.ref av, .ref ah, .int (nI sz), .null, .ref an])), (av, .inl (d, 64, .inl fv)), (ah, .inl (d, 64, .inl (hN hp))), (an, .inl (d, 64, .inl fi))]) [1, 2, 3, 4] (by decide) rfl
  have hKc := hK.sub (tys' := [(d, .int)]) [0] rfl
  have hFc := va_free (wc := [(aq, .inr (1, [.ref av, .ref ah, .int (nI sz), .null, .ref an])), (av, .inl (d, 64, .inl fv)), (ah, .inl (d, 64, .inl (hN hp))), (an, .inl (d, 64, .inl fi))]) hD hS hA [1, 2, 3, 4] rfl
  refine va_calli (va_runV (As := [.int (nI (lo6 p0))]) (rest := []) ⟨hx, hb, hml, hown, hts⟩ (metX2_remove l dC dI d aq av ah an s.heap.size fv hp fi sz (lo6 p0) M hG.2.1 hG.1 (lo6_lt p0) hG.2.2) (cwV 1 hts (lw_V q432 q433 q434 q5 q435) rfl rfl rfl (by decide +kernel) ⟨Nat.le_of_ble_eq_true rfl, Nat.le_of_ble_eq_true rfl⟩) ⟨fun a U g mk q => by obtain ⟨q0, q1, qP, qK, qD⟩ := q; exact ⟨q0, q1, qP, va_K.moved (u := U) (U := U.calling g mk a) (Vm.Alike.refl U.vm) qK, qD⟩, va_recv hKc hPc (ci := 1) (q0 := 0) rfl rfl, fun U hU hW => ⟨rfl, by rw [hU], by rw [hU]; exact hPc, va_K.moved hW.alike hKc, hDc.weaken (fun _ _ _ _ => trivial)⟩⟩ rfl rfl hl.1 rfl (lv_room (Nat.le_of_ble_eq_true rfl)) dX0_leave_8 ⟨Nat.le_of_ble_eq_true rfl, Nat.le_of_ble_eq_true rfl⟩) hS (fun q _ h => hFc q h) hFc (fun r_1 u t H1 locs ht hvm hw hB hz1 hk1 hS => ?_)
  obtain ⟨sz2, hp2, fi2⟩ := u
  obtain ⟨hu, hG2⟩ := hw
  dsimp only at hu hG2
  obtain ⟨hP1, hK1, hD1⟩ := hB
  rw [ht] at hP1
  have hK1 := va_K.moved hvm.symm hK1
  obtain ⟨hP, hD⟩ := va_join (wr := [(ax, .inr (0, [.ref av, .ref aq]))]) (w1 := [(aq, .inr (1, [.ref av, .ref ah, .int (nI sz2), .null, .ref an])), (av, .inl (d, 64, .inl fv)), (ah, .inl (d, 64, .inl (hN hp2))), (an, .inl (d, 64, .inl fi2))]) hP hD [1, 2, 3, 4] [0] rfl rfl (by decide) (by decide) hk1 hFc hP1 hD1
  generalize H1 = H at hP hS ⊢
  have hP : va_P (dC, dI) vwCl [(ax, .inr (0, [.ref av, .ref aq])), (aq, .inr (1, [.ref av, .ref ah, .int (nI sz2), .null, .ref an])), (av, .inl (d, 64, .inl fv)), (ah, .inl (d, 64, .inl (hN hp2))), (an, .inl (d, 64, .inl fi2))] H := hP
  have hD : va_D A [(ax, .inr (0, [.ref av, .ref aq])), (aq, .inr (1, [.ref av, .ref ah, .int (nI sz2), .null, .ref an])), (av, .inl (d, 64, .inl fv)), (ah, .inl (d, 64, .inl (hN hp2))), (an, .inl (d, 64, .inl fi2))] := hD
  have hr1 : r_1 = 1 ∨ r_1 = 0 := hu.elim (fun q => Or.inl q.2.1) (fun q => Or.inr q.2.1)
  have hP9 := hP.sub (ws' := [(ax, .inr (0, [.ref av, .ref aq])), (aq, .inr (1, [.ref av, .ref ah, .int (nI sz2), .null, .ref an])), (av, .inl (d, 64, .inl fv)), (ah, .inl (d, 64, .inl (hN hp2))), (an, .inl (d, 64, .inl fi2))]) [0, 1, 2, 3, 4] rfl
  have hD9 := hD.sub (ws' := [(ax, .inr (0, [.ref av, .ref aq])), (aq, .inr (1, [.ref av, .ref ah, .int (nI sz2), .null, .ref an])), (av, .inl (d, 64, .inl fv)), (ah, .inl (d, 64, .inl (hN hp2))), (an, .inl (d, 64, .inl fi2))]) [0, 1, 2, 3, 4] (by decide) rfl
  have hK9 := hK.sub (tys' := [(d, .int)]) [0] rfl
  exact W.zret (v := r_1) hx hb hr (x_nb hr1) (fun t ht hW => ⟨⟨r_1, (sz2, fv, hp2, fi2), rfl, ⟨rfl, hu, hG2⟩, by rw [ht]; exact hP9, va_K.moved hW.alike hK9, hD9⟩, hS.F ht⟩) hS.2.2 dX0_leave_11
set_option maxHeartbeats 4000000 in
set_option maxRecDepth 100000 in
/-- least() -/
theorem metX0_least (l : Launch) (dC : Nat → ClassId) (dI : Nat → Nat → Nat) (d : ClassId) (ax aq av ah an z : Nat) (fv : Nat → Int32) (hp : Nat → Nat) (fi : Nat → Int32) (sz : Nat) (M : Nat → Prop) (hG : Good M sz fv hp fi) : Met l yX0_least wsX0_least ({ frames := 3, cells := 0, slots := 0, locals := 80 }) (va_Pc [.ref ax] (fun U => U.heap.size = z ∧ va_P (dC, dI) vwCl [(ax, .inr (0, [.ref av, .ref aq])), (aq, .inr (1, [.ref av, .ref ah, .int (nI sz), .null, .ref an])), (av, .inl (d, 64, .inl fv)), (ah, .inl (d, 64, .inl (hN hp))), (an, .inl (d, 64, .inl fi))] U.heap ∧ va_K (dC, dI) vwCl [(d, .int)] U ∧ va_D (fun _ => True) [(ax, .inr (0, [.ref av, .ref aq])), (aq, .inr (1, [.ref av, .ref ah, .int (nI sz), .null, .ref an])), (av, .inl (d, 64, .inl fv)), (ah, .inl (d, 64, .inl (hN hp))), (an, .inl (d, 64, .inl fi))])) (va_Qi (fun (r : Int32) (_ : Unit) => (sz = 0 ∧ r = -1) ∨ (0 < sz ∧ r = nI (hp 0))) (fun _ => BW5 dC dI d (va_A [(ax, .inr (0, [.ref av, .ref aq])), (aq, .inr (1, [.ref av, .ref ah, .int (nI sz), .null, .ref an])), (av, .inl (d, 64, .inl fv)), (ah, .inl (d, 64, .inl (hN hp))), (an, .inl (d, 64, .inl fi))] z) ax aq av ah an (sz, fv, hp, fi)) (va_A [(ax, .inr (0, [.ref av, .ref aq])), (aq, .inr (1, [.ref av, .ref ah, .int (nI sz), .null, .ref an])), (av, .inl (d, 64, .inl fv)), (ah, .inl (d, 64, .inl (hN hp))), (an, .inl (d, 64, .inl fi))] z)) 0 0 (va_A [(ax, .inr (0, [.ref av, .ref aq])), (aq, .inr (1, [.ref av, .ref ah, .int (nI sz), .null, .ref an])), (av, .inl (d, 64, .inl fv)), (ah, .inl (d, 64, .inl (hN hp))), (an, .inl (d, 64, .inl fi))] z) := by
  refine Met.ofW (cc := cX0_least) (maxL := 1) (ret := (some .int)) (by decide) rfl ?_
  intro p e s m args below meth c s₁ B hml hv
  obtain ⟨rfl, hsz, hP, hK, hD0⟩ := hv
  have hx := B.exec
  have hb := B.bytes
  have hr := B.returns
  have hts := atoms_spec (ws := wsX0_least) B.pre
  have hts : ∀ w ∈ lw_all, w.before _ s = true := fun w h => hts w (List.mem_cons_of_mem _ h)
  have hown : s.vm.findClass RX0 = some m.cls := findClass_of_methodNamed B.named
  have hlocks := B.notSynchronized
  subst hsz
  have hD := hD0.self (sz := s.heap.size)
  generalize hAe : va_A [(ax, .inr (0, [.ref av, .ref aq])), (aq, .inr (1, [.ref av, .ref ah, .int (nI sz), .null, .ref an])), (av, .inl (d, 64, .inl fv)), (ah, .inl (d, 64, .inl (hN hp))), (an, .inl (d, 64, .inl fi))] s.heap.size = A at hD ⊢
  have hA : ∀ q : Nat, s.heap.size ≤ q → A q := fun q h => by rw [← hAe]; exact Or.inr h
  have hS : va_S A s.heap s.heap [] := va_S.rf
  have hP : va_P (dC, dI) vwCl [(ax, .inr (0, [.ref av, .ref aq])), (aq, .inr (1, [.ref av, .ref ah, .int (nI sz), .null, .ref an])), (av, .inl (d, 64, .inl fv)), (ah, .inl (d, 64, .inl (hN hp))), (an, .inl (d, 64, .inl fi))] s.heap := hP
  have hl := lv_entry ([.ref ax]) (n := 1) (Nat.le_of_ble_eq_true rfl)
  rw [lg_entry_eq]
  generalize (lg_sl ([.ref ax]) ++ List.replicate (1 - (lg_sl ([.ref ax])).length) Slot.unset).toArray = ls at hl ⊢
  have hl : lv_has ls 1 [(0, .ref ax)] := hl
  refine lv_aload_n hx hb dX0_least_0 rfl (lv_at hl 0 rfl) ?_
  refine va_get (D := (dC, dI)) (ci := 0) (v := .ref aq) (C := RX0) (T := TX0) (N := 2) hx hb hts in_X0 hown hK hP 0 rfl rfl 1 (by decide) (hts _ q77) (fun _ h9 => h9) rfl dX0_least_1 ?_
  have hPc := hP.sub (ws' := [(aq, .inr (1, [.ref av, .ref ah, .int (nI sz), .null, .ref an])), (av, .inl (d, 64, .inl fv)), (ah, .inl (d, 64, .inl (hN hp))), (an, .inl (d, 64, .inl fi))]) [1, 2, 3, 4] rfl
  have hDc := hD.sub (ws' := [(aq, .inr (1, [.ref av, .ref ah, .int (nI sz), .null, .ref an])), (av, .inl (d, 64, .inl fv)), (ah, .inl (d, 64, .inl (hN hp))), (an, .inl (d, 64, .inl fi))]) [1, 2, 3, 4] (by decide) rfl
  have hKc := hK.sub (tys' := [(d, .int)]) [0] rfl
  have hFc := va_free (wc := [(aq, .inr (1, [.ref av, .ref ah, .int (nI sz), .null, .ref an])), (av, .inl (d, 64, .inl fv)), (ah, .inl (d, 64, .inl (hN hp))), (an, .inl (d, 64, .inl fi))]) hD hS hA [1, 2, 3, 4] rfl
  refine va_calli (va_runU (As := []) (rest := []) ⟨hx, hb, hml, hown, hts⟩ (metX1_size l dC dI d aq av ah an s.heap.size fv hp fi sz) (va_cwU 0 hts (lw_U q440 q441 q443 q444 q4 q445) rfl rfl rfl rfl (by decide +kernel) ⟨Nat.le_of_ble_eq_true rfl, Nat.le_of_ble_eq_true rfl⟩) ⟨fun a U g mk q => by obtain ⟨q0, q1, qP, qK, qD⟩ := q; exact ⟨q0, q1, qP, va_K.moved (u := U) (U := U.calling g mk a) (Vm.Alike.refl U.vm) qK, qD⟩, va_recv hKc hPc (ci := 1) (q0 := 0) rfl rfl, fun U hU hW => ⟨rfl, by rw [hU], by rw [hU]; exact hPc, va_K.moved hW.alike hKc, hDc.weaken (fun _ _ _ _ => trivial)⟩⟩ rfl rfl hl.1 rfl (lv_room (Nat.le_of_ble_eq_true rfl)) dX0_least_4 ⟨Nat.le_of_ble_eq_true rfl, Nat.le_of_ble_eq_true rfl⟩) hS (fun q _ h => hFc q h) hFc (fun r_s u t H1 locs ht hvm hw hB hz1 hk1 hS => ?_)
  obtain ⟨hP1, hK1, hD1⟩ := hB
  subst hw
  rw [ht] at hP1
  have hK1 := va_K.moved hvm.symm hK1
  obtain ⟨hP, hD⟩ := va_join (wr := [(ax, .inr (0, [.ref av, .ref aq]))]) (w1 := [(aq, .inr (1, [.ref av, .ref ah, .int (nI sz), .null, .ref an])), (av, .inl (d, 64, .inl fv)), (ah, .inl (d, 64, .inl (hN hp))), (an, .inl (d, 64, .inl fi))]) hP hD [1, 2, 3, 4] [0] rfl rfl (by decide) (by decide) hk1 hFc hP1 hD1
  generalize H1 = H at hP hS ⊢
  have hP : va_P (dC, dI) vwCl [(ax, .inr (0, [.ref av, .ref aq])), (aq, .inr (1, [.ref av, .ref ah, .int (nI sz), .null, .ref an])), (av, .inl (d, 64, .inl fv)), (ah, .inl (d, 64, .inl (hN hp))), (an, .inl (d, 64, .inl fi))] H := hP
  have hD : va_D A [(ax, .inr (0, [.ref av, .ref aq])), (aq, .inr (1, [.ref av, .ref ah, .int (nI sz), .null, .ref an])), (av, .inl (d, 64, .inl fv)), (ah, .inl (d, 64, .inl (hN hp))), (an, .inl (d, 64, .inl fi))] := hD
  refine lv_if_ne (tgt := 14) hx hb dX0_least_7 (by decide) (fun c_1 => ?_) (fun c_1 => ?_)
  · have h0 : 0 < sz := by
      rcases Nat.eq_zero_or_pos sz with q | q
      · exact absurd (by rw [q]; exact nI_0) c_1
      · exact q
    refine lv_aload_n hx hb dX0_least_14 rfl (lv_at hl 0 rfl) ?_
    refine va_get (D := (dC, dI)) (ci := 0) (v := .ref aq) (C := RX0) (T := TX0) (N := 2) hx hb hts in_X0 hown hK hP 0 rfl rfl 1 (by decide) (hts _ q77) (fun _ h9 => h9) rfl dX0_least_15 ?_
    have hPc := hP.sub (ws' := [(aq, .inr (1, [.ref av, .ref ah, .int (nI sz), .null, .ref an])), (av, .inl (d, 64, .inl fv)), (ah, .inl (d, 64, .inl (hN hp))), (an, .inl (d, 64, .inl fi))]) [1, 2, 3, 4] rfl
    have hDc := hD.sub (ws' := [(aq, .inr (1, [.ref av, .ref ah, .int (nI sz), .null, .ref an])), (av, .inl (d, 64, .inl fv)), (ah, .inl (d, 64, .inl (hN hp))), (an, .inl (d, 64, .inl fi))]) [1, 2, 3, 4] (by decide) rfl
    have hKc := hK.sub (tys' := [(d, .int)]) [0] rfl
    have hFc := va_free (wc := [(aq, .inr (1, [.ref av, .ref ah, .int (nI sz), .null, .ref an])), (av, .inl (d, 64, .inl fv)), (ah, .inl (d, 64, .inl (hN hp))), (an, .inl (d, 64, .inl fi))]) hD hS hA [1, 2, 3, 4] rfl
    refine va_calli (va_runU (As := []) (rest := []) ⟨hx, hb, hml, hown, hts⟩ (metX1_first l dC dI d aq av ah an H.size fv hp fi sz h0 hG.1 (hG.2.1.1 0)) (va_cwU 0 hts (lw_U q446 q447 q449 q450 q4 q451) rfl rfl rfl rfl (by decide +kernel) ⟨Nat.le_of_ble_eq_true rfl, Nat.le_of_ble_eq_true rfl⟩) ⟨fun a U g mk q => by obtain ⟨q0, q1, qP, qK, qD⟩ := q; exact ⟨q0, q1, qP, va_K.moved (u := U) (U := U.calling g mk a) (Vm.Alike.refl U.vm) qK, qD⟩, va_recv hKc hPc (ci := 1) (q0 := 0) rfl rfl, fun U hU hW => ⟨rfl, by rw [hU], by rw [hU]; exact hPc, va_K.moved hW.alike hKc, hDc.weaken (fun _ _ _ _ => trivial)⟩⟩ rfl rfl hl.1 rfl (lv_room (Nat.le_of_ble_eq_true rfl)) dX0_least_18 ⟨Nat.le_of_ble_eq_true rfl, Nat.le_of_ble_eq_true rfl⟩) hS (fun q _ h => hFc q h) hFc (fun r_f u t H1 locs ht hvm hw hB hz1 hk1 hS => ?_)
    obtain ⟨hP1, hK1, hD1⟩ := hB
    subst hw
    rw [ht] at hP1
    have hK1 := va_K.moved hvm.symm hK1
    obtain ⟨hP, hD⟩ := va_join (wr := [(ax, .inr (0, [.ref av, .ref aq]))]) (w1 := [(aq, .inr (1, [.ref av, .ref ah, .int (nI sz), .null, .ref an])), (av, .inl (d, 64, .inl fv)), (ah, .inl (d, 64, .inl (hN hp))), (an, .inl (d, 64, .inl fi))]) hP hD [1, 2, 3, 4] [0] rfl rfl (by decide) (by decide) hk1 hFc hP1 hD1
    generalize H1 = H at hP hS ⊢
    have hP : va_P (dC, dI) vwCl [(ax, .inr (0, [.ref av, .ref aq])), (aq, .inr (1, [.ref av, .ref ah, .int (nI sz), .null, .ref an])), (av, .inl (d, 64, .inl fv)), (ah, .inl (d, 64, .inl (hN hp))), (an, .inl (d, 64, .inl fi))] H := hP
    have hD : va_D A [(ax, .inr (0, [.ref av, .ref aq])), (aq, .inr (1, [.ref av, .ref ah, .int (nI sz), .null, .ref an])), (av, .inl (d, 64, .inl fv)), (ah, .inl (d, 64, .inl (hN hp))), (an, .inl (d, 64, .inl fi))] := hD
    have hP9 := hP.sub (ws' := [(ax, .inr (0, [.ref av, .ref aq])), (aq, .inr (1, [.ref av, .ref ah, .int (nI sz), .null, .ref an])), (av, .inl (d, 64, .inl fv)), (ah, .inl (d, 64, .inl (hN hp))), (an, .inl (d, 64, .inl fi))]) [0, 1, 2, 3, 4] rfl
    have hD9 := hD.sub (ws' := [(ax, .inr (0, [.ref av, .ref aq])), (aq, .inr (1, [.ref av, .ref ah, .int (nI sz), .null, .ref an])), (av, .inl (d, 64, .inl fv)), (ah, .inl (d, 64, .inl (hN hp))), (an, .inl (d, 64, .inl fi))]) [0, 1, 2, 3, 4] (by decide) rfl
    have hK9 := hK.sub (tys' := [(d, .int)]) [0] rfl
    exact W.iret (v := (nI (hp 0))) hx hb hr (fun t ht hW => ⟨⟨(nI (hp 0)), (), rfl, Or.inr ⟨h0, rfl⟩, by rw [ht]; exact hP9, va_K.moved hW.alike hK9, hD9⟩, hS.F ht⟩) hS.2.2 dX0_least_21
  · have h0 : sz = 0 := by
      rcases Nat.eq_zero_or_pos sz with q | q
      · exact q
      · exact absurd c_1 (nI_ne0 q (Nat.lt_of_le_of_lt hG.1 (by decide)))
    refine lv_iconst (v := (-1)) hx hb dX0_least_10 (by decide +kernel) ?_
    refine lv_goto (tgt := 21) hx hb dX0_least_11 (by decide) ?_
    have hP9 := hP.sub (ws' := [(ax, .inr (0, [.ref av, .ref aq])), (aq, .inr (1, [.ref av, .ref ah, .int (nI sz), .null, .ref an])), (av, .inl (d, 64, .inl fv)), (ah, .inl (d, 64, .inl (hN hp))), (an, .inl (d, 64, .inl fi))]) [0, 1, 2, 3, 4] rfl
    have hD9 := hD.sub (ws' := [(ax, .inr (0, [.ref av, .ref aq])), (aq, .inr (1, [.ref av, .ref ah, .int (nI sz), .null, .ref an])), (av, .inl (d, 64, .inl fv)), (ah, .inl (d, 64, .inl (hN hp))), (an, .inl (d, 64, .inl fi))]) [0, 1, 2, 3, 4] (by decide) rfl
    have hK9 := hK.sub (tys' := [(d, .int)]) [0] rfl
    exact W.iret (v := (-1)) hx hb hr (fun t ht hW => ⟨⟨(-1), (), rfl, Or.inl ⟨h0, rfl⟩, by rw [ht]; exact hP9, va_K.moved hW.alike hK9, hD9⟩, hS.F ht⟩) hS.2.2 dX0_least_21
set_option maxHeartbeats 4000000 in
set_option maxRecDepth 100000 in
/-- take() -/
theorem metX0_take (l : Launch) (dC : Nat → ClassId) (dI : Nat → Nat → Nat) (d : ClassId) (ax aq av ah an z : Nat) (fv : Nat → Int32) (hp : Nat → Nat) (fi : Nat → Int32) (sz : Nat) (M : Nat → Prop) (hG : Good M sz fv hp fi) : Met l yX0_take wsX0_take ({ frames := 3, cells := 0, slots := 0, locals := 80 }) (va_Pc [.ref ax] (fun U => U.heap.size = z ∧ va_P (dC, dI) vwCl [(ax, .inr (0, [.ref av, .ref aq])), (aq, .inr (1, [.ref av, .ref ah, .int (nI sz), .null, .ref an])), (av, .inl (d, 64, .inl fv)), (ah, .inl (d, 64, .inl (hN hp))), (an, .inl (d, 64, .inl fi))] U.heap ∧ va_K (dC, dI) vwCl [(d, .int)] U ∧ va_D (fun _ => True) [(ax, .inr (0, [.ref av, .ref aq])), (aq, .inr (1, [.ref av, .ref ah, .int (nI sz), .null, .ref an])), (av, .inl (d, 64, .inl fv)), (ah, .inl (d, 64, .inl (hN hp))), (an, .inl (d, 64, .inl fi))])) (va_Qi (fun (r : Int32) (u : Nat × (Nat → Int32) × (Nat → Nat) × (Nat → Int32)) => u.2.1 = fv ∧ ((sz = 0 ∧ r = -1 ∧ u.1 = sz ∧ Good M u.1 u.2.1 u.2.2.1 u.2.2.2) ∨ (sz = u.1 + 1 ∧ r = nI (hp 0) ∧ Good (fun j => M j ∧ j ≠ hp 0) u.1 u.2.1 u.2.2.1 u.2.2.2))) (BW5 dC dI d (va_A [(ax, .inr (0, [.ref av, .ref aq])), (aq, .inr (1, [.ref av, .ref ah, .int (nI sz), .null, .ref an])), (av, .inl (d, 64, .inl fv)), (ah, .inl (d, 64, .inl (hN hp))), (an, .inl (d, 64, .inl fi))] z) ax aq av ah an) (va_A [(ax, .inr (0, [.ref av, .ref aq])), (aq, .inr (1, [.ref av, .ref ah, .int (nI sz), .null, .ref an])), (av, .inl (d, 64, .inl fv)), (ah, .inl (d, 64, .inl (hN hp))), (an, .inl (d, 64, .inl fi))] z)) 0 0 (va_A [(ax, .inr (0, [.ref av, .ref aq])), (aq, .inr (1, [.ref av, .ref ah, .int (nI sz), .null, .ref an])), (av, .inl (d, 64, .inl fv)), (ah, .inl (d, 64, .inl (hN hp))), (an, .inl (d, 64, .inl fi))] z) := by
  refine Met.ofW (cc := cX0_take) (maxL := 1) (ret := (some .int)) (by decide) rfl ?_
  intro p e s m args below meth c s₁ B hml hv
  obtain ⟨rfl, hsz, hP, hK, hD0⟩ := hv
  have hx := B.exec
  have hb := B.bytes
  have hr := B.returns
  have hts := atoms_spec (ws := wsX0_take) B.pre
  have hts : ∀ w ∈ lw_all, w.before _ s = true := fun w h => hts w (List.mem_cons_of_mem _ h)
  have hown : s.vm.findClass RX0 = some m.cls := findClass_of_methodNamed B.named
  have hlocks := B.notSynchronized
  subst hsz
  have hD := hD0.self (sz := s.heap.size)
  generalize hAe : va_A [(ax, .inr (0, [.ref av, .ref aq])), (aq, .inr (1, [.ref av, .ref ah, .int (nI sz), .null, .ref an])), (av, .inl (d, 64, .inl fv)), (ah, .inl (d, 64, .inl (hN hp))), (an, .inl (d, 64, .inl fi))] s.heap.size = A at hD ⊢
  have hA : ∀ q : Nat, s.heap.size ≤ q → A q := fun q h => by rw [← hAe]; exact Or.inr h
  have hS : va_S A s.heap s.heap [] := va_S.rf
  have hP : va_P (dC, dI) vwCl [(ax, .inr (0, [.ref av, .ref aq])), (aq, .inr (1, [.ref av, .ref ah, .int (nI sz), .null, .ref an])), (av, .inl (d, 64, .inl fv)), (ah, .inl (d, 64, .inl (hN hp))), (an, .inl (d, 64, .inl fi))] s.heap := hP
  have hl := lv_entry ([.ref ax]) (n := 1) (Nat.le_of_ble_eq_true rfl)
  rw [lg_entry_eq]
  generalize (lg_sl ([.ref ax]) ++ List.replicate (1 - (lg_sl ([.ref ax])).length) Slot.unset).toArray = ls at hl ⊢
  have hl : lv_has ls 1 [(0, .ref ax)] := hl
  refine lv_aload_n hx hb dX0_take_0 rfl (lv_at hl 0 rfl) ?_
  refine va_get (D := (dC, dI)) (ci := 0) (v := .ref aq) (C := RX0) (T := TX0) (N := 2) hx hb hts in_X0 hown hK hP 0 rfl rfl 1 (by decide) (hts _ q77) (fun _ h9 => h9) rfl dX0_take_1 ?_
  have hPc := hP.sub (ws' := [(aq, .inr (1, [.ref av, .ref ah, .int (nI sz), .null, .ref an])), (av, .inl (d, 64, .inl fv)), (ah, .inl (d, 64, .inl (hN hp))), (an, .inl (d, 64, .inl fi))]) [1, 2, 3, 4] rfl
  have hDc := hD.sub (ws' := [(aq, .inr (1, [.ref av, .ref ah, .int (nI sz), .null, .ref an])), (av, .inl (d, 64, .inl fv)), (ah, .inl (d, 64, .inl (hN hp))), (an, .inl (d, 64, .inl fi))]) [1, 2, 3, 4] (by decide) rfl
  have hKc := hK.sub (tys' := [(d, .int)]) [0] rfl
  have hFc := va_free (wc := [(aq, .inr (1, [.ref av, .ref ah, .int (nI sz), .null, .ref an])), (av, .inl (d, 64, .inl fv)), (ah, .inl (d, 64, .inl (hN hp))), (an, .inl (d, 64, .inl fi))]) hD hS hA [1, 2, 3, 4] rfl
  refine va_calli (va_runU (As := []) (rest := []) ⟨hx, hb, hml, hown, hts⟩ (metX1_size l dC dI d aq av ah an s.heap.size fv hp fi sz) (va_cwU 0 hts (lw_U q440 q441 q443 q444 q4 q445) rfl rfl rfl rfl (by decide +kernel) ⟨Nat.le_of_ble_eq_true rfl, Nat.le_of_ble_eq_true rfl⟩) ⟨fun a U g mk q => by obtain ⟨q0, q1, qP, qK, qD⟩ := q; exact ⟨q0, q1, qP, va_K.moved (u := U) (U := U.calling g mk a) (Vm.Alike.refl U.vm) qK, qD⟩, va_recv hKc hPc (ci := 1) (q0 := 0) rfl rfl, fun U hU hW => ⟨rfl, by rw [hU], by rw [hU]; exact hPc, va_K.moved hW.alike hKc, hDc.weaken (fun _ _ _ _ => trivial)⟩⟩ rfl rfl hl.1 rfl (lv_room (Nat.le_of_ble_eq_true rfl)) dX0_take_4 ⟨Nat.le_of_ble_eq_true rfl, Nat.le_of_ble_eq_true rfl⟩) hS (fun q _ h => hFc q h) hFc (fun r_s u t H1 locs ht hvm hw hB hz1 hk1 hS => ?_)
  obtain ⟨hP1, hK1, hD1⟩ := hB
  subst hw
  rw [ht] at hP1
  have hK1 := va_K.moved hvm.symm hK1
  obtain ⟨hP, hD⟩ := va_join (wr := [(ax, .inr (0, [.ref av, .ref aq]))]) (w1 := [(aq, .inr (1, [.ref av, .ref ah, .int (nI sz), .null, .ref an])), (av, .inl (d, 64, .inl fv)), (ah, .inl (d, 64, .inl (hN hp))), (an, .inl (d, 64, .inl fi))]) hP hD [1, 2, 3, 4] [0] rfl rfl (by decide) (by decide) hk1 hFc hP1 hD1
  generalize H1 = H at hP hS ⊢
  have hP : va_P (dC, dI) vwCl [(ax, .inr (0, [.ref av, .ref aq])), (aq, .inr (1, [.ref av, .ref ah, .int (nI sz), .null, .ref an])), (av, .inl (d, 64, .inl fv)), (ah, .inl (d, 64, .inl (hN hp))), (an, .inl (d, 64, .inl fi))] H := hP
  have hD : va_D A [(ax, .inr (0, [.ref av, .ref aq])), (aq, .inr (1, [.ref av, .ref ah, .int (nI sz), .null, .ref an])), (av, .inl (d, 64, .inl fv)), (ah, .inl (d, 64, .inl (hN hp))), (an, .inl (d, 64, .inl fi))] := hD
  refine lv_if_ne (tgt := 14) hx hb dX0_take_7 (by decide) (fun c_1 => ?_) (fun c_1 => ?_)
  · have h0 : 0 < sz := by
      rcases Nat.eq_zero_or_pos sz with q | q
      · exact absurd (by rw [q]; exact nI_0) c_1
      · exact q
    obtain ⟨s1, rfl⟩ : ∃ s1, sz = s1 + 1 := ⟨sz - 1, by omega⟩
    refine lv_aload_n hx hb dX0_take_14 rfl (lv_at hl 0 rfl) ?_
    refine va_get (D := (dC, dI)) (ci := 0) (v := .ref aq) (C := RX0) (T := TX0) (N := 2) hx hb hts in_X0 hown hK hP 0 rfl rfl 1 (by decide) (hts _ q77) (fun _ h9 => h9) rfl dX0_take_15 ?_
    have hPc := hP.sub (ws' := [(aq, .inr (1, [.ref av, .ref ah, .int (nI (s1 + 1)), .null, .ref an])), (av, .inl (d, 64, .inl fv)), (ah, .inl (d, 64, .inl (hN hp))), (an, .inl (d, 64, .inl fi))]) [1, 2, 3, 4] rfl
    have hDc := hD.sub (ws' := [(aq, .inr (1, [.ref av, .ref ah, .int (nI (s1 + 1)), .null, .ref an])), (av, .inl (d, 64, .inl fv)), (ah, .inl (d, 64, .inl (hN hp))), (an, .inl (d, 64, .inl fi))]) [1, 2, 3, 4] (by decide) rfl
    have hKc := hK.sub (tys' := [(d, .int)]) [0] rfl
    have hFc := va_free (wc := [(aq, .inr (1, [.ref av, .ref ah, .int (nI (s1 + 1)), .null, .ref an])), (av, .inl (d, 64, .inl fv)), (ah, .inl (d, 64, .inl (hN hp))), (an, .inl (d, 64, .inl fi))]) hD hS hA [1, 2, 3, 4] rfl
    refine va_calli (va_runV (As := []) (rest := []) ⟨hx, hb, hml, hown, hts⟩ (metX2_dequeue l dC dI d aq av ah an H.size fv hp fi s1 M hG.2.1 hG.1 hG.2.2) (cwV 0 hts (lw_V q477 q478 q479 q5 q480) rfl rfl rfl (by decide +kernel) ⟨Nat.le_of_ble_eq_true rfl, Nat.le_of_ble_eq_true rfl⟩) ⟨fun a U g mk q => by obtain ⟨q0, q1, qP, qK, qD⟩ := q; exact ⟨q0, q1, qP, va_K.moved (u := U) (U := U.calling g mk a) (Vm.Alike.refl U.vm) qK, qD⟩, va_recv hKc hPc (ci := 1) (q0 := 0) rfl rfl, fun U hU hW => ⟨rfl, by rw [hU], by rw [hU]; exact hPc, va_K.moved hW.alike hKc, hDc.weaken (fun _ _ _ _ => trivial)⟩⟩ rfl rfl hl.1 rfl (lv_room (Nat.le_of_ble_eq_true rfl)) dX0_take_18 ⟨Nat.le_of_ble_eq_true rfl, Nat.le_of_ble_eq_true rfl⟩) hS (fun q _ h => hFc q h) hFc (fun r_1 u t H1 locs ht hvm hw hB hz1 hk1 hS => ?_)
    obtain ⟨sz2, hp2, fi2⟩ := u
    obtain ⟨er, hu, hG2⟩ := hw
    dsimp only at hu hG2
    have hu : s1 = sz2 := hu.symm
    subst hu
    obtain ⟨hP1, hK1, hD1⟩ := hB
    rw [ht] at hP1
    have hK1 := va_K.moved hvm.symm hK1
    obtain ⟨hP, hD⟩ := va_join (wr := [(ax, .inr (0, [.ref av, .ref aq]))]) (w1 := [(aq, .inr (1, [.ref av, .ref ah, .int (nI s1), .null, .ref an])), (av, .inl (d, 64, .inl fv)), (ah, .inl (d, 64, .inl (hN hp2))), (an, .inl (d, 64, .inl fi2))]) hP hD [1, 2, 3, 4] [0] rfl rfl (by decide) (by decide) hk1 hFc hP1 hD1
    generalize H1 = H at hP hS ⊢
    have hP : va_P (dC, dI) vwCl [(ax, .inr (0, [.ref av, .ref aq])), (aq, .inr (1, [.ref av, .ref ah, .int (nI s1), .null, .ref an])), (av, .inl (d, 64, .inl fv)), (ah, .inl (d, 64, .inl (hN hp2))), (an, .inl (d, 64, .inl fi2))] H := hP
    have hD : va_D A [(ax, .inr (0, [.ref av, .ref aq])), (aq, .inr (1, [.ref av, .ref ah, .int (nI s1), .null, .ref an])), (av, .inl (d, 64, .inl fv)), (ah, .inl (d, 64, .inl (hN hp2))), (an, .inl (d, 64, .inl fi2))] := hD
    have hP9 := hP.sub (ws' := [(ax, .inr (0, [.ref av, .ref aq])), (aq, .inr (1, [.ref av, .ref ah, .int (nI s1), .null, .ref an])), (av, .inl (d, 64, .inl fv)), (ah, .inl (d, 64, .inl (hN hp2))), (an, .inl (d, 64, .inl fi2))]) [0, 1, 2, 3, 4] rfl
    have hD9 := hD.sub (ws' := [(ax, .inr (0, [.ref av, .ref aq])), (aq, .inr (1, [.ref av, .ref ah, .int (nI s1), .null, .ref an])), (av, .inl (d, 64, .inl fv)), (ah, .inl (d, 64, .inl (hN hp2))), (an, .inl (d, 64, .inl fi2))]) [0, 1, 2, 3, 4] (by decide) rfl
    have hK9 := hK.sub (tys' := [(d, .int)]) [0] rfl
    exact W.iret (v := r_1) hx hb hr (fun t ht hW => ⟨⟨r_1, (s1, fv, hp2, fi2), rfl, ⟨rfl, Or.inr ⟨rfl, er, hG2⟩⟩, by rw [ht]; exact hP9, va_K.moved hW.alike hK9, hD9⟩, hS.F ht⟩) hS.2.2 dX0_take_21
  · have h0 : sz = 0 := by
      rcases Nat.eq_zero_or_pos sz with q | q
      · exact q
      · exact absurd c_1 (nI_ne0 q (Nat.lt_of_le_of_lt hG.1 (by decide)))
    refine lv_iconst (v := (-1)) hx hb dX0_take_10 (by decide +kernel) ?_
    refine lv_goto (tgt := 21) hx hb dX0_take_11 (by decide) ?_
    have hP9 := hP.sub (ws' := [(ax, .inr (0, [.ref av, .ref aq])), (aq, .inr (1, [.ref av, .ref ah, .int (nI sz), .null, .ref an])), (av, .inl (d, 64, .inl fv)), (ah, .inl (d, 64, .inl (hN hp))), (an, .inl (d, 64, .inl fi))]) [0, 1, 2, 3, 4] rfl
    have hD9 := hD.sub (ws' := [(ax, .inr (0, [.ref av, .ref aq])), (aq, .inr (1, [.ref av, .ref ah, .int (nI sz), .null, .ref an])), (av, .inl (d, 64, .inl fv)), (ah, .inl (d, 64, .inl (hN hp))), (an, .inl (d, 64, .inl fi))]) [0, 1, 2, 3, 4] (by decide) rfl
    have hK9 := hK.sub (tys' := [(d, .int)]) [0] rfl
    exact W.iret (v := (-1)) hx hb hr (fun t ht hW => ⟨⟨(-1), (sz, fv, hp, fi), rfl, ⟨rfl, Or.inl ⟨h0, rfl, rfl, hG⟩⟩, by rw [ht]; exact hP9, va_K.moved hW.alike hK9, hD9⟩, hS.F ht⟩) hS.2.2 dX0_take_21
set_option maxHeartbeats 4000000 in
set_option maxRecDepth 100000 in
/-- headChanged(v) -/
theorem metX0_headChanged (l : Launch) (dC : Nat → ClassId) (dI : Nat → Nat → Nat) (d : ClassId) (ax aq av ah an z : Nat) (fv : Nat → Int32) (hp : Nat → Nat) (fi : Nat → Int32) (sz : Nat) (M : Nat → Prop) (hG : Good M sz fv hp fi) (p0 : Int32) : Met l yX0_headChanged wsX0_headChanged ({ frames := 3, cells := 0, slots := 0, locals := 80 }) (va_Pc [.ref ax, .int p0] (fun U => U.heap.size = z ∧ va_P (dC, dI) vwCl [(ax, .inr (0, [.ref av, .ref aq])), (aq, .inr (1, [.ref av, .ref ah, .int (nI sz), .null, .ref an])), (av, .inl (d, 64, .inl fv)), (ah, .inl (d, 64, .inl (hN hp))), (an, .inl (d, 64, .inl fi))] U.heap ∧ va_K (dC, dI) vwCl [(d, .int)] U ∧ va_D (fun _ => True) [(ax, .inr (0, [.ref av, .ref aq])), (aq, .inr (1, [.ref av, .ref ah, .int (nI sz), .null, .ref an])), (av, .inl (d, 64, .inl fv)), (ah, .inl (d, 64, .inl (hN hp))), (an, .inl (d, 64, .inl fi))])) (va_Qi (fun (r : Int32) (u : Nat × (Nat → Int32) × (Nat → Nat) × (Nat → Int32)) => u.1 = sz ∧ Good M u.1 u.2.1 u.2.2.1 u.2.2.2 ∧ ((sz = 0 ∧ r = 0 ∧ u.2.1 = fv) ∨ (0 < sz ∧ r = 1 ∧ u.2.1 = upd fv (hp 0) (nv p0 (hp 0))))) (BW5 dC dI d (va_A [(ax, .inr (0, [.ref av, .ref aq])), (aq, .inr (1, [.ref av, .ref ah, .int (nI sz), .null, .ref an])), (av, .inl (d, 64, .inl fv)), (ah, .inl (d, 64, .inl (hN hp))), (an, .inl (d, 64, .inl fi))] z) ax aq av ah an) (va_A [(ax, .inr (0, [.ref av, .ref aq])), (aq, .inr (1, [.ref av, .ref ah, .int (nI sz), .null, .ref an])), (av, .inl (d, 64, .inl fv)), (ah, .inl (d, 64, .inl (hN hp))), (an, .inl (d, 64, .inl fi))] z)) 0 0 (va_A [(ax, .inr (0, [.ref av, .ref aq])), (aq, .inr (1, [.ref av, .ref ah, .int (nI sz), .null, .ref an])), (av, .inl (d, 64, .inl fv)), (ah, .inl (d, 64, .inl (hN hp))), (an, .inl (d, 64, .inl fi))] z) := by
  refine Met.ofW (cc := cX0_headChanged) (maxL := 3) (ret := (some .boolean)) (by decide) rfl ?_
  intro p e s m args below meth c s₁ B hml hv
  obtain ⟨rfl, hsz, hP, hK, hD0⟩ := hv
  have hx := B.exec
  have hb := B.bytes
  have hr := B.returns
  have hts := atoms_spec (ws := wsX0_headChanged) B.pre
  have hts : ∀ w ∈ lw_all, w.before _ s = true := fun w h => hts w (List.mem_cons_of_mem _ h)
  have hown : s.vm.findClass RX0 = some m.cls := findClass_of_methodNamed B.named
  have hlocks := B.notSynchronized
  subst hsz
  have hD := hD0.self (sz := s.heap.size)
  generalize hAe : va_A [(ax, .inr (0, [.ref av, .ref aq])), (aq, .inr (1, [.ref av, .ref ah, .int (nI sz), .null, .ref an])), (av, .inl (d, 64, .inl fv)), (ah, .inl (d, 64, .inl (hN hp))), (an, .inl (d, 64, .inl fi))] s.heap.size = A at hD ⊢
  have hA : ∀ q : Nat, s.heap.size ≤ q → A q := fun q h => by rw [← hAe]; exact Or.inr h
  have hS : va_S A s.heap s.heap [] := va_S.rf
  have hP : va_P (dC, dI) vwCl [(ax, .inr (0, [.ref av, .ref aq])), (aq, .inr (1, [.ref av, .ref ah, .int (nI sz), .null, .ref an])), (av, .inl (d, 64, .inl fv)), (ah, .inl (d, 64, .inl (hN hp))), (an, .inl (d, 64, .inl fi))] s.heap := hP
  have hl := lv_entry ([.ref ax, .int p0]) (n := 3) (Nat.le_of_ble_eq_true rfl)
  rw [lg_entry_eq]
  generalize (lg_sl ([.ref ax, .int p0]) ++ List.replicate (3 - (lg_sl ([.ref ax, .int p0])).length) Slot.unset).toArray = ls at hl ⊢
  have hl : lv_has ls 3 [(0, .ref ax), (1, .int p0)] := hl
  refine lv_aload_n hx hb dX0_headChanged_0 rfl (lv_at hl 0 rfl) ?_
  refine va_get (D := (dC, dI)) (ci := 0) (v := .ref aq) (C := RX0) (T := TX0) (N := 2) hx hb hts in_X0 hown hK hP 0 rfl rfl 1 (by decide) (hts _ q77) (fun _ h9 => h9) rfl dX0_headChanged_1 ?_
  have hPc := hP.sub (ws' := [(aq, .inr (1, [.ref av, .ref ah, .int (nI sz), .null, .ref an])), (av, .inl (d, 64, .inl fv)), (ah, .inl (d, 64, .inl (hN hp))), (an, .inl (d, 64, .inl fi))]) [1, 2, 3, 4] rfl
  have hDc := hD.sub (ws' := [(aq, .inr (1, [.ref av, .ref ah, .int (nI sz), .null, .ref an])), (av, .inl (d, 64, .inl fv)), (ah, .inl (d, 64, .inl (hN hp))), (an, .inl (d, 64, .inl fi))]) [1, 2, 3, 4] (by decide) rfl
  have hKc := hK.sub (tys' := [(d, .int)]) [0] rfl
  have hFc := va_free (wc := [(aq, .inr (1, [.ref av, .ref ah, .int (nI sz), .null, .ref an])), (av, .inl (d, 64, .inl fv)), (ah, .inl (d, 64, .inl (hN hp))), (an, .inl (d, 64, .inl fi))]) hD hS hA [1, 2, 3, 4] rfl
  refine va_calli (va_runU (As := []) (rest := []) ⟨hx, hb, hml, hown, hts⟩ (metX1_size l dC dI d aq av ah an s.heap.size fv hp fi sz) (va_cwU 0 hts (lw_U q440 q441 q443 q444 q4 q445) rfl rfl rfl rfl (by decide +kernel) ⟨Nat.le_of_ble_eq_true rfl, Nat.le_of_ble_eq_true rfl⟩) ⟨fun a U g mk q => by obtain ⟨q0, q1, qP, qK, qD⟩ := q; exact ⟨q0, q1, qP, va_K.moved (u := U) (U := U.calling g mk a) (Vm.Alike.refl U.vm) qK, qD⟩, va_recv hKc hPc (ci := 1) (q0 := 0) rfl rfl, fun U hU hW => ⟨rfl, by rw [hU], by rw [hU]; exact hPc, va_K.moved hW.alike hKc, hDc.weaken (fun _ _ _ _ => trivial)⟩⟩ rfl rfl hl.1 rfl (lv_room (Nat.le_of_ble_eq_true rfl)) dX0_headChanged_4 ⟨Nat.le_of_ble_eq_true rfl, Nat.le_of_ble_eq_true rfl⟩) hS (fun q _ h => hFc q h) hFc (fun r_s u t H1 locs ht hvm hw hB hz1 hk1 hS => ?_)
  obtain ⟨hP1, hK1, hD1⟩ := hB
  subst hw
  rw [ht] at hP1
  have hK1 := va_K.moved hvm.symm hK1
  obtain ⟨hP, hD⟩ := va_join (wr := [(ax, .inr (0, [.ref av, .ref aq]))]) (w1 := [(aq, .inr (1, [.ref av, .ref ah, .int (nI sz), .null, .ref an])), (av, .inl (d, 64, .inl fv)), (ah, .inl (d, 64, .inl (hN hp))), (an, .inl (d, 64, .inl fi))]) hP hD [1, 2, 3, 4] [0] rfl rfl (by decide) (by decide) hk1 hFc hP1 hD1
  generalize H1 = H at hP hS ⊢
  have hP : va_P (dC, dI) vwCl [(ax, .inr (0, [.ref av, .ref aq])), (aq, .inr (1, [.ref av, .ref ah, .int (nI sz), .null, .ref an])), (av, .inl (d, 64, .inl fv)), (ah, .inl (d, 64, .inl (hN hp))), (an, .inl (d, 64, .inl fi))] H := hP
  have hD : va_D A [(ax, .inr (0, [.ref av, .ref aq])), (aq, .inr (1, [.ref av, .ref ah, .int (nI sz), .null, .ref an])), (av, .inl (d, 64, .inl fv)), (ah, .inl (d, 64, .inl (hN hp))), (an, .inl (d, 64, .inl fi))] := hD
  refine lv_if_ne (tgt := 12) hx hb dX0_headChanged_7 (by decide) (fun c_1 => ?_) (fun c_1 => ?_)
  · have h0 : 0 < sz := by
      rcases Nat.eq_zero_or_pos sz with q | q
      · exact absurd (by rw [q]; exact nI_0) c_1
      · exact q
    refine lv_aload_n hx hb dX0_headChanged_12 rfl (lv_at hl 0 rfl) ?_
    refine va_get (D := (dC, dI)) (ci := 0) (v := .ref aq) (C := RX0) (T := TX0) (N := 2) hx hb hts in_X0 hown hK hP 0 rfl rfl 1 (by decide) (hts _ q77) (fun _ h9 => h9) rfl dX0_headChanged_13 ?_
    have hPc := hP.sub (ws' := [(aq, .inr (1, [.ref av, .ref ah, .int (nI sz), .null, .ref an])), (av, .inl (d, 64, .inl fv)), (ah, .inl (d, 64, .inl (hN hp))), (an, .inl (d, 64, .inl fi))]) [1, 2, 3, 4] rfl
    have hDc := hD.sub (ws' := [(aq, .inr (1, [.ref av, .ref ah, .int (nI sz), .null, .ref an])), (av, .inl (d, 64, .inl fv)), (ah, .inl (d, 64, .inl (hN hp))), (an, .inl (d, 64, .inl fi))]) [1, 2, 3, 4] (by decide) rfl
    have hKc := hK.sub (tys' := [(d, .int)]) [0] rfl
    have hFc := va_free (wc := [(aq, .inr (1, [.ref av, .ref ah, .int (nI sz), .null, .ref an])), (av, .inl (d, 64, .inl fv)), (ah, .inl (d, 64, .inl (hN hp))), (an, .inl (d, 64, .inl fi))]) hD hS hA [1, 2, 3, 4] rfl
    refine va_calli (va_runU (As := []) (rest := []) ⟨hx, hb, hml, hown, hts⟩ (metX1_first l dC dI d aq av ah an H.size fv hp fi sz h0 hG.1 (hG.2.1.1 0)) (va_cwU 0 hts (lw_U q446 q447 q449 q450 q4 q451) rfl rfl rfl rfl (by decide +kernel) ⟨Nat.le_of_ble_eq_true rfl, Nat.le_of_ble_eq_true rfl⟩) ⟨fun a U g mk q => by obtain ⟨q0, q1, qP, qK, qD⟩ := q; exact ⟨q0, q1, qP, va_K.moved (u := U) (U := U.calling g mk a) (Vm.Alike.refl U.vm) qK, qD⟩, va_recv hKc hPc (ci := 1) (q0 := 0) rfl rfl, fun U hU hW => ⟨rfl, by rw [hU], by rw [hU]; exact hPc, va_K.moved hW.alike hKc, hDc.weaken (fun _ _ _ _ => trivial)⟩⟩ rfl rfl hl.1 rfl (lv_room (Nat.le_of_ble_eq_true rfl)) dX0_headChanged_16 ⟨Nat.le_of_ble_eq_true rfl, Nat.le_of_ble_eq_true rfl⟩) hS (fun q _ h => hFc q h) hFc (fun r_f u t H1 locs ht hvm hw hB hz1 hk1 hS => ?_)
    obtain ⟨hP1, hK1, hD1⟩ := hB
    subst hw
    rw [ht] at hP1
    have hK1 := va_K.moved hvm.symm hK1
    obtain ⟨hP, hD⟩ := va_join (wr := [(ax, .inr (0, [.ref av, .ref aq]))]) (w1 := [(aq, .inr (1, [.ref av, .ref ah, .int (nI sz), .null, .ref an])), (av, .inl (d, 64, .inl fv)), (ah, .inl (d, 64, .inl (hN hp))), (an, .inl (d, 64, .inl fi))]) hP hD [1, 2, 3, 4] [0] rfl rfl (by decide) (by decide) hk1 hFc hP1 hD1
    generalize H1 = H at hP hS ⊢
    have hP : va_P (dC, dI) vwCl [(ax, .inr (0, [.ref av, .ref aq])), (aq, .inr (1, [.ref av, .ref ah, .int (nI sz), .null, .ref an])), (av, .inl (d, 64, .inl fv)), (ah, .inl (d, 64, .inl (hN hp))), (an, .inl (d, 64, .inl fi))] H := hP
    have hD : va_D A [(ax, .inr (0, [.ref av, .ref aq])), (aq, .inr (1, [.ref av, .ref ah, .int (nI sz), .null, .ref an])), (av, .inl (d, 64, .inl fv)), (ah, .inl (d, 64, .inl (hN hp))), (an, .inl (d, 64, .inl fi))] := hD
    refine lv_istore_n (lv' := [(2, .int (nI (hp 0))), (0, .ref ax), (1, .int p0)]) hx hb dX0_headChanged_19 rfl hl (by decide) rfl (fun ls hl => ?_)
    refine lv_aload_n hx hb dX0_headChanged_20 rfl (lv_at hl 1 rfl) ?_
    refine va_get (D := (dC, dI)) (ci := 0) (v := .ref av) (C := RX0) (T := TX0) (N := 2) hx hb hts in_X0 hown hK hP 0 rfl rfl 0 (by decide) (hts _ q76) (fun _ h9 => h9) rfl dX0_headChanged_21 ?_
    refine lv_iload_n hx hb dX0_headChanged_24 rfl (lv_at hl 0 rfl) ?_
    refine lv_iload_n hx hb dX0_headChanged_25 rfl (lv_at hl 2 rfl) ?_
    refine lv_bipush (v := (-64)) hx hb dX0_headChanged_26 (by decide +kernel) ?_
    refine xi_and hx hb (p0 &&& (-64)) rfl dX0_headChanged_28 ?_
    refine lv_iload_n hx hb dX0_headChanged_29 rfl (lv_at hl 0 rfl) ?_
    refine xi_or hx hb (nv p0 (hp 0)) rfl dX0_headChanged_30 ?_
    refine xa_st hx hb hK hP hD hS 2 0 rfl rfl (hp 0) rfl (hG.2.1.1 0) (by decide) (upd fv (hp 0) (nv p0 (hp 0))) rfl dX0_headChanged_31 (fun H locs hP hD hS => ?_)
    have hP : va_P (dC, dI) vwCl [(ax, .inr (0, [.ref av, .ref aq])), (aq, .inr (1, [.ref av, .ref ah, .int (nI sz), .null, .ref an])), (av, .inl (d, 64, .inl (upd fv (hp 0) (nv p0 (hp 0))))), (ah, .inl (d, 64, .inl (hN hp))), (an, .inl (d, 64, .inl fi))] H := hP
    have hD : va_D A [(ax, .inr (0, [.ref av, .ref aq])), (aq, .inr (1, [.ref av, .ref ah, .int (nI sz), .null, .ref an])), (av, .inl (d, 64, .inl (upd fv (hp 0) (nv p0 (hp 0))))), (ah, .inl (d, 64, .inl (hN hp))), (an, .inl (d, 64, .inl fi))] := hD
    refine lv_aload_n hx hb dX0_headChanged_32 rfl (lv_at hl 1 rfl) ?_
    refine va_get (D := (dC, dI)) (ci := 0) (v := .ref aq) (C := RX0) (T := TX0) (N := 2) hx hb hts in_X0 hown hK hP 0 rfl rfl 1 (by decide) (hts _ q77) (fun _ h9 => h9) rfl dX0_headChanged_33 ?_
    have hPc := hP.sub (ws' := [(aq, .inr (1, [.ref av, .ref ah, .int (nI sz), .null, .ref an])), (av, .inl (d, 64, .inl (upd fv (hp 0) (nv p0 (hp 0))))), (ah, .inl (d, 64, .inl (hN hp))), (an, .inl (d, 64, .inl fi))]) [1, 2, 3, 4] rfl
    have hDc := hD.sub (ws' := [(aq, .inr (1, [.ref av, .ref ah, .int (nI sz), .null, .ref an])), (av, .inl (d, 64, .inl (upd fv (hp 0) (nv p0 (hp 0))))), (ah, .inl (d, 64, .inl (hN hp))), (an, .inl (d, 64, .inl fi))]) [1, 2, 3, 4] (by decide) rfl
    have hKc := hK.sub (tys' := [(d, .int)]) [0] rfl
    have hFc := va_free (wc := [(aq, .inr (1, [.ref av, .ref ah, .int (nI sz), .null, .ref an])), (av, .inl (d, 64, .inl (upd fv (hp 0) (nv p0 (hp 0))))), (ah, .inl (d, 64, .inl (hN hp))), (an, .inl (d, 64, .inl fi))]) hD hS hA [1, 2, 3, 4] rfl
    refine va_callv (va_runV (As := []) (rest := []) ⟨hx, hb, hml, hown, hts⟩ (metX2_changed_2 l dC dI d aq av ah an H.size (upd fv (hp 0) (nv p0 (hp 0))) hp fi sz M fv hG.2.1 hG.1 h0 hG.2.2 (fun j hj => pk_un hj)) (cwV 0 hts (lw_V q487 q488 q489 q5 q490) rfl rfl rfl (by decide +kernel) ⟨Nat.le_of_ble_eq_true rfl, Nat.le_of_ble_eq_true rfl⟩) ⟨fun a U g mk q => by obtain ⟨q0, q1, qP, qK, qD⟩ := q; exact ⟨q0, q1, qP, va_K.moved (u := U) (U := U.calling g mk a) (Vm.Alike.refl U.vm) qK, qD⟩, va_recv hKc hPc (ci := 1) (q0 := 0) rfl rfl, fun U hU hW => ⟨rfl, by rw [hU], by rw [hU]; exact hPc, va_K.moved hW.alike hKc, hDc.weaken (fun _ _ _ _ => trivial)⟩⟩ rfl rfl hl.1 rfl (lv_room (Nat.le_of_ble_eq_true rfl)) dX0_headChanged_36 ⟨Nat.le_of_ble_eq_true rfl, Nat.le_of_ble_eq_true rfl⟩) hS (fun q _ h => hFc q h) hFc (fun u t H1 locs ht hvm hw hB hz1 hk1 hS => ?_)
    obtain ⟨sz2, hp2, fi2⟩ := u
    obtain ⟨hu, hG2⟩ := hw
    dsimp only at hu hG2
    have hu : sz = sz2 := hu.symm
    subst hu
    obtain ⟨hP1, hK1, hD1⟩ := hB
    rw [ht] at hP1
    have hK1 := va_K.moved hvm.symm hK1
    obtain ⟨hP, hD⟩ := va_join (wr := [(ax, .inr (0, [.ref av, .ref aq]))]) (w1 := [(aq, .inr (1, [.ref av, .ref ah, .int (nI sz), .null, .ref an])), (av, .inl (d, 64, .inl (upd fv (hp 0) (nv p0 (hp 0))))), (ah, .inl (d, 64, .inl (hN hp2))), (an, .inl (d, 64, .inl fi2))]) hP hD [1, 2, 3, 4] [0] rfl rfl (by decide) (by decide) hk1 hFc hP1 hD1
    generalize H1 = H at hP hS ⊢
    have hP : va_P (dC, dI) vwCl [(ax, .inr (0, [.ref av, .ref aq])), (aq, .inr (1, [.ref av, .ref ah, .int (nI sz), .null, .ref an])), (av, .inl (d, 64, .inl (upd fv (hp 0) (nv p0 (hp 0))))), (ah, .inl (d, 64, .inl (hN hp2))), (an, .inl (d, 64, .inl fi2))] H := hP
    have hD : va_D A [(ax, .inr (0, [.ref av, .ref aq])), (aq, .inr (1, [.ref av, .ref ah, .int (nI sz), .null, .ref an])), (av, .inl (d, 64, .inl (upd fv (hp 0) (nv p0 (hp 0))))), (ah, .inl (d, 64, .inl (hN hp2))), (an, .inl (d, 64, .inl fi2))] := hD
    refine lv_iconst (v := 1) hx hb dX0_headChanged_39 (by decide +kernel) ?_
    have hP9 := hP.sub (ws' := [(ax, .inr (0, [.ref av, .ref aq])), (aq, .inr (1, [.ref av, .ref ah, .int (nI sz), .null, .ref an])), (av, .inl (d, 64, .inl (upd fv (hp 0) (nv p0 (hp 0))))), (ah, .inl (d, 64, .inl (hN hp2))), (an, .inl (d, 64, .inl fi2))]) [0, 1, 2, 3, 4] rfl
    have hD9 := hD.sub (ws' := [(ax, .inr (0, [.ref av, .ref aq])), (aq, .inr (1, [.ref av, .ref ah, .int (nI sz), .null, .ref an])), (av, .inl (d, 64, .inl (upd fv (hp 0) (nv p0 (hp 0))))), (ah, .inl (d, 64, .inl (hN hp2))), (an, .inl (d, 64, .inl fi2))]) [0, 1, 2, 3, 4] (by decide) rfl
    have hK9 := hK.sub (tys' := [(d, .int)]) [0] rfl
    exact W.zret (v := 1) hx hb hr rfl (fun t ht hW => ⟨⟨1, (sz, upd fv (hp 0) (nv p0 (hp 0)), hp2, fi2), rfl, ⟨rfl, hG2, Or.inr ⟨h0, rfl, rfl⟩⟩, by rw [ht]; exact hP9, va_K.moved hW.alike hK9, hD9⟩, hS.F ht⟩) hS.2.2 dX0_headChanged_40
  · have h0 : sz = 0 := by
      rcases Nat.eq_zero_or_pos sz with q | q
      · exact q
      · exact absurd c_1 (nI_ne0 q (Nat.lt_of_le_of_lt hG.1 (by decide)))
    refine lv_iconst (v := 0) hx hb dX0_headChanged_10 (by decide +kernel) ?_
    have hP9 := hP.sub (ws' := [(ax, .inr (0, [.ref av, .ref aq])), (aq, .inr (1, [.ref av, .ref ah, .int (nI sz), .null, .ref an])), (av, .inl (d, 64, .inl fv)), (ah, .inl (d, 64, .inl (hN hp))), (an, .inl (d, 64, .inl fi))]) [0, 1, 2, 3, 4] rfl
    have hD9 := hD.sub (ws' := [(ax, .inr (0, [.ref av, .ref aq])), (aq, .inr (1, [.ref av, .ref ah, .int (nI sz), .null, .ref an])), (av, .inl (d, 64, .inl fv)), (ah, .inl (d, 64, .inl (hN hp))), (an, .inl (d, 64, .inl fi))]) [0, 1, 2, 3, 4] (by decide) rfl
    have hK9 := hK.sub (tys' := [(d, .int)]) [0] rfl
    exact W.zret (v := 0) hx hb hr rfl (fun t ht hW => ⟨⟨0, (sz, fv, hp, fi), rfl, ⟨rfl, hG, Or.inl ⟨h0, rfl, rfl⟩⟩, by rw [ht]; exact hP9, va_K.moved hW.alike hK9, hD9⟩, hS.F ht⟩) hS.2.2 dX0_headChanged_11
set_option maxHeartbeats 4000000 in
set_option maxRecDepth 100000 in
/-- all(step): the loop over the values -/
theorem all0_loop {p : Program} {l : Launch} {e : Env} {R : Room} {s : State} {m : MethodId} {args : Array Value} {below : List Frame} {meth : Method} {c : Code} {Q : State → Prop} {cells slots : Nat} {dC : Nat → ClassId} {dI : Nat → Nat → Nat} {A : Nat → Prop} {H0 : Heap} {d : ClassId} {ax aq av ah an sz : Nat} {hp : Nat → Nat} {fi : Nat → Int32} {p0 : Int32} {fv : Nat → Int32} (hx : p.tables.exec = Jvm.exec) (hb : c.code = cX0_all) (hown : s.vm.findClass RX0 = some m.cls) (hts : ∀ w ∈ lw_all, w.before args s = true) (hK : va_K (dC, dI) vwCl [(d, .int)] s)
    (hexit : ∀ (f : Nat → Int32) (H : Heap) (locs : List Loc) (ls : Array Slot), (∀ j, j < 64 → f j = nv (fv j + p0 * nI j * 64) j) → va_P (dC, dI) vwCl [(ax, .inr (0, [.ref av, .ref aq])), (aq, .inr (1, [.ref av, .ref ah, .int (nI sz), .null, .ref an])), (av, .inl (d, 64, .inl f)), (ah, .inl (d, 64, .inl (hN hp))), (an, .inl (d, 64, .inl fi))] H → va_D A [(ax, .inr (0, [.ref av, .ref aq])), (aq, .inr (1, [.ref av, .ref ah, .int (nI sz), .null, .ref an])), (av, .inl (d, 64, .inl f)), (ah, .inl (d, 64, .inl (hN hp))), (an, .inl (d, 64, .inl fi))] → va_S A H0 H locs → lv_has ls 3 [(0, .ref ax)] → W p l e R s m args below meth c H locs cells slots Q (F0 m 38 ls [])) :
    ∀ (n i : Nat) (f : Nat → Int32), 64 - i < n → i ≤ 64 → (∀ j, j < i → f j = nv (fv j + p0 * nI j * 64) j) → (∀ j, i ≤ j → f j = fv j) → ∀ (H : Heap) (locs : List Loc), va_P (dC, dI) vwCl [(ax, .inr (0, [.ref av, .ref aq])), (aq, .inr (1, [.ref av, .ref ah, .int (nI sz), .null, .ref an])), (av, .inl (d, 64, .inl f)), (ah, .inl (d, 64, .inl (hN hp))), (an, .inl (d, 64, .inl fi))] H → va_D A [(ax, .inr (0, [.ref av, .ref aq])), (aq, .inr (1, [.ref av, .ref ah, .int (nI sz), .null, .ref an])), (av, .inl (d, 64, .inl f)), (ah, .inl (d, 64, .inl (hN hp))), (an, .inl (d, 64, .inl fi))] → va_S A H0 H locs → ∀ (ls : Array Slot), lv_has ls 3 [(0, .ref ax), (1, .int p0), (2, .int (nI i))] → W p l e R s m args below meth c H locs cells slots Q (F0 m 2 ls []) := by
  intro n
  induction n with
  | zero =>
    intro i f h1
    exact absurd h1 (by omega)
  | succ n ih =>
    intro i f hn hi hf hf2 H locs hP hD hS ls hl
    refine lv_iload_n hx hb dX0_all_2 rfl (lv_at hl 2 rfl) ?_
    refine lv_bipush (v := nI 64) hx hb dX0_all_3 (by decide +kernel) ?_
    refine lv_icmp_ge (tgt := 38) hx hb dX0_all_5 (by decide) (fun c_1 => ?_) (fun c_1 => ?_)
    · have h64 : 64 ≤ i := (nI_leI (by omega) (by omega)).mp c_1
      exact hexit f H locs ls (fun j hj => hf j (by omega)) hP hD hS (lv_sub hl [0] rfl)
    · have h64 : i < 64 := by
        rcases Nat.lt_or_ge i 64 with q | q
        · exact q
        · exact absurd (nI_le q (by omega)) c_1
      refine lv_aload_n hx hb dX0_all_8 rfl (lv_at hl 0 rfl) ?_
      refine va_get (D := (dC, dI)) (ci := 0) (v := .ref av) (C := RX0) (T := TX0) (N := 2) hx hb hts in_X0 hown hK hP 0 rfl rfl 0 (by decide) (hts _ q76) (fun _ h9 => h9) rfl dX0_all_9 ?_
      refine lv_iload_n hx hb dX0_all_12 rfl (lv_at hl 2 rfl) ?_
      refine lv_aload_n hx hb dX0_all_13 rfl (lv_at hl 0 rfl) ?_
      refine va_get (D := (dC, dI)) (ci := 0) (v := .ref av) (C := RX0) (T := TX0) (N := 2) hx hb hts in_X0 hown hK hP 0 rfl rfl 0 (by decide) (hts _ q76) (fun _ h9 => h9) rfl dX0_all_14 ?_
      refine lv_iload_n hx hb dX0_all_17 rfl (lv_at hl 2 rfl) ?_
      refine xa_ld (v := fv i) hx hb hK hP 2 0 rfl rfl i rfl h64 (by decide) (hf2 i (Nat.le_refl i)) dX0_all_18 ?_
      refine lv_iload_n hx hb dX0_all_19 rfl (lv_at hl 1 rfl) ?_
      refine lv_iload_n hx hb dX0_all_20 rfl (lv_at hl 2 rfl) ?_
      refine xi_mul hx hb (p0 * (nI i)) rfl dX0_all_21 ?_
      refine lv_bipush (v := 64) hx hb dX0_all_22 (by decide +kernel) ?_
      refine xi_mul hx hb ((p0 * (nI i)) * 64) rfl dX0_all_24 ?_
      refine xi_add hx hb ((fv i) + ((p0 * (nI i)) * 64)) rfl dX0_all_25 ?_
      refine lv_bipush (v := (-64)) hx hb dX0_all_26 (by decide +kernel) ?_
      refine xi_and hx hb (((fv i) + ((p0 * (nI i)) * 64)) &&& (-64)) rfl dX0_all_28 ?_
      refine lv_iload_n hx hb dX0_all_29 rfl (lv_at hl 2 rfl) ?_
      refine xi_or hx hb (nv (fv i + p0 * nI i * 64) i) rfl dX0_all_30 ?_
      refine xa_st hx hb hK hP hD hS 2 0 rfl rfl i rfl h64 (by decide) (upd f i (nv (fv i + p0 * nI i * 64) i)) rfl dX0_all_31 (fun H locs hP hD hS => ?_)
      have hP : va_P (dC, dI) vwCl [(ax, .inr (0, [.ref av, .ref aq])), (aq, .inr (1, [.ref av, .ref ah, .int (nI sz), .null, .ref an])), (av, .inl (d, 64, .inl (upd f i (nv (fv i + p0 * nI i * 64) i)))), (ah, .inl (d, 64, .inl (hN hp))), (an, .inl (d, 64, .inl fi))] H := hP
      have hD : va_D A [(ax, .inr (0, [.ref av, .ref aq])), (aq, .inr (1, [.ref av, .ref ah, .int (nI sz), .null, .ref an])), (av, .inl (d, 64, .inl (upd f i (nv (fv i + p0 * nI i * 64) i)))), (ah, .inl (d, 64, .inl (hN hp))), (an, .inl (d, 64, .inl fi))] := hD
      refine lv_iinc (v := nI (i + 1)) (lv' := [(2, .int (nI (i + 1))), (0, .ref ax), (1, .int p0)]) hx hb dX0_all_32 hl (k := 2) rfl (x_iinc1 i) (by decide) rfl (fun ls hl => ?_)
      refine lv_goto (tgt := 2) hx hb dX0_all_35 (by decide) ?_
      exact ih (i + 1) _ (by omega) (by omega) (fun j hj => by
        by_cases q : j = i
        · rw [q, ud_e, if_pos rfl]
        · rw [ud_e, if_neg q]; exact hf j (by omega)) (fun j hj => by
        rw [ud_e, if_neg (show j ≠ i by omega)]; exact hf2 j (by omega)) H locs hP hD hS ls (lv_sub hl [1, 2, 0] rfl)
set_option maxHeartbeats 4000000 in
set_option maxRecDepth 100000 in
/-- all(step) -/
theorem metX0_all (l : Launch) (dC : Nat → ClassId) (dI : Nat → Nat → Nat) (d : ClassId) (ax aq av ah an z : Nat) (fv : Nat → Int32) (hp : Nat → Nat) (fi : Nat → Int32) (sz : Nat) (M : Nat → Prop) (hG : Good M sz fv hp fi) (p0 : Int32) : Met l yX0_all wsX0_all ({ frames := 3, cells := 0, slots := 0, locals := 80 }) (va_Pc [.ref ax, .int p0] (fun U => U.heap.size = z ∧ va_P (dC, dI) vwCl [(ax, .inr (0, [.ref av, .ref aq])), (aq, .inr (1, [.ref av, .ref ah, .int (nI sz), .null, .ref an])), (av, .inl (d, 64, .inl fv)), (ah, .inl (d, 64, .inl (hN hp))), (an, .inl (d, 64, .inl fi))] U.heap ∧ va_K (dC, dI) vwCl [(d, .int)] U ∧ va_D (fun _ => True) [(ax, .inr (0, [.ref av, .ref aq])), (aq, .inr (1, [.ref av, .ref ah, .int (nI sz), .null, .ref an])), (av, .inl (d, 64, .inl fv)), (ah, .inl (d, 64, .inl (hN hp))), (an, .inl (d, 64, .inl fi))])) (va_Qv (fun u : Nat × (Nat → Int32) × (Nat → Nat) × (Nat → Int32) => u.1 = sz ∧ (∀ j, j < 64 → u.2.1 j = nv (fv j + p0 * nI j * 64) j) ∧ Good M u.1 u.2.1 u.2.2.1 u.2.2.2) (BW5 dC dI d (va_A [(ax, .inr (0, [.ref av, .ref aq])), (aq, .inr (1, [.ref av, .ref ah, .int (nI sz), .null, .ref an])), (av, .inl (d, 64, .inl fv)), (ah, .inl (d, 64, .inl (hN hp))), (an, .inl (d, 64, .inl fi))] z) ax aq av ah an) (va_A [(ax, .inr (0, [.ref av, .ref aq])), (aq, .inr (1, [.ref av, .ref ah, .int (nI sz), .null, .ref an])), (av, .inl (d, 64, .inl fv)), (ah, .inl (d, 64, .inl (hN hp))), (an, .inl (d, 64, .inl fi))] z)) 0 0 (va_A [(ax, .inr (0, [.ref av, .ref aq])), (aq, .inr (1, [.ref av, .ref ah, .int (nI sz), .null, .ref an])), (av, .inl (d, 64, .inl fv)), (ah, .inl (d, 64, .inl (hN hp))), (an, .inl (d, 64, .inl fi))] z) := by
  refine Met.ofW (cc := cX0_all) (maxL := 3) (ret := none) (by decide) rfl ?_
  intro p e s m args below meth c s₁ B hml hv
  obtain ⟨rfl, hsz, hP, hK, hD0⟩ := hv
  have hx := B.exec
  have hb := B.bytes
  have hr := B.returns
  have hts := atoms_spec (ws := wsX0_all) B.pre
  have hts : ∀ w ∈ lw_all, w.before _ s = true := fun w h => hts w (List.mem_cons_of_mem _ h)
  have hown : s.vm.findClass RX0 = some m.cls := findClass_of_methodNamed B.named
  have hlocks := B.notSynchronized
  subst hsz
  have hD := hD0.self (sz := s.heap.size)
  generalize hAe : va_A [(ax, .inr (0, [.ref av, .ref aq])), (aq, .inr (1, [.ref av, .ref ah, .int (nI sz), .null, .ref an])), (av, .inl (d, 64, .inl fv)), (ah, .inl (d, 64, .inl (hN hp))), (an, .inl (d, 64, .inl fi))] s.heap.size = A at hD ⊢
  have hA : ∀ q : Nat, s.heap.size ≤ q → A q := fun q h => by rw [← hAe]; exact Or.inr h
  have hS : va_S A s.heap s.heap [] := va_S.rf
  have hP : va_P (dC, dI) vwCl [(ax, .inr (0, [.ref av, .ref aq])), (aq, .inr (1, [.ref av, .ref ah, .int (nI sz), .null, .ref an])), (av, .inl (d, 64, .inl fv)), (ah, .inl (d, 64, .inl (hN hp))), (an, .inl (d, 64, .inl fi))] s.heap := hP
  have hl := lv_entry ([.ref ax, .int p0]) (n := 3) (Nat.le_of_ble_eq_true rfl)
  rw [lg_entry_eq]
  generalize (lg_sl ([.ref ax, .int p0]) ++ List.replicate (3 - (lg_sl ([.ref ax, .int p0])).length) Slot.unset).toArray = ls at hl ⊢
  have hl : lv_has ls 3 [(0, .ref ax), (1, .int p0)] := hl
  refine lv_iconst (v := nI 0) hx hb dX0_all_0 (by decide +kernel) ?_
  refine lv_istore_n (lv' := [(2, .int (nI 0)), (0, .ref ax), (1, .int p0)]) hx hb dX0_all_1 rfl hl (by decide) rfl (fun ls hl => ?_)
  refine all0_loop hx hb hown hts hK ?_ 65 0 fv (by omega) (by omega) (fun j hj => absurd hj (by omega)) (fun j _ => rfl) s.heap [] hP hD hS ls (lv_sub hl [1, 2, 0] rfl)
  intro f H locs ls hf hP hD hS hl
  refine lv_aload_n hx hb dX0_all_38 rfl (lv_at hl 0 rfl) ?_
  refine va_get (D := (dC, dI)) (ci := 0) (v := .ref aq) (C := RX0) (T := TX0) (N := 2) hx hb hts in_X0 hown hK hP 0 rfl rfl 1 (by decide) (hts _ q77) (fun _ h9 => h9) rfl dX0_all_39 ?_
  have hPc := hP.sub (ws' := [(aq, .inr (1, [.ref av, .ref ah, .int (nI sz), .null, .ref an])), (av, .inl (d, 64, .inl f)), (ah, .inl (d, 64, .inl (hN hp))), (an, .inl (d, 64, .inl fi))]) [1, 2, 3, 4] rfl
  have hDc := hD.sub (ws' := [(aq, .inr (1, [.ref av, .ref ah, .int (nI sz), .null, .ref an])), (av, .inl (d, 64, .inl f)), (ah, .inl (d, 64, .inl (hN hp))), (an, .inl (d, 64, .inl fi))]) [1, 2, 3, 4] (by decide) rfl
  have hKc := hK.sub (tys' := [(d, .int)]) [0] rfl
  have hFc := va_free (wc := [(aq, .inr (1, [.ref av, .ref ah, .int (nI sz), .null, .ref an])), (av, .inl (d, 64, .inl f)), (ah, .inl (d, 64, .inl (hN hp))), (an, .inl (d, 64, .inl fi))]) hD hS hA [1, 2, 3, 4] rfl
  refine va_callv (va_runV (As := []) (rest := []) ⟨hx, hb, hml, hown, hts⟩ (metX2_allChanged l dC dI d aq av ah an H.size f hp fi sz M hG.2.1 hG.1) (cwV 0 hts (lw_V q495 q496 q497 q5 q498) rfl rfl rfl (by decide +kernel) ⟨Nat.le_of_ble_eq_true rfl, Nat.le_of_ble_eq_true rfl⟩) ⟨fun a U g mk q => by obtain ⟨q0, q1, qP, qK, qD⟩ := q; exact ⟨q0, q1, qP, va_K.moved (u := U) (U := U.calling g mk a) (Vm.Alike.refl U.vm) qK, qD⟩, va_recv hKc hPc (ci := 1) (q0 := 0) rfl rfl, fun U hU hW => ⟨rfl, by rw [hU], by rw [hU]; exact hPc, va_K.moved hW.alike hKc, hDc.weaken (fun _ _ _ _ => trivial)⟩⟩ rfl rfl hl.1 rfl (lv_room (Nat.le_of_ble_eq_true rfl)) dX0_all_42 ⟨Nat.le_of_ble_eq_true rfl, Nat.le_of_ble_eq_true rfl⟩) hS (fun q _ h => hFc q h) hFc (fun u t H1 locs ht hvm hw hB hz1 hk1 hS => ?_)
  obtain ⟨sz2, hp2, fi2⟩ := u
  obtain ⟨hu, hG2⟩ := hw
  dsimp only at hu hG2
  have hu : sz = sz2 := hu.symm
  subst hu
  obtain ⟨hP1, hK1, hD1⟩ := hB
  rw [ht] at hP1
  have hK1 := va_K.moved hvm.symm hK1
  obtain ⟨hP, hD⟩ := va_join (wr := [(ax, .inr (0, [.ref av, .ref aq]))]) (w1 := [(aq, .inr (1, [.ref av, .ref ah, .int (nI sz), .null, .ref an])), (av, .inl (d, 64, .inl f)), (ah, .inl (d, 64, .inl (hN hp2))), (an, .inl (d, 64, .inl fi2))]) hP hD [1, 2, 3, 4] [0] rfl rfl (by decide) (by decide) hk1 hFc hP1 hD1
  generalize H1 = H at hP hS ⊢
  have hP : va_P (dC, dI) vwCl [(ax, .inr (0, [.ref av, .ref aq])), (aq, .inr (1, [.ref av, .ref ah, .int (nI sz), .null, .ref an])), (av, .inl (d, 64, .inl f)), (ah, .inl (d, 64, .inl (hN hp2))), (an, .inl (d, 64, .inl fi2))] H := hP
  have hD : va_D A [(ax, .inr (0, [.ref av, .ref aq])), (aq, .inr (1, [.ref av, .ref ah, .int (nI sz), .null, .ref an])), (av, .inl (d, 64, .inl f)), (ah, .inl (d, 64, .inl (hN hp2))), (an, .inl (d, 64, .inl fi2))] := hD
  have hP9 := hP.sub (ws' := [(ax, .inr (0, [.ref av, .ref aq])), (aq, .inr (1, [.ref av, .ref ah, .int (nI sz), .null, .ref an])), (av, .inl (d, 64, .inl f)), (ah, .inl (d, 64, .inl (hN hp2))), (an, .inl (d, 64, .inl fi2))]) [0, 1, 2, 3, 4] rfl
  have hD9 := hD.sub (ws' := [(ax, .inr (0, [.ref av, .ref aq])), (aq, .inr (1, [.ref av, .ref ah, .int (nI sz), .null, .ref an])), (av, .inl (d, 64, .inl f)), (ah, .inl (d, 64, .inl (hN hp2))), (an, .inl (d, 64, .inl fi2))]) [0, 1, 2, 3, 4] (by decide) rfl
  have hK9 := hK.sub (tys' := [(d, .int)]) [0] rfl
  exact W.vret hx hb hr (fun t ht hW => ⟨⟨(sz, f, hp2, fi2), rfl, ⟨rfl, hf, hG2⟩, by rw [ht]; exact hP9, va_K.moved hW.alike hK9, hD9⟩, hS.F ht⟩) hS.2.2 dX0_all_45
set_option maxHeartbeats 4000000 in
set_option maxRecDepth 100000 in
/-- inside(i) -/
theorem metX0_inside (l : Launch) (dC : Nat → ClassId) (dI : Nat → Nat → Nat) (d : ClassId) (ax aq av ah an z : Nat) (fv : Nat → Int32) (hp : Nat → Nat) (fi : Nat → Int32) (sz : Nat) (M : Nat → Prop) (hG : Good M sz fv hp fi) (p0 : Int32) : Met l yX0_inside wsX0_inside ({ frames := 3, cells := 0, slots := 0, locals := 80 }) (va_Pc [.ref ax, .int p0] (fun U => U.heap.size = z ∧ va_P (dC, dI) vwCl [(ax, .inr (0, [.ref av, .ref aq])), (aq, .inr (1, [.ref av, .ref ah, .int (nI sz), .null, .ref an])), (av, .inl (d, 64, .inl fv)), (ah, .inl (d, 64, .inl (hN hp))), (an, .inl (d, 64, .inl fi))] U.heap ∧ va_K (dC, dI) vwCl [(d, .int)] U ∧ va_D (fun _ => True) [(ax, .inr (0, [.ref av, .ref aq])), (aq, .inr (1, [.ref av, .ref ah, .int (nI sz), .null, .ref an])), (av, .inl (d, 64, .inl fv)), (ah, .inl (d, 64, .inl (hN hp))), (an, .inl (d, 64, .inl fi))])) (va_Qi (fun (r : Int32) (_ : Unit) => (M (lo6 p0) ∧ r = 1) ∨ (¬ M (lo6 p0) ∧ r = 0)) (fun _ => BW5 dC dI d (va_A [(ax, .inr (0, [.ref av, .ref aq])), (aq, .inr (1, [.ref av, .ref ah, .int (nI sz), .null, .ref an])), (av, .inl (d, 64, .inl fv)), (ah, .inl (d, 64, .inl (hN hp))), (an, .inl (d, 64, .inl fi))] z) ax aq av ah an (sz, fv, hp, fi)) (va_A [(ax, .inr (0, [.ref av, .ref aq])), (aq, .inr (1, [.ref av, .ref ah, .int (nI sz), .null, .ref an])), (av, .inl (d, 64, .inl fv)), (ah, .inl (d, 64, .inl (hN hp))), (an, .inl (d, 64, .inl fi))] z)) 0 0 (va_A [(ax, .inr (0, [.ref av, .ref aq])), (aq, .inr (1, [.ref av, .ref ah, .int (nI sz), .null, .ref an])), (av, .inl (d, 64, .inl fv)), (ah, .inl (d, 64, .inl (hN hp))), (an, .inl (d, 64, .inl fi))] z) := by
  refine Met.ofW (cc := cX0_inside) (maxL := 2) (ret := (some .boolean)) (by decide) rfl ?_
  intro p e s m args below meth c s₁ B hml hv
  obtain ⟨rfl, hsz, hP, hK, hD0⟩ := hv
  have hx := B.exec
  have hb := B.bytes
  have hr := B.returns
  have hts := atoms_spec (ws := wsX0_inside) B.pre
  have hts : ∀ w ∈ lw_all, w.before _ s = true := fun w h => hts w (List.mem_cons_of_mem _ h)
  have hown : s.vm.findClass RX0 = some m.cls := findClass_of_methodNamed B.named
  have hlocks := B.notSynchronized
  subst hsz
  have hD := hD0.self (sz := s.heap.size)
  generalize hAe : va_A [(ax, .inr (0, [.ref av, .ref aq])), (aq, .inr (1, [.ref av, .ref ah, .int (nI sz), .null, .ref an])), (av, .inl (d, 64, .inl fv)), (ah, .inl (d, 64, .inl (hN hp))), (an, .inl (d, 64, .inl fi))] s.heap.size = A at hD ⊢
  have hA : ∀ q : Nat, s.heap.size ≤ q → A q := fun q h => by rw [← hAe]; exact Or.inr h
  have hS : va_S A s.heap s.heap [] := va_S.rf
  have hP : va_P (dC, dI) vwCl [(ax, .inr (0, [.ref av, .ref aq])), (aq, .inr (1, [.ref av, .ref ah, .int (nI sz), .null, .ref an])), (av, .inl (d, 64, .inl fv)), (ah, .inl (d, 64, .inl (hN hp))), (an, .inl (d, 64, .inl fi))] s.heap := hP
  have hl := lv_entry ([.ref ax, .int p0]) (n := 2) (Nat.le_of_ble_eq_true rfl)
  rw [lg_entry_eq]
  generalize (lg_sl ([.ref ax, .int p0]) ++ List.replicate (2 - (lg_sl ([.ref ax, .int p0])).length) Slot.unset).toArray = ls at hl ⊢
  have hl : lv_has ls 2 [(0, .ref ax), (1, .int p0)] := hl
  refine lv_aload_n hx hb dX0_inside_0 rfl (lv_at hl 0 rfl) ?_
  refine va_get (D := (dC, dI)) (ci := 0) (v := .ref aq) (C := RX0) (T := TX0) (N := 2) hx hb hts in_X0 hown hK hP 0 rfl rfl 1 (by decide) (hts _ q77) (fun _ h9 => h9) rfl dX0_inside_1 ?_
  refine lv_iload_n hx hb dX0_inside_4 rfl (lv_at hl 1 rfl) ?_
  refine lv_bipush (v := 63) hx hb dX0_inside_5 (by decide +kernel) ?_
  refine xi_and hx hb (nI (lo6 p0)) (x_and63 p0) dX0_inside_7 ?_
  have hPc := hP.sub (ws' := [(aq, .inr (1, [.ref av, .ref ah, .int (nI sz), .null, .ref an])), (av, .inl (d, 64, .inl fv)), (ah, .inl (d, 64, .inl (hN hp))), (an, .inl (d, 64, .inl fi))]) [1, 2, 3, 4] rfl
  have hDc := hD.sub (ws' := [(aq, .inr (1, [.ref av, .ref ah, .int (nI sz), .null, .ref an])), (av, .inl (d, 64, .inl fv)), (ah, .inl (d, 64, .inl (hN hp))), (an, .inl (d, 64, .inl fi))]) [1, 2, 3, 4] (by decide) rfl
  have hKc := hK.sub (tys' := [(d, .int)]) [0] rfl
  have hFc := va_free (wc := [(aq, .inr (1, [.ref av, .ref ah, .int (nI sz), .null, .ref an])), (av, .inl (d, 64, .inl fv)), (ah, .inl (d, 64, .inl (hN hp))), (an, .inl (d, 64, .inl fi))]) hD hS hA [1, 2, 3, 4] rfl
  refine va_calli (va_runV (As := [.int (nI (lo6 p0))]) (rest := []) ⟨hx, hb, hml, hown, hts⟩ (metX2_contains l dC dI d aq av ah an s.heap.size fv hp fi sz (lo6 p0) M hG.2.1 hG.1 (lo6_lt p0)) (cwV 1 hts (lw_V q87 q88 q89 q5 q90) rfl rfl rfl (by decide +kernel) ⟨Nat.le_of_ble_eq_true rfl, Nat.le_of_ble_eq_true rfl⟩) ⟨fun a U g mk q => by obtain ⟨q0, q1, qP, qK, qD⟩ := q; exact ⟨q0, q1, qP, va_K.moved (u := U) (U := U.calling g mk a) (Vm.Alike.refl U.vm) qK, qD⟩, va_recv hKc hPc (ci := 1) (q0 := 0) rfl rfl, fun U hU hW => ⟨rfl, by rw [hU], by rw [hU]; exact hPc, va_K.moved hW.alike hKc, hDc.weaken (fun _ _ _ _ => trivial)⟩⟩ rfl rfl hl.1 rfl (lv_room (Nat.le_of_ble_eq_true rfl)) dX0_inside_8 ⟨Nat.le_of_ble_eq_true rfl, Nat.le_of_ble_eq_true rfl⟩) hS (fun q _ h => hFc q h) hFc (fun r_1 u t H1 locs ht hvm hw hB hz1 hk1 hS => ?_)
  obtain ⟨hP1, hK1, hD1⟩ := hB
  rw [ht] at hP1
  have hK1 := va_K.moved hvm.symm hK1
  obtain ⟨hP, hD⟩ := va_join (wr := [(ax, .inr (0, [.ref av, .ref aq]))]) (w1 := [(aq, .inr (1, [.ref av, .ref ah, .int (nI sz), .null, .ref an])), (av, .inl (d, 64, .inl fv)), (ah, .inl (d, 64, .inl (hN hp))), (an, .inl (d, 64, .inl fi))]) hP hD [1, 2, 3, 4] [0] rfl rfl (by decide) (by decide) hk1 hFc hP1 hD1
  generalize H1 = H at hP hS ⊢
  have hP : va_P (dC, dI) vwCl [(ax, .inr (0, [.ref av, .ref aq])), (aq, .inr (1, [.ref av, .ref ah, .int (nI sz), .null, .ref an])), (av, .inl (d, 64, .inl fv)), (ah, .inl (d, 64, .inl (hN hp))), (an, .inl (d, 64, .inl fi))] H := hP
  have hD : va_D A [(ax, .inr (0, [.ref av, .ref aq])), (aq, .inr (1, [.ref av, .ref ah, .int (nI sz), .null, .ref an])), (av, .inl (d, 64, .inl fv)), (ah, .inl (d, 64, .inl (hN hp))), (an, .inl (d, 64, .inl fi))] := hD
  have hr1 : r_1 = 1 ∨ r_1 = 0 := hw.elim (fun q => Or.inl q.2) (fun q => Or.inr q.2)
  have hP9 := hP.sub (ws' := [(ax, .inr (0, [.ref av, .ref aq])), (aq, .inr (1, [.ref av, .ref ah, .int (nI sz), .null, .ref an])), (av, .inl (d, 64, .inl fv)), (ah, .inl (d, 64, .inl (hN hp))), (an, .inl (d, 64, .inl fi))]) [0, 1, 2, 3, 4] rfl
  have hD9 := hD.sub (ws' := [(ax, .inr (0, [.ref av, .ref aq])), (aq, .inr (1, [.ref av, .ref ah, .int (nI sz), .null, .ref an])), (av, .inl (d, 64, .inl fv)), (ah, .inl (d, 64, .inl (hN hp))), (an, .inl (d, 64, .inl fi))]) [0, 1, 2, 3, 4] (by decide) rfl
  have hK9 := hK.sub (tys' := [(d, .int)]) [0] rfl
  exact W.zret (v := r_1) hx hb hr (x_nb hr1) (fun t ht hW => ⟨⟨r_1, (), rfl, hw, by rw [ht]; exact hP9, va_K.moved hW.alike hK9, hD9⟩, hS.F ht⟩) hS.2.2 dX0_inside_11
set_option maxHeartbeats 4000000 in
set_option maxRecDepth 100000 in
/-- waiting() -/
theorem metX0_waiting (l : Launch) (dC : Nat → ClassId) (dI : Nat → Nat → Nat) (d : ClassId) (ax aq av ah an z : Nat) (fv : Nat → Int32) (hp : Nat → Nat) (fi : Nat → Int32) (sz : Nat) (M : Nat → Prop) (hG : Good M sz fv hp fi) : Met l yX0_waiting wsX0_waiting ({ frames := 3, cells := 0, slots := 0, locals := 80 }) (va_Pc [.ref ax] (fun U => U.heap.size = z ∧ va_P (dC, dI) vwCl [(ax, .inr (0, [.ref av, .ref aq])), (aq, .inr (1, [.ref av, .ref ah, .int (nI sz), .null, .ref an])), (av, .inl (d, 64, .inl fv)), (ah, .inl (d, 64, .inl (hN hp))), (an, .inl (d, 64, .inl fi))] U.heap ∧ va_K (dC, dI) vwCl [(d, .int)] U ∧ va_D (fun _ => True) [(ax, .inr (0, [.ref av, .ref aq])), (aq, .inr (1, [.ref av, .ref ah, .int (nI sz), .null, .ref an])), (av, .inl (d, 64, .inl fv)), (ah, .inl (d, 64, .inl (hN hp))), (an, .inl (d, 64, .inl fi))])) (va_Qi (fun (r : Int32) (_ : Unit) => r = nI sz) (fun _ => BW5 dC dI d (va_A [(ax, .inr (0, [.ref av, .ref aq])), (aq, .inr (1, [.ref av, .ref ah, .int (nI sz), .null, .ref an])), (av, .inl (d, 64, .inl fv)), (ah, .inl (d, 64, .inl (hN hp))), (an, .inl (d, 64, .inl fi))] z) ax aq av ah an (sz, fv, hp, fi)) (va_A [(ax, .inr (0, [.ref av, .ref aq])), (aq, .inr (1, [.ref av, .ref ah, .int (nI sz), .null, .ref an])), (av, .inl (d, 64, .inl fv)), (ah, .inl (d, 64, .inl (hN hp))), (an, .inl (d, 64, .inl fi))] z)) 0 0 (va_A [(ax, .inr (0, [.ref av, .ref aq])), (aq, .inr (1, [.ref av, .ref ah, .int (nI sz), .null, .ref an])), (av, .inl (d, 64, .inl fv)), (ah, .inl (d, 64, .inl (hN hp))), (an, .inl (d, 64, .inl fi))] z) := by
  refine Met.ofW (cc := cX0_waiting) (maxL := 1) (ret := (some .int)) (by decide) rfl ?_
  intro p e s m args below meth c s₁ B hml hv
  obtain ⟨rfl, hsz, hP, hK, hD0⟩ := hv
  have hx := B.exec
  have hb := B.bytes
  have hr := B.returns
  have hts := atoms_spec (ws := wsX0_waiting) B.pre
  have hts : ∀ w ∈ lw_all, w.before _ s = true := fun w h => hts w (List.mem_cons_of_mem _ h)
  have hown : s.vm.findClass RX0 = some m.cls := findClass_of_methodNamed B.named
  have hlocks := B.notSynchronized
  subst hsz
  have hD := hD0.self (sz := s.heap.size)
  generalize hAe : va_A [(ax, .inr (0, [.ref av, .ref aq])), (aq, .inr (1, [.ref av, .ref ah, .int (nI sz), .null, .ref an])), (av, .inl (d, 64, .inl fv)), (ah, .inl (d, 64, .inl (hN hp))), (an, .inl (d, 64, .inl fi))] s.heap.size = A at hD ⊢
  have hA : ∀ q : Nat, s.heap.size ≤ q → A q := fun q h => by rw [← hAe]; exact Or.inr h
  have hS : va_S A s.heap s.heap [] := va_S.rf
  have hP : va_P (dC, dI) vwCl [(ax, .inr (0, [.ref av, .ref aq])), (aq, .inr (1, [.ref av, .ref ah, .int (nI sz), .null, .ref an])), (av, .inl (d, 64, .inl fv)), (ah, .inl (d, 64, .inl (hN hp))), (an, .inl (d, 64, .inl fi))] s.heap := hP
  have hl := lv_entry ([.ref ax]) (n := 1) (Nat.le_of_ble_eq_true rfl)
  rw [lg_entry_eq]
  generalize (lg_sl ([.ref ax]) ++ List.replicate (1 - (lg_sl ([.ref ax])).length) Slot.unset).toArray = ls at hl ⊢
  have hl : lv_has ls 1 [(0, .ref ax)] := hl
  refine lv_aload_n hx hb dX0_waiting_0 rfl (lv_at hl 0 rfl) ?_
  refine va_get (D := (dC, dI)) (ci := 0) (v := .ref aq) (C := RX0) (T := TX0) (N := 2) hx hb hts in_X0 hown hK hP 0 rfl rfl 1 (by decide) (hts _ q77) (fun _ h9 => h9) rfl dX0_waiting_1 ?_
  have hPc := hP.sub (ws' := [(aq, .inr (1, [.ref av, .ref ah, .int (nI sz), .null, .ref an])), (av, .inl (d, 64, .inl fv)), (ah, .inl (d, 64, .inl (hN hp))), (an, .inl (d, 64, .inl fi))]) [1, 2, 3, 4] rfl
  have hDc := hD.sub (ws' := [(aq, .inr (1, [.ref av, .ref ah, .int (nI sz), .null, .ref an])), (av, .inl (d, 64, .inl fv)), (ah, .inl (d, 64, .inl (hN hp))), (an, .inl (d, 64, .inl fi))]) [1, 2, 3, 4] (by decide) rfl
  have hKc := hK.sub (tys' := [(d, .int)]) [0] rfl
  have hFc := va_free (wc := [(aq, .inr (1, [.ref av, .ref ah, .int (nI sz), .null, .ref an])), (av, .inl (d, 64, .inl fv)), (ah, .inl (d, 64, .inl (hN hp))), (an, .inl (d, 64, .inl fi))]) hD hS hA [1, 2, 3, 4] rfl
  refine va_calli (va_runU (As := []) (rest := []) ⟨hx, hb, hml, hown, hts⟩ (metX1_size l dC dI d aq av ah an s.heap.size fv hp fi sz) (va_cwU 0 hts (lw_U q440 q441 q443 q444 q4 q445) rfl rfl rfl rfl (by decide +kernel) ⟨Nat.le_of_ble_eq_true rfl, Nat.le_of_ble_eq_true rfl⟩) ⟨fun a U g mk q => by obtain ⟨q0, q1, qP, qK, qD⟩ := q; exact ⟨q0, q1, qP, va_K.moved (u := U) (U := U.calling g mk a) (Vm.Alike.refl U.vm) qK, qD⟩, va_recv hKc hPc (ci := 1) (q0 := 0) rfl rfl, fun U hU hW => ⟨rfl, by rw [hU], by rw [hU]; exact hPc, va_K.moved hW.alike hKc, hDc.weaken (fun _ _ _ _ => trivial)⟩⟩ rfl rfl hl.1 rfl (lv_room (Nat.le_of_ble_eq_true rfl)) dX0_waiting_4 ⟨Nat.le_of_ble_eq_true rfl, Nat.le_of_ble_eq_true rfl⟩) hS (fun q _ h => hFc q h) hFc (fun r_s u t H1 locs ht hvm hw hB hz1 hk1 hS => ?_)
  obtain ⟨hP1, hK1, hD1⟩ := hB
  subst hw
  rw [ht] at hP1
  have hK1 := va_K.moved hvm.symm hK1
  obtain ⟨hP, hD⟩ := va_join (wr := [(ax, .inr (0, [.ref av, .ref aq]))]) (w1 := [(aq, .inr (1, [.ref av, .ref ah, .int (nI sz), .null, .ref an])), (av, .inl (d, 64, .inl fv)), (ah, .inl (d, 64, .inl (hN hp))), (an, .inl (d, 64, .inl fi))]) hP hD [1, 2, 3, 4] [0] rfl rfl (by decide) (by decide) hk1 hFc hP1 hD1
  generalize H1 = H at hP hS ⊢
  have hP : va_P (dC, dI) vwCl [(ax, .inr (0, [.ref av, .ref aq])), (aq, .inr (1, [.ref av, .ref ah, .int (nI sz), .null, .ref an])), (av, .inl (d, 64, .inl fv)), (ah, .inl (d, 64, .inl (hN hp))), (an, .inl (d, 64, .inl fi))] H := hP
  have hD : va_D A [(ax, .inr (0, [.ref av, .ref aq])), (aq, .inr (1, [.ref av, .ref ah, .int (nI sz), .null, .ref an])), (av, .inl (d, 64, .inl fv)), (ah, .inl (d, 64, .inl (hN hp))), (an, .inl (d, 64, .inl fi))] := hD
  have hP9 := hP.sub (ws' := [(ax, .inr (0, [.ref av, .ref aq])), (aq, .inr (1, [.ref av, .ref ah, .int (nI sz), .null, .ref an])), (av, .inl (d, 64, .inl fv)), (ah, .inl (d, 64, .inl (hN hp))), (an, .inl (d, 64, .inl fi))]) [0, 1, 2, 3, 4] rfl
  have hD9 := hD.sub (ws' := [(ax, .inr (0, [.ref av, .ref aq])), (aq, .inr (1, [.ref av, .ref ah, .int (nI sz), .null, .ref an])), (av, .inl (d, 64, .inl fv)), (ah, .inl (d, 64, .inl (hN hp))), (an, .inl (d, 64, .inl fi))]) [0, 1, 2, 3, 4] (by decide) rfl
  have hK9 := hK.sub (tys' := [(d, .int)]) [0] rfl
  exact W.iret (v := (nI sz)) hx hb hr (fun t ht hW => ⟨⟨(nI sz), (), rfl, rfl, by rw [ht]; exact hP9, va_K.moved hW.alike hK9, hD9⟩, hS.F ht⟩) hS.2.2 dX0_waiting_7
set_option maxHeartbeats 4000000 in
set_option maxRecDepth 100000 in
/-- value(i) -/
theorem metX0_value (l : Launch) (dC : Nat → ClassId) (dI : Nat → Nat → Nat) (d : ClassId) (ax aq av ah an z : Nat) (fv : Nat → Int32) (hp : Nat → Nat) (fi : Nat → Int32) (sz : Nat) (M : Nat → Prop) (hG : Good M sz fv hp fi) (p0 : Int32) : Met l yX0_value wsX0_value ({ frames := 3, cells := 0, slots := 0, locals := 80 }) (va_Pc [.ref ax, .int p0] (fun U => U.heap.size = z ∧ va_P (dC, dI) vwCl [(ax, .inr (0, [.ref av, .ref aq])), (aq, .inr (1, [.ref av, .ref ah, .int (nI sz), .null, .ref an])), (av, .inl (d, 64, .inl fv)), (ah, .inl (d, 64, .inl (hN hp))), (an, .inl (d, 64, .inl fi))] U.heap ∧ va_K (dC, dI) vwCl [(d, .int)] U ∧ va_D (fun _ => True) [(ax, .inr (0, [.ref av, .ref aq])), (aq, .inr (1, [.ref av, .ref ah, .int (nI sz), .null, .ref an])), (av, .inl (d, 64, .inl fv)), (ah, .inl (d, 64, .inl (hN hp))), (an, .inl (d, 64, .inl fi))])) (va_Qi (fun (r : Int32) (_ : Unit) => r = fv (lo6 p0)) (fun _ => BW5 dC dI d (va_A [(ax, .inr (0, [.ref av, .ref aq])), (aq, .inr (1, [.ref av, .ref ah, .int (nI sz), .null, .ref an])), (av, .inl (d, 64, .inl fv)), (ah, .inl (d, 64, .inl (hN hp))), (an, .inl (d, 64, .inl fi))] z) ax aq av ah an (sz, fv, hp, fi)) (va_A [(ax, .inr (0, [.ref av, .ref aq])), (aq, .inr (1, [.ref av, .ref ah, .int (nI sz), .null, .ref an])), (av, .inl (d, 64, .inl fv)), (ah, .inl (d, 64, .inl (hN hp))), (an, .inl (d, 64, .inl fi))] z)) 0 0 (va_A [(ax, .inr (0, [.ref av, .ref aq])), (aq, .inr (1, [.ref av, .ref ah, .int (nI sz), .null, .ref an])), (av, .inl (d, 64, .inl fv)), (ah, .inl (d, 64, .inl (hN hp))), (an, .inl (d, 64, .inl fi))] z) := by
  refine Met.ofW (cc := cX0_value) (maxL := 2) (ret := (some .int)) (by decide) rfl ?_
  intro p e s m args below meth c s₁ B hml hv
  obtain ⟨rfl, hsz, hP, hK, hD0⟩ := hv
  have hx := B.exec
  have hb := B.bytes
  have hr := B.returns
  have hts := atoms_spec (ws := wsX0_value) B.pre
  have hts : ∀ w ∈ lw_all, w.before _ s = true := fun w h => hts w (List.mem_cons_of_mem _ h)
  have hown : s.vm.findClass RX0 = some m.cls := findClass_of_methodNamed B.named
  have hlocks := B.notSynchronized
  subst hsz
  have hD := hD0.self (sz := s.heap.size)
  generalize hAe : va_A [(ax, .inr (0, [.ref av, .ref aq])), (aq, .inr (1, [.ref av, .ref ah, .int (nI sz), .null, .ref an])), (av, .inl (d, 64, .inl fv)), (ah, .inl (d, 64, .inl (hN hp))), (an, .inl (d, 64, .inl fi))] s.heap.size = A at hD ⊢
  have hA : ∀ q : Nat, s.heap.size ≤ q → A q := fun q h => by rw [← hAe]; exact Or.inr h
  have hS : va_S A s.heap s.heap [] := va_S.rf
  have hP : va_P (dC, dI) vwCl [(ax, .inr (0, [.ref av, .ref aq])), (aq, .inr (1, [.ref av, .ref ah, .int (nI sz), .null, .ref an])), (av, .inl (d, 64, .inl fv)), (ah, .inl (d, 64, .inl (hN hp))), (an, .inl (d, 64, .inl fi))] s.heap := hP
  have hl := lv_entry ([.ref ax, .int p0]) (n := 2) (Nat.le_of_ble_eq_true rfl)
  rw [lg_entry_eq]
  generalize (lg_sl ([.ref ax, .int p0]) ++ List.replicate (2 - (lg_sl ([.ref ax, .int p0])).length) Slot.unset).toArray = ls at hl ⊢
  have hl : lv_has ls 2 [(0, .ref ax), (1, .int p0)] := hl
  refine lv_aload_n hx hb dX0_value_0 rfl (lv_at hl 0 rfl) ?_
  refine va_get (D := (dC, dI)) (ci := 0) (v := .ref av) (C := RX0) (T := TX0) (N := 2) hx hb hts in_X0 hown hK hP 0 rfl rfl 0 (by decide) (hts _ q76) (fun _ h9 => h9) rfl dX0_value_1 ?_
  refine lv_iload_n hx hb dX0_value_4 rfl (lv_at hl 1 rfl) ?_
  refine lv_bipush (v := 63) hx hb dX0_value_5 (by decide +kernel) ?_
  refine xi_and hx hb (nI (lo6 p0)) (x_and63 p0) dX0_value_7 ?_
  refine xa_ld (v := fv (lo6 p0)) hx hb hK hP 2 0 rfl rfl (lo6 p0) rfl (lo6_lt p0) (by decide) rfl dX0_value_8 ?_
  have hP9 := hP.sub (ws' := [(ax, .inr (0, [.ref av, .ref aq])), (aq, .inr (1, [.ref av, .ref ah, .int (nI sz), .null, .ref an])), (av, .inl (d, 64, .inl fv)), (ah, .inl (d, 64, .inl (hN hp))), (an, .inl (d, 64, .inl fi))]) [0, 1, 2, 3, 4] rfl
  have hD9 := hD.sub (ws' := [(ax, .inr (0, [.ref av, .ref aq])), (aq, .inr (1, [.ref av, .ref ah, .int (nI sz), .null, .ref an])), (av, .inl (d, 64, .inl fv)), (ah, .inl (d, 64, .inl (hN hp))), (an, .inl (d, 64, .inl fi))]) [0, 1, 2, 3, 4] (by decide) rfl
  have hK9 := hK.sub (tys' := [(d, .int)]) [0] rfl
  exact W.iret (v := (fv (lo6 p0))) hx hb hr (fun t ht hW => ⟨⟨(fv (lo6 p0)), (), rfl, rfl, by rw [ht]; exact hP9, va_K.moved hW.alike hK9, hD9⟩, hS.F ht⟩) hS.2.2 dX0_value_9
set_option maxHeartbeats 4000000 in
set_option maxRecDepth 100000 in
/-- drain() -/
theorem metX0_drain (l : Launch) (dC : Nat → ClassId) (dI : Nat → Nat → Nat) (d : ClassId) (ax aq av ah an z : Nat) (fv : Nat → Int32) (hp : Nat → Nat) (fi : Nat → Int32) (sz : Nat) (M : Nat → Prop) (hG : Good M sz fv hp fi) : Met l yX0_drain wsX0_drain ({ frames := 3, cells := 0, slots := 0, locals := 80 }) (va_Pc [.ref ax] (fun U => U.heap.size = z ∧ va_P (dC, dI) vwCl [(ax, .inr (0, [.ref av, .ref aq])), (aq, .inr (1, [.ref av, .ref ah, .int (nI sz), .null, .ref an])), (av, .inl (d, 64, .inl fv)), (ah, .inl (d, 64, .inl (hN hp))), (an, .inl (d, 64, .inl fi))] U.heap ∧ va_K (dC, dI) vwCl [(d, .int)] U ∧ va_D (fun _ => True) [(ax, .inr (0, [.ref av, .ref aq])), (aq, .inr (1, [.ref av, .ref ah, .int (nI sz), .null, .ref an])), (av, .inl (d, 64, .inl fv)), (ah, .inl (d, 64, .inl (hN hp))), (an, .inl (d, 64, .inl fi))])) (va_Qv (fun u : Nat × (Nat → Int32) × (Nat → Nat) × (Nat → Int32) => u.1 = 0 ∧ u.2.1 = fv ∧ Good (fun _ => False) u.1 u.2.1 u.2.2.1 u.2.2.2) (BW5 dC dI d (va_A [(ax, .inr (0, [.ref av, .ref aq])), (aq, .inr (1, [.ref av, .ref ah, .int (nI sz), .null, .ref an])), (av, .inl (d, 64, .inl fv)), (ah, .inl (d, 64, .inl (hN hp))), (an, .inl (d, 64, .inl fi))] z) ax aq av ah an) (va_A [(ax, .inr (0, [.ref av, .ref aq])), (aq, .inr (1, [.ref av, .ref ah, .int (nI sz), .null, .ref an])), (av, .inl (d, 64, .inl fv)), (ah, .inl (d, 64, .inl (hN hp))), (an, .inl (d, 64, .inl fi))] z)) 0 0 (va_A [(ax, .inr (0, [.ref av, .ref aq])), (aq, .inr (1, [.ref av, .ref ah, .int (nI sz), .null, .ref an])), (av, .inl (d, 64, .inl fv)), (ah, .inl (d, 64, .inl (hN hp))), (an, .inl (d, 64, .inl fi))] z) := by
  refine Met.ofW (cc := cX0_drain) (maxL := 1) (ret := none) (by decide) rfl ?_
  intro p e s m args below meth c s₁ B hml hv
  obtain ⟨rfl, hsz, hP, hK, hD0⟩ := hv
  have hx := B.exec
  have hb := B.bytes
  have hr := B.returns
  have hts := atoms_spec (ws := wsX0_drain) B.pre
  have hts : ∀ w ∈ lw_all, w.before _ s = true := fun w h => hts w (List.mem_cons_of_mem _ h)
  have hown : s.vm.findClass RX0 = some m.cls := findClass_of_methodNamed B.named
  have hlocks := B.notSynchronized
  subst hsz
  have hD := hD0.self (sz := s.heap.size)
  generalize hAe : va_A [(ax, .inr (0, [.ref av, .ref aq])), (aq, .inr (1, [.ref av, .ref ah, .int (nI sz), .null, .ref an])), (av, .inl (d, 64, .inl fv)), (ah, .inl (d, 64, .inl (hN hp))), (an, .inl (d, 64, .inl fi))] s.heap.size = A at hD ⊢
  have hA : ∀ q : Nat, s.heap.size ≤ q → A q := fun q h => by rw [← hAe]; exact Or.inr h
  have hS : va_S A s.heap s.heap [] := va_S.rf
  have hP : va_P (dC, dI) vwCl [(ax, .inr (0, [.ref av, .ref aq])), (aq, .inr (1, [.ref av, .ref ah, .int (nI sz), .null, .ref an])), (av, .inl (d, 64, .inl fv)), (ah, .inl (d, 64, .inl (hN hp))), (an, .inl (d, 64, .inl fi))] s.heap := hP
  have hl := lv_entry ([.ref ax]) (n := 1) (Nat.le_of_ble_eq_true rfl)
  rw [lg_entry_eq]
  generalize (lg_sl ([.ref ax]) ++ List.replicate (1 - (lg_sl ([.ref ax])).length) Slot.unset).toArray = ls at hl ⊢
  have hl : lv_has ls 1 [(0, .ref ax)] := hl
  refine lv_aload_n hx hb dX0_drain_0 rfl (lv_at hl 0 rfl) ?_
  refine va_get (D := (dC, dI)) (ci := 0) (v := .ref aq) (C := RX0) (T := TX0) (N := 2) hx hb hts in_X0 hown hK hP 0 rfl rfl 1 (by decide) (hts _ q77) (fun _ h9 => h9) rfl dX0_drain_1 ?_
  have hPc := hP.sub (ws' := [(aq, .inr (1, [.ref av, .ref ah, .int (nI sz), .null, .ref an])), (av, .inl (d, 64, .inl fv)), (ah, .inl (d, 64, .inl (hN hp))), (an, .inl (d, 64, .inl fi))]) [1, 2, 3, 4] rfl
  have hDc := hD.sub (ws' := [(aq, .inr (1, [.ref av, .ref ah, .int (nI sz), .null, .ref an])), (av, .inl (d, 64, .inl fv)), (ah, .inl (d, 64, .inl (hN hp))), (an, .inl (d, 64, .inl fi))]) [1, 2, 3, 4] (by decide) rfl
  have hKc := hK.sub (tys' := [(d, .int)]) [0] rfl
  have hFc := va_free (wc := [(aq, .inr (1, [.ref av, .ref ah, .int (nI sz), .null, .ref an])), (av, .inl (d, 64, .inl fv)), (ah, .inl (d, 64, .inl (hN hp))), (an, .inl (d, 64, .inl fi))]) hD hS hA [1, 2, 3, 4] rfl
  refine va_callv (va_runV (As := []) (rest := []) ⟨hx, hb, hml, hown, hts⟩ (metX2_clear l dC dI d aq av ah an s.heap.size fv hp fi sz hG.2.1.1) (cwV 0 hts (lw_V q519 q520 q521 q5 q522) rfl rfl rfl (by decide +kernel) ⟨Nat.le_of_ble_eq_true rfl, Nat.le_of_ble_eq_true rfl⟩) ⟨fun a U g mk q => by obtain ⟨q0, q1, qP, qK, qD⟩ := q; exact ⟨q0, q1, qP, va_K.moved (u := U) (U := U.calling g mk a) (Vm.Alike.refl U.vm) qK, qD⟩, va_recv hKc hPc (ci := 1) (q0 := 0) rfl rfl, fun U hU hW => ⟨rfl, by rw [hU], by rw [hU]; exact hPc, va_K.moved hW.alike hKc, hDc.weaken (fun _ _ _ _ => trivial)⟩⟩ rfl rfl hl.1 rfl (lv_room (Nat.le_of_ble_eq_true rfl)) dX0_drain_4 ⟨Nat.le_of_ble_eq_true rfl, Nat.le_of_ble_eq_true rfl⟩) hS (fun q _ h => hFc q h) hFc (fun u t H1 locs ht hvm hw hB hz1 hk1 hS => ?_)
  obtain ⟨sz2, hp2, fi2⟩ := u
  obtain ⟨hu, hG2⟩ := hw
  dsimp only at hu hG2
  have hu : 0 = sz2 := hu.symm
  subst hu
  obtain ⟨hP1, hK1, hD1⟩ := hB
  rw [ht] at hP1
  have hK1 := va_K.moved hvm.symm hK1
  obtain ⟨hP, hD⟩ := va_join (wr := [(ax, .inr (0, [.ref av, .ref aq]))]) (w1 := [(aq, .inr (1, [.ref av, .ref ah, .int (nI 0), .null, .ref an])), (av, .inl (d, 64, .inl fv)), (ah, .inl (d, 64, .inl (hN hp2))), (an, .inl (d, 64, .inl fi2))]) hP hD [1, 2, 3, 4] [0] rfl rfl (by decide) (by decide) hk1 hFc hP1 hD1
  generalize H1 = H at hP hS ⊢
  have hP : va_P (dC, dI) vwCl [(ax, .inr (0, [.ref av, .ref aq])), (aq, .inr (1, [.ref av, .ref ah, .int (nI 0), .null, .ref an])), (av, .inl (d, 64, .inl fv)), (ah, .inl (d, 64, .inl (hN hp2))), (an, .inl (d, 64, .inl fi2))] H := hP
  have hD : va_D A [(ax, .inr (0, [.ref av, .ref aq])), (aq, .inr (1, [.ref av, .ref ah, .int (nI 0), .null, .ref an])), (av, .inl (d, 64, .inl fv)), (ah, .inl (d, 64, .inl (hN hp2))), (an, .inl (d, 64, .inl fi2))] := hD
  have hP9 := hP.sub (ws' := [(ax, .inr (0, [.ref av, .ref aq])), (aq, .inr (1, [.ref av, .ref ah, .int (nI 0), .null, .ref an])), (av, .inl (d, 64, .inl fv)), (ah, .inl (d, 64, .inl (hN hp2))), (an, .inl (d, 64, .inl fi2))]) [0, 1, 2, 3, 4] rfl
  have hD9 := hD.sub (ws' := [(ax, .inr (0, [.ref av, .ref aq])), (aq, .inr (1, [.ref av, .ref ah, .int (nI 0), .null, .ref an])), (av, .inl (d, 64, .inl fv)), (ah, .inl (d, 64, .inl (hN hp2))), (an, .inl (d, 64, .inl fi2))]) [0, 1, 2, 3, 4] (by decide) rfl
  have hK9 := hK.sub (tys' := [(d, .int)]) [0] rfl
  exact W.vret hx hb hr (fun t ht hW => ⟨⟨(0, fv, hp2, fi2), rfl, ⟨rfl, rfl, hG2⟩, by rw [ht]; exact hP9, va_K.moved hW.alike hK9, hD9⟩, hS.F ht⟩) hS.2.2 dX0_drain_7
end
section
/-- the first i keys' head: none, or one that is in, with the least value -/
def HD (fv fb : Nat → Int32) (i : Nat) (b : Int32) : Prop := (b = -1 ∧ ∀ j, j < i → fb j = 0) ∨ (∃ t, t < i ∧ b = nI t ∧ fb t ≠ 0 ∧ ∀ j, j < i → fb j ≠ 0 → fv t ≤ fv j)
theorem HD.zero (fv fb : Nat → Int32) : HD fv fb 0 (-1) := Or.inl ⟨rfl, fun j hj => absurd hj (by omega)⟩
theorem HD.skip {fv fb : Nat → Int32} {i : Nat} {b : Int32} (h : HD fv fb i b) (h0 : fb i = 0) : HD fv fb (i + 1) b := by
  rcases h with ⟨e, h⟩ | ⟨t, ht, e, hb, h⟩
  · refine Or.inl ⟨e, fun j hj => ?_⟩
    by_cases q : j = i
    · rw [q]; exact h0
    · exact h j (by omega)
  · refine Or.inr ⟨t, by omega, e, hb, fun j hj hn => ?_⟩
    by_cases q : j = i
    · exact absurd (by rw [q]; exact h0) hn
    · exact h j (by omega) hn
theorem HD.neg {fv fb : Nat → Int32} {i : Nat} {b : Int32} (h : HD fv fb i b) (hi : i ≤ 64) (hb : b < 0) : b = -1 ∧ ∀ j, j < i → fb j = 0 := by
  rcases h with h | ⟨t, ht, e, -, -⟩
  · exact h
  · rw [e] at hb
    exact absurd hb (nI_pos (by omega))
theorem HD.pos {fv fb : Nat → Int32} {i : Nat} {b : Int32} (h : HD fv fb i b) (hb : ¬ b < 0) : ∃ t, t < i ∧ b = nI t ∧ fb t ≠ 0 ∧ ∀ j, j < i → fb j ≠ 0 → fv t ≤ fv j := by
  rcases h with ⟨e, -⟩ | h
  · exact absurd (by rw [e]; decide) hb
  · exact h
theorem HD.first {fv fb : Nat → Int32} {i : Nat} {b : Int32} (h : HD fv fb i b) (hi : i ≤ 64) (hb : b < 0) (h0 : fb i ≠ 0) : HD fv fb (i + 1) (nI i) := by
  have h1 := (h.neg hi hb).2
  refine Or.inr ⟨i, by omega, rfl, h0, fun j hj hn => ?_⟩
  by_cases q : j = i
  · rw [q]; exact Int32.le_refl _
  · exact absurd (h1 j (by omega)) hn
theorem HD.keep {fv fb : Nat → Int32} {i t : Nat} (ht : t < i) (h0 : fb t ≠ 0) (h : ∀ j, j < i → fb j ≠ 0 → fv t ≤ fv j) (hle : fv t ≤ fv i) : HD fv fb (i + 1) (nI t) := by
  refine Or.inr ⟨t, by omega, rfl, h0, fun j hj hn => ?_⟩
  by_cases q : j = i
  · rw [q]; exact hle
  · exact h j (by omega) hn
theorem HD.take {fv fb : Nat → Int32} {i t : Nat} (h0 : fb i ≠ 0) (h : ∀ j, j < i → fb j ≠ 0 → fv t ≤ fv j) (hlt : ¬ fv t ≤ fv i) : HD fv fb (i + 1) (nI i) := by
  refine Or.inr ⟨i, by omega, rfl, h0, fun j hj hn => ?_⟩
  by_cases q : j = i
  · rw [q]; exact Int32.le_refl _
  · exact Int32.le_trans (Int32.le_of_lt (Int32.not_le.mp hlt)) (h j (by omega) hn)
set_option maxHeartbeats 4000000 in
set_option maxRecDepth 100000 in
/-- the model's change(i, v) -/
theorem metX4_change (l : Launch) (dC : Nat → ClassId) (dI : Nat → Nat → Nat) (d dz : ClassId) (ay mv mi z : Nat) (fv fb : Nat → Int32) (hB : ∀ k, k < 64 → fb k = 0 ∨ fb k = 1) (p0 p1 : Int32) : Met l yX4_change wsX4_change ({ frames := 1, cells := 0, slots := 0, locals := 40 }) (va_Pc [.ref ay, .int p0, .int p1] (fun U => U.heap.size = z ∧ va_P (dC, dI) vwCl [(ay, .inr (2, [.ref mv, .ref mi])), (mv, .inl (d, 64, .inl fv)), (mi, .inl (dz, 64, .inl fb))] U.heap ∧ va_K (dC, dI) vwCl [(d, .int), (dz, .boolean)] U ∧ va_D (fun _ => True) [(ay, .inr (2, [.ref mv, .ref mi])), (mv, .inl (d, 64, .inl fv)), (mi, .inl (dz, 64, .inl fb))])) (va_Qv (fun u : (Nat → Int32) × (Nat → Int32) => u.1 = upd fv (lo6 p0) (nv p1 (lo6 p0)) ∧ u.2 = fb) (BM3 dC dI d dz (va_A [(ay, .inr (2, [.ref mv, .ref mi])), (mv, .inl (d, 64, .inl fv)), (mi, .inl (dz, 64, .inl fb))] z) ay mv mi) (va_A [(ay, .inr (2, [.ref mv, .ref mi])), (mv, .inl (d, 64, .inl fv)), (mi, .inl (dz, 64, .inl fb))] z)) 0 0 (va_A [(ay, .inr (2, [.ref mv, .ref mi])), (mv, .inl (d, 64, .inl fv)), (mi, .inl (dz, 64, .inl fb))] z) := by
  refine Met.ofW (cc := cX4_change) (maxL := 4) (ret := none) (by decide) rfl ?_
  intro p e s m args below meth c s₁ B hml hv
  obtain ⟨rfl, hsz, hP, hK, hD0⟩ := hv
  have hx := B.exec
  have hb := B.bytes
  have hr := B.returns
  have hts := atoms_spec (ws := wsX4_change) B.pre
  have hts : ∀ w ∈ lw_all, w.before _ s = true := fun w h => hts w (List.mem_cons_of_mem _ h)
  have hown : s.vm.findClass RX4 = some m.cls := findClass_of_methodNamed B.named
  have hlocks := B.notSynchronized
  subst hsz
  have hD := hD0.self (sz := s.heap.size)
  generalize hAe : va_A [(ay, .inr (2, [.ref mv, .ref mi])), (mv, .inl (d, 64, .inl fv)), (mi, .inl (dz, 64, .inl fb))] s.heap.size = A at hD ⊢
  have hA : ∀ q : Nat, s.heap.size ≤ q → A q := fun q h => by rw [← hAe]; exact Or.inr h
  have hS : va_S A s.heap s.heap [] := va_S.rf
  have hP : va_P (dC, dI) vwCl [(ay, .inr (2, [.ref mv, .ref mi])), (mv, .inl (d, 64, .inl fv)), (mi, .inl (dz, 64, .inl fb))] s.heap := hP
  have hl := lv_entry ([.ref ay, .int p0, .int p1]) (n := 4) (Nat.le_of_ble_eq_true rfl)
  rw [lg_entry_eq]
  generalize (lg_sl ([.ref ay, .int p0, .int p1]) ++ List.replicate (4 - (lg_sl ([.ref ay, .int p0, .int p1])).length) Slot.unset).toArray = ls at hl ⊢
  have hl : lv_has ls 4 [(0, .ref ay), (1, .int p0), (2, .int p1)] := hl
  refine lv_iload_n hx hb dX4_change_0 rfl (lv_at hl 1 rfl) ?_
  refine lv_bipush (v := 63) hx hb dX4_change_1 (by decide +kernel) ?_
  refine xi_and hx hb (nI (lo6 p0)) (x_and63 p0) dX4_change_3 ?_
  refine lv_istore_n (lv' := [(3, .int (nI (lo6 p0))), (0, .ref ay), (1, .int p0), (2, .int p1)]) hx hb dX4_change_4 rfl hl (by decide) rfl (fun ls hl => ?_)
  refine lv_aload_n hx hb dX4_change_5 rfl (lv_at hl 1 rfl) ?_
  refine va_get (D := (dC, dI)) (ci := 2) (v := .ref mv) (C := RX4) (T := TX4) (N := 2) hx hb hts in_X4 hown hK hP 0 rfl rfl 0 (by decide) (hts _ q529) (fun _ h9 => h9) rfl dX4_change_6 ?_
  refine lv_iload_n hx hb dX4_change_9 rfl (lv_at hl 0 rfl) ?_
  refine lv_iload_n hx hb dX4_change_10 rfl (lv_at hl 3 rfl) ?_
  refine lv_bipush (v := (-64)) hx hb dX4_change_11 (by decide +kernel) ?_
  refine xi_and hx hb (p1 &&& (-64)) rfl dX4_change_13 ?_
  refine lv_iload_n hx hb dX4_change_14 rfl (lv_at hl 0 rfl) ?_
  refine xi_add hx hb (nv p1 (lo6 p0)) (x_oradd p1 (lo6_lt p0)) dX4_change_15 ?_
  refine xa_st hx hb hK hP hD hS 1 0 rfl rfl (lo6 p0) rfl (lo6_lt p0) (by decide) (upd fv (lo6 p0) (nv p1 (lo6 p0))) rfl dX4_change_16 (fun H locs hP hD hS => ?_)
  have hP : va_P (dC, dI) vwCl [(ay, .inr (2, [.ref mv, .ref mi])), (mv, .inl (d, 64, .inl (upd fv (lo6 p0) (nv p1 (lo6 p0))))), (mi, .inl (dz, 64, .inl fb))] H := hP
  have hD : va_D A [(ay, .inr (2, [.ref mv, .ref mi])), (mv, .inl (d, 64, .inl (upd fv (lo6 p0) (nv p1 (lo6 p0))))), (mi, .inl (dz, 64, .inl fb))] := hD
  have hP9 := hP.sub (ws' := [(ay, .inr (2, [.ref mv, .ref mi])), (mv, .inl (d, 64, .inl (upd fv (lo6 p0) (nv p1 (lo6 p0))))), (mi, .inl (dz, 64, .inl fb))]) [0, 1, 2] rfl
  have hD9 := hD.sub (ws' := [(ay, .inr (2, [.ref mv, .ref mi])), (mv, .inl (d, 64, .inl (upd fv (lo6 p0) (nv p1 (lo6 p0))))), (mi, .inl (dz, 64, .inl fb))]) [0, 1, 2] (by decide) rfl
  have hK9 := hK.sub (tys' := [(d, .int), (dz, .boolean)]) [0, 1] rfl
  exact W.vret hx hb hr (fun t ht hW => ⟨⟨(upd fv (lo6 p0) (nv p1 (lo6 p0)), fb), rfl, ⟨rfl, rfl⟩, by rw [ht]; exact hP9, va_K.moved hW.alike hK9, hD9⟩, hS.F ht⟩) hS.2.2 dX4_change_17
set_option maxHeartbeats 4000000 in
set_option maxRecDepth 100000 in
/-- the model's enter(i) -/
theorem metX4_enter (l : Launch) (dC : Nat → ClassId) (dI : Nat → Nat → Nat) (d dz : ClassId) (ay mv mi z : Nat) (fv fb : Nat → Int32) (hB : ∀ k, k < 64 → fb k = 0 ∨ fb k = 1) (p0 : Int32) : Met l yX4_enter wsX4_enter ({ frames := 1, cells := 0, slots := 0, locals := 40 }) (va_Pc [.ref ay, .int p0] (fun U => U.heap.size = z ∧ va_P (dC, dI) vwCl [(ay, .inr (2, [.ref mv, .ref mi])), (mv, .inl (d, 64, .inl fv)), (mi, .inl (dz, 64, .inl fb))] U.heap ∧ va_K (dC, dI) vwCl [(d, .int), (dz, .boolean)] U ∧ va_D (fun _ => True) [(ay, .inr (2, [.ref mv, .ref mi])), (mv, .inl (d, 64, .inl fv)), (mi, .inl (dz, 64, .inl fb))])) (va_Qi (fun (r : Int32) (u : (Nat → Int32) × (Nat → Int32)) => u.1 = fv ∧ u.2 = upd fb (lo6 p0) 1 ∧ ((fb (lo6 p0) = 0 ∧ r = 1) ∨ (fb (lo6 p0) ≠ 0 ∧ r = 0))) (BM3 dC dI d dz (va_A [(ay, .inr (2, [.ref mv, .ref mi])), (mv, .inl (d, 64, .inl fv)), (mi, .inl (dz, 64, .inl fb))] z) ay mv mi) (va_A [(ay, .inr (2, [.ref mv, .ref mi])), (mv, .inl (d, 64, .inl fv)), (mi, .inl (dz, 64, .inl fb))] z)) 0 0 (va_A [(ay, .inr (2, [.ref mv, .ref mi])), (mv, .inl (d, 64, .inl fv)), (mi, .inl (dz, 64, .inl fb))] z) := by
  refine Met.ofW (cc := cX4_enter) (maxL := 4) (ret := (some .boolean)) (by decide) rfl ?_
  intro p e s m args below meth c s₁ B hml hv
  obtain ⟨rfl, hsz, hP, hK, hD0⟩ := hv
  have hx := B.exec
  have hb := B.bytes
  have hr := B.returns
  have hts := atoms_spec (ws := wsX4_enter) B.pre
  have hts : ∀ w ∈ lw_all, w.before _ s = true := fun w h => hts w (List.mem_cons_of_mem _ h)
  have hown : s.vm.findClass RX4 = some m.cls := findClass_of_methodNamed B.named
  have hlocks := B.notSynchronized
  subst hsz
  have hD := hD0.self (sz := s.heap.size)
  generalize hAe : va_A [(ay, .inr (2, [.ref mv, .ref mi])), (mv, .inl (d, 64, .inl fv)), (mi, .inl (dz, 64, .inl fb))] s.heap.size = A at hD ⊢
  have hA : ∀ q : Nat, s.heap.size ≤ q → A q := fun q h => by rw [← hAe]; exact Or.inr h
  have hS : va_S A s.heap s.heap [] := va_S.rf
  have hP : va_P (dC, dI) vwCl [(ay, .inr (2, [.ref mv, .ref mi])), (mv, .inl (d, 64, .inl fv)), (mi, .inl (dz, 64, .inl fb))] s.heap := hP
  have hl := lv_entry ([.ref ay, .int p0]) (n := 4) (Nat.le_of_ble_eq_true rfl)
  rw [lg_entry_eq]
  generalize (lg_sl ([.ref ay, .int p0]) ++ List.replicate (4 - (lg_sl ([.ref ay, .int p0])).length) Slot.unset).toArray = ls at hl ⊢
  have hl : lv_has ls 4 [(0, .ref ay), (1, .int p0)] := hl
  refine lv_iload_n hx hb dX4_enter_0 rfl (lv_at hl 1 rfl) ?_
  refine lv_bipush (v := 63) hx hb dX4_enter_1 (by decide +kernel) ?_
  refine xi_and hx hb (nI (lo6 p0)) (x_and63 p0) dX4_enter_3 ?_
  refine lv_istore_n (lv' := [(2, .int (nI (lo6 p0))), (0, .ref ay), (1, .int p0)]) hx hb dX4_enter_4 rfl hl (by decide) rfl (fun ls hl => ?_)
  refine lv_aload_n hx hb dX4_enter_5 rfl (lv_at hl 1 rfl) ?_
  refine va_get (D := (dC, dI)) (ci := 2) (v := .ref mi) (C := RX4) (T := TX4) (N := 2) hx hb hts in_X4 hown hK hP 0 rfl rfl 1 (by decide) (hts _ q530) (fun _ h9 => h9) rfl dX4_enter_6 ?_
  refine lv_iload_n hx hb dX4_enter_9 rfl (lv_at hl 0 rfl) ?_
  refine xz_ld (v := fb (lo6 p0)) hx hb hK hP 2 1 rfl rfl (lo6 p0) rfl (lo6_lt p0) (by decide) rfl dX4_enter_10 ?_
  refine lv_istore_n (lv' := [(3, .int (fb (lo6 p0))), (2, .int (nI (lo6 p0))), (0, .ref ay), (1, .int p0)]) hx hb dX4_enter_11 rfl hl (by decide) rfl (fun ls hl => ?_)
  refine lv_aload_n hx hb dX4_enter_12 rfl (lv_at hl 2 rfl) ?_
  refine va_get (D := (dC, dI)) (ci := 2) (v := .ref mi) (C := RX4) (T := TX4) (N := 2) hx hb hts in_X4 hown hK hP 0 rfl rfl 1 (by decide) (hts _ q530) (fun _ h9 => h9) rfl dX4_enter_13 ?_
  refine lv_iload_n hx hb dX4_enter_16 rfl (lv_at hl 1 rfl) ?_
  refine lv_iconst (v := 1) hx hb dX4_enter_17 (by decide +kernel) ?_
  refine xz_st hx hb hK hP hD hS 2 1 rfl rfl (lo6 p0) rfl (lo6_lt p0) (by decide) (upd fb (lo6 p0) 1) rfl rfl dX4_enter_18 (fun H locs hP hD hS => ?_)
  have hP : va_P (dC, dI) vwCl [(ay, .inr (2, [.ref mv, .ref mi])), (mv, .inl (d, 64, .inl fv)), (mi, .inl (dz, 64, .inl (upd fb (lo6 p0) 1)))] H := hP
  have hD : va_D A [(ay, .inr (2, [.ref mv, .ref mi])), (mv, .inl (d, 64, .inl fv)), (mi, .inl (dz, 64, .inl (upd fb (lo6 p0) 1)))] := hD
  refine lv_iload_n hx hb dX4_enter_19 rfl (lv_at hl 0 rfl) ?_
  refine lv_if_ne (tgt := 27) hx hb dX4_enter_20 (by decide) (fun c_1 => ?_) (fun c_1 => ?_)
  · refine lv_iconst (v := 0) hx hb dX4_enter_27 (by decide +kernel) ?_
    have hP9 := hP.sub (ws' := [(ay, .inr (2, [.ref mv, .ref mi])), (mv, .inl (d, 64, .inl fv)), (mi, .inl (dz, 64, .inl (upd fb (lo6 p0) 1)))]) [0, 1, 2] rfl
    have hD9 := hD.sub (ws' := [(ay, .inr (2, [.ref mv, .ref mi])), (mv, .inl (d, 64, .inl fv)), (mi, .inl (dz, 64, .inl (upd fb (lo6 p0) 1)))]) [0, 1, 2] (by decide) rfl
    have hK9 := hK.sub (tys' := [(d, .int), (dz, .boolean)]) [0, 1] rfl
    exact W.zret (v := 0) hx hb hr rfl (fun t ht hW => ⟨⟨0, (fv, upd fb (lo6 p0) 1), rfl, ⟨rfl, rfl, Or.inr ⟨c_1, rfl⟩⟩, by rw [ht]; exact hP9, va_K.moved hW.alike hK9, hD9⟩, hS.F ht⟩) hS.2.2 dX4_enter_28
  · refine lv_iconst (v := 1) hx hb dX4_enter_23 (by decide +kernel) ?_
    refine lv_goto (tgt := 28) hx hb dX4_enter_24 (by decide) ?_
    have hP9 := hP.sub (ws' := [(ay, .inr (2, [.ref mv, .ref mi])), (mv, .inl (d, 64, .inl fv)), (mi, .inl (dz, 64, .inl (upd fb (lo6 p0) 1)))]) [0, 1, 2] rfl
    have hD9 := hD.sub (ws' := [(ay, .inr (2, [.ref mv, .ref mi])), (mv, .inl (d, 64, .inl fv)), (mi, .inl (dz, 64, .inl (upd fb (lo6 p0) 1)))]) [0, 1, 2] (by decide) rfl
    have hK9 := hK.sub (tys' := [(d, .int), (dz, .boolean)]) [0, 1] rfl
    exact W.zret (v := 1) hx hb hr rfl (fun t ht hW => ⟨⟨1, (fv, upd fb (lo6 p0) 1), rfl, ⟨rfl, rfl, Or.inl ⟨c_1, rfl⟩⟩, by rw [ht]; exact hP9, va_K.moved hW.alike hK9, hD9⟩, hS.F ht⟩) hS.2.2 dX4_enter_28
set_option maxHeartbeats 4000000 in
set_option maxRecDepth 100000 in
/-- the model's leave(i) -/
theorem metX4_leave (l : Launch) (dC : Nat → ClassId) (dI : Nat → Nat → Nat) (d dz : ClassId) (ay mv mi z : Nat) (fv fb : Nat → Int32) (hB : ∀ k, k < 64 → fb k = 0 ∨ fb k = 1) (p0 : Int32) : Met l yX4_leave wsX4_leave ({ frames := 1, cells := 0, slots := 0, locals := 40 }) (va_Pc [.ref ay, .int p0] (fun U => U.heap.size = z ∧ va_P (dC, dI) vwCl [(ay, .inr (2, [.ref mv, .ref mi])), (mv, .inl (d, 64, .inl fv)), (mi, .inl (dz, 64, .inl fb))] U.heap ∧ va_K (dC, dI) vwCl [(d, .int), (dz, .boolean)] U ∧ va_D (fun _ => True) [(ay, .inr (2, [.ref mv, .ref mi])), (mv, .inl (d, 64, .inl fv)), (mi, .inl (dz, 64, .inl fb))])) (va_Qi (fun (r : Int32) (u : (Nat → Int32) × (Nat → Int32)) => u.1 = fv ∧ u.2 = upd fb (lo6 p0) 0 ∧ r = fb (lo6 p0)) (BM3 dC dI d dz (va_A [(ay, .inr (2, [.ref mv, .ref mi])), (mv, .inl (d, 64, .inl fv)), (mi, .inl (dz, 64, .inl fb))] z) ay mv mi) (va_A [(ay, .inr (2, [.ref mv, .ref mi])), (mv, .inl (d, 64, .inl fv)), (mi, .inl (dz, 64, .inl fb))] z)) 0 0 (va_A [(ay, .inr (2, [.ref mv, .ref mi])), (mv, .inl (d, 64, .inl fv)), (mi, .inl (dz, 64, .inl fb))] z) := by
  refine Met.ofW (cc := cX4_leave) (maxL := 4) (ret := (some .boolean)) (by decide) rfl ?_
  intro p e s m args below meth c s₁ B hml hv
  obtain ⟨rfl, hsz, hP, hK, hD0⟩ := hv
  have hx := B.exec
  have hb := B.bytes
  have hr := B.returns
  have hts := atoms_spec (ws := wsX4_leave) B.pre
  have hts : ∀ w ∈ lw_all, w.before _ s = true := fun w h => hts w (List.mem_cons_of_mem _ h)
  have hown : s.vm.findClass RX4 = some m.cls := findClass_of_methodNamed B.named
  have hlocks := B.notSynchronized
  subst hsz
  have hD := hD0.self (sz := s.heap.size)
  generalize hAe : va_A [(ay, .inr (2, [.ref mv, .ref mi])), (mv, .inl (d, 64, .inl fv)), (mi, .inl (dz, 64, .inl fb))] s.heap.size = A at hD ⊢
  have hA : ∀ q : Nat, s.heap.size ≤ q → A q := fun q h => by rw [← hAe]; exact Or.inr h
  have hS : va_S A s.heap s.heap [] := va_S.rf
  have hP : va_P (dC, dI) vwCl [(ay, .inr (2, [.ref mv, .ref mi])), (mv, .inl (d, 64, .inl fv)), (mi, .inl (dz, 64, .inl fb))] s.heap := hP
  have hl := lv_entry ([.ref ay, .int p0]) (n := 4) (Nat.le_of_ble_eq_true rfl)
  rw [lg_entry_eq]
  generalize (lg_sl ([.ref ay, .int p0]) ++ List.replicate (4 - (lg_sl ([.ref ay, .int p0])).length) Slot.unset).toArray = ls at hl ⊢
  have hl : lv_has ls 4 [(0, .ref ay), (1, .int p0)] := hl
  refine lv_iload_n hx hb dX4_leave_0 rfl (lv_at hl 1 rfl) ?_
  refine lv_bipush (v := 63) hx hb dX4_leave_1 (by decide +kernel) ?_
  refine xi_and hx hb (nI (lo6 p0)) (x_and63 p0) dX4_leave_3 ?_
  refine lv_istore_n (lv' := [(2, .int (nI (lo6 p0))), (0, .ref ay), (1, .int p0)]) hx hb dX4_leave_4 rfl hl (by decide) rfl (fun ls hl => ?_)
  refine lv_aload_n hx hb dX4_leave_5 rfl (lv_at hl 1 rfl) ?_
  refine va_get (D := (dC, dI)) (ci := 2) (v := .ref mi) (C := RX4) (T := TX4) (N := 2) hx hb hts in_X4 hown hK hP 0 rfl rfl 1 (by decide) (hts _ q530) (fun _ h9 => h9) rfl dX4_leave_6 ?_
  refine lv_iload_n hx hb dX4_leave_9 rfl (lv_at hl 0 rfl) ?_
  refine xz_ld (v := fb (lo6 p0)) hx hb hK hP 2 1 rfl rfl (lo6 p0) rfl (lo6_lt p0) (by decide) rfl dX4_leave_10 ?_
  refine lv_istore_n (lv' := [(3, .int (fb (lo6 p0))), (2, .int (nI (lo6 p0))), (0, .ref ay), (1, .int p0)]) hx hb dX4_leave_11 rfl hl (by decide) rfl (fun ls hl => ?_)
  refine lv_aload_n hx hb dX4_leave_12 rfl (lv_at hl 2 rfl) ?_
  refine va_get (D := (dC, dI)) (ci := 2) (v := .ref mi) (C := RX4) (T := TX4) (N := 2) hx hb hts in_X4 hown hK hP 0 rfl rfl 1 (by decide) (hts _ q530) (fun _ h9 => h9) rfl dX4_leave_13 ?_
  refine lv_iload_n hx hb dX4_leave_16 rfl (lv_at hl 1 rfl) ?_
  refine lv_iconst (v := 0) hx hb dX4_leave_17 (by decide +kernel) ?_
  refine xz_st hx hb hK hP hD hS 2 1 rfl rfl (lo6 p0) rfl (lo6_lt p0) (by decide) (upd fb (lo6 p0) 0) rfl rfl dX4_leave_18 (fun H locs hP hD hS => ?_)
  have hP : va_P (dC, dI) vwCl [(ay, .inr (2, [.ref mv, .ref mi])), (mv, .inl (d, 64, .inl fv)), (mi, .inl (dz, 64, .inl (upd fb (lo6 p0) 0)))] H := hP
  have hD : va_D A [(ay, .inr (2, [.ref mv, .ref mi])), (mv, .inl (d, 64, .inl fv)), (mi, .inl (dz, 64, .inl (upd fb (lo6 p0) 0)))] := hD
  refine lv_iload_n hx hb dX4_leave_19 rfl (lv_at hl 0 rfl) ?_
  have hP9 := hP.sub (ws' := [(ay, .inr (2, [.ref mv, .ref mi])), (mv, .inl (d, 64, .inl fv)), (mi, .inl (dz, 64, .inl (upd fb (lo6 p0) 0)))]) [0, 1, 2] rfl
  have hD9 := hD.sub (ws' := [(ay, .inr (2, [.ref mv, .ref mi])), (mv, .inl (d, 64, .inl fv)), (mi, .inl (dz, 64, .inl (upd fb (lo6 p0) 0)))]) [0, 1, 2] (by decide) rfl
  have hK9 := hK.sub (tys' := [(d, .int), (dz, .boolean)]) [0, 1] rfl
  exact W.zret (v := (fb (lo6 p0))) hx hb hr (x_nb (hB _ (lo6_lt p0)).symm) (fun t ht hW => ⟨⟨(fb (lo6 p0)), (fv, upd fb (lo6 p0) 0), rfl, ⟨rfl, rfl, rfl⟩, by rw [ht]; exact hP9, va_K.moved hW.alike hK9, hD9⟩, hS.F ht⟩) hS.2.2 dX4_leave_20
set_option maxHeartbeats 4000000 in
set_option maxRecDepth 100000 in
/-- head(): the loop -/
theorem head_loop {p : Program} {l : Launch} {e : Env} {R : Room} {s : State} {m : MethodId} {args : Array Value} {below : List Frame} {meth : Method} {c : Code} {Q : State → Prop} {cells slots : Nat} {dC : Nat → ClassId} {dI : Nat → Nat → Nat} {d dz : ClassId} {ay mv mi : Nat} {fv fb : Nat → Int32} (hx : p.tables.exec = Jvm.exec) (hb : c.code = cX4_head) (hown : s.vm.findClass RX4 = some m.cls) (hts : ∀ w ∈ lw_all, w.before args s = true) (hK : va_K (dC, dI) vwCl [(d, .int), (dz, .boolean)] s) {H : Heap} {locs : List Loc} (hP : va_P (dC, dI) vwCl [(ay, .inr (2, [.ref mv, .ref mi])), (mv, .inl (d, 64, .inl fv)), (mi, .inl (dz, 64, .inl fb))] H)
    (hexit : ∀ (b : Int32) (ls : Array Slot), HD fv fb 64 b → lv_has ls 3 [(0, .ref ay), (1, .int b)] → W p l e R s m args below meth c H locs cells slots Q (F0 m 46 ls [])) :
    ∀ (n i : Nat) (b : Int32), 64 - i < n → i ≤ 64 → HD fv fb i b → ∀ (ls : Array Slot), lv_has ls 3 [(0, .ref ay), (1, .int b), (2, .int (nI i))] → W p l e R s m args below meth c H locs cells slots Q (F0 m 4 ls []) := by
  intro n
  induction n with
  | zero =>
    intro i b h1
    exact absurd h1 (by omega)
  | succ n ih =>
    intro i b hn hi hd ls hl
    refine lv_iload_n hx hb dX4_head_4 rfl (lv_at hl 2 rfl) ?_
    refine lv_bipush (v := nI 64) hx hb dX4_head_5 (by decide +kernel) ?_
    refine lv_icmp_ge (tgt := 46) hx hb dX4_head_7 (by decide) (fun c_1 => ?_) (fun c_1 => ?_)
    · have h64 : i = 64 := by have h9 := (nI_leI (by omega) (by omega)).mp c_1; omega
      exact hexit b ls (by rw [← h64]; exact hd) (lv_sub hl [0, 1] rfl)
    · have h64 : i < 64 := by
        rcases Nat.lt_or_ge i 64 with q | q
        · exact q
        · exact absurd (nI_le q (by omega)) c_1
      have h40 : ∀ (b1 : Int32) (ls : Array Slot), HD fv fb (i + 1) b1 → lv_has ls 3 [(0, .ref ay), (1, .int b1), (2, .int (nI i))] → W p l e R s m args below meth c H locs cells slots Q (F0 m 40 ls []) := by
        intro b1 ls hd hl
        refine lv_iinc (v := nI (i + 1)) (lv' := [(2, .int (nI (i + 1))), (0, .ref ay), (1, .int b1)]) hx hb dX4_head_40 hl (k := 2) rfl (x_iinc1 i) (by decide) rfl (fun ls hl => ?_)
        refine lv_goto (tgt := 4) hx hb dX4_head_43 (by decide) ?_
        exact ih (i + 1) b1 (by omega) (by omega) hd ls (lv_sub hl [1, 2, 0] rfl)
      have h38 : ∀ (ls : Array Slot) (b0 : Int32), HD fv fb (i + 1) (nI i) → lv_has ls 3 [(0, .ref ay), (1, .int b0), (2, .int (nI i))] → W p l e R s m args below meth c H locs cells slots Q (F0 m 38 ls []) := by
        intro ls b0 hd hl
        refine lv_iload_n hx hb dX4_head_38 rfl (lv_at hl 2 rfl) ?_
        refine lv_istore_n (lv' := [(1, .int (nI i)), (0, .ref ay), (2, .int (nI i))]) hx hb dX4_head_39 rfl hl (by decide) rfl (fun ls hl => ?_)
        exact h40 (nI i) ls hd (lv_sub hl [1, 0, 2] rfl)
      refine lv_aload_n hx hb dX4_head_10 rfl (lv_at hl 0 rfl) ?_
      refine va_get (D := (dC, dI)) (ci := 2) (v := .ref mi) (C := RX4) (T := TX4) (N := 2) hx hb hts in_X4 hown hK hP 0 rfl rfl 1 (by decide) (hts _ q530) (fun _ h9 => h9) rfl dX4_head_11 ?_
      refine lv_iload_n hx hb dX4_head_14 rfl (lv_at hl 2 rfl) ?_
      refine xz_ld (v := fb i) hx hb hK hP 2 1 rfl rfl i rfl h64 (by decide) rfl dX4_head_15 ?_
      refine lv_if_eq (tgt := 40) hx hb dX4_head_16 (by decide) (fun c_2 => ?_) (fun c_2 => ?_)
      · exact h40 b ls (hd.skip c_2) hl
      · refine lv_iload_n hx hb dX4_head_19 rfl (lv_at hl 1 rfl) ?_
        refine lv_if_lt (tgt := 38) hx hb dX4_head_20 (by decide) (fun c_3 => ?_) (fun c_3 => ?_)
        · exact h38 ls b (hd.first hi c_3 c_2) hl
        · obtain ⟨t, ht, et, hbt, hmin⟩ := hd.pos c_3
          subst et
          refine lv_aload_n hx hb dX4_head_23 rfl (lv_at hl 0 rfl) ?_
          refine va_get (D := (dC, dI)) (ci := 2) (v := .ref mv) (C := RX4) (T := TX4) (N := 2) hx hb hts in_X4 hown hK hP 0 rfl rfl 0 (by decide) (hts _ q529) (fun _ h9 => h9) rfl dX4_head_24 ?_
          refine lv_iload_n hx hb dX4_head_27 rfl (lv_at hl 2 rfl) ?_
          refine xa_ld (v := fv i) hx hb hK hP 1 0 rfl rfl i rfl h64 (by decide) rfl dX4_head_28 ?_
          refine lv_aload_n hx hb dX4_head_29 rfl (lv_at hl 0 rfl) ?_
          refine va_get (D := (dC, dI)) (ci := 2) (v := .ref mv) (C := RX4) (T := TX4) (N := 2) hx hb hts in_X4 hown hK hP 0 rfl rfl 0 (by decide) (hts _ q529) (fun _ h9 => h9) rfl dX4_head_30 ?_
          refine lv_iload_n hx hb dX4_head_33 rfl (lv_at hl 1 rfl) ?_
          refine xa_ld (v := fv t) hx hb hK hP 1 0 rfl rfl t rfl (by omega) (by decide) rfl dX4_head_34 ?_
          refine lv_icmp_ge (tgt := 40) hx hb dX4_head_35 (by decide) (fun c_4 => ?_) (fun c_4 => ?_)
          · exact h40 (nI t) ls (HD.keep ht hbt hmin c_4) hl
          · exact h38 ls (nI t) (HD.take c_2 hmin c_4) hl
set_option maxHeartbeats 4000000 in
set_option maxRecDepth 100000 in
/-- the model's head() -/
theorem metX4_head (l : Launch) (dC : Nat → ClassId) (dI : Nat → Nat → Nat) (d dz : ClassId) (ay mv mi z : Nat) (fv fb : Nat → Int32) (hB : ∀ k, k < 64 → fb k = 0 ∨ fb k = 1) : Met l yX4_head wsX4_head ({ frames := 0, cells := 0, slots := 0, locals := 0 }) (va_Pc [.ref ay] (fun U => U.heap.size = z ∧ va_P (dC, dI) vwCl [(ay, .inr (2, [.ref mv, .ref mi])), (mv, .inl (d, 64, .inl fv)), (mi, .inl (dz, 64, .inl fb))] U.heap ∧ va_K (dC, dI) vwCl [(d, .int), (dz, .boolean)] U ∧ va_D (fun _ => True) [(ay, .inr (2, [.ref mv, .ref mi])), (mv, .inl (d, 64, .inl fv)), (mi, .inl (dz, 64, .inl fb))])) (va_Qi (fun (r : Int32) (_ : Unit) => HD fv fb 64 r) (fun _ => BM3 dC dI d dz (va_A [(ay, .inr (2, [.ref mv, .ref mi])), (mv, .inl (d, 64, .inl fv)), (mi, .inl (dz, 64, .inl fb))] z) ay mv mi (fv, fb)) (va_A [(ay, .inr (2, [.ref mv, .ref mi])), (mv, .inl (d, 64, .inl fv)), (mi, .inl (dz, 64, .inl fb))] z)) 0 0 (va_A [(ay, .inr (2, [.ref mv, .ref mi])), (mv, .inl (d, 64, .inl fv)), (mi, .inl (dz, 64, .inl fb))] z) := by
  refine Met.ofW (cc := cX4_head) (maxL := 3) (ret := (some .int)) (by decide) rfl ?_
  intro p e s m args below meth c s₁ B hml hv
  obtain ⟨rfl, hsz, hP, hK, hD0⟩ := hv
  have hx := B.exec
  have hb := B.bytes
  have hr := B.returns
  have hts := atoms_spec (ws := wsX4_head) B.pre
  have hts : ∀ w ∈ lw_all, w.before _ s = true := fun w h => hts w (List.mem_cons_of_mem _ h)
  have hown : s.vm.findClass RX4 = some m.cls := findClass_of_methodNamed B.named
  have hlocks := B.notSynchronized
  subst hsz
  have hD := hD0.self (sz := s.heap.size)
  generalize hAe : va_A [(ay, .inr (2, [.ref mv, .ref mi])), (mv, .inl (d, 64, .inl fv)), (mi, .inl (dz, 64, .inl fb))] s.heap.size = A at hD ⊢
  have hA : ∀ q : Nat, s.heap.size ≤ q → A q := fun q h => by rw [← hAe]; exact Or.inr h
  have hS : va_S A s.heap s.heap [] := va_S.rf
  have hP : va_P (dC, dI) vwCl [(ay, .inr (2, [.ref mv, .ref mi])), (mv, .inl (d, 64, .inl fv)), (mi, .inl (dz, 64, .inl fb))] s.heap := hP
  have hl := lv_entry ([.ref ay]) (n := 3) (Nat.le_of_ble_eq_true rfl)
  rw [lg_entry_eq]
  generalize (lg_sl ([.ref ay]) ++ List.replicate (3 - (lg_sl ([.ref ay])).length) Slot.unset).toArray = ls at hl ⊢
  have hl : lv_has ls 3 [(0, .ref ay)] := hl
  refine lv_iconst (v := (-1)) hx hb dX4_head_0 (by decide +kernel) ?_
  refine lv_istore_n (lv' := [(1, .int (-1)), (0, .ref ay)]) hx hb dX4_head_1 rfl hl (by decide) rfl (fun ls hl => ?_)
  refine lv_iconst (v := nI 0) hx hb dX4_head_2 (by decide +kernel) ?_
  refine lv_istore_n (lv' := [(2, .int (nI 0)), (1, .int (-1)), (0, .ref ay)]) hx hb dX4_head_3 rfl hl (by decide) rfl (fun ls hl => ?_)
  refine head_loop hx hb hown hts hK hP ?_ 65 0 (-1) (by omega) (by omega) (HD.zero fv fb) ls (lv_sub hl [2, 1, 0] rfl)
  intro b ls hd hl
  refine lv_iload_n hx hb dX4_head_46 rfl (lv_at hl 1 rfl) ?_
  have hP : va_P (dC, dI) vwCl [(ay, .inr (2, [.ref mv, .ref mi])), (mv, .inl (d, 64, .inl fv)), (mi, .inl (dz, 64, .inl fb))] s.heap := hP
  have hP9 := hP.sub (ws' := [(ay, .inr (2, [.ref mv, .ref mi])), (mv, .inl (d, 64, .inl fv)), (mi, .inl (dz, 64, .inl fb))]) [0, 1, 2] rfl
  have hD9 := hD.sub (ws' := [(ay, .inr (2, [.ref mv, .ref mi])), (mv, .inl (d, 64, .inl fv)), (mi, .inl (dz, 64, .inl fb))]) [0, 1, 2] (by decide) rfl
  have hK9 := hK.sub (tys' := [(d, .int), (dz, .boolean)]) [0, 1] rfl
  exact W.iret (v := b) hx hb hr (fun t ht hW => ⟨⟨b, (), rfl, hd, by rw [ht]; exact hP9, va_K.moved hW.alike hK9, hD9⟩, hS.F ht⟩) hS.2.2 dX4_head_47
set_option maxHeartbeats 4000000 in
set_option maxRecDepth 100000 in
/-- the model's least() -/
theorem metX4_least (l : Launch) (dC : Nat → ClassId) (dI : Nat → Nat → Nat) (d dz : ClassId) (ay mv mi z : Nat) (fv fb : Nat → Int32) (hB : ∀ k, k < 64 → fb k = 0 ∨ fb k = 1) : Met l yX4_least wsX4_least ({ frames := 1, cells := 0, slots := 0, locals := 40 }) (va_Pc [.ref ay] (fun U => U.heap.size = z ∧ va_P (dC, dI) vwCl [(ay, .inr (2, [.ref mv, .ref mi])), (mv, .inl (d, 64, .inl fv)), (mi, .inl (dz, 64, .inl fb))] U.heap ∧ va_K (dC, dI) vwCl [(d, .int), (dz, .boolean)] U ∧ va_D (fun _ => True) [(ay, .inr (2, [.ref mv, .ref mi])), (mv, .inl (d, 64, .inl fv)), (mi, .inl (dz, 64, .inl fb))])) (va_Qi (fun (r : Int32) (_ : Unit) => HD fv fb 64 r) (fun _ => BM3 dC dI d dz (va_A [(ay, .inr (2, [.ref mv, .ref mi])), (mv, .inl (d, 64, .inl fv)), (mi, .inl (dz, 64, .inl fb))] z) ay mv mi (fv, fb)) (va_A [(ay, .inr (2, [.ref mv, .ref mi])), (mv, .inl (d, 64, .inl fv)), (mi, .inl (dz, 64, .inl fb))] z)) 0 0 (va_A [(ay, .inr (2, [.ref mv, .ref mi])), (mv, .inl (d, 64, .inl fv)), (mi, .inl (dz, 64, .inl fb))] z) := by
  refine Met.ofW (cc := cX4_least) (maxL := 1) (ret := (some .int)) (by decide) rfl ?_
  intro p e s m args below meth c s₁ B hml hv
  obtain ⟨rfl, hsz, hP, hK, hD0⟩ := hv
  have hx := B.exec
  have hb := B.bytes
  have hr := B.returns
  have hts := atoms_spec (ws := wsX4_least) B.pre
  have hts : ∀ w ∈ lw_all, w.before _ s = true := fun w h => hts w (List.mem_cons_of_mem _ h)
  have hown : s.vm.findClass RX4 = some m.cls := findClass_of_methodNamed B.named
  have hlocks := B.notSynchronized
  subst hsz
  have hD := hD0.self (sz := s.heap.size)
  generalize hAe : va_A [(ay, .inr (2, [.ref mv, .ref mi])), (mv, .inl (d, 64, .inl fv)), (mi, .inl (dz, 64, .inl fb))] s.heap.size = A at hD ⊢
  have hA : ∀ q : Nat, s.heap.size ≤ q → A q := fun q h => by rw [← hAe]; exact Or.inr h
  have hS : va_S A s.heap s.heap [] := va_S.rf
  have hP : va_P (dC, dI) vwCl [(ay, .inr (2, [.ref mv, .ref mi])), (mv, .inl (d, 64, .inl fv)), (mi, .inl (dz, 64, .inl fb))] s.heap := hP
  have hl := lv_entry ([.ref ay]) (n := 1) (Nat.le_of_ble_eq_true rfl)
  rw [lg_entry_eq]
  generalize (lg_sl ([.ref ay]) ++ List.replicate (1 - (lg_sl ([.ref ay])).length) Slot.unset).toArray = ls at hl ⊢
  have hl : lv_has ls 1 [(0, .ref ay)] := hl
  refine lv_aload_n hx hb dX4_least_0 rfl (lv_at hl 0 rfl) ?_
  have hPc := hP.sub (ws' := [(ay, .inr (2, [.ref mv, .ref mi])), (mv, .inl (d, 64, .inl fv)), (mi, .inl (dz, 64, .inl fb))]) [0, 1, 2] rfl
  have hDc := hD.sub (ws' := [(ay, .inr (2, [.ref mv, .ref mi])), (mv, .inl (d, 64, .inl fv)), (mi, .inl (dz, 64, .inl fb))]) [0, 1, 2] (by decide) rfl
  have hKc := hK.sub (tys' := [(d, .int), (dz, .boolean)]) [0, 1] rfl
  have hFc := va_free (wc := [(ay, .inr (2, [.ref mv, .ref mi])), (mv, .inl (d, 64, .inl fv)), (mi, .inl (dz, 64, .inl fb))]) hD hS hA [0, 1, 2] rfl
  refine va_calli (va_runV (As := []) (rest := []) ⟨hx, hb, hml, hown, hts⟩ (metX4_head l dC dI d dz ay mv mi s.heap.size fv fb hB) (cwV 0 hts (lw_V q553 q555 qs1 q8 q556) rfl rfl rfl (by decide +kernel) ⟨Nat.le_of_ble_eq_true rfl, Nat.le_of_ble_eq_true rfl⟩) ⟨fun a U g mk q => by obtain ⟨q0, q1, qP, qK, qD⟩ := q; exact ⟨q0, q1, qP, va_K.moved (u := U) (U := U.calling g mk a) (Vm.Alike.refl U.vm) qK, qD⟩, va_recv hKc hPc (ci := 2) (q0 := 0) rfl rfl, fun U hU hW => ⟨rfl, by rw [hU], by rw [hU]; exact hPc, va_K.moved hW.alike hKc, hDc.weaken (fun _ _ _ _ => trivial)⟩⟩ rfl rfl hl.1 rfl (lv_room (Nat.le_of_ble_eq_true rfl)) dX4_least_1 ⟨Nat.le_of_ble_eq_true rfl, Nat.le_of_ble_eq_true rfl⟩) hS (fun q _ h => hFc q h) hFc (fun r_1 u t H1 locs ht hvm hw hB1 hz1 hk1 hS => ?_)
  obtain ⟨hP1, hK1, hD1⟩ := hB1
  rw [ht] at hP1
  have hK1 := va_K.moved hvm.symm hK1
  obtain ⟨hP, hD⟩ := va_join (wr := []) (w1 := [(ay, .inr (2, [.ref mv, .ref mi])), (mv, .inl (d, 64, .inl fv)), (mi, .inl (dz, 64, .inl fb))]) hP hD [0, 1, 2] [] rfl rfl (by decide) (by decide) hk1 hFc hP1 hD1
  generalize H1 = H at hP hS ⊢
  have hP : va_P (dC, dI) vwCl [(ay, .inr (2, [.ref mv, .ref mi])), (mv, .inl (d, 64, .inl fv)), (mi, .inl (dz, 64, .inl fb))] H := hP
  have hD : va_D A [(ay, .inr (2, [.ref mv, .ref mi])), (mv, .inl (d, 64, .inl fv)), (mi, .inl (dz, 64, .inl fb))] := hD
  have hP9 := hP.sub (ws' := [(ay, .inr (2, [.ref mv, .ref mi])), (mv, .inl (d, 64, .inl fv)), (mi, .inl (dz, 64, .inl fb))]) [0, 1, 2] rfl
  have hD9 := hD.sub (ws' := [(ay, .inr (2, [.ref mv, .ref mi])), (mv, .inl (d, 64, .inl fv)), (mi, .inl (dz, 64, .inl fb))]) [0, 1, 2] (by decide) rfl
  have hK9 := hK.sub (tys' := [(d, .int), (dz, .boolean)]) [0, 1] rfl
  exact W.iret (v := r_1) hx hb hr (fun t ht hW => ⟨⟨r_1, (), rfl, hw, by rw [ht]; exact hP9, va_K.moved hW.alike hK9, hD9⟩, hS.F ht⟩) hS.2.2 dX4_least_4
set_option maxHeartbeats 4000000 in
set_option maxRecDepth 100000 in
/-- the model's take() -/
theorem metX4_take (l : Launch) (dC : Nat → ClassId) (dI : Nat → Nat → Nat) (d dz : ClassId) (ay mv mi z : Nat) (fv fb : Nat → Int32) (hB : ∀ k, k < 64 → fb k = 0 ∨ fb k = 1) : Met l yX4_take wsX4_take ({ frames := 1, cells := 0, slots := 0, locals := 40 }) (va_Pc [.ref ay] (fun U => U.heap.size = z ∧ va_P (dC, dI) vwCl [(ay, .inr (2, [.ref mv, .ref mi])), (mv, .inl (d, 64, .inl fv)), (mi, .inl (dz, 64, .inl fb))] U.heap ∧ va_K (dC, dI) vwCl [(d, .int), (dz, .boolean)] U ∧ va_D (fun _ => True) [(ay, .inr (2, [.ref mv, .ref mi])), (mv, .inl (d, 64, .inl fv)), (mi, .inl (dz, 64, .inl fb))])) (va_Qi (fun (r : Int32) (u : (Nat → Int32) × (Nat → Int32)) => u.1 = fv ∧ ((r = -1 ∧ (∀ k, k < 64 → fb k = 0) ∧ u.2 = fb) ∨ (∃ t, t < 64 ∧ r = nI t ∧ fb t ≠ 0 ∧ (∀ j, j < 64 → fb j ≠ 0 → fv t ≤ fv j) ∧ u.2 = upd fb t 0))) (BM3 dC dI d dz (va_A [(ay, .inr (2, [.ref mv, .ref mi])), (mv, .inl (d, 64, .inl fv)), (mi, .inl (dz, 64, .inl fb))] z) ay mv mi) (va_A [(ay, .inr (2, [.ref mv, .ref mi])), (mv, .inl (d, 64, .inl fv)), (mi, .inl (dz, 64, .inl fb))] z)) 0 0 (va_A [(ay, .inr (2, [.ref mv, .ref mi])), (mv, .inl (d, 64, .inl fv)), (mi, .inl (dz, 64, .inl fb))] z) := by
  refine Met.ofW (cc := cX4_take) (maxL := 2) (ret := (some .int)) (by decide) rfl ?_
  intro p e s m args below meth c s₁ B hml hv
  obtain ⟨rfl, hsz, hP, hK, hD0⟩ := hv
  have hx := B.exec
  have hb := B.bytes
  have hr := B.returns
  have hts := atoms_spec (ws := wsX4_take) B.pre
  have hts : ∀ w ∈ lw_all, w.before _ s = true := fun w h => hts w (List.mem_cons_of_mem _ h)
  have hown : s.vm.findClass RX4 = some m.cls := findClass_of_methodNamed B.named
  have hlocks := B.notSynchronized
  subst hsz
  have hD := hD0.self (sz := s.heap.size)
  generalize hAe : va_A [(ay, .inr (2, [.ref mv, .ref mi])), (mv, .inl (d, 64, .inl fv)), (mi, .inl (dz, 64, .inl fb))] s.heap.size = A at hD ⊢
  have hA : ∀ q : Nat, s.heap.size ≤ q → A q := fun q h => by rw [← hAe]; exact Or.inr h
  have hS : va_S A s.heap s.heap [] := va_S.rf
  have hP : va_P (dC, dI) vwCl [(ay, .inr (2, [.ref mv, .ref mi])), (mv, .inl (d, 64, .inl fv)), (mi, .inl (dz, 64, .inl fb))] s.heap := hP
  have hl := lv_entry ([.ref ay]) (n := 2) (Nat.le_of_ble_eq_true rfl)
  rw [lg_entry_eq]
  generalize (lg_sl ([.ref ay]) ++ List.replicate (2 - (lg_sl ([.ref ay])).length) Slot.unset).toArray = ls at hl ⊢
  have hl : lv_has ls 2 [(0, .ref ay)] := hl
  refine lv_aload_n hx hb dX4_take_0 rfl (lv_at hl 0 rfl) ?_
  have hPc := hP.sub (ws' := [(ay, .inr (2, [.ref mv, .ref mi])), (mv, .inl (d, 64, .inl fv)), (mi, .inl (dz, 64, .inl fb))]) [0, 1, 2] rfl
  have hDc := hD.sub (ws' := [(ay, .inr (2, [.ref mv, .ref mi])), (mv, .inl (d, 64, .inl fv)), (mi, .inl (dz, 64, .inl fb))]) [0, 1, 2] (by decide) rfl
  have hKc := hK.sub (tys' := [(d, .int), (dz, .boolean)]) [0, 1] rfl
  have hFc := va_free (wc := [(ay, .inr (2, [.ref mv, .ref mi])), (mv, .inl (d, 64, .inl fv)), (mi, .inl (dz, 64, .inl fb))]) hD hS hA [0, 1, 2] rfl
  refine va_calli (va_runV (As := []) (rest := []) ⟨hx, hb, hml, hown, hts⟩ (metX4_head l dC dI d dz ay mv mi s.heap.size fv fb hB) (cwV 0 hts (lw_V q553 q555 qs1 q8 q556) rfl rfl rfl (by decide +kernel) ⟨Nat.le_of_ble_eq_true rfl, Nat.le_of_ble_eq_true rfl⟩) ⟨fun a U g mk q => by obtain ⟨q0, q1, qP, qK, qD⟩ := q; exact ⟨q0, q1, qP, va_K.moved (u := U) (U := U.calling g mk a) (Vm.Alike.refl U.vm) qK, qD⟩, va_recv hKc hPc (ci := 2) (q0 := 0) rfl rfl, fun U hU hW => ⟨rfl, by rw [hU], by rw [hU]; exact hPc, va_K.moved hW.alike hKc, hDc.weaken (fun _ _ _ _ => trivial)⟩⟩ rfl rfl hl.1 rfl (lv_room (Nat.le_of_ble_eq_true rfl)) dX4_take_1 ⟨Nat.le_of_ble_eq_true rfl, Nat.le_of_ble_eq_true rfl⟩) hS (fun q _ h => hFc q h) hFc (fun r_1 u t H1 locs ht hvm hw hB1 hz1 hk1 hS => ?_)
  obtain ⟨hP1, hK1, hD1⟩ := hB1
  rw [ht] at hP1
  have hK1 := va_K.moved hvm.symm hK1
  obtain ⟨hP, hD⟩ := va_join (wr := []) (w1 := [(ay, .inr (2, [.ref mv, .ref mi])), (mv, .inl (d, 64, .inl fv)), (mi, .inl (dz, 64, .inl fb))]) hP hD [0, 1, 2] [] rfl rfl (by decide) (by decide) hk1 hFc hP1 hD1
  generalize H1 = H at hP hS ⊢
  have hP : va_P (dC, dI) vwCl [(ay, .inr (2, [.ref mv, .ref mi])), (mv, .inl (d, 64, .inl fv)), (mi, .inl (dz, 64, .inl fb))] H := hP
  have hD : va_D A [(ay, .inr (2, [.ref mv, .ref mi])), (mv, .inl (d, 64, .inl fv)), (mi, .inl (dz, 64, .inl fb))] := hD
  refine lv_istore_n (lv' := [(1, .int r_1), (0, .ref ay)]) hx hb dX4_take_4 rfl hl (by decide) rfl (fun ls hl => ?_)
  refine lv_iload_n hx hb dX4_take_5 rfl (lv_at hl 0 rfl) ?_
  refine lv_if_lt (tgt := 16) hx hb dX4_take_6 (by decide) (fun c_1 => ?_) (fun c_1 => ?_)
  · obtain ⟨er, hz⟩ := hw.neg (by decide) c_1
    refine lv_iload_n hx hb dX4_take_16 rfl (lv_at hl 0 rfl) ?_
    have hP9 := hP.sub (ws' := [(ay, .inr (2, [.ref mv, .ref mi])), (mv, .inl (d, 64, .inl fv)), (mi, .inl (dz, 64, .inl fb))]) [0, 1, 2] rfl
    have hD9 := hD.sub (ws' := [(ay, .inr (2, [.ref mv, .ref mi])), (mv, .inl (d, 64, .inl fv)), (mi, .inl (dz, 64, .inl fb))]) [0, 1, 2] (by decide) rfl
    have hK9 := hK.sub (tys' := [(d, .int), (dz, .boolean)]) [0, 1] rfl
    exact W.iret (v := r_1) hx hb hr (fun t ht hW => ⟨⟨r_1, (fv, fb), rfl, ⟨rfl, Or.inl ⟨er, hz, rfl⟩⟩, by rw [ht]; exact hP9, va_K.moved hW.alike hK9, hD9⟩, hS.F ht⟩) hS.2.2 dX4_take_17
  · obtain ⟨kt, hkt, et, hbt, hmin⟩ := hw.pos c_1
    subst et
    refine lv_aload_n hx hb dX4_take_9 rfl (lv_at hl 1 rfl) ?_
    refine va_get (D := (dC, dI)) (ci := 2) (v := .ref mi) (C := RX4) (T := TX4) (N := 2) hx hb hts in_X4 hown hK hP 0 rfl rfl 1 (by decide) (hts _ q530) (fun _ h9 => h9) rfl dX4_take_10 ?_
    refine lv_iload_n hx hb dX4_take_13 rfl (lv_at hl 0 rfl) ?_
    refine lv_iconst (v := 0) hx hb dX4_take_14 (by decide +kernel) ?_
    refine xz_st hx hb hK hP hD hS 2 1 rfl rfl kt rfl hkt (by decide) (upd fb kt 0) rfl rfl dX4_take_15 (fun H locs hP hD hS => ?_)
    have hP : va_P (dC, dI) vwCl [(ay, .inr (2, [.ref mv, .ref mi])), (mv, .inl (d, 64, .inl fv)), (mi, .inl (dz, 64, .inl (upd fb kt 0)))] H := hP
    have hD : va_D A [(ay, .inr (2, [.ref mv, .ref mi])), (mv, .inl (d, 64, .inl fv)), (mi, .inl (dz, 64, .inl (upd fb kt 0)))] := hD
    refine lv_iload_n hx hb dX4_take_16 rfl (lv_at hl 0 rfl) ?_
    have hP9 := hP.sub (ws' := [(ay, .inr (2, [.ref mv, .ref mi])), (mv, .inl (d, 64, .inl fv)), (mi, .inl (dz, 64, .inl (upd fb kt 0)))]) [0, 1, 2] rfl
    have hD9 := hD.sub (ws' := [(ay, .inr (2, [.ref mv, .ref mi])), (mv, .inl (d, 64, .inl fv)), (mi, .inl (dz, 64, .inl (upd fb kt 0)))]) [0, 1, 2] (by decide) rfl
    have hK9 := hK.sub (tys' := [(d, .int), (dz, .boolean)]) [0, 1] rfl
    exact W.iret (v := (nI kt)) hx hb hr (fun t ht hW => ⟨⟨(nI kt), (fv, upd fb kt 0), rfl, ⟨rfl, Or.inr ⟨kt, hkt, rfl, hbt, hmin, rfl⟩⟩, by rw [ht]; exact hP9, va_K.moved hW.alike hK9, hD9⟩, hS.F ht⟩) hS.2.2 dX4_take_17
set_option maxHeartbeats 4000000 in
set_option maxRecDepth 100000 in
/-- the model's headChanged(v) -/
theorem metX4_headChanged (l : Launch) (dC : Nat → ClassId) (dI : Nat → Nat → Nat) (d dz : ClassId) (ay mv mi z : Nat) (fv fb : Nat → Int32) (hB : ∀ k, k < 64 → fb k = 0 ∨ fb k = 1) (p0 : Int32) : Met l yX4_headChanged wsX4_headChanged ({ frames := 1, cells := 0, slots := 0, locals := 40 }) (va_Pc [.ref ay, .int p0] (fun U => U.heap.size = z ∧ va_P (dC, dI) vwCl [(ay, .inr (2, [.ref mv, .ref mi])), (mv, .inl (d, 64, .inl fv)), (mi, .inl (dz, 64, .inl fb))] U.heap ∧ va_K (dC, dI) vwCl [(d, .int), (dz, .boolean)] U ∧ va_D (fun _ => True) [(ay, .inr (2, [.ref mv, .ref mi])), (mv, .inl (d, 64, .inl fv)), (mi, .inl (dz, 64, .inl fb))])) (va_Qi (fun (r : Int32) (u : (Nat → Int32) × (Nat → Int32)) => u.2 = fb ∧ ((r = 0 ∧ (∀ k, k < 64 → fb k = 0) ∧ u.1 = fv) ∨ (∃ t, t < 64 ∧ r = 1 ∧ fb t ≠ 0 ∧ (∀ j, j < 64 → fb j ≠ 0 → fv t ≤ fv j) ∧ u.1 = upd fv t (nv p0 t)))) (BM3 dC dI d dz (va_A [(ay, .inr (2, [.ref mv, .ref mi])), (mv, .inl (d, 64, .inl fv)), (mi, .inl (dz, 64, .inl fb))] z) ay mv mi) (va_A [(ay, .inr (2, [.ref mv, .ref mi])), (mv, .inl (d, 64, .inl fv)), (mi, .inl (dz, 64, .inl fb))] z)) 0 0 (va_A [(ay, .inr (2, [.ref mv, .ref mi])), (mv, .inl (d, 64, .inl fv)), (mi, .inl (dz, 64, .inl fb))] z) := by
  refine Met.ofW (cc := cX4_headChanged) (maxL := 3) (ret := (some .boolean)) (by decide) rfl ?_
  intro p e s m args below meth c s₁ B hml hv
  obtain ⟨rfl, hsz, hP, hK, hD0⟩ := hv
  have hx := B.exec
  have hb := B.bytes
  have hr := B.returns
  have hts := atoms_spec (ws := wsX4_headChanged) B.pre
  have hts : ∀ w ∈ lw_all, w.before _ s = true := fun w h => hts w (List.mem_cons_of_mem _ h)
  have hown : s.vm.findClass RX4 = some m.cls := findClass_of_methodNamed B.named
  have hlocks := B.notSynchronized
  subst hsz
  have hD := hD0.self (sz := s.heap.size)
  generalize hAe : va_A [(ay, .inr (2, [.ref mv, .ref mi])), (mv, .inl (d, 64, .inl fv)), (mi, .inl (dz, 64, .inl fb))] s.heap.size = A at hD ⊢
  have hA : ∀ q : Nat, s.heap.size ≤ q → A q := fun q h => by rw [← hAe]; exact Or.inr h
  have hS : va_S A s.heap s.heap [] := va_S.rf
  have hP : va_P (dC, dI) vwCl [(ay, .inr (2, [.ref mv, .ref mi])), (mv, .inl (d, 64, .inl fv)), (mi, .inl (dz, 64, .inl fb))] s.heap := hP
  have hl := lv_entry ([.ref ay, .int p0]) (n := 3) (Nat.le_of_ble_eq_true rfl)
  rw [lg_entry_eq]
  generalize (lg_sl ([.ref ay, .int p0]) ++ List.replicate (3 - (lg_sl ([.ref ay, .int p0])).length) Slot.unset).toArray = ls at hl ⊢
  have hl : lv_has ls 3 [(0, .ref ay), (1, .int p0)] := hl
  refine lv_aload_n hx hb dX4_headChanged_0 rfl (lv_at hl 0 rfl) ?_
  have hPc := hP.sub (ws' := [(ay, .inr (2, [.ref mv, .ref mi])), (mv, .inl (d, 64, .inl fv)), (mi, .inl (dz, 64, .inl fb))]) [0, 1, 2] rfl
  have hDc := hD.sub (ws' := [(ay, .inr (2, [.ref mv, .ref mi])), (mv, .inl (d, 64, .inl fv)), (mi, .inl (dz, 64, .inl fb))]) [0, 1, 2] (by decide) rfl
  have hKc := hK.sub (tys' := [(d, .int), (dz, .boolean)]) [0, 1] rfl
  have hFc := va_free (wc := [(ay, .inr (2, [.ref mv, .ref mi])), (mv, .inl (d, 64, .inl fv)), (mi, .inl (dz, 64, .inl fb))]) hD hS hA [0, 1, 2] rfl
  refine va_calli (va_runV (As := []) (rest := []) ⟨hx, hb, hml, hown, hts⟩ (metX4_head l dC dI d dz ay mv mi s.heap.size fv fb hB) (cwV 0 hts (lw_V q553 q555 qs1 q8 q556) rfl rfl rfl (by decide +kernel) ⟨Nat.le_of_ble_eq_true rfl, Nat.le_of_ble_eq_true rfl⟩) ⟨fun a U g mk q => by obtain ⟨q0, q1, qP, qK, qD⟩ := q; exact ⟨q0, q1, qP, va_K.moved (u := U) (U := U.calling g mk a) (Vm.Alike.refl U.vm) qK, qD⟩, va_recv hKc hPc (ci := 2) (q0 := 0) rfl rfl, fun U hU hW => ⟨rfl, by rw [hU], by rw [hU]; exact hPc, va_K.moved hW.alike hKc, hDc.weaken (fun _ _ _ _ => trivial)⟩⟩ rfl rfl hl.1 rfl (lv_room (Nat.le_of_ble_eq_true rfl)) dX4_headChanged_1 ⟨Nat.le_of_ble_eq_true rfl, Nat.le_of_ble_eq_true rfl⟩) hS (fun q _ h => hFc q h) hFc (fun r_1 u t H1 locs ht hvm hw hB1 hz1 hk1 hS => ?_)
  obtain ⟨hP1, hK1, hD1⟩ := hB1
  rw [ht] at hP1
  have hK1 := va_K.moved hvm.symm hK1
  obtain ⟨hP, hD⟩ := va_join (wr := []) (w1 := [(ay, .inr (2, [.ref mv, .ref mi])), (mv, .inl (d, 64, .inl fv)), (mi, .inl (dz, 64, .inl fb))]) hP hD [0, 1, 2] [] rfl rfl (by decide) (by decide) hk1 hFc hP1 hD1
  generalize H1 = H at hP hS ⊢
  have hP : va_P (dC, dI) vwCl [(ay, .inr (2, [.ref mv, .ref mi])), (mv, .inl (d, 64, .inl fv)), (mi, .inl (dz, 64, .inl fb))] H := hP
  have hD : va_D A [(ay, .inr (2, [.ref mv, .ref mi])), (mv, .inl (d, 64, .inl fv)), (mi, .inl (dz, 64, .inl fb))] := hD
  refine lv_istore_n (lv' := [(2, .int r_1), (0, .ref ay), (1, .int p0)]) hx hb dX4_headChanged_4 rfl hl (by decide) rfl (fun ls hl => ?_)
  refine lv_iload_n hx hb dX4_headChanged_5 rfl (lv_at hl 0 rfl) ?_
  refine lv_if_ge (tgt := 11) hx hb dX4_headChanged_6 (by decide) (fun c_1 => ?_) (fun c_1 => ?_)
  · obtain ⟨kt, hkt, et, hbt, hmin⟩ := hw.pos (x_nlt0 c_1)
    subst et
    refine lv_aload_n hx hb dX4_headChanged_11 rfl (lv_at hl 1 rfl) ?_
    refine va_get (D := (dC, dI)) (ci := 2) (v := .ref mv) (C := RX4) (T := TX4) (N := 2) hx hb hts in_X4 hown hK hP 0 rfl rfl 0 (by decide) (hts _ q529) (fun _ h9 => h9) rfl dX4_headChanged_12 ?_
    refine lv_iload_n hx hb dX4_headChanged_15 rfl (lv_at hl 0 rfl) ?_
    refine lv_iload_n hx hb dX4_headChanged_16 rfl (lv_at hl 2 rfl) ?_
    refine lv_bipush (v := (-64)) hx hb dX4_headChanged_17 (by decide +kernel) ?_
    refine xi_and hx hb (p0 &&& (-64)) rfl dX4_headChanged_19 ?_
    refine lv_iload_n hx hb dX4_headChanged_20 rfl (lv_at hl 0 rfl) ?_
    refine xi_add hx hb (nv p0 kt) (x_oradd p0 hkt) dX4_headChanged_21 ?_
    refine xa_st hx hb hK hP hD hS 1 0 rfl rfl kt rfl hkt (by decide) (upd fv kt (nv p0 kt)) rfl dX4_headChanged_22 (fun H locs hP hD hS => ?_)
    have hP : va_P (dC, dI) vwCl [(ay, .inr (2, [.ref mv, .ref mi])), (mv, .inl (d, 64, .inl (upd fv kt (nv p0 kt)))), (mi, .inl (dz, 64, .inl fb))] H := hP
    have hD : va_D A [(ay, .inr (2, [.ref mv, .ref mi])), (mv, .inl (d, 64, .inl (upd fv kt (nv p0 kt)))), (mi, .inl (dz, 64, .inl fb))] := hD
    refine lv_iconst (v := 1) hx hb dX4_headChanged_23 (by decide +kernel) ?_
    have hP9 := hP.sub (ws' := [(ay, .inr (2, [.ref mv, .ref mi])), (mv, .inl (d, 64, .inl (upd fv kt (nv p0 kt)))), (mi, .inl (dz, 64, .inl fb))]) [0, 1, 2] rfl
    have hD9 := hD.sub (ws' := [(ay, .inr (2, [.ref mv, .ref mi])), (mv, .inl (d, 64, .inl (upd fv kt (nv p0 kt)))), (mi, .inl (dz, 64, .inl fb))]) [0, 1, 2] (by decide) rfl
    have hK9 := hK.sub (tys' := [(d, .int), (dz, .boolean)]) [0, 1] rfl
    exact W.zret (v := 1) hx hb hr rfl (fun t ht hW => ⟨⟨1, (upd fv kt (nv p0 kt), fb), rfl, ⟨rfl, Or.inr ⟨kt, hkt, rfl, hbt, hmin, rfl⟩⟩, by rw [ht]; exact hP9, va_K.moved hW.alike hK9, hD9⟩, hS.F ht⟩) hS.2.2 dX4_headChanged_24
  · obtain ⟨er, hz⟩ := hw.neg (by decide) (x_le0 c_1)
    refine lv_iconst (v := 0) hx hb dX4_headChanged_9 (by decide +kernel) ?_
    have hP9 := hP.sub (ws' := [(ay, .inr (2, [.ref mv, .ref mi])), (mv, .inl (d, 64, .inl fv)), (mi, .inl (dz, 64, .inl fb))]) [0, 1, 2] rfl
    have hD9 := hD.sub (ws' := [(ay, .inr (2, [.ref mv, .ref mi])), (mv, .inl (d, 64, .inl fv)), (mi, .inl (dz, 64, .inl fb))]) [0, 1, 2] (by decide) rfl
    have hK9 := hK.sub (tys' := [(d, .int), (dz, .boolean)]) [0, 1] rfl
    exact W.zret (v := 0) hx hb hr rfl (fun t ht hW => ⟨⟨0, (fv, fb), rfl, ⟨rfl, Or.inl ⟨rfl, hz, rfl⟩⟩, by rw [ht]; exact hP9, va_K.moved hW.alike hK9, hD9⟩, hS.F ht⟩) hS.2.2 dX4_headChanged_10
set_option maxHeartbeats 4000000 in
set_option maxRecDepth 100000 in
/-- all(step): the loop over the values -/
theorem all4_loop {p : Program} {l : Launch} {e : Env} {R : Room} {s : State} {m : MethodId} {args : Array Value} {below : List Frame} {meth : Method} {c : Code} {Q : State → Prop} {cells slots : Nat} {dC : Nat → ClassId} {dI : Nat → Nat → Nat} {A : Nat → Prop} {H0 : Heap} {d dz : ClassId} {ax av mi : Nat} {fb : Nat → Int32} {p0 : Int32} {fv : Nat → Int32} (hx : p.tables.exec = Jvm.exec) (hb : c.code = cX4_all) (hown : s.vm.findClass RX4 = some m.cls) (hts : ∀ w ∈ lw_all, w.before args s = true) (hK : va_K (dC, dI) vwCl [(d, .int), (dz, .boolean)] s)
    (hexit : ∀ (f : Nat → Int32) (H : Heap) (locs : List Loc) (ls : Array Slot), (∀ j, j < 64 → f j = nv (fv j + p0 * nI j * 64) j) → va_P (dC, dI) vwCl [(ax, .inr (2, [.ref av, .ref mi])), (av, .inl (d, 64, .inl f)), (mi, .inl (dz, 64, .inl fb))] H → va_D A [(ax, .inr (2, [.ref av, .ref mi])), (av, .inl (d, 64, .inl f)), (mi, .inl (dz, 64, .inl fb))] → va_S A H0 H locs → lv_has ls 3 [(0, .ref ax)] → W p l e R s m args below meth c H locs cells slots Q (F0 m 38 ls [])) :
    ∀ (n i : Nat) (f : Nat → Int32), 64 - i < n → i ≤ 64 → (∀ j, j < i → f j = nv (fv j + p0 * nI j * 64) j) → (∀ j, i ≤ j → f j = fv j) → ∀ (H : Heap) (locs : List Loc), va_P (dC, dI) vwCl [(ax, .inr (2, [.ref av, .ref mi])), (av, .inl (d, 64, .inl f)), (mi, .inl (dz, 64, .inl fb))] H → va_D A [(ax, .inr (2, [.ref av, .ref mi])), (av, .inl (d, 64, .inl f)), (mi, .inl (dz, 64, .inl fb))] → va_S A H0 H locs → ∀ (ls : Array Slot), lv_has ls 3 [(0, .ref ax), (1, .int p0), (2, .int (nI i))] → W p l e R s m args below meth c H locs cells slots Q (F0 m 2 ls []) := by
  intro n
  induction n with
  | zero =>
    intro i f h1
    exact absurd h1 (by omega)
  | succ n ih =>
    intro i f hn hi hf hf2 H locs hP hD hS ls hl
    refine lv_iload_n hx hb dX4_all_2 rfl (lv_at hl 2 rfl) ?_
    refine lv_bipush (v := nI 64) hx hb dX4_all_3 (by decide +kernel) ?_
    refine lv_icmp_ge (tgt := 38) hx hb dX4_all_5 (by decide) (fun c_1 => ?_) (fun c_1 => ?_)
    · have h64 : 64 ≤ i := (nI_leI (by omega) (by omega)).mp c_1
      exact hexit f H locs ls (fun j hj => hf j (by omega)) hP hD hS (lv_sub hl [0] rfl)
    · have h64 : i < 64 := by
        rcases Nat.lt_or_ge i 64 with q | q
        · exact q
        · exact absurd (nI_le q (by omega)) c_1
      refine lv_aload_n hx hb dX4_all_8 rfl (lv_at hl 0 rfl) ?_
      refine va_get (D := (dC, dI)) (ci := 2) (v := .ref av) (C := RX4) (T := TX4) (N := 2) hx hb hts in_X4 hown hK hP 0 rfl rfl 0 (by decide) (hts _ q529) (fun _ h9 => h9) rfl dX4_all_9 ?_
      refine lv_iload_n hx hb dX4_all_12 rfl (lv_at hl 2 rfl) ?_
      refine lv_aload_n hx hb dX4_all_13 rfl (lv_at hl 0 rfl) ?_
      refine va_get (D := (dC, dI)) (ci := 2) (v := .ref av) (C := RX4) (T := TX4) (N := 2) hx hb hts in_X4 hown hK hP 0 rfl rfl 0 (by decide) (hts _ q529) (fun _ h9 => h9) rfl dX4_all_14 ?_
      refine lv_iload_n hx hb dX4_all_17 rfl (lv_at hl 2 rfl) ?_
      refine xa_ld (v := fv i) hx hb hK hP 1 0 rfl rfl i rfl h64 (by decide) (hf2 i (Nat.le_refl i)) dX4_all_18 ?_
      refine lv_iload_n hx hb dX4_all_19 rfl (lv_at hl 1 rfl) ?_
      refine lv_iload_n hx hb dX4_all_20 rfl (lv_at hl 2 rfl) ?_
      refine xi_mul hx hb (p0 * (nI i)) rfl dX4_all_21 ?_
      refine lv_bipush (v := 64) hx hb dX4_all_22 (by decide +kernel) ?_
      refine xi_mul hx hb ((p0 * (nI i)) * 64) rfl dX4_all_24 ?_
      refine xi_add hx hb ((fv i) + ((p0 * (nI i)) * 64)) rfl dX4_all_25 ?_
      refine lv_bipush (v := (-64)) hx hb dX4_all_26 (by decide +kernel) ?_
      refine xi_and hx hb (((fv i) + ((p0 * (nI i)) * 64)) &&& (-64)) rfl dX4_all_28 ?_
      refine lv_iload_n hx hb dX4_all_29 rfl (lv_at hl 2 rfl) ?_
      refine xi_add hx hb (nv (fv i + p0 * nI i * 64) i) (x_oradd _ h64) dX4_all_30 ?_
      refine xa_st hx hb hK hP hD hS 1 0 rfl rfl i rfl h64 (by decide) (upd f i (nv (fv i + p0 * nI i * 64) i)) rfl dX4_all_31 (fun H locs hP hD hS => ?_)
      have hP : va_P (dC, dI) vwCl [(ax, .inr (2, [.ref av, .ref mi])), (av, .inl (d, 64, .inl (upd f i (nv (fv i + p0 * nI i * 64) i)))), (mi, .inl (dz, 64, .inl fb))] H := hP
      have hD : va_D A [(ax, .inr (2, [.ref av, .ref mi])), (av, .inl (d, 64, .inl (upd f i (nv (fv i + p0 * nI i * 64) i)))), (mi, .inl (dz, 64, .inl fb))] := hD
      refine lv_iinc (v := nI (i + 1)) (lv' := [(2, .int (nI (i + 1))), (0, .ref ax), (1, .int p0)]) hx hb dX4_all_32 hl (k := 2) rfl (x_iinc1 i) (by decide) rfl (fun ls hl => ?_)
      refine lv_goto (tgt := 2) hx hb dX4_all_35 (by decide) ?_
      exact ih (i + 1) _ (by omega) (by omega) (fun j hj => by
        by_cases q : j = i
        · rw [q, ud_e, if_pos rfl]
        · rw [ud_e, if_neg q]; exact hf j (by omega)) (fun j hj => by
        rw [ud_e, if_neg (show j ≠ i by omega)]; exact hf2 j (by omega)) H locs hP hD hS ls (lv_sub hl [1, 2, 0] rfl)
set_option maxHeartbeats 4000000 in
set_option maxRecDepth 100000 in
/-- the model's all(step) -/
theorem metX4_all (l : Launch) (dC : Nat → ClassId) (dI : Nat → Nat → Nat) (d dz : ClassId) (ay mv mi z : Nat) (fv fb : Nat → Int32) (hB : ∀ k, k < 64 → fb k = 0 ∨ fb k = 1) (p0 : Int32) : Met l yX4_all wsX4_all ({ frames := 1, cells := 0, slots := 0, locals := 40 }) (va_Pc [.ref ay, .int p0] (fun U => U.heap.size = z ∧ va_P (dC, dI) vwCl [(ay, .inr (2, [.ref mv, .ref mi])), (mv, .inl (d, 64, .inl fv)), (mi, .inl (dz, 64, .inl fb))] U.heap ∧ va_K (dC, dI) vwCl [(d, .int), (dz, .boolean)] U ∧ va_D (fun _ => True) [(ay, .inr (2, [.ref mv, .ref mi])), (mv, .inl (d, 64, .inl fv)), (mi, .inl (dz, 64, .inl fb))])) (va_Qv (fun u : (Nat → Int32) × (Nat → Int32) => u.2 = fb ∧ ∀ j, j < 64 → u.1 j = nv (fv j + p0 * nI j * 64) j) (BM3 dC dI d dz (va_A [(ay, .inr (2, [.ref mv, .ref mi])), (mv, .inl (d, 64, .inl fv)), (mi, .inl (dz, 64, .inl fb))] z) ay mv mi) (va_A [(ay, .inr (2, [.ref mv, .ref mi])), (mv, .inl (d, 64, .inl fv)), (mi, .inl (dz, 64, .inl fb))] z)) 0 0 (va_A [(ay, .inr (2, [.ref mv, .ref mi])), (mv, .inl (d, 64, .inl fv)), (mi, .inl (dz, 64, .inl fb))] z) := by
  refine Met.ofW (cc := cX4_all) (maxL := 3) (ret := none) (by decide) rfl ?_
  intro p e s m args below meth c s₁ B hml hv
  obtain ⟨rfl, hsz, hP, hK, hD0⟩ := hv
  have hx := B.exec
  have hb := B.bytes
  have hr := B.returns
  have hts := atoms_spec (ws := wsX4_all) B.pre
  have hts : ∀ w ∈ lw_all, w.before _ s = true := fun w h => hts w (List.mem_cons_of_mem _ h)
  have hown : s.vm.findClass RX4 = some m.cls := findClass_of_methodNamed B.named
  have hlocks := B.notSynchronized
  subst hsz
  have hD := hD0.self (sz := s.heap.size)
  generalize hAe : va_A [(ay, .inr (2, [.ref mv, .ref mi])), (mv, .inl (d, 64, .inl fv)), (mi, .inl (dz, 64, .inl fb))] s.heap.size = A at hD ⊢
  have hA : ∀ q : Nat, s.heap.size ≤ q → A q := fun q h => by rw [← hAe]; exact Or.inr h
  have hS : va_S A s.heap s.heap [] := va_S.rf
  have hP : va_P (dC, dI) vwCl [(ay, .inr (2, [.ref mv, .ref mi])), (mv, .inl (d, 64, .inl fv)), (mi, .inl (dz, 64, .inl fb))] s.heap := hP
  have hl := lv_entry ([.ref ay, .int p0]) (n := 3) (Nat.le_of_ble_eq_true rfl)
  rw [lg_entry_eq]
  generalize (lg_sl ([.ref ay, .int p0]) ++ List.replicate (3 - (lg_sl ([.ref ay, .int p0])).length) Slot.unset).toArray = ls at hl ⊢
  have hl : lv_has ls 3 [(0, .ref ay), (1, .int p0)] := hl
  refine lv_iconst (v := nI 0) hx hb dX4_all_0 (by decide +kernel) ?_
  refine lv_istore_n (lv' := [(2, .int (nI 0)), (0, .ref ay), (1, .int p0)]) hx hb dX4_all_1 rfl hl (by decide) rfl (fun ls hl => ?_)
  refine all4_loop hx hb hown hts hK ?_ 65 0 fv (by omega) (by omega) (fun j hj => absurd hj (by omega)) (fun j _ => rfl) s.heap [] hP hD hS ls (lv_sub hl [1, 2, 0] rfl)
  intro f H locs ls hf hP hD hS hl
  have hP9 := hP.sub (ws' := [(ay, .inr (2, [.ref mv, .ref mi])), (mv, .inl (d, 64, .inl f)), (mi, .inl (dz, 64, .inl fb))]) [0, 1, 2] rfl
  have hD9 := hD.sub (ws' := [(ay, .inr (2, [.ref mv, .ref mi])), (mv, .inl (d, 64, .inl f)), (mi, .inl (dz, 64, .inl fb))]) [0, 1, 2] (by decide) rfl
  have hK9 := hK.sub (tys' := [(d, .int), (dz, .boolean)]) [0, 1] rfl
  exact W.vret hx hb hr (fun t ht hW => ⟨⟨(f, fb), rfl, ⟨rfl, hf⟩, by rw [ht]; exact hP9, va_K.moved hW.alike hK9, hD9⟩, hS.F ht⟩) hS.2.2 dX4_all_38
set_option maxHeartbeats 4000000 in
set_option maxRecDepth 100000 in
/-- the model's inside(i) -/
theorem metX4_inside (l : Launch) (dC : Nat → ClassId) (dI : Nat → Nat → Nat) (d dz : ClassId) (ay mv mi z : Nat) (fv fb : Nat → Int32) (hB : ∀ k, k < 64 → fb k = 0 ∨ fb k = 1) (p0 : Int32) : Met l yX4_inside wsX4_inside ({ frames := 1, cells := 0, slots := 0, locals := 40 }) (va_Pc [.ref ay, .int p0] (fun U => U.heap.size = z ∧ va_P (dC, dI) vwCl [(ay, .inr (2, [.ref mv, .ref mi])), (mv, .inl (d, 64, .inl fv)), (mi, .inl (dz, 64, .inl fb))] U.heap ∧ va_K (dC, dI) vwCl [(d, .int), (dz, .boolean)] U ∧ va_D (fun _ => True) [(ay, .inr (2, [.ref mv, .ref mi])), (mv, .inl (d, 64, .inl fv)), (mi, .inl (dz, 64, .inl fb))])) (va_Qi (fun (r : Int32) (_ : Unit) => r = fb (lo6 p0)) (fun _ => BM3 dC dI d dz (va_A [(ay, .inr (2, [.ref mv, .ref mi])), (mv, .inl (d, 64, .inl fv)), (mi, .inl (dz, 64, .inl fb))] z) ay mv mi (fv, fb)) (va_A [(ay, .inr (2, [.ref mv, .ref mi])), (mv, .inl (d, 64, .inl fv)), (mi, .inl (dz, 64, .inl fb))] z)) 0 0 (va_A [(ay, .inr (2, [.ref mv, .ref mi])), (mv, .inl (d, 64, .inl fv)), (mi, .inl (dz, 64, .inl fb))] z) := by
  refine Met.ofW (cc := cX4_inside) (maxL := 2) (ret := (some .boolean)) (by decide) rfl ?_
  intro p e s m args below meth c s₁ B hml hv
  obtain ⟨rfl, hsz, hP, hK, hD0⟩ := hv
  have hx := B.exec
  have hb := B.bytes
  have hr := B.returns
  have hts := atoms_spec (ws := wsX4_inside) B.pre
  have hts : ∀ w ∈ lw_all, w.before _ s = true := fun w h => hts w (List.mem_cons_of_mem _ h)
  have hown : s.vm.findClass RX4 = some m.cls := findClass_of_methodNamed B.named
  have hlocks := B.notSynchronized
  subst hsz
  have hD := hD0.self (sz := s.heap.size)
  generalize hAe : va_A [(ay, .inr (2, [.ref mv, .ref mi])), (mv, .inl (d, 64, .inl fv)), (mi, .inl (dz, 64, .inl fb))] s.heap.size = A at hD ⊢
  have hA : ∀ q : Nat, s.heap.size ≤ q → A q := fun q h => by rw [← hAe]; exact Or.inr h
  have hS : va_S A s.heap s.heap [] := va_S.rf
  have hP : va_P (dC, dI) vwCl [(ay, .inr (2, [.ref mv, .ref mi])), (mv, .inl (d, 64, .inl fv)), (mi, .inl (dz, 64, .inl fb))] s.heap := hP
  have hl := lv_entry ([.ref ay, .int p0]) (n := 2) (Nat.le_of_ble_eq_true rfl)
  rw [lg_entry_eq]
  generalize (lg_sl ([.ref ay, .int p0]) ++ List.replicate (2 - (lg_sl ([.ref ay, .int p0])).length) Slot.unset).toArray = ls at hl ⊢
  have hl : lv_has ls 2 [(0, .ref ay), (1, .int p0)] := hl
  refine lv_aload_n hx hb dX4_inside_0 rfl (lv_at hl 0 rfl) ?_
  refine va_get (D := (dC, dI)) (ci := 2) (v := .ref mi) (C := RX4) (T := TX4) (N := 2) hx hb hts in_X4 hown hK hP 0 rfl rfl 1 (by decide) (hts _ q530) (fun _ h9 => h9) rfl dX4_inside_1 ?_
  refine lv_iload_n hx hb dX4_inside_4 rfl (lv_at hl 1 rfl) ?_
  refine lv_bipush (v := 63) hx hb dX4_inside_5 (by decide +kernel) ?_
  refine xi_and hx hb (nI (lo6 p0)) (x_and63 p0) dX4_inside_7 ?_
  refine xz_ld (v := fb (lo6 p0)) hx hb hK hP 2 1 rfl rfl (lo6 p0) rfl (lo6_lt p0) (by decide) rfl dX4_inside_8 ?_
  have hP9 := hP.sub (ws' := [(ay, .inr (2, [.ref mv, .ref mi])), (mv, .inl (d, 64, .inl fv)), (mi, .inl (dz, 64, .inl fb))]) [0, 1, 2] rfl
  have hD9 := hD.sub (ws' := [(ay, .inr (2, [.ref mv, .ref mi])), (mv, .inl (d, 64, .inl fv)), (mi, .inl (dz, 64, .inl fb))]) [0, 1, 2] (by decide) rfl
  have hK9 := hK.sub (tys' := [(d, .int), (dz, .boolean)]) [0, 1] rfl
  exact W.zret (v := (fb (lo6 p0))) hx hb hr (x_nb (hB _ (lo6_lt p0)).symm) (fun t ht hW => ⟨⟨(fb (lo6 p0)), (), rfl, rfl, by rw [ht]; exact hP9, va_K.moved hW.alike hK9, hD9⟩, hS.F ht⟩) hS.2.2 dX4_inside_9
set_option maxHeartbeats 4000000 in
set_option maxRecDepth 100000 in
/-- waiting(): the loop -/
theorem wait_loop {p : Program} {l : Launch} {e : Env} {R : Room} {s : State} {m : MethodId} {args : Array Value} {below : List Frame} {meth : Method} {c : Code} {Q : State → Prop} {cells slots : Nat} {dC : Nat → ClassId} {dI : Nat → Nat → Nat} {d dz : ClassId} {ay mv mi : Nat} {fv fb : Nat → Int32} (hx : p.tables.exec = Jvm.exec) (hb : c.code = cX4_waiting) (hown : s.vm.findClass RX4 = some m.cls) (hts : ∀ w ∈ lw_all, w.before args s = true) (hK : va_K (dC, dI) vwCl [(d, .int), (dz, .boolean)] s) {H : Heap} {locs : List Loc} (hP : va_P (dC, dI) vwCl [(ay, .inr (2, [.ref mv, .ref mi])), (mv, .inl (d, 64, .inl fv)), (mi, .inl (dz, 64, .inl fb))] H)
    (hexit : ∀ (ls : Array Slot), lv_has ls 3 [(0, .ref ay), (1, .int (nI (cnt fb 64)))] → W p l e R s m args below meth c H locs cells slots Q (F0 m 28 ls [])) :
    ∀ (n i : Nat), 64 - i < n → i ≤ 64 → ∀ (ls : Array Slot), lv_has ls 3 [(0, .ref ay), (1, .int (nI (cnt fb i))), (2, .int (nI i))] → W p l e R s m args below meth c H locs cells slots Q (F0 m 4 ls []) := by
  intro n
  induction n with
  | zero =>
    intro i h1
    exact absurd h1 (by omega)
  | succ n ih =>
    intro i hn hi ls hl
    refine lv_iload_n hx hb dX4_waiting_4 rfl (lv_at hl 2 rfl) ?_
    refine lv_bipush (v := nI 64) hx hb dX4_waiting_5 (by decide +kernel) ?_
    refine lv_icmp_ge (tgt := 28) hx hb dX4_waiting_7 (by decide) (fun c_1 => ?_) (fun c_1 => ?_)
    · have h64 : i = 64 := by have h9 := (nI_leI (by omega) (by omega)).mp c_1; omega
      rw [h64] at hl
      exact hexit ls (lv_sub hl [0, 1] rfl)
    · have h64 : i < 64 := by
        rcases Nat.lt_or_ge i 64 with q | q
        · exact q
        · exact absurd (nI_le q (by omega)) c_1
      have h22 : ∀ (ls : Array Slot), lv_has ls 3 [(0, .ref ay), (1, .int (nI (cnt fb (i + 1)))), (2, .int (nI i))] → W p l e R s m args below meth c H locs cells slots Q (F0 m 22 ls []) := by
        intro ls hl
        refine lv_iinc (v := nI (i + 1)) (lv' := [(2, .int (nI (i + 1))), (0, .ref ay), (1, .int (nI (cnt fb (i + 1))))]) hx hb dX4_waiting_22 hl (k := 2) rfl (x_iinc1 i) (by decide) rfl (fun ls hl => ?_)
        refine lv_goto (tgt := 4) hx hb dX4_waiting_25 (by decide) ?_
        exact ih (i + 1) (by omega) (by omega) ls (lv_sub hl [1, 2, 0] rfl)
      refine lv_aload_n hx hb dX4_waiting_10 rfl (lv_at hl 0 rfl) ?_
      refine va_get (D := (dC, dI)) (ci := 2) (v := .ref mi) (C := RX4) (T := TX4) (N := 2) hx hb hts in_X4 hown hK hP 0 rfl rfl 1 (by decide) (hts _ q530) (fun _ h9 => h9) rfl dX4_waiting_11 ?_
      refine lv_iload_n hx hb dX4_waiting_14 rfl (lv_at hl 2 rfl) ?_
      refine xz_ld (v := fb i) hx hb hK hP 2 1 rfl rfl i rfl h64 (by decide) rfl dX4_waiting_15 ?_
      refine lv_if_eq (tgt := 22) hx hb dX4_waiting_16 (by decide) (fun c_2 => ?_) (fun c_2 => ?_)
      · have hc : cnt fb i = cnt fb (i + 1) := by show cnt fb i = cnt fb i + (if fb i = 0 then 0 else 1); rw [if_pos c_2, Nat.add_zero]
        rw [hc] at hl
        exact h22 ls hl
      · have hc : cnt fb i + 1 = cnt fb (i + 1) := by show cnt fb i + 1 = cnt fb i + (if fb i = 0 then 0 else 1); rw [if_neg c_2]
        refine lv_iinc (v := nI (cnt fb (i + 1))) (lv' := [(1, .int (nI (cnt fb (i + 1)))), (0, .ref ay), (2, .int (nI i))]) hx hb dX4_waiting_19 hl (k := 1) rfl (by rw [← hc]; exact x_iinc1 _) (by decide) rfl (fun ls hl => ?_)
        exact h22 ls (lv_sub hl [1, 0, 2] rfl)
set_option maxHeartbeats 4000000 in
set_option maxRecDepth 100000 in
/-- the model's waiting() -/
theorem metX4_waiting (l : Launch) (dC : Nat → ClassId) (dI : Nat → Nat → Nat) (d dz : ClassId) (ay mv mi z : Nat) (fv fb : Nat → Int32) (hB : ∀ k, k < 64 → fb k = 0 ∨ fb k = 1) : Met l yX4_waiting wsX4_waiting ({ frames := 1, cells := 0, slots := 0, locals := 40 }) (va_Pc [.ref ay] (fun U => U.heap.size = z ∧ va_P (dC, dI) vwCl [(ay, .inr (2, [.ref mv, .ref mi])), (mv, .inl (d, 64, .inl fv)), (mi, .inl (dz, 64, .inl fb))] U.heap ∧ va_K (dC, dI) vwCl [(d, .int), (dz, .boolean)] U ∧ va_D (fun _ => True) [(ay, .inr (2, [.ref mv, .ref mi])), (mv, .inl (d, 64, .inl fv)), (mi, .inl (dz, 64, .inl fb))])) (va_Qi (fun (r : Int32) (_ : Unit) => r = nI (cnt fb 64)) (fun _ => BM3 dC dI d dz (va_A [(ay, .inr (2, [.ref mv, .ref mi])), (mv, .inl (d, 64, .inl fv)), (mi, .inl (dz, 64, .inl fb))] z) ay mv mi (fv, fb)) (va_A [(ay, .inr (2, [.ref mv, .ref mi])), (mv, .inl (d, 64, .inl fv)), (mi, .inl (dz, 64, .inl fb))] z)) 0 0 (va_A [(ay, .inr (2, [.ref mv, .ref mi])), (mv, .inl (d, 64, .inl fv)), (mi, .inl (dz, 64, .inl fb))] z) := by
  refine Met.ofW (cc := cX4_waiting) (maxL := 3) (ret := (some .int)) (by decide) rfl ?_
  intro p e s m args below meth c s₁ B hml hv
  obtain ⟨rfl, hsz, hP, hK, hD0⟩ := hv
  have hx := B.exec
  have hb := B.bytes
  have hr := B.returns
  have hts := atoms_spec (ws := wsX4_waiting) B.pre
  have hts : ∀ w ∈ lw_all, w.before _ s = true := fun w h => hts w (List.mem_cons_of_mem _ h)
  have hown : s.vm.findClass RX4 = some m.cls := findClass_of_methodNamed B.named
  have hlocks := B.notSynchronized
  subst hsz
  have hD := hD0.self (sz := s.heap.size)
  generalize hAe : va_A [(ay, .inr (2, [.ref mv, .ref mi])), (mv, .inl (d, 64, .inl fv)), (mi, .inl (dz, 64, .inl fb))] s.heap.size = A at hD ⊢
  have hA : ∀ q : Nat, s.heap.size ≤ q → A q := fun q h => by rw [← hAe]; exact Or.inr h
  have hS : va_S A s.heap s.heap [] := va_S.rf
  have hP : va_P (dC, dI) vwCl [(ay, .inr (2, [.ref mv, .ref mi])), (mv, .inl (d, 64, .inl fv)), (mi, .inl (dz, 64, .inl fb))] s.heap := hP
  have hl := lv_entry ([.ref ay]) (n := 3) (Nat.le_of_ble_eq_true rfl)
  rw [lg_entry_eq]
  generalize (lg_sl ([.ref ay]) ++ List.replicate (3 - (lg_sl ([.ref ay])).length) Slot.unset).toArray = ls at hl ⊢
  have hl : lv_has ls 3 [(0, .ref ay)] := hl
  refine lv_iconst (v := nI 0) hx hb dX4_waiting_0 (by decide +kernel) ?_
  refine lv_istore_n (lv' := [(1, .int (nI 0)), (0, .ref ay)]) hx hb dX4_waiting_1 rfl hl (by decide) rfl (fun ls hl => ?_)
  refine lv_iconst (v := nI 0) hx hb dX4_waiting_2 (by decide +kernel) ?_
  refine lv_istore_n (lv' := [(2, .int (nI 0)), (1, .int (nI 0)), (0, .ref ay)]) hx hb dX4_waiting_3 rfl hl (by decide) rfl (fun ls hl => ?_)
  refine wait_loop hx hb hown hts hK hP ?_ 65 0 (by omega) (by omega) ls (lv_sub hl [2, 1, 0] rfl)
  intro ls hl
  refine lv_iload_n hx hb dX4_waiting_28 rfl (lv_at hl 1 rfl) ?_
  have hP9 := hP.sub (ws' := [(ay, .inr (2, [.ref mv, .ref mi])), (mv, .inl (d, 64, .inl fv)), (mi, .inl (dz, 64, .inl fb))]) [0, 1, 2] rfl
  have hD9 := hD.sub (ws' := [(ay, .inr (2, [.ref mv, .ref mi])), (mv, .inl (d, 64, .inl fv)), (mi, .inl (dz, 64, .inl fb))]) [0, 1, 2] (by decide) rfl
  have hK9 := hK.sub (tys' := [(d, .int), (dz, .boolean)]) [0, 1] rfl
  exact W.iret (v := (nI (cnt fb 64))) hx hb hr (fun t ht hW => ⟨⟨(nI (cnt fb 64)), (), rfl, rfl, by rw [ht]; exact hP9, va_K.moved hW.alike hK9, hD9⟩, hS.F ht⟩) hS.2.2 dX4_waiting_29
set_option maxHeartbeats 4000000 in
set_option maxRecDepth 100000 in
/-- the model's value(i) -/
theorem metX4_value (l : Launch) (dC : Nat → ClassId) (dI : Nat → Nat → Nat) (d dz : ClassId) (ay mv mi z : Nat) (fv fb : Nat → Int32) (hB : ∀ k, k < 64 → fb k = 0 ∨ fb k = 1) (p0 : Int32) : Met l yX4_value wsX4_value ({ frames := 1, cells := 0, slots := 0, locals := 40 }) (va_Pc [.ref ay, .int p0] (fun U => U.heap.size = z ∧ va_P (dC, dI) vwCl [(ay, .inr (2, [.ref mv, .ref mi])), (mv, .inl (d, 64, .inl fv)), (mi, .inl (dz, 64, .inl fb))] U.heap ∧ va_K (dC, dI) vwCl [(d, .int), (dz, .boolean)] U ∧ va_D (fun _ => True) [(ay, .inr (2, [.ref mv, .ref mi])), (mv, .inl (d, 64, .inl fv)), (mi, .inl (dz, 64, .inl fb))])) (va_Qi (fun (r : Int32) (_ : Unit) => r = fv (lo6 p0)) (fun _ => BM3 dC dI d dz (va_A [(ay, .inr (2, [.ref mv, .ref mi])), (mv, .inl (d, 64, .inl fv)), (mi, .inl (dz, 64, .inl fb))] z) ay mv mi (fv, fb)) (va_A [(ay, .inr (2, [.ref mv, .ref mi])), (mv, .inl (d, 64, .inl fv)), (mi, .inl (dz, 64, .inl fb))] z)) 0 0 (va_A [(ay, .inr (2, [.ref mv, .ref mi])), (mv, .inl (d, 64, .inl fv)), (mi, .inl (dz, 64, .inl fb))] z) := by
  refine Met.ofW (cc := cX4_value) (maxL := 2) (ret := (some .int)) (by decide) rfl ?_
  intro p e s m args below meth c s₁ B hml hv
  obtain ⟨rfl, hsz, hP, hK, hD0⟩ := hv
  have hx := B.exec
  have hb := B.bytes
  have hr := B.returns
  have hts := atoms_spec (ws := wsX4_value) B.pre
  have hts : ∀ w ∈ lw_all, w.before _ s = true := fun w h => hts w (List.mem_cons_of_mem _ h)
  have hown : s.vm.findClass RX4 = some m.cls := findClass_of_methodNamed B.named
  have hlocks := B.notSynchronized
  subst hsz
  have hD := hD0.self (sz := s.heap.size)
  generalize hAe : va_A [(ay, .inr (2, [.ref mv, .ref mi])), (mv, .inl (d, 64, .inl fv)), (mi, .inl (dz, 64, .inl fb))] s.heap.size = A at hD ⊢
  have hA : ∀ q : Nat, s.heap.size ≤ q → A q := fun q h => by rw [← hAe]; exact Or.inr h
  have hS : va_S A s.heap s.heap [] := va_S.rf
  have hP : va_P (dC, dI) vwCl [(ay, .inr (2, [.ref mv, .ref mi])), (mv, .inl (d, 64, .inl fv)), (mi, .inl (dz, 64, .inl fb))] s.heap := hP
  have hl := lv_entry ([.ref ay, .int p0]) (n := 2) (Nat.le_of_ble_eq_true rfl)
  rw [lg_entry_eq]
  generalize (lg_sl ([.ref ay, .int p0]) ++ List.replicate (2 - (lg_sl ([.ref ay, .int p0])).length) Slot.unset).toArray = ls at hl ⊢
  have hl : lv_has ls 2 [(0, .ref ay), (1, .int p0)] := hl
  refine lv_aload_n hx hb dX4_value_0 rfl (lv_at hl 0 rfl) ?_
  refine va_get (D := (dC, dI)) (ci := 2) (v := .ref mv) (C := RX4) (T := TX4) (N := 2) hx hb hts in_X4 hown hK hP 0 rfl rfl 0 (by decide) (hts _ q529) (fun _ h9 => h9) rfl dX4_value_1 ?_
  refine lv_iload_n hx hb dX4_value_4 rfl (lv_at hl 1 rfl) ?_
  refine lv_bipush (v := 63) hx hb dX4_value_5 (by decide +kernel) ?_
  refine xi_and hx hb (nI (lo6 p0)) (x_and63 p0) dX4_value_7 ?_
  refine xa_ld (v := fv (lo6 p0)) hx hb hK hP 1 0 rfl rfl (lo6 p0) rfl (lo6_lt p0) (by decide) rfl dX4_value_8 ?_
  have hP9 := hP.sub (ws' := [(ay, .inr (2, [.ref mv, .ref mi])), (mv, .inl (d, 64, .inl fv)), (mi, .inl (dz, 64, .inl fb))]) [0, 1, 2] rfl
  have hD9 := hD.sub (ws' := [(ay, .inr (2, [.ref mv, .ref mi])), (mv, .inl (d, 64, .inl fv)), (mi, .inl (dz, 64, .inl fb))]) [0, 1, 2] (by decide) rfl
  have hK9 := hK.sub (tys' := [(d, .int), (dz, .boolean)]) [0, 1] rfl
  exact W.iret (v := (fv (lo6 p0))) hx hb hr (fun t ht hW => ⟨⟨(fv (lo6 p0)), (), rfl, rfl, by rw [ht]; exact hP9, va_K.moved hW.alike hK9, hD9⟩, hS.F ht⟩) hS.2.2 dX4_value_9
set_option maxHeartbeats 4000000 in
set_option maxRecDepth 100000 in
/-- drain(): the loop -/
theorem drain_loop {p : Program} {l : Launch} {e : Env} {R : Room} {s : State} {m : MethodId} {args : Array Value} {below : List Frame} {meth : Method} {c : Code} {Q : State → Prop} {cells slots : Nat} {dC : Nat → ClassId} {dI : Nat → Nat → Nat} {A : Nat → Prop} {H0 : Heap} {d dz : ClassId} {ay mv mi : Nat} {fv : Nat → Int32} (hx : p.tables.exec = Jvm.exec) (hb : c.code = cX4_drain) (hown : s.vm.findClass RX4 = some m.cls) (hts : ∀ w ∈ lw_all, w.before args s = true) (hK : va_K (dC, dI) vwCl [(d, .int), (dz, .boolean)] s)
    (hexit : ∀ (f : Nat → Int32) (H : Heap) (locs : List Loc) (ls : Array Slot), (∀ j, j < 64 → f j = 0) → va_P (dC, dI) vwCl [(ay, .inr (2, [.ref mv, .ref mi])), (mv, .inl (d, 64, .inl fv)), (mi, .inl (dz, 64, .inl f))] H → va_D A [(ay, .inr (2, [.ref mv, .ref mi])), (mv, .inl (d, 64, .inl fv)), (mi, .inl (dz, 64, .inl f))] → va_S A H0 H locs → W p l e R s m args below meth c H locs cells slots Q (F0 m 21 ls [])) :
    ∀ (n i : Nat) (f : Nat → Int32), 64 - i < n → i ≤ 64 → (∀ j, j < i → f j = 0) → ∀ (H : Heap) (locs : List Loc), va_P (dC, dI) vwCl [(ay, .inr (2, [.ref mv, .ref mi])), (mv, .inl (d, 64, .inl fv)), (mi, .inl (dz, 64, .inl f))] H → va_D A [(ay, .inr (2, [.ref mv, .ref mi])), (mv, .inl (d, 64, .inl fv)), (mi, .inl (dz, 64, .inl f))] → va_S A H0 H locs → ∀ (ls : Array Slot), lv_has ls 2 [(0, .ref ay), (1, .int (nI i))] → W p l e R s m args below meth c H locs cells slots Q (F0 m 2 ls []) := by
  intro n
  induction n with
  | zero =>
    intro i f h1
    exact absurd h1 (by omega)
  | succ n ih =>
    intro i f hn hi hf H locs hP hD hS ls hl
    refine lv_iload_n hx hb dX4_drain_2 rfl (lv_at hl 1 rfl) ?_
    refine lv_bipush (v := nI 64) hx hb dX4_drain_3 (by decide +kernel) ?_
    refine lv_icmp_ge (tgt := 21) hx hb dX4_drain_5 (by decide) (fun c_1 => ?_) (fun c_1 => ?_)
    · have h64 : i = 64 := by have h9 := (nI_leI (by omega) (by omega)).mp c_1; omega
      exact hexit f H locs ls (fun j hj => hf j (by omega)) hP hD hS
    · have h64 : i < 64 := by
        rcases Nat.lt_or_ge i 64 with q | q
        · exact q
        · exact absurd (nI_le q (by omega)) c_1
      refine lv_aload_n hx hb dX4_drain_8 rfl (lv_at hl 0 rfl) ?_
      refine va_get (D := (dC, dI)) (ci := 2) (v := .ref mi) (C := RX4) (T := TX4) (N := 2) hx hb hts in_X4 hown hK hP 0 rfl rfl 1 (by decide) (hts _ q530) (fun _ h9 => h9) rfl dX4_drain_9 ?_
      refine lv_iload_n hx hb dX4_drain_12 rfl (lv_at hl 1 rfl) ?_
      refine lv_iconst (v := 0) hx hb dX4_drain_13 (by decide +kernel) ?_
      refine xz_st hx hb hK hP hD hS 2 1 rfl rfl i rfl h64 (by decide) (upd f i 0) rfl rfl dX4_drain_14 (fun H locs hP hD hS => ?_)
      have hP : va_P (dC, dI) vwCl [(ay, .inr (2, [.ref mv, .ref mi])), (mv, .inl (d, 64, .inl fv)), (mi, .inl (dz, 64, .inl (upd f i 0)))] H := hP
      have hD : va_D A [(ay, .inr (2, [.ref mv, .ref mi])), (mv, .inl (d, 64, .inl fv)), (mi, .inl (dz, 64, .inl (upd f i 0)))] := hD
      refine lv_iinc (v := nI (i + 1)) (lv' := [(1, .int (nI (i + 1))), (0, .ref ay)]) hx hb dX4_drain_15 hl (k := 1) rfl (x_iinc1 i) (by decide) rfl (fun ls hl => ?_)
      refine lv_goto (tgt := 2) hx hb dX4_drain_18 (by decide) ?_
      exact ih (i + 1) _ (by omega) (by omega) (fun j hj => by
        by_cases q : j = i
        · rw [q, ud_e, if_pos rfl]
        · rw [ud_e, if_neg q]; exact hf j (by omega)) H locs hP hD hS ls (lv_sub hl [1, 0] rfl)
set_option maxHeartbeats 4000000 in
set_option maxRecDepth 100000 in
/-- the model's drain() -/
theorem metX4_drain (l : Launch) (dC : Nat → ClassId) (dI : Nat → Nat → Nat) (d dz : ClassId) (ay mv mi z : Nat) (fv fb : Nat → Int32) (hB : ∀ k, k < 64 → fb k = 0 ∨ fb k = 1) : Met l yX4_drain wsX4_drain ({ frames := 1, cells := 0, slots := 0, locals := 40 }) (va_Pc [.ref ay] (fun U => U.heap.size = z ∧ va_P (dC, dI) vwCl [(ay, .inr (2, [.ref mv, .ref mi])), (mv, .inl (d, 64, .inl fv)), (mi, .inl (dz, 64, .inl fb))] U.heap ∧ va_K (dC, dI) vwCl [(d, .int), (dz, .boolean)] U ∧ va_D (fun _ => True) [(ay, .inr (2, [.ref mv, .ref mi])), (mv, .inl (d, 64, .inl fv)), (mi, .inl (dz, 64, .inl fb))])) (va_Qv (fun u : (Nat → Int32) × (Nat → Int32) => u.1 = fv ∧ ∀ k, k < 64 → u.2 k = 0) (BM3 dC dI d dz (va_A [(ay, .inr (2, [.ref mv, .ref mi])), (mv, .inl (d, 64, .inl fv)), (mi, .inl (dz, 64, .inl fb))] z) ay mv mi) (va_A [(ay, .inr (2, [.ref mv, .ref mi])), (mv, .inl (d, 64, .inl fv)), (mi, .inl (dz, 64, .inl fb))] z)) 0 0 (va_A [(ay, .inr (2, [.ref mv, .ref mi])), (mv, .inl (d, 64, .inl fv)), (mi, .inl (dz, 64, .inl fb))] z) := by
  refine Met.ofW (cc := cX4_drain) (maxL := 2) (ret := none) (by decide) rfl ?_
  intro p e s m args below meth c s₁ B hml hv
  obtain ⟨rfl, hsz, hP, hK, hD0⟩ := hv
  have hx := B.exec
  have hb := B.bytes
  have hr := B.returns
  have hts := atoms_spec (ws := wsX4_drain) B.pre
  have hts : ∀ w ∈ lw_all, w.before _ s = true := fun w h => hts w (List.mem_cons_of_mem _ h)
  have hown : s.vm.findClass RX4 = some m.cls := findClass_of_methodNamed B.named
  have hlocks := B.notSynchronized
  subst hsz
  have hD := hD0.self (sz := s.heap.size)
  generalize hAe : va_A [(ay, .inr (2, [.ref mv, .ref mi])), (mv, .inl (d, 64, .inl fv)), (mi, .inl (dz, 64, .inl fb))] s.heap.size = A at hD ⊢
  have hA : ∀ q : Nat, s.heap.size ≤ q → A q := fun q h => by rw [← hAe]; exact Or.inr h
  have hS : va_S A s.heap s.heap [] := va_S.rf
  have hP : va_P (dC, dI) vwCl [(ay, .inr (2, [.ref mv, .ref mi])), (mv, .inl (d, 64, .inl fv)), (mi, .inl (dz, 64, .inl fb))] s.heap := hP
  have hl := lv_entry ([.ref ay]) (n := 2) (Nat.le_of_ble_eq_true rfl)
  rw [lg_entry_eq]
  generalize (lg_sl ([.ref ay]) ++ List.replicate (2 - (lg_sl ([.ref ay])).length) Slot.unset).toArray = ls at hl ⊢
  have hl : lv_has ls 2 [(0, .ref ay)] := hl
  refine lv_iconst (v := nI 0) hx hb dX4_drain_0 (by decide +kernel) ?_
  refine lv_istore_n (lv' := [(1, .int (nI 0)), (0, .ref ay)]) hx hb dX4_drain_1 rfl hl (by decide) rfl (fun ls hl => ?_)
  refine drain_loop hx hb hown hts hK ?_ 65 0 fb (by omega) (by omega) (fun j hj => absurd hj (by omega)) s.heap [] hP hD hS ls (lv_sub hl [1, 0] rfl)
  intro f H locs ls hf hP hD hS
  have hP9 := hP.sub (ws' := [(ay, .inr (2, [.ref mv, .ref mi])), (mv, .inl (d, 64, .inl fv)), (mi, .inl (dz, 64, .inl f))]) [0, 1, 2] rfl
  have hD9 := hD.sub (ws' := [(ay, .inr (2, [.ref mv, .ref mi])), (mv, .inl (d, 64, .inl fv)), (mi, .inl (dz, 64, .inl f))]) [0, 1, 2] (by decide) rfl
  have hK9 := hK.sub (tys' := [(d, .int), (dz, .boolean)]) [0, 1] rfl
  exact W.vret hx hb hr (fun t ht hW => ⟨⟨(fv, f), rfl, ⟨rfl, hf⟩, by rw [ht]; exact hP9, va_K.moved hW.alike hK9, hD9⟩, hS.F ht⟩) hS.2.2 dX4_drain_21
end
section
/-! THE CLAIM OUT OF ONE WALK OF THE LAW'S BODY. Your part is whole_start (and what it stands on); all else here is the same for every law, but numbers. -/
def R_law : String := "IndirectHeapLaw"
def lw_P (b : Addr) (xs : List Int32) (args : Array Value) (s : State) : Prop := args = #[.ref b] ∧ s.IntsAt b xs ∧ xs.length ≤ 384 ∧ (Jvm.Cond.and given_1 narrow_1).before args s = true
def lw_Q (_ : Array Value) (s : State) (o : Outcome) (t : State) : Prop := o = .returned (some (.int 1)) ∧ Framed s o t [] 600128 7301098
def lw_Z (below : List Frame) (a : Array Value) (s : State) : State → Prop := fun t => ∃ o, t.status = .running ∧ Ended t below o ∧ lw_Q a s o t
/-- the law's own end, with 1 on the stack, nothing written that was there before, its room as the claim has it -/
theorem lw_ret {p : Program} {l : Launch} {e : Env} {s : State} {m : MethodId} {below : List Frame} {meth : Method} {c : Code} {b : Nat} (hx : p.tables.exec = Jvm.exec) (hb : c.code = code) (hr : meth.sig.returnType = ret) (hlocks : meth.locks = false) {pc : Nat} {H : Heap} {ls : Array Slot} (hdg : decode code pc = .ok (.ireturn, 1)) : W p l e room_1 s m #[Value.ref b] below meth c H [] 600128 7301098 (lw_Z below #[Value.ref b] s) (F0 m pc ls [.int 1]) := by
  intro T hT X
  obtain ⟨fs, hret, hrun, hended, hW, hframe⟩ := X.leave (v := some (.int 1)) (hlocks := hlocks) (fun h => by rw [hr] at h; cases h)
  have hmeth' : T.vm.method? m = some meth := X.method'
  refine ⟨T.setFrames fs, ?_, .returned (some (.int 1)), hrun, hended, rfl, ⟨_, rfl⟩, hW, hframe⟩
  jvm_step X.here [X.here.top, hx, hb, hdg, hmeth', hr, ret, narrow_b1]
  (try refine ⟨rfl, ?_⟩); (try refine ⟨rfl, ?_⟩)
  first | (intro acts; rw [hret _ acts rfl rfl rfl]) | rw [hret _ _ rfl rfl rfl]
  exact Steps.refl _
/-- what holds at the law's entry: the machine, the code, the tables' words (any of lw_tbl by 'hts w (by decide +kernel)'), the script of L ints xs at the cell b, what the Statement gives of the start (any of its parts by flat_of_before) -/
def lw_At (p : Program) (s : State) (m : MethodId) (meth : Method) (c : Code) (b L : Nat) (xs : Nat → Int32) : Prop :=
  p.tables.exec = Jvm.exec ∧ c.code = code ∧ meth.sig.returnType = ret ∧ c.maxLocals = 4 ∧ s.vm.findClass R_law = some m.cls ∧ (∀ w ∈ lw_tbl, w.before #[Value.ref b] s = true) ∧ va_X b L xs s s.heap ∧ b < s.heap.size ∧ meth.locks = false ∧ (Jvm.Cond.and given_1 narrow_1).before #[Value.ref b] s = true
end
section
/-! THE COUPLING of the class and the model, and what each call of the law does to it: no program in sight -/
theorem x_oradd1 (v : Int32) {k : Nat} (hk : k < 64) : nv v k &&& 63 = nI k := x_low v hk
/-- the class's state (keys M, sz of them, values fv, heap hp, inv fi) and the model's (values gv, flags fb) -/
def LI (M : Nat → Prop) (sz : Nat) (fv : Nat → Int32) (hp : Nat → Nat) (fi gv fb : Nat → Int32) : Prop :=
  Good M sz fv hp fi ∧ (∀ k, k < 64 → fv k &&& 63 = nI k) ∧ (∀ k, k < 64 → gv k = fv k) ∧ (∀ k, k < 64 → (M k ∧ fb k = 1) ∨ (¬ M k ∧ fb k = 0)) ∧ cnt fb 64 = sz
section CP
variable {M : Nat → Prop} {sz : Nat} {fv : Nat → Int32} {hp : Nat → Nat} {fi gv fb : Nat → Int32}
theorem LI.start (hG : Good (fun _ => False) sz fv hp fi) (h0 : sz = 0) (hv : ∀ k, k < 64 → fv k = nI k) (hg : ∀ k, k < 64 → gv k = nI k) (hb : ∀ k, k < 64 → fb k = 0) : LI (fun _ => False) sz fv hp fi gv fb :=
  ⟨hG, fun k hk => by rw [hv k hk]; exact x_low0 hk, fun k hk => by rw [hv k hk, hg k hk], fun k hk => Or.inr ⟨id, hb k hk⟩, by rw [h0]; exact cnt_0 64 hb⟩
theorem LI.flag (h : LI M sz fv hp fi gv fb) : ∀ k, k < 64 → fb k = 0 ∨ fb k = 1 := fun k hk => (h.2.2.2.1 k hk).elim (fun q => Or.inr q.2) (fun q => Or.inl q.2)
theorem LI.set (h : LI M sz fv hp fi gv fb) {k : Nat} (hk : k < 64) (hM : M k) : fb k = 1 := (h.2.2.2.1 k hk).elim (fun q => q.2) (fun q => absurd hM q.1)
theorem LI.clr (h : LI M sz fv hp fi gv fb) {k : Nat} (hk : k < 64) (hM : ¬ M k) : fb k = 0 := (h.2.2.2.1 k hk).elim (fun q => absurd q.1 hM) (fun q => q.2)
theorem LI.mem (h : LI M sz fv hp fi gv fb) {k : Nat} (hk : k < 64) (hb : fb k ≠ 0) : M k := (h.2.2.2.1 k hk).elim (fun q => q.1) (fun q => absurd q.2 hb)
theorem LI.room (h : LI M sz fv hp fi gv fb) {k : Nat} (hk : k < 64) (hM : ¬ M k) : sz < 64 := by
  rw [← h.2.2.2.2]
  exact cnt_lt (h.clr hk hM) 64 hk
theorem LI.ne0 : (1 : Int32) ≠ 0 := by decide
/-- the model's head is the heap's -/
theorem LI.head (h : LI M sz fv hp fi gv fb) (h0 : 0 < sz) {t : Nat} (ht : t < 64) (hb : fb t ≠ 0) (hm : ∀ j, j < 64 → fb j ≠ 0 → gv t ≤ gv j) : t = hp 0 := by
  have hG := h.1
  have h1 : M (hp 0) := hG.2.1.2.2.1 0 h0
  have h2 : hp 0 < 64 := hG.2.1.1 0
  have h3 := hm (hp 0) h2 (by rw [h.set h2 h1]; exact LI.ne0)
  rw [h.2.2.1 t ht, h.2.2.1 _ h2] at h3
  obtain ⟨j, hj, e⟩ := hG.2.1.2.2.2.1 t (h.mem ht hb)
  have h4 := HO.min hG.2.2 (j + 1) j (Nat.lt_succ_self j) hj
  rw [e] at h4
  have h5 := kv_le.mp h3
  have h6 : fv t = fv (hp 0) := Int32.toInt_inj.mp (Int.le_antisymm h5 h4)
  have h7 := h.2.1 t ht
  rw [h6, h.2.1 _ h2] at h7
  exact (nI_inj h2 ht h7).symm
theorem LI.none (h : LI M sz fv hp fi gv fb) (h0 : sz = 0) : ∀ k, k < 64 → fb k = 0 := by
  intro k hk
  refine h.clr hk (fun hM => ?_)
  obtain ⟨j, hj, -⟩ := h.1.2.1.2.2.2.1 k hM
  omega
theorem LI.zero (h : LI M sz fv hp fi gv fb) (hz : ∀ k, k < 64 → fb k = 0) : sz = 0 := by
  rw [← h.2.2.2.2]
  exact cnt_0 64 hz
theorem LI.some (h : LI M sz fv hp fi gv fb) (h0 : 0 < sz) : ¬ ∀ k, k < 64 → fb k = 0 := fun hz => by
  have := h.zero hz
  omega
/-- other values, the same at both sides -/
theorem LI.vals (h : LI M sz fv hp fi gv fb) {fv2 gv2 : Nat → Int32} {hp2 : Nat → Nat} {fi2 : Nat → Int32} (hG : Good M sz fv2 hp2 fi2) (hl : ∀ k, k < 64 → fv2 k &&& 63 = nI k) (hv : ∀ k, k < 64 → gv2 k = fv2 k) : LI M sz fv2 hp2 fi2 gv2 fb := ⟨hG, hl, hv, h.2.2.2.1, h.2.2.2.2⟩
theorem LI.put (h : LI M sz fv hp fi gv fb) {hp2 : Nat → Nat} {fi2 : Nat → Int32} {k : Nat} (hk : k < 64) (v : Int32) (hG : Good M sz (upd fv k (nv v k)) hp2 fi2) : LI M sz (upd fv k (nv v k)) hp2 fi2 (upd gv k (nv v k)) fb := by
  refine h.vals hG (fun j hj => ?_) (fun j hj => ?_)
  · by_cases q : j = k
    · rw [q, ud_e, if_pos rfl]; exact x_oradd1 v hk
    · rw [ud_e, if_neg q]; exact h.2.1 j hj
  · by_cases q : j = k
    · rw [q, ud_e, if_pos rfl, ud_e, if_pos rfl]
    · rw [ud_e, if_neg q, ud_e, if_neg q]; exact h.2.2.1 j hj
theorem LI.all (h : LI M sz fv hp fi gv fb) {fv2 gv2 : Nat → Int32} {hp2 : Nat → Nat} {fi2 : Nat → Int32} (p0 : Int32) (hG : Good M sz fv2 hp2 fi2) (h1 : ∀ j, j < 64 → fv2 j = nv (fv j + p0 * nI j * 64) j) (h2 : ∀ j, j < 64 → gv2 j = nv (gv j + p0 * nI j * 64) j) : LI M sz fv2 hp2 fi2 gv2 fb :=
  h.vals hG (fun k hk => by rw [h1 k hk]; exact x_oradd1 _ hk) (fun k hk => by rw [h1 k hk, h2 k hk, h.2.2.1 k hk])
theorem LI.enter (h : LI M sz fv hp fi gv fb) {k sz2 : Nat} {hp2 : Nat → Nat} {fi2 : Nat → Int32} {r q : Int32} (hk : k < 64) (hx : (M k ∧ r = 0 ∧ sz2 = sz) ∨ (¬ M k ∧ r = 1 ∧ sz2 = sz + 1)) (hG : Good (fun j => M j ∨ j = k) sz2 fv hp2 fi2) (hm : (fb k = 0 ∧ q = 1) ∨ (fb k ≠ 0 ∧ q = 0)) : r = q ∧ LI (fun j => M j ∨ j = k) sz2 fv hp2 fi2 gv (upd fb k 1) := by
  have hfl : ∀ j, j < 64 → ((M j ∨ j = k) ∧ upd fb k 1 j = 1) ∨ (¬ (M j ∨ j = k) ∧ upd fb k 1 j = 0) := fun j hj => by
    by_cases e : j = k
    · exact Or.inl ⟨Or.inr e, by rw [e, ud_e, if_pos rfl]⟩
    · rw [ud_e, if_neg e]
      rcases h.2.2.2.1 j hj with ⟨a, b⟩ | ⟨a, b⟩
      · exact Or.inl ⟨Or.inl a, b⟩
      · exact Or.inr ⟨fun z => z.elim a e, b⟩
  rcases hx with ⟨hM, hr, hs⟩ | ⟨hM, hr, hs⟩
  · have h1 := h.set hk hM
    have hq : q = 0 := by
      rcases hm with ⟨a, -⟩ | ⟨-, a⟩
      · rw [h1] at a; exact absurd a LI.ne0
      · exact a
    refine ⟨hr.trans hq.symm, hG, h.2.1, h.2.2.1, hfl, ?_⟩
    rw [hs, ← h.2.2.2.2]
    refine cnt_same 64 (fun j hj => ?_)
    by_cases e : j = k
    · rw [e, ud_e, if_pos rfl, h1]
    · rw [ud_e, if_neg e]
  · have h1 := h.clr hk hM
    have hq : q = 1 := by
      rcases hm with ⟨-, a⟩ | ⟨a, -⟩
      · exact a
      · exact absurd h1 a
    refine ⟨hr.trans hq.symm, hG, h.2.1, h.2.2.1, hfl, ?_⟩
    rw [hs, ← h.2.2.2.2]
    exact cnt_set h1 64 hk
/-- a key goes out, or wasn't in -/
theorem LI.out (h : LI M sz fv hp fi gv fb) {k sz2 : Nat} {hp2 : Nat → Nat} {fi2 : Nat → Int32} (hk : k < 64) (hx : (M k ∧ sz = sz2 + 1) ∨ (¬ M k ∧ sz2 = sz)) (hG : Good (fun j => M j ∧ j ≠ k) sz2 fv hp2 fi2) : LI (fun j => M j ∧ j ≠ k) sz2 fv hp2 fi2 gv (upd fb k 0) := by
  refine ⟨hG, h.2.1, h.2.2.1, fun j hj => ?_, ?_⟩
  · by_cases e : j = k
    · exact Or.inr ⟨fun z => z.2 e, by rw [e, ud_e, if_pos rfl]⟩
    · rw [ud_e, if_neg e]
      rcases h.2.2.2.1 j hj with ⟨a, b⟩ | ⟨a, b⟩
      · exact Or.inl ⟨⟨a, e⟩, b⟩
      · exact Or.inr ⟨fun z => a z.1, b⟩
  · rcases hx with ⟨hM, hs⟩ | ⟨hM, hs⟩
    · have h1 := cnt_clr (fb := fb) (k := k) (by rw [h.set hk hM]; exact LI.ne0) 64 hk
      rw [h.2.2.2.2] at h1
      omega
    · rw [hs, ← h.2.2.2.2]
      refine cnt_same 64 (fun j hj => ?_)
      by_cases e : j = k
      · rw [e, ud_e, if_pos rfl, h.clr hk hM]
      · rw [ud_e, if_neg e]
theorem LI.leave (h : LI M sz fv hp fi gv fb) {k sz2 : Nat} {hp2 : Nat → Nat} {fi2 : Nat → Int32} {r : Int32} (hk : k < 64) (hx : (M k ∧ r = 1 ∧ sz = sz2 + 1) ∨ (¬ M k ∧ r = 0 ∧ sz2 = sz)) (hG : Good (fun j => M j ∧ j ≠ k) sz2 fv hp2 fi2) : r = fb k ∧ LI (fun j => M j ∧ j ≠ k) sz2 fv hp2 fi2 gv (upd fb k 0) := by
  refine ⟨?_, h.out hk (hx.elim (fun q => Or.inl ⟨q.1, q.2.2⟩) (fun q => Or.inr ⟨q.1, q.2.2⟩)) hG⟩
  rcases hx with ⟨hM, hr, -⟩ | ⟨hM, hr, -⟩
  · rw [hr, h.set hk hM]
  · rw [hr, h.clr hk hM]
theorem LI.least (h : LI M sz fv hp fi gv fb) {r q : Int32} (hx : (sz = 0 ∧ r = -1) ∨ (0 < sz ∧ r = nI (hp 0))) (hm : HD gv fb 64 q) : r = q := by
  rcases hm with ⟨hq, hz⟩ | ⟨t, ht, hq, hb, hmin⟩
  · rcases hx with ⟨-, hr⟩ | ⟨h0, -⟩
    · rw [hr, hq]
    · exact absurd hz (h.some h0)
  · rcases hx with ⟨h0, -⟩ | ⟨h0, hr⟩
    · exact absurd (h.none h0 t ht) hb
    · rw [hr, hq, h.head h0 ht hb hmin]
theorem LI.take (h : LI M sz fv hp fi gv fb) {sz2 : Nat} {hp2 : Nat → Nat} {fi2 fb2 : Nat → Int32} {r q : Int32} (hx : (sz = 0 ∧ r = -1 ∧ sz2 = sz ∧ Good M sz2 fv hp2 fi2) ∨ (sz = sz2 + 1 ∧ r = nI (hp 0) ∧ Good (fun j => M j ∧ j ≠ hp 0) sz2 fv hp2 fi2)) (hm : (q = -1 ∧ (∀ k, k < 64 → fb k = 0) ∧ fb2 = fb) ∨ (∃ t, t < 64 ∧ q = nI t ∧ fb t ≠ 0 ∧ (∀ j, j < 64 → fb j ≠ 0 → gv t ≤ gv j) ∧ fb2 = upd fb t 0)) : r = q ∧ ∃ M2 : Nat → Prop, LI M2 sz2 fv hp2 fi2 gv fb2 := by
  rcases hm with ⟨hq, hz, hf⟩ | ⟨t, ht, hq, hb, hmin, hf⟩
  · rcases hx with ⟨h0, hr, hs, hG⟩ | ⟨hs, -, -⟩
    · rw [hr, hq, hf]
      refine ⟨rfl, M, hG, h.2.1, h.2.2.1, h.2.2.2.1, ?_⟩
      rw [hs]; exact h.2.2.2.2
    · exact absurd hz (h.some (by omega))
  · rcases hx with ⟨h0, -⟩ | ⟨hs, hr, hG⟩
    · exact absurd (h.none h0 t ht) hb
    · have e := h.head (by omega) ht hb hmin
      rw [hr, hq, hf, e]
      have h2 : hp 0 < 64 := h.1.2.1.1 0
      exact ⟨rfl, _, h.out h2 (Or.inl ⟨h.1.2.1.2.2.1 0 (by omega), hs⟩) hG⟩
theorem LI.headc (h : LI M sz fv hp fi gv fb) {sz2 : Nat} {fv2 gv2 : Nat → Int32} {hp2 : Nat → Nat} {fi2 : Nat → Int32} {r q p0 : Int32} (hs : sz2 = sz) (hG : Good M sz2 fv2 hp2 fi2) (hx : (sz = 0 ∧ r = 0 ∧ fv2 = fv) ∨ (0 < sz ∧ r = 1 ∧ fv2 = upd fv (hp 0) (nv p0 (hp 0)))) (hm : (q = 0 ∧ (∀ k, k < 64 → fb k = 0) ∧ gv2 = gv) ∨ (∃ t, t < 64 ∧ q = 1 ∧ fb t ≠ 0 ∧ (∀ j, j < 64 → fb j ≠ 0 → gv t ≤ gv j) ∧ gv2 = upd gv t (nv p0 t))) : r = q ∧ LI M sz2 fv2 hp2 fi2 gv2 fb := by
  subst hs
  rcases hm with ⟨hq, hz, hf⟩ | ⟨t, ht, hq, hb, hmin, hf⟩
  · rcases hx with ⟨h0, hr, hv⟩ | ⟨h0, -⟩
    · subst hv; subst hf
      exact ⟨hr.trans hq.symm, h.vals hG h.2.1 h.2.2.1⟩
    · exact absurd hz (h.some h0)
  · rcases hx with ⟨h0, -⟩ | ⟨h0, hr, hv⟩
    · exact absurd (h.none h0 t ht) hb
    · have e := h.head h0 ht hb hmin
      rw [e] at hf
      subst hv; subst hf
      exact ⟨hr.trans hq.symm, h.put (h.1.2.1.1 0) p0 hG⟩
theorem LI.inside (h : LI M sz fv hp fi gv fb) {k : Nat} {r : Int32} (hk : k < 64) (hx : (M k ∧ r = 1) ∨ (¬ M k ∧ r = 0)) : r = fb k := by
  rcases hx with ⟨hM, hr⟩ | ⟨hM, hr⟩
  · rw [hr, h.set hk hM]
  · rw [hr, h.clr hk hM]
theorem LI.drain (h : LI M sz fv hp fi gv fb) {sz2 : Nat} {hp2 : Nat → Nat} {fi2 fb2 : Nat → Int32} (hs : sz2 = 0) (hG : Good (fun _ => False) sz2 fv hp2 fi2) (hf : ∀ k, k < 64 → fb2 k = 0) : LI (fun _ => False) sz2 fv hp2 fi2 gv fb2 :=
  ⟨hG, h.2.1, h.2.2.1, fun k hk => Or.inr ⟨id, hf k hk⟩, by rw [hs]; exact cnt_0 64 hf⟩
end CP
/-! the law's own numbers -/
theorem x_len {L i : Nat} (hL : L ≤ 384) (hi : i ≤ 390) : (nI L - nI 6 < nI i) ↔ L < i + 6 := by
  rw [Int32.lt_iff_toInt_lt, pk_sub_toInt (by omega) (by omega), nI_toInt (by omega)]
  omega
def lo4 (x : Int32) : Nat := x.toBitVec.toNat % 16
theorem lo4_lt (x : Int32) : lo4 x < 16 := Nat.mod_lt _ (by decide)
end
section
section XS
variable {p : Program} {l : Launch} {e : Env} {R : Room} {s : State} {m : MethodId} {args : Array Value} {below : List Frame} {meth : Method} {c : Code} {H : Heap} {locs : List Loc} {cells slots : Nat} {Q : State → Prop}
variable {cc : ByteArray} {pc : Nat} {ls : Array Slot} {rest : List Value} {A : Nat → Prop} {H0 : Heap}
theorem xs_ld (hexec : p.tables.exec = Jvm.exec) (hb : c.code = cc) {b L : Nat} {xs : Nat → Int32} (hX : va_X b L xs s H0) (hbl : b < H0.size) (hbA : ¬ A b) (hS : va_S A H0 H locs) (k : Nat) {i : Int32} (hi : i = nI k) (hk : k < L) (hL : L < 2 ^ 31) (hdg : decode cc pc = .ok (.iaload, 1))
    (kk : W p l e R s m args below meth c H locs cells slots Q (F0 m (pc + 1) ls (.int (xs k) :: rest))) : W p l e R s m args below meth c H locs cells slots Q (F0 m pc ls (.int i :: .ref b :: rest)) := by
  subst hi
  have hc : (nI k).toNatClampNeg = k := nI_clamp (Nat.lt_trans hk hL)
  refine va_sld hexec hb hX hbl hbA hS (vp_in_nI hk hL) hdg ?_
  rw [hc]
  exact kk
end XS
set_option maxHeartbeats 4000000 in
set_option maxRecDepth 100000 in
/-- the law, case 0: change -/
theorem law_c0 {p : Program} {l : Launch} {e : Env} {s : State} {m : MethodId} {below : List Frame} {meth : Method} {c : Code} {Q : State → Prop} {dC : Nat → ClassId} {dI : Nat → Nat → Nat} {A : Nat → Prop} {b L : Nat} {xs : Nat → Int32} {d dz : ClassId} {ax aq av ah an ay mv mi i : Nat} (hx : p.tables.exec = Jvm.exec) (hb : c.code = cL_law) (hml : c.maxLocals = 4) (hown : s.vm.findClass R_law = some m.cls) (hts : ∀ w ∈ lw_all, w.before (#[Value.ref b] : Array Value) s = true) (hX : va_X b L xs s s.heap) (hbl : b < s.heap.size) (hbA : ¬ A b) (hA : ∀ q : Nat, s.heap.size ≤ q → A q) (hLs : L < 2 ^ 31) (hi6 : i + 6 ≤ L) (hK : va_K (dC, dI) vwCl [(d, .int), (dz, .boolean)] s)
    (hk : ∀ (M : Nat → Prop) (sz : Nat) (fv : Nat → Int32) (hp : Nat → Nat) (fi gv fb : Nat → Int32) (H : Heap) (locs : List Loc) (ls : Array Slot), LI M sz fv hp fi gv fb → va_P (dC, dI) vwCl [(ax, .inr (0, [.ref av, .ref aq])), (aq, .inr (1, [.ref av, .ref ah, .int (nI sz), .null, .ref an])), (av, .inl (d, 64, .inl fv)), (ah, .inl (d, 64, .inl (hN hp))), (an, .inl (d, 64, .inl fi)), (ay, .inr (2, [.ref mv, .ref mi])), (mv, .inl (d, 64, .inl gv)), (mi, .inl (dz, 64, .inl fb))] H → va_D A [(ax, .inr (0, [.ref av, .ref aq])), (aq, .inr (1, [.ref av, .ref ah, .int (nI sz), .null, .ref an])), (av, .inl (d, 64, .inl fv)), (ah, .inl (d, 64, .inl (hN hp))), (an, .inl (d, 64, .inl fi)), (ay, .inr (2, [.ref mv, .ref mi])), (mv, .inl (d, 64, .inl gv)), (mi, .inl (dz, 64, .inl fb))] → va_S A s.heap H locs → lv_has ls 4 [(0, .ref b), (1, .ref ax), (2, .ref ay), (3, .int (nI i))] → W p l e room_1 s m #[Value.ref b] below meth c H locs 8 329 Q (F0 m 309 ls [])) :
    ∀ (M : Nat → Prop) (sz : Nat) (fv : Nat → Int32) (hp : Nat → Nat) (fi gv fb : Nat → Int32) (H : Heap) (locs : List Loc) (ls : Array Slot), LI M sz fv hp fi gv fb → va_P (dC, dI) vwCl [(ax, .inr (0, [.ref av, .ref aq])), (aq, .inr (1, [.ref av, .ref ah, .int (nI sz), .null, .ref an])), (av, .inl (d, 64, .inl fv)), (ah, .inl (d, 64, .inl (hN hp))), (an, .inl (d, 64, .inl fi)), (ay, .inr (2, [.ref mv, .ref mi])), (mv, .inl (d, 64, .inl gv)), (mi, .inl (dz, 64, .inl fb))] H → va_D A [(ax, .inr (0, [.ref av, .ref aq])), (aq, .inr (1, [.ref av, .ref ah, .int (nI sz), .null, .ref an])), (av, .inl (d, 64, .inl fv)), (ah, .inl (d, 64, .inl (hN hp))), (an, .inl (d, 64, .inl fi)), (ay, .inr (2, [.ref mv, .ref mi])), (mv, .inl (d, 64, .inl gv)), (mi, .inl (dz, 64, .inl fb))] → va_S A s.heap H locs → lv_has ls 4 [(0, .ref b), (1, .ref ax), (2, .ref ay), (3, .int (nI i))] → W p l e room_1 s m #[Value.ref b] below meth c H locs 8 329 Q (F0 m 92 ls []) := by
  intro M sz fv hp fi gv fb H locs ls hI hP hD hS hl
  refine lv_aload_n hx hb dL_law_92 rfl (lv_at hl 1 rfl) ?_
  refine lv_aload_n hx hb dL_law_93 rfl (lv_at hl 0 rfl) ?_
  refine lv_iload_n hx hb dL_law_94 rfl (lv_at hl 3 rfl) ?_
  refine lv_iconst (v := 1) hx hb dL_law_95 (by decide +kernel) ?_
  refine xi_add hx hb (nI (i + 1)) (x_inc i) dL_law_96 ?_
  refine xs_ld hx hb hX hbl hbA hS (i + 1) rfl (by omega) hLs dL_law_97 ?_
  refine lv_aload_n hx hb dL_law_98 rfl (lv_at hl 0 rfl) ?_
  refine lv_iload_n hx hb dL_law_99 rfl (lv_at hl 3 rfl) ?_
  refine lv_iconst (v := nI 2) hx hb dL_law_100 (by decide +kernel) ?_
  refine xi_add hx hb (nI (i + 2)) (nI_add i 2) dL_law_101 ?_
  refine xs_ld hx hb hX hbl hbA hS (i + 2) rfl (by omega) hLs dL_law_102 ?_
  have hPc := hP.sub (ws' := [(ax, .inr (0, [.ref av, .ref aq])), (aq, .inr (1, [.ref av, .ref ah, .int (nI sz), .null, .ref an])), (av, .inl (d, 64, .inl fv)), (ah, .inl (d, 64, .inl (hN hp))), (an, .inl (d, 64, .inl fi))]) [0, 1, 2, 3, 4] rfl
  have hDc := hD.sub (ws' := [(ax, .inr (0, [.ref av, .ref aq])), (aq, .inr (1, [.ref av, .ref ah, .int (nI sz), .null, .ref an])), (av, .inl (d, 64, .inl fv)), (ah, .inl (d, 64, .inl (hN hp))), (an, .inl (d, 64, .inl fi))]) [0, 1, 2, 3, 4] (by decide) rfl
  have hKc := hK.sub (tys' := [(d, .int)]) [0] rfl
  have hFc := va_free (wc := [(ax, .inr (0, [.ref av, .ref aq])), (aq, .inr (1, [.ref av, .ref ah, .int (nI sz), .null, .ref an])), (av, .inl (d, 64, .inl fv)), (ah, .inl (d, 64, .inl (hN hp))), (an, .inl (d, 64, .inl fi))]) hD hS hA [0, 1, 2, 3, 4] rfl
  refine va_callv (va_runV (As := [.int (xs (i + 1)), .int (xs (i + 2))]) (rest := []) ⟨hx, hb, hml, hown, hts⟩ (metX0_change l dC dI d ax aq av ah an H.size fv hp fi sz M hI.1 (xs (i + 1)) (xs (i + 2))) (cwV 2 hts (lw_V q83 q84 q85 q3 q86) rfl rfl rfl (by decide +kernel) ⟨Nat.le_of_ble_eq_true rfl, Nat.le_of_ble_eq_true rfl⟩) ⟨fun a U g mk q => by obtain ⟨q0, q1, qP, qK, qD⟩ := q; exact ⟨q0, q1, qP, va_K.moved (u := U) (U := U.calling g mk a) (Vm.Alike.refl U.vm) qK, qD⟩, va_recv hKc hPc (ci := 0) (q0 := 0) rfl rfl, fun U hU hW => ⟨rfl, by rw [hU], by rw [hU]; exact hPc, va_K.moved hW.alike hKc, hDc.weaken (fun _ _ _ _ => trivial)⟩⟩ rfl rfl hl.1 rfl (lv_room (Nat.le_of_ble_eq_true rfl)) dL_law_103 ⟨Nat.le_of_ble_eq_true rfl, Nat.le_of_ble_eq_true rfl⟩) hS (fun q _ h => hFc q h) hFc (fun u t H1 locs ht hvm hwx hB hz1 hk1 hS => ?_)
  obtain ⟨sz2, fv2, hp2, fi2⟩ := u
  obtain ⟨e1, e2, hG2⟩ := hwx
  dsimp only at e1 e2 hG2
  subst e2
  have e1 : sz = sz2 := e1.symm
  subst e1
  obtain ⟨hP1, hK1, hD1⟩ := hB
  rw [ht] at hP1
  have hK1 := va_K.moved hvm.symm hK1
  obtain ⟨hP, hD⟩ := va_join (wr := [(ay, .inr (2, [.ref mv, .ref mi])), (mv, .inl (d, 64, .inl gv)), (mi, .inl (dz, 64, .inl fb))]) (w1 := [(ax, .inr (0, [.ref av, .ref aq])), (aq, .inr (1, [.ref av, .ref ah, .int (nI sz), .null, .ref an])), (av, .inl (d, 64, .inl (upd fv (lo6 (xs (i + 1))) (nv (xs (i + 2)) (lo6 (xs (i + 1))))))), (ah, .inl (d, 64, .inl (hN hp2))), (an, .inl (d, 64, .inl fi2))]) hP hD [0, 1, 2, 3, 4] [5, 6, 7] rfl rfl (by decide) (by decide) hk1 hFc hP1 hD1
  generalize H1 = H at hP hS ⊢
  have hP : va_P (dC, dI) vwCl [(ay, .inr (2, [.ref mv, .ref mi])), (mv, .inl (d, 64, .inl gv)), (mi, .inl (dz, 64, .inl fb)), (ax, .inr (0, [.ref av, .ref aq])), (aq, .inr (1, [.ref av, .ref ah, .int (nI sz), .null, .ref an])), (av, .inl (d, 64, .inl (upd fv (lo6 (xs (i + 1))) (nv (xs (i + 2)) (lo6 (xs (i + 1))))))), (ah, .inl (d, 64, .inl (hN hp2))), (an, .inl (d, 64, .inl fi2))] H := hP
  have hD : va_D A [(ay, .inr (2, [.ref mv, .ref mi])), (mv, .inl (d, 64, .inl gv)), (mi, .inl (dz, 64, .inl fb)), (ax, .inr (0, [.ref av, .ref aq])), (aq, .inr (1, [.ref av, .ref ah, .int (nI sz), .null, .ref an])), (av, .inl (d, 64, .inl (upd fv (lo6 (xs (i + 1))) (nv (xs (i + 2)) (lo6 (xs (i + 1))))))), (ah, .inl (d, 64, .inl (hN hp2))), (an, .inl (d, 64, .inl fi2))] := hD
  refine lv_aload_n hx hb dL_law_106 rfl (lv_at hl 2 rfl) ?_
  refine lv_aload_n hx hb dL_law_107 rfl (lv_at hl 0 rfl) ?_
  refine lv_iload_n hx hb dL_law_108 rfl (lv_at hl 3 rfl) ?_
  refine lv_iconst (v := 1) hx hb dL_law_109 (by decide +kernel) ?_
  refine xi_add hx hb (nI (i + 1)) (x_inc i) dL_law_110 ?_
  refine xs_ld hx hb hX hbl hbA hS (i + 1) rfl (by omega) hLs dL_law_111 ?_
  refine lv_aload_n hx hb dL_law_112 rfl (lv_at hl 0 rfl) ?_
  refine lv_iload_n hx hb dL_law_113 rfl (lv_at hl 3 rfl) ?_
  refine lv_iconst (v := nI 2) hx hb dL_law_114 (by decide +kernel) ?_
  refine xi_add hx hb (nI (i + 2)) (nI_add i 2) dL_law_115 ?_
  refine xs_ld hx hb hX hbl hbA hS (i + 2) rfl (by omega) hLs dL_law_116 ?_
  have hPc := hP.sub (ws' := [(ay, .inr (2, [.ref mv, .ref mi])), (mv, .inl (d, 64, .inl gv)), (mi, .inl (dz, 64, .inl fb))]) [0, 1, 2] rfl
  have hDc := hD.sub (ws' := [(ay, .inr (2, [.ref mv, .ref mi])), (mv, .inl (d, 64, .inl gv)), (mi, .inl (dz, 64, .inl fb))]) [0, 1, 2] (by decide) rfl
  have hKc := hK.sub (tys' := [(d, .int), (dz, .boolean)]) [0, 1] rfl
  have hFc := va_free (wc := [(ay, .inr (2, [.ref mv, .ref mi])), (mv, .inl (d, 64, .inl gv)), (mi, .inl (dz, 64, .inl fb))]) hD hS hA [0, 1, 2] rfl
  refine va_callv (va_runV (As := [.int (xs (i + 1)), .int (xs (i + 2))]) (rest := []) ⟨hx, hb, hml, hown, hts⟩ (metX4_change l dC dI d dz ay mv mi H.size gv fb hI.flag (xs (i + 1)) (xs (i + 2))) (cwV 2 hts (lw_V q537 q538 q539 q8 q540) rfl rfl rfl (by decide +kernel) ⟨Nat.le_of_ble_eq_true rfl, Nat.le_of_ble_eq_true rfl⟩) ⟨fun a U g mk q => by obtain ⟨q0, q1, qP, qK, qD⟩ := q; exact ⟨q0, q1, qP, va_K.moved (u := U) (U := U.calling g mk a) (Vm.Alike.refl U.vm) qK, qD⟩, va_recv hKc hPc (ci := 2) (q0 := 0) rfl rfl, fun U hU hW => ⟨rfl, by rw [hU], by rw [hU]; exact hPc, va_K.moved hW.alike hKc, hDc.weaken (fun _ _ _ _ => trivial)⟩⟩ rfl rfl hl.1 rfl (lv_room (Nat.le_of_ble_eq_true rfl)) dL_law_117 ⟨Nat.le_of_ble_eq_true rfl, Nat.le_of_ble_eq_true rfl⟩) hS (fun q _ h => hFc q h) hFc (fun u t H1 locs ht hvm hwm hB hz1 hk1 hS => ?_)
  obtain ⟨gv2, fb2⟩ := u
  obtain ⟨e3, e4⟩ := hwm
  dsimp only at e3 e4
  subst e3
  have e4 : fb = fb2 := e4.symm
  subst e4
  obtain ⟨hP1, hK1, hD1⟩ := hB
  rw [ht] at hP1
  have hK1 := va_K.moved hvm.symm hK1
  obtain ⟨hP, hD⟩ := va_join (wr := [(ax, .inr (0, [.ref av, .ref aq])), (aq, .inr (1, [.ref av, .ref ah, .int (nI sz), .null, .ref an])), (av, .inl (d, 64, .inl (upd fv (lo6 (xs (i + 1))) (nv (xs (i + 2)) (lo6 (xs (i + 1))))))), (ah, .inl (d, 64, .inl (hN hp2))), (an, .inl (d, 64, .inl fi2))]) (w1 := [(ay, .inr (2, [.ref mv, .ref mi])), (mv, .inl (d, 64, .inl (upd gv (lo6 (xs (i + 1))) (nv (xs (i + 2)) (lo6 (xs (i + 1))))))), (mi, .inl (dz, 64, .inl fb))]) hP hD [0, 1, 2] [3, 4, 5, 6, 7] rfl rfl (by decide) (by decide) hk1 hFc hP1 hD1
  generalize H1 = H at hP hS ⊢
  have hP : va_P (dC, dI) vwCl [(ax, .inr (0, [.ref av, .ref aq])), (aq, .inr (1, [.ref av, .ref ah, .int (nI sz), .null, .ref an])), (av, .inl (d, 64, .inl (upd fv (lo6 (xs (i + 1))) (nv (xs (i + 2)) (lo6 (xs (i + 1))))))), (ah, .inl (d, 64, .inl (hN hp2))), (an, .inl (d, 64, .inl fi2)), (ay, .inr (2, [.ref mv, .ref mi])), (mv, .inl (d, 64, .inl (upd gv (lo6 (xs (i + 1))) (nv (xs (i + 2)) (lo6 (xs (i + 1))))))), (mi, .inl (dz, 64, .inl fb))] H := hP
  have hD : va_D A [(ax, .inr (0, [.ref av, .ref aq])), (aq, .inr (1, [.ref av, .ref ah, .int (nI sz), .null, .ref an])), (av, .inl (d, 64, .inl (upd fv (lo6 (xs (i + 1))) (nv (xs (i + 2)) (lo6 (xs (i + 1))))))), (ah, .inl (d, 64, .inl (hN hp2))), (an, .inl (d, 64, .inl fi2)), (ay, .inr (2, [.ref mv, .ref mi])), (mv, .inl (d, 64, .inl (upd gv (lo6 (xs (i + 1))) (nv (xs (i + 2)) (lo6 (xs (i + 1))))))), (mi, .inl (dz, 64, .inl fb))] := hD
  refine lv_goto (tgt := 309) hx hb dL_law_120 (by decide) ?_
  have hP9 := hP.sub (ws' := [(ax, .inr (0, [.ref av, .ref aq])), (aq, .inr (1, [.ref av, .ref ah, .int (nI sz), .null, .ref an])), (av, .inl (d, 64, .inl (upd fv (lo6 (xs (i + 1))) (nv (xs (i + 2)) (lo6 (xs (i + 1))))))), (ah, .inl (d, 64, .inl (hN hp2))), (an, .inl (d, 64, .inl fi2)), (ay, .inr (2, [.ref mv, .ref mi])), (mv, .inl (d, 64, .inl (upd gv (lo6 (xs (i + 1))) (nv (xs (i + 2)) (lo6 (xs (i + 1))))))), (mi, .inl (dz, 64, .inl fb))]) [0, 1, 2, 3, 4, 5, 6, 7] rfl
  have hD9 := hD.sub (ws' := [(ax, .inr (0, [.ref av, .ref aq])), (aq, .inr (1, [.ref av, .ref ah, .int (nI sz), .null, .ref an])), (av, .inl (d, 64, .inl (upd fv (lo6 (xs (i + 1))) (nv (xs (i + 2)) (lo6 (xs (i + 1))))))), (ah, .inl (d, 64, .inl (hN hp2))), (an, .inl (d, 64, .inl fi2)), (ay, .inr (2, [.ref mv, .ref mi])), (mv, .inl (d, 64, .inl (upd gv (lo6 (xs (i + 1))) (nv (xs (i + 2)) (lo6 (xs (i + 1))))))), (mi, .inl (dz, 64, .inl fb))]) [0, 1, 2, 3, 4, 5, 6, 7] (by decide) rfl
  exact hk _ _ _ _ _ _ _ H locs ls (hI.put (lo6_lt (xs (i + 1))) _ hG2) hP9 hD9 hS (lv_sub hl [0, 1, 2, 3] rfl)
set_option maxHeartbeats 4000000 in
set_option maxRecDepth 100000 in
/-- the law, case 1: enter -/
theorem law_c1 {p : Program} {l : Launch} {e : Env} {s : State} {m : MethodId} {below : List Frame} {meth : Method} {c : Code} {Q : State → Prop} {dC : Nat → ClassId} {dI : Nat → Nat → Nat} {A : Nat → Prop} {b L : Nat} {xs : Nat → Int32} {d dz : ClassId} {ax aq av ah an ay mv mi i : Nat} (hx : p.tables.exec = Jvm.exec) (hb : c.code = cL_law) (hml : c.maxLocals = 4) (hown : s.vm.findClass R_law = some m.cls) (hts : ∀ w ∈ lw_all, w.before (#[Value.ref b] : Array Value) s = true) (hX : va_X b L xs s s.heap) (hbl : b < s.heap.size) (hbA : ¬ A b) (hA : ∀ q : Nat, s.heap.size ≤ q → A q) (hLs : L < 2 ^ 31) (hi6 : i + 6 ≤ L) (hK : va_K (dC, dI) vwCl [(d, .int), (dz, .boolean)] s)
    (hk : ∀ (M : Nat → Prop) (sz : Nat) (fv : Nat → Int32) (hp : Nat → Nat) (fi gv fb : Nat → Int32) (H : Heap) (locs : List Loc) (ls : Array Slot), LI M sz fv hp fi gv fb → va_P (dC, dI) vwCl [(ax, .inr (0, [.ref av, .ref aq])), (aq, .inr (1, [.ref av, .ref ah, .int (nI sz), .null, .ref an])), (av, .inl (d, 64, .inl fv)), (ah, .inl (d, 64, .inl (hN hp))), (an, .inl (d, 64, .inl fi)), (ay, .inr (2, [.ref mv, .ref mi])), (mv, .inl (d, 64, .inl gv)), (mi, .inl (dz, 64, .inl fb))] H → va_D A [(ax, .inr (0, [.ref av, .ref aq])), (aq, .inr (1, [.ref av, .ref ah, .int (nI sz), .null, .ref an])), (av, .inl (d, 64, .inl fv)), (ah, .inl (d, 64, .inl (hN hp))), (an, .inl (d, 64, .inl fi)), (ay, .inr (2, [.ref mv, .ref mi])), (mv, .inl (d, 64, .inl gv)), (mi, .inl (dz, 64, .inl fb))] → va_S A s.heap H locs → lv_has ls 4 [(0, .ref b), (1, .ref ax), (2, .ref ay), (3, .int (nI i))] → W p l e room_1 s m #[Value.ref b] below meth c H locs 8 329 Q (F0 m 309 ls [])) :
    ∀ (M : Nat → Prop) (sz : Nat) (fv : Nat → Int32) (hp : Nat → Nat) (fi gv fb : Nat → Int32) (H : Heap) (locs : List Loc) (ls : Array Slot), LI M sz fv hp fi gv fb → va_P (dC, dI) vwCl [(ax, .inr (0, [.ref av, .ref aq])), (aq, .inr (1, [.ref av, .ref ah, .int (nI sz), .null, .ref an])), (av, .inl (d, 64, .inl fv)), (ah, .inl (d, 64, .inl (hN hp))), (an, .inl (d, 64, .inl fi)), (ay, .inr (2, [.ref mv, .ref mi])), (mv, .inl (d, 64, .inl gv)), (mi, .inl (dz, 64, .inl fb))] H → va_D A [(ax, .inr (0, [.ref av, .ref aq])), (aq, .inr (1, [.ref av, .ref ah, .int (nI sz), .null, .ref an])), (av, .inl (d, 64, .inl fv)), (ah, .inl (d, 64, .inl (hN hp))), (an, .inl (d, 64, .inl fi)), (ay, .inr (2, [.ref mv, .ref mi])), (mv, .inl (d, 64, .inl gv)), (mi, .inl (dz, 64, .inl fb))] → va_S A s.heap H locs → lv_has ls 4 [(0, .ref b), (1, .ref ax), (2, .ref ay), (3, .int (nI i))] → W p l e room_1 s m #[Value.ref b] below meth c H locs 8 329 Q (F0 m 123 ls []) := by
  intro M sz fv hp fi gv fb H locs ls hI hP hD hS hl
  refine lv_aload_n hx hb dL_law_123 rfl (lv_at hl 1 rfl) ?_
  refine lv_aload_n hx hb dL_law_124 rfl (lv_at hl 0 rfl) ?_
  refine lv_iload_n hx hb dL_law_125 rfl (lv_at hl 3 rfl) ?_
  refine lv_iconst (v := 1) hx hb dL_law_126 (by decide +kernel) ?_
  refine xi_add hx hb (nI (i + 1)) (x_inc i) dL_law_127 ?_
  refine xs_ld hx hb hX hbl hbA hS (i + 1) rfl (by omega) hLs dL_law_128 ?_
  have hPc := hP.sub (ws' := [(ax, .inr (0, [.ref av, .ref aq])), (aq, .inr (1, [.ref av, .ref ah, .int (nI sz), .null, .ref an])), (av, .inl (d, 64, .inl fv)), (ah, .inl (d, 64, .inl (hN hp))), (an, .inl (d, 64, .inl fi))]) [0, 1, 2, 3, 4] rfl
  have hDc := hD.sub (ws' := [(ax, .inr (0, [.ref av, .ref aq])), (aq, .inr (1, [.ref av, .ref ah, .int (nI sz), .null, .ref an])), (av, .inl (d, 64, .inl fv)), (ah, .inl (d, 64, .inl (hN hp))), (an, .inl (d, 64, .inl fi))]) [0, 1, 2, 3, 4] (by decide) rfl
  have hKc := hK.sub (tys' := [(d, .int)]) [0] rfl
  have hFc := va_free (wc := [(ax, .inr (0, [.ref av, .ref aq])), (aq, .inr (1, [.ref av, .ref ah, .int (nI sz), .null, .ref an])), (av, .inl (d, 64, .inl fv)), (ah, .inl (d, 64, .inl (hN hp))), (an, .inl (d, 64, .inl fi))]) hD hS hA [0, 1, 2, 3, 4] rfl
  refine va_calli (va_runV (As := [.int (xs (i + 1))]) (rest := []) ⟨hx, hb, hml, hown, hts⟩ (metX0_enter l dC dI d ax aq av ah an H.size fv hp fi sz M hI.1 (xs (i + 1)) (fun q => hI.room (lo6_lt (xs (i + 1))) q)) (cwV 1 hts (lw_V q405 q406 q407 q3 q408) rfl rfl rfl (by decide +kernel) ⟨Nat.le_of_ble_eq_true rfl, Nat.le_of_ble_eq_true rfl⟩) ⟨fun a U g mk q => by obtain ⟨q0, q1, qP, qK, qD⟩ := q; exact ⟨q0, q1, qP, va_K.moved (u := U) (U := U.calling g mk a) (Vm.Alike.refl U.vm) qK, qD⟩, va_recv hKc hPc (ci := 0) (q0 := 0) rfl rfl, fun U hU hW => ⟨rfl, by rw [hU], by rw [hU]; exact hPc, va_K.moved hW.alike hKc, hDc.weaken (fun _ _ _ _ => trivial)⟩⟩ rfl rfl hl.1 rfl (lv_room (Nat.le_of_ble_eq_true rfl)) dL_law_129 ⟨Nat.le_of_ble_eq_true rfl, Nat.le_of_ble_eq_true rfl⟩) hS (fun q _ h => hFc q h) hFc (fun r_x u t H1 locs ht hvm hwx hB hz1 hk1 hS => ?_)
  obtain ⟨sz2, fv2, hp2, fi2⟩ := u
  obtain ⟨e2, e1, hG2⟩ := hwx
  dsimp only at e1 e2 hG2
  have e2 : fv = fv2 := e2.symm
  subst e2
  obtain ⟨hP1, hK1, hD1⟩ := hB
  rw [ht] at hP1
  have hK1 := va_K.moved hvm.symm hK1
  obtain ⟨hP, hD⟩ := va_join (wr := [(ay, .inr (2, [.ref mv, .ref mi])), (mv, .inl (d, 64, .inl gv)), (mi, .inl (dz, 64, .inl fb))]) (w1 := [(ax, .inr (0, [.ref av, .ref aq])), (aq, .inr (1, [.ref av, .ref ah, .int (nI sz2), .null, .ref an])), (av, .inl (d, 64, .inl fv)), (ah, .inl (d, 64, .inl (hN hp2))), (an, .inl (d, 64, .inl fi2))]) hP hD [0, 1, 2, 3, 4] [5, 6, 7] rfl rfl (by decide) (by decide) hk1 hFc hP1 hD1
  generalize H1 = H at hP hS ⊢
  have hP : va_P (dC, dI) vwCl [(ay, .inr (2, [.ref mv, .ref mi])), (mv, .inl (d, 64, .inl gv)), (mi, .inl (dz, 64, .inl fb)), (ax, .inr (0, [.ref av, .ref aq])), (aq, .inr (1, [.ref av, .ref ah, .int (nI sz2), .null, .ref an])), (av, .inl (d, 64, .inl fv)), (ah, .inl (d, 64, .inl (hN hp2))), (an, .inl (d, 64, .inl fi2))] H := hP
  have hD : va_D A [(ay, .inr (2, [.ref mv, .ref mi])), (mv, .inl (d, 64, .inl gv)), (mi, .inl (dz, 64, .inl fb)), (ax, .inr (0, [.ref av, .ref aq])), (aq, .inr (1, [.ref av, .ref ah, .int (nI sz2), .null, .ref an])), (av, .inl (d, 64, .inl fv)), (ah, .inl (d, 64, .inl (hN hp2))), (an, .inl (d, 64, .inl fi2))] := hD
  refine lv_aload_n hx hb dL_law_132 rfl (lv_at hl 2 rfl) ?_
  refine lv_aload_n hx hb dL_law_133 rfl (lv_at hl 0 rfl) ?_
  refine lv_iload_n hx hb dL_law_134 rfl (lv_at hl 3 rfl) ?_
  refine lv_iconst (v := 1) hx hb dL_law_135 (by decide +kernel) ?_
  refine xi_add hx hb (nI (i + 1)) (x_inc i) dL_law_136 ?_
  refine xs_ld hx hb hX hbl hbA hS (i + 1) rfl (by omega) hLs dL_law_137 ?_
  have hPc := hP.sub (ws' := [(ay, .inr (2, [.ref mv, .ref mi])), (mv, .inl (d, 64, .inl gv)), (mi, .inl (dz, 64, .inl fb))]) [0, 1, 2] rfl
  have hDc := hD.sub (ws' := [(ay, .inr (2, [.ref mv, .ref mi])), (mv, .inl (d, 64, .inl gv)), (mi, .inl (dz, 64, .inl fb))]) [0, 1, 2] (by decide) rfl
  have hKc := hK.sub (tys' := [(d, .int), (dz, .boolean)]) [0, 1] rfl
  have hFc := va_free (wc := [(ay, .inr (2, [.ref mv, .ref mi])), (mv, .inl (d, 64, .inl gv)), (mi, .inl (dz, 64, .inl fb))]) hD hS hA [0, 1, 2] rfl
  refine va_calli (va_runV (As := [.int (xs (i + 1))]) (rest := [.int r_x]) ⟨hx, hb, hml, hown, hts⟩ (metX4_enter l dC dI d dz ay mv mi H.size gv fb hI.flag (xs (i + 1))) (cwV 1 hts (lw_V q541 q542 q543 q8 q544) rfl rfl rfl (by decide +kernel) ⟨Nat.le_of_ble_eq_true rfl, Nat.le_of_ble_eq_true rfl⟩) ⟨fun a U g mk q => by obtain ⟨q0, q1, qP, qK, qD⟩ := q; exact ⟨q0, q1, qP, va_K.moved (u := U) (U := U.calling g mk a) (Vm.Alike.refl U.vm) qK, qD⟩, va_recv hKc hPc (ci := 2) (q0 := 0) rfl rfl, fun U hU hW => ⟨rfl, by rw [hU], by rw [hU]; exact hPc, va_K.moved hW.alike hKc, hDc.weaken (fun _ _ _ _ => trivial)⟩⟩ rfl rfl hl.1 rfl (lv_room (Nat.le_of_ble_eq_true rfl)) dL_law_138 ⟨Nat.le_of_ble_eq_true rfl, Nat.le_of_ble_eq_true rfl⟩) hS (fun q _ h => hFc q h) hFc (fun r_m u t H1 locs ht hvm hwm hB hz1 hk1 hS => ?_)
  obtain ⟨gv2, fb2⟩ := u
  obtain ⟨e3, e4, e5⟩ := hwm
  dsimp only at e3 e4
  subst e4
  have e3 : gv = gv2 := e3.symm
  subst e3
  obtain ⟨hP1, hK1, hD1⟩ := hB
  rw [ht] at hP1
  have hK1 := va_K.moved hvm.symm hK1
  obtain ⟨hP, hD⟩ := va_join (wr := [(ax, .inr (0, [.ref av, .ref aq])), (aq, .inr (1, [.ref av, .ref ah, .int (nI sz2), .null, .ref an])), (av, .inl (d, 64, .inl fv)), (ah, .inl (d, 64, .inl (hN hp2))), (an, .inl (d, 64, .inl fi2))]) (w1 := [(ay, .inr (2, [.ref mv, .ref mi])), (mv, .inl (d, 64, .inl gv)), (mi, .inl (dz, 64, .inl (upd fb (lo6 (xs (i + 1))) 1)))]) hP hD [0, 1, 2] [3, 4, 5, 6, 7] rfl rfl (by decide) (by decide) hk1 hFc hP1 hD1
  generalize H1 = H at hP hS ⊢
  have hP : va_P (dC, dI) vwCl [(ax, .inr (0, [.ref av, .ref aq])), (aq, .inr (1, [.ref av, .ref ah, .int (nI sz2), .null, .ref an])), (av, .inl (d, 64, .inl fv)), (ah, .inl (d, 64, .inl (hN hp2))), (an, .inl (d, 64, .inl fi2)), (ay, .inr (2, [.ref mv, .ref mi])), (mv, .inl (d, 64, .inl gv)), (mi, .inl (dz, 64, .inl (upd fb (lo6 (xs (i + 1))) 1)))] H := hP
  have hD : va_D A [(ax, .inr (0, [.ref av, .ref aq])), (aq, .inr (1, [.ref av, .ref ah, .int (nI sz2), .null, .ref an])), (av, .inl (d, 64, .inl fv)), (ah, .inl (d, 64, .inl (hN hp2))), (an, .inl (d, 64, .inl fi2)), (ay, .inr (2, [.ref mv, .ref mi])), (mv, .inl (d, 64, .inl gv)), (mi, .inl (dz, 64, .inl (upd fb (lo6 (xs (i + 1))) 1)))] := hD
  have hE := hI.enter (lo6_lt (xs (i + 1))) e1 hG2 e5
  refine lv_icmp_eq (tgt := 309) hx hb dL_law_141 (by decide) (fun c_1 => ?_) (fun c_1 => ?_)
  · have hP9 := hP.sub (ws' := [(ax, .inr (0, [.ref av, .ref aq])), (aq, .inr (1, [.ref av, .ref ah, .int (nI sz2), .null, .ref an])), (av, .inl (d, 64, .inl fv)), (ah, .inl (d, 64, .inl (hN hp2))), (an, .inl (d, 64, .inl fi2)), (ay, .inr (2, [.ref mv, .ref mi])), (mv, .inl (d, 64, .inl gv)), (mi, .inl (dz, 64, .inl (upd fb (lo6 (xs (i + 1))) 1)))]) [0, 1, 2, 3, 4, 5, 6, 7] rfl
    have hD9 := hD.sub (ws' := [(ax, .inr (0, [.ref av, .ref aq])), (aq, .inr (1, [.ref av, .ref ah, .int (nI sz2), .null, .ref an])), (av, .inl (d, 64, .inl fv)), (ah, .inl (d, 64, .inl (hN hp2))), (an, .inl (d, 64, .inl fi2)), (ay, .inr (2, [.ref mv, .ref mi])), (mv, .inl (d, 64, .inl gv)), (mi, .inl (dz, 64, .inl (upd fb (lo6 (xs (i + 1))) 1)))]) [0, 1, 2, 3, 4, 5, 6, 7] (by decide) rfl
    exact hk _ _ _ _ _ _ _ H locs ls hE.2 hP9 hD9 hS (lv_sub hl [0, 1, 2, 3] rfl)
  · exact absurd hE.1 c_1
set_option maxHeartbeats 4000000 in
set_option maxRecDepth 100000 in
/-- the law, case 2: leave -/
theorem law_c2 {p : Program} {l : Launch} {e : Env} {s : State} {m : MethodId} {below : List Frame} {meth : Method} {c : Code} {Q : State → Prop} {dC : Nat → ClassId} {dI : Nat → Nat → Nat} {A : Nat → Prop} {b L : Nat} {xs : Nat → Int32} {d dz : ClassId} {ax aq av ah an ay mv mi i : Nat} (hx : p.tables.exec = Jvm.exec) (hb : c.code = cL_law) (hml : c.maxLocals = 4) (hown : s.vm.findClass R_law = some m.cls) (hts : ∀ w ∈ lw_all, w.before (#[Value.ref b] : Array Value) s = true) (hX : va_X b L xs s s.heap) (hbl : b < s.heap.size) (hbA : ¬ A b) (hA : ∀ q : Nat, s.heap.size ≤ q → A q) (hLs : L < 2 ^ 31) (hi6 : i + 6 ≤ L) (hK : va_K (dC, dI) vwCl [(d, .int), (dz, .boolean)] s)
    (hk : ∀ (M : Nat → Prop) (sz : Nat) (fv : Nat → Int32) (hp : Nat → Nat) (fi gv fb : Nat → Int32) (H : Heap) (locs : List Loc) (ls : Array Slot), LI M sz fv hp fi gv fb → va_P (dC, dI) vwCl [(ax, .inr (0, [.ref av, .ref aq])), (aq, .inr (1, [.ref av, .ref ah, .int (nI sz), .null, .ref an])), (av, .inl (d, 64, .inl fv)), (ah, .inl (d, 64, .inl (hN hp))), (an, .inl (d, 64, .inl fi)), (ay, .inr (2, [.ref mv, .ref mi])), (mv, .inl (d, 64, .inl gv)), (mi, .inl (dz, 64, .inl fb))] H → va_D A [(ax, .inr (0, [.ref av, .ref aq])), (aq, .inr (1, [.ref av, .ref ah, .int (nI sz), .null, .ref an])), (av, .inl (d, 64, .inl fv)), (ah, .inl (d, 64, .inl (hN hp))), (an, .inl (d, 64, .inl fi)), (ay, .inr (2, [.ref mv, .ref mi])), (mv, .inl (d, 64, .inl gv)), (mi, .inl (dz, 64, .inl fb))] → va_S A s.heap H locs → lv_has ls 4 [(0, .ref b), (1, .ref ax), (2, .ref ay), (3, .int (nI i))] → W p l e room_1 s m #[Value.ref b] below meth c H locs 8 329 Q (F0 m 309 ls [])) :
    ∀ (M : Nat → Prop) (sz : Nat) (fv : Nat → Int32) (hp : Nat → Nat) (fi gv fb : Nat → Int32) (H : Heap) (locs : List Loc) (ls : Array Slot), LI M sz fv hp fi gv fb → va_P (dC, dI) vwCl [(ax, .inr (0, [.ref av, .ref aq])), (aq, .inr (1, [.ref av, .ref ah, .int (nI sz), .null, .ref an])), (av, .inl (d, 64, .inl fv)), (ah, .inl (d, 64, .inl (hN hp))), (an, .inl (d, 64, .inl fi)), (ay, .inr (2, [.ref mv, .ref mi])), (mv, .inl (d, 64, .inl gv)), (mi, .inl (dz, 64, .inl fb))] H → va_D A [(ax, .inr (0, [.ref av, .ref aq])), (aq, .inr (1, [.ref av, .ref ah, .int (nI sz), .null, .ref an])), (av, .inl (d, 64, .inl fv)), (ah, .inl (d, 64, .inl (hN hp))), (an, .inl (d, 64, .inl fi)), (ay, .inr (2, [.ref mv, .ref mi])), (mv, .inl (d, 64, .inl gv)), (mi, .inl (dz, 64, .inl fb))] → va_S A s.heap H locs → lv_has ls 4 [(0, .ref b), (1, .ref ax), (2, .ref ay), (3, .int (nI i))] → W p l e room_1 s m #[Value.ref b] below meth c H locs 8 329 Q (F0 m 146 ls []) := by
  intro M sz fv hp fi gv fb H locs ls hI hP hD hS hl
  refine lv_aload_n hx hb dL_law_146 rfl (lv_at hl 1 rfl) ?_
  refine lv_aload_n hx hb dL_law_147 rfl (lv_at hl 0 rfl) ?_
  refine lv_iload_n hx hb dL_law_148 rfl (lv_at hl 3 rfl) ?_
  refine lv_iconst (v := 1) hx hb dL_law_149 (by decide +kernel) ?_
  refine xi_add hx hb (nI (i + 1)) (x_inc i) dL_law_150 ?_
  refine xs_ld hx hb hX hbl hbA hS (i + 1) rfl (by omega) hLs dL_law_151 ?_
  have hPc := hP.sub (ws' := [(ax, .inr (0, [.ref av, .ref aq])), (aq, .inr (1, [.ref av, .ref ah, .int (nI sz), .null, .ref an])), (av, .inl (d, 64, .inl fv)), (ah, .inl (d, 64, .inl (hN hp))), (an, .inl (d, 64, .inl fi))]) [0, 1, 2, 3, 4] rfl
  have hDc := hD.sub (ws' := [(ax, .inr (0, [.ref av, .ref aq])), (aq, .inr (1, [.ref av, .ref ah, .int (nI sz), .null, .ref an])), (av, .inl (d, 64, .inl fv)), (ah, .inl (d, 64, .inl (hN hp))), (an, .inl (d, 64, .inl fi))]) [0, 1, 2, 3, 4] (by decide) rfl
  have hKc := hK.sub (tys' := [(d, .int)]) [0] rfl
  have hFc := va_free (wc := [(ax, .inr (0, [.ref av, .ref aq])), (aq, .inr (1, [.ref av, .ref ah, .int (nI sz), .null, .ref an])), (av, .inl (d, 64, .inl fv)), (ah, .inl (d, 64, .inl (hN hp))), (an, .inl (d, 64, .inl fi))]) hD hS hA [0, 1, 2, 3, 4] rfl
  refine va_calli (va_runV (As := [.int (xs (i + 1))]) (rest := []) ⟨hx, hb, hml, hown, hts⟩ (metX0_leave l dC dI d ax aq av ah an H.size fv hp fi sz M hI.1 (xs (i + 1))) (cwV 1 hts (lw_V q428 q429 q430 q3 q431) rfl rfl rfl (by decide +kernel) ⟨Nat.le_of_ble_eq_true rfl, Nat.le_of_ble_eq_true rfl⟩) ⟨fun a U g mk q => by obtain ⟨q0, q1, qP, qK, qD⟩ := q; exact ⟨q0, q1, qP, va_K.moved (u := U) (U := U.calling g mk a) (Vm.Alike.refl U.vm) qK, qD⟩, va_recv hKc hPc (ci := 0) (q0 := 0) rfl rfl, fun U hU hW => ⟨rfl, by rw [hU], by rw [hU]; exact hPc, va_K.moved hW.alike hKc, hDc.weaken (fun _ _ _ _ => trivial)⟩⟩ rfl rfl hl.1 rfl (lv_room (Nat.le_of_ble_eq_true rfl)) dL_law_152 ⟨Nat.le_of_ble_eq_true rfl, Nat.le_of_ble_eq_true rfl⟩) hS (fun q _ h => hFc q h) hFc (fun r_x u t H1 locs ht hvm hwx hB hz1 hk1 hS => ?_)
  obtain ⟨sz2, fv2, hp2, fi2⟩ := u
  obtain ⟨e2, e1, hG2⟩ := hwx
  dsimp only at e1 e2 hG2
  have e2 : fv = fv2 := e2.symm
  subst e2
  obtain ⟨hP1, hK1, hD1⟩ := hB
  rw [ht] at hP1
  have hK1 := va_K.moved hvm.symm hK1
  obtain ⟨hP, hD⟩ := va_join (wr := [(ay, .inr (2, [.ref mv, .ref mi])), (mv, .inl (d, 64, .inl gv)), (mi, .inl (dz, 64, .inl fb))]) (w1 := [(ax, .inr (0, [.ref av, .ref aq])), (aq, .inr (1, [.ref av, .ref ah, .int (nI sz2), .null, .ref an])), (av, .inl (d, 64, .inl fv)), (ah, .inl (d, 64, .inl (hN hp2))), (an, .inl (d, 64, .inl fi2))]) hP hD [0, 1, 2, 3, 4] [5, 6, 7] rfl rfl (by decide) (by decide) hk1 hFc hP1 hD1
  generalize H1 = H at hP hS ⊢
  have hP : va_P (dC, dI) vwCl [(ay, .inr (2, [.ref mv, .ref mi])), (mv, .inl (d, 64, .inl gv)), (mi, .inl (dz, 64, .inl fb)), (ax, .inr (0, [.ref av, .ref aq])), (aq, .inr (1, [.ref av, .ref ah, .int (nI sz2), .null, .ref an])), (av, .inl (d, 64, .inl fv)), (ah, .inl (d, 64, .inl (hN hp2))), (an, .inl (d, 64, .inl fi2))] H := hP
  have hD : va_D A [(ay, .inr (2, [.ref mv, .ref mi])), (mv, .inl (d, 64, .inl gv)), (mi, .inl (dz, 64, .inl fb)), (ax, .inr (0, [.ref av, .ref aq])), (aq, .inr (1, [.ref av, .ref ah, .int (nI sz2), .null, .ref an])), (av, .inl (d, 64, .inl fv)), (ah, .inl (d, 64, .inl (hN hp2))), (an, .inl (d, 64, .inl fi2))] := hD
  refine lv_aload_n hx hb dL_law_155 rfl (lv_at hl 2 rfl) ?_
  refine lv_aload_n hx hb dL_law_156 rfl (lv_at hl 0 rfl) ?_
  refine lv_iload_n hx hb dL_law_157 rfl (lv_at hl 3 rfl) ?_
  refine lv_iconst (v := 1) hx hb dL_law_158 (by decide +kernel) ?_
  refine xi_add hx hb (nI (i + 1)) (x_inc i) dL_law_159 ?_
  refine xs_ld hx hb hX hbl hbA hS (i + 1) rfl (by omega) hLs dL_law_160 ?_
  have hPc := hP.sub (ws' := [(ay, .inr (2, [.ref mv, .ref mi])), (mv, .inl (d, 64, .inl gv)), (mi, .inl (dz, 64, .inl fb))]) [0, 1, 2] rfl
  have hDc := hD.sub (ws' := [(ay, .inr (2, [.ref mv, .ref mi])), (mv, .inl (d, 64, .inl gv)), (mi, .inl (dz, 64, .inl fb))]) [0, 1, 2] (by decide) rfl
  have hKc := hK.sub (tys' := [(d, .int), (dz, .boolean)]) [0, 1] rfl
  have hFc := va_free (wc := [(ay, .inr (2, [.ref mv, .ref mi])), (mv, .inl (d, 64, .inl gv)), (mi, .inl (dz, 64, .inl fb))]) hD hS hA [0, 1, 2] rfl
  refine va_calli (va_runV (As := [.int (xs (i + 1))]) (rest := [.int r_x]) ⟨hx, hb, hml, hown, hts⟩ (metX4_leave l dC dI d dz ay mv mi H.size gv fb hI.flag (xs (i + 1))) (cwV 1 hts (lw_V q545 q546 q547 q8 q548) rfl rfl rfl (by decide +kernel) ⟨Nat.le_of_ble_eq_true rfl, Nat.le_of_ble_eq_true rfl⟩) ⟨fun a U g mk q => by obtain ⟨q0, q1, qP, qK, qD⟩ := q; exact ⟨q0, q1, qP, va_K.moved (u := U) (U := U.calling g mk a) (Vm.Alike.refl U.vm) qK, qD⟩, va_recv hKc hPc (ci := 2) (q0 := 0) rfl rfl, fun U hU hW => ⟨rfl, by rw [hU], by rw [hU]; exact hPc, va_K.moved hW.alike hKc, hDc.weaken (fun _ _ _ _ => trivial)⟩⟩ rfl rfl hl.1 rfl (lv_room (Nat.le_of_ble_eq_true rfl)) dL_law_161 ⟨Nat.le_of_ble_eq_true rfl, Nat.le_of_ble_eq_true rfl⟩) hS (fun q _ h => hFc q h) hFc (fun r_m u t H1 locs ht hvm hwm hB hz1 hk1 hS => ?_)
  obtain ⟨gv2, fb2⟩ := u
  obtain ⟨e3, e4, e5⟩ := hwm
  dsimp only at e3 e4
  subst e4
  have e3 : gv = gv2 := e3.symm
  subst e3
  obtain ⟨hP1, hK1, hD1⟩ := hB
  rw [ht] at hP1
  have hK1 := va_K.moved hvm.symm hK1
  obtain ⟨hP, hD⟩ := va_join (wr := [(ax, .inr (0, [.ref av, .ref aq])), (aq, .inr (1, [.ref av, .ref ah, .int (nI sz2), .null, .ref an])), (av, .inl (d, 64, .inl fv)), (ah, .inl (d, 64, .inl (hN hp2))), (an, .inl (d, 64, .inl fi2))]) (w1 := [(ay, .inr (2, [.ref mv, .ref mi])), (mv, .inl (d, 64, .inl gv)), (mi, .inl (dz, 64, .inl (upd fb (lo6 (xs (i + 1))) 0)))]) hP hD [0, 1, 2] [3, 4, 5, 6, 7] rfl rfl (by decide) (by decide) hk1 hFc hP1 hD1
  generalize H1 = H at hP hS ⊢
  have hP : va_P (dC, dI) vwCl [(ax, .inr (0, [.ref av, .ref aq])), (aq, .inr (1, [.ref av, .ref ah, .int (nI sz2), .null, .ref an])), (av, .inl (d, 64, .inl fv)), (ah, .inl (d, 64, .inl (hN hp2))), (an, .inl (d, 64, .inl fi2)), (ay, .inr (2, [.ref mv, .ref mi])), (mv, .inl (d, 64, .inl gv)), (mi, .inl (dz, 64, .inl (upd fb (lo6 (xs (i + 1))) 0)))] H := hP
  have hD : va_D A [(ax, .inr (0, [.ref av, .ref aq])), (aq, .inr (1, [.ref av, .ref ah, .int (nI sz2), .null, .ref an])), (av, .inl (d, 64, .inl fv)), (ah, .inl (d, 64, .inl (hN hp2))), (an, .inl (d, 64, .inl fi2)), (ay, .inr (2, [.ref mv, .ref mi])), (mv, .inl (d, 64, .inl gv)), (mi, .inl (dz, 64, .inl (upd fb (lo6 (xs (i + 1))) 0)))] := hD
  have hE := hI.leave (lo6_lt (xs (i + 1))) e1 hG2
  refine lv_icmp_eq (tgt := 309) hx hb dL_law_164 (by decide) (fun c_1 => ?_) (fun c_1 => ?_)
  · have hP9 := hP.sub (ws' := [(ax, .inr (0, [.ref av, .ref aq])), (aq, .inr (1, [.ref av, .ref ah, .int (nI sz2), .null, .ref an])), (av, .inl (d, 64, .inl fv)), (ah, .inl (d, 64, .inl (hN hp2))), (an, .inl (d, 64, .inl fi2)), (ay, .inr (2, [.ref mv, .ref mi])), (mv, .inl (d, 64, .inl gv)), (mi, .inl (dz, 64, .inl (upd fb (lo6 (xs (i + 1))) 0)))]) [0, 1, 2, 3, 4, 5, 6, 7] rfl
    have hD9 := hD.sub (ws' := [(ax, .inr (0, [.ref av, .ref aq])), (aq, .inr (1, [.ref av, .ref ah, .int (nI sz2), .null, .ref an])), (av, .inl (d, 64, .inl fv)), (ah, .inl (d, 64, .inl (hN hp2))), (an, .inl (d, 64, .inl fi2)), (ay, .inr (2, [.ref mv, .ref mi])), (mv, .inl (d, 64, .inl gv)), (mi, .inl (dz, 64, .inl (upd fb (lo6 (xs (i + 1))) 0)))]) [0, 1, 2, 3, 4, 5, 6, 7] (by decide) rfl
    exact hk _ _ _ _ _ _ _ H locs ls hE.2 hP9 hD9 hS (lv_sub hl [0, 1, 2, 3] rfl)
  · exact absurd (hE.1.trans e5.symm) c_1
set_option maxHeartbeats 4000000 in
set_option maxRecDepth 100000 in
/-- the law, case 3: least -/
theorem law_c3 {p : Program} {l : Launch} {e : Env} {s : State} {m : MethodId} {below : List Frame} {meth : Method} {c : Code} {Q : State → Prop} {dC : Nat → ClassId} {dI : Nat → Nat → Nat} {A : Nat → Prop} {b L : Nat} {xs : Nat → Int32} {d dz : ClassId} {ax aq av ah an ay mv mi i : Nat} (hx : p.tables.exec = Jvm.exec) (hb : c.code = cL_law) (hml : c.maxLocals = 4) (hown : s.vm.findClass R_law = some m.cls) (hts : ∀ w ∈ lw_all, w.before (#[Value.ref b] : Array Value) s = true) (hX : va_X b L xs s s.heap) (hbl : b < s.heap.size) (hbA : ¬ A b) (hA : ∀ q : Nat, s.heap.size ≤ q → A q) (hLs : L < 2 ^ 31) (hi6 : i + 6 ≤ L) (hK : va_K (dC, dI) vwCl [(d, .int), (dz, .boolean)] s)
    (hk : ∀ (M : Nat → Prop) (sz : Nat) (fv : Nat → Int32) (hp : Nat → Nat) (fi gv fb : Nat → Int32) (H : Heap) (locs : List Loc) (ls : Array Slot), LI M sz fv hp fi gv fb → va_P (dC, dI) vwCl [(ax, .inr (0, [.ref av, .ref aq])), (aq, .inr (1, [.ref av, .ref ah, .int (nI sz), .null, .ref an])), (av, .inl (d, 64, .inl fv)), (ah, .inl (d, 64, .inl (hN hp))), (an, .inl (d, 64, .inl fi)), (ay, .inr (2, [.ref mv, .ref mi])), (mv, .inl (d, 64, .inl gv)), (mi, .inl (dz, 64, .inl fb))] H → va_D A [(ax, .inr (0, [.ref av, .ref aq])), (aq, .inr (1, [.ref av, .ref ah, .int (nI sz), .null, .ref an])), (av, .inl (d, 64, .inl fv)), (ah, .inl (d, 64, .inl (hN hp))), (an, .inl (d, 64, .inl fi)), (ay, .inr (2, [.ref mv, .ref mi])), (mv, .inl (d, 64, .inl gv)), (mi, .inl (dz, 64, .inl fb))] → va_S A s.heap H locs → lv_has ls 4 [(0, .ref b), (1, .ref ax), (2, .ref ay), (3, .int (nI i))] → W p l e room_1 s m #[Value.ref b] below meth c H locs 8 329 Q (F0 m 309 ls [])) :
    ∀ (M : Nat → Prop) (sz : Nat) (fv : Nat → Int32) (hp : Nat → Nat) (fi gv fb : Nat → Int32) (H : Heap) (locs : List Loc) (ls : Array Slot), LI M sz fv hp fi gv fb → va_P (dC, dI) vwCl [(ax, .inr (0, [.ref av, .ref aq])), (aq, .inr (1, [.ref av, .ref ah, .int (nI sz), .null, .ref an])), (av, .inl (d, 64, .inl fv)), (ah, .inl (d, 64, .inl (hN hp))), (an, .inl (d, 64, .inl fi)), (ay, .inr (2, [.ref mv, .ref mi])), (mv, .inl (d, 64, .inl gv)), (mi, .inl (dz, 64, .inl fb))] H → va_D A [(ax, .inr (0, [.ref av, .ref aq])), (aq, .inr (1, [.ref av, .ref ah, .int (nI sz), .null, .ref an])), (av, .inl (d, 64, .inl fv)), (ah, .inl (d, 64, .inl (hN hp))), (an, .inl (d, 64, .inl fi)), (ay, .inr (2, [.ref mv, .ref mi])), (mv, .inl (d, 64, .inl gv)), (mi, .inl (dz, 64, .inl fb))] → va_S A s.heap H locs → lv_has ls 4 [(0, .ref b), (1, .ref ax), (2, .ref ay), (3, .int (nI i))] → W p l e room_1 s m #[Value.ref b] below meth c H locs 8 329 Q (F0 m 169 ls []) := by
  intro M sz fv hp fi gv fb H locs ls hI hP hD hS hl
  refine lv_aload_n hx hb dL_law_169 rfl (lv_at hl 1 rfl) ?_
  have hPc := hP.sub (ws' := [(ax, .inr (0, [.ref av, .ref aq])), (aq, .inr (1, [.ref av, .ref ah, .int (nI sz), .null, .ref an])), (av, .inl (d, 64, .inl fv)), (ah, .inl (d, 64, .inl (hN hp))), (an, .inl (d, 64, .inl fi))]) [0, 1, 2, 3, 4] rfl
  have hDc := hD.sub (ws' := [(ax, .inr (0, [.ref av, .ref aq])), (aq, .inr (1, [.ref av, .ref ah, .int (nI sz), .null, .ref an])), (av, .inl (d, 64, .inl fv)), (ah, .inl (d, 64, .inl (hN hp))), (an, .inl (d, 64, .inl fi))]) [0, 1, 2, 3, 4] (by decide) rfl
  have hKc := hK.sub (tys' := [(d, .int)]) [0] rfl
  have hFc := va_free (wc := [(ax, .inr (0, [.ref av, .ref aq])), (aq, .inr (1, [.ref av, .ref ah, .int (nI sz), .null, .ref an])), (av, .inl (d, 64, .inl fv)), (ah, .inl (d, 64, .inl (hN hp))), (an, .inl (d, 64, .inl fi))]) hD hS hA [0, 1, 2, 3, 4] rfl
  refine va_calli (va_runV (As := []) (rest := []) ⟨hx, hb, hml, hown, hts⟩ (metX0_least l dC dI d ax aq av ah an H.size fv hp fi sz M hI.1) (cwV 0 hts (lw_V q436 q437 q438 q3 q439) rfl rfl rfl (by decide +kernel) ⟨Nat.le_of_ble_eq_true rfl, Nat.le_of_ble_eq_true rfl⟩) ⟨fun a U g mk q => by obtain ⟨q0, q1, qP, qK, qD⟩ := q; exact ⟨q0, q1, qP, va_K.moved (u := U) (U := U.calling g mk a) (Vm.Alike.refl U.vm) qK, qD⟩, va_recv hKc hPc (ci := 0) (q0 := 0) rfl rfl, fun U hU hW => ⟨rfl, by rw [hU], by rw [hU]; exact hPc, va_K.moved hW.alike hKc, hDc.weaken (fun _ _ _ _ => trivial)⟩⟩ rfl rfl hl.1 rfl (lv_room (Nat.le_of_ble_eq_true rfl)) dL_law_170 ⟨Nat.le_of_ble_eq_true rfl, Nat.le_of_ble_eq_true rfl⟩) hS (fun q _ h => hFc q h) hFc (fun r_x u t H1 locs ht hvm hwx hB hz1 hk1 hS => ?_)
  obtain ⟨hP1, hK1, hD1⟩ := hB
  rw [ht] at hP1
  have hK1 := va_K.moved hvm.symm hK1
  obtain ⟨hP, hD⟩ := va_join (wr := [(ay, .inr (2, [.ref mv, .ref mi])), (mv, .inl (d, 64, .inl gv)), (mi, .inl (dz, 64, .inl fb))]) (w1 := [(ax, .inr (0, [.ref av, .ref aq])), (aq, .inr (1, [.ref av, .ref ah, .int (nI sz), .null, .ref an])), (av, .inl (d, 64, .inl fv)), (ah, .inl (d, 64, .inl (hN hp))), (an, .inl (d, 64, .inl fi))]) hP hD [0, 1, 2, 3, 4] [5, 6, 7] rfl rfl (by decide) (by decide) hk1 hFc hP1 hD1
  generalize H1 = H at hP hS ⊢
  have hP : va_P (dC, dI) vwCl [(ay, .inr (2, [.ref mv, .ref mi])), (mv, .inl (d, 64, .inl gv)), (mi, .inl (dz, 64, .inl fb)), (ax, .inr (0, [.ref av, .ref aq])), (aq, .inr (1, [.ref av, .ref ah, .int (nI sz), .null, .ref an])), (av, .inl (d, 64, .inl fv)), (ah, .inl (d, 64, .inl (hN hp))), (an, .inl (d, 64, .inl fi))] H := hP
  have hD : va_D A [(ay, .inr (2, [.ref mv, .ref mi])), (mv, .inl (d, 64, .inl gv)), (mi, .inl (dz, 64, .inl fb)), (ax, .inr (0, [.ref av, .ref aq])), (aq, .inr (1, [.ref av, .ref ah, .int (nI sz), .null, .ref an])), (av, .inl (d, 64, .inl fv)), (ah, .inl (d, 64, .inl (hN hp))), (an, .inl (d, 64, .inl fi))] := hD
  refine lv_aload_n hx hb dL_law_173 rfl (lv_at hl 2 rfl) ?_
  have hPc := hP.sub (ws' := [(ay, .inr (2, [.ref mv, .ref mi])), (mv, .inl (d, 64, .inl gv)), (mi, .inl (dz, 64, .inl fb))]) [0, 1, 2] rfl
  have hDc := hD.sub (ws' := [(ay, .inr (2, [.ref mv, .ref mi])), (mv, .inl (d, 64, .inl gv)), (mi, .inl (dz, 64, .inl fb))]) [0, 1, 2] (by decide) rfl
  have hKc := hK.sub (tys' := [(d, .int), (dz, .boolean)]) [0, 1] rfl
  have hFc := va_free (wc := [(ay, .inr (2, [.ref mv, .ref mi])), (mv, .inl (d, 64, .inl gv)), (mi, .inl (dz, 64, .inl fb))]) hD hS hA [0, 1, 2] rfl
  refine va_calli (va_runV (As := []) (rest := [.int r_x]) ⟨hx, hb, hml, hown, hts⟩ (metX4_least l dC dI d dz ay mv mi H.size gv fb hI.flag) (cwV 0 hts (lw_V q549 q550 q551 q8 q552) rfl rfl rfl (by decide +kernel) ⟨Nat.le_of_ble_eq_true rfl, Nat.le_of_ble_eq_true rfl⟩) ⟨fun a U g mk q => by obtain ⟨q0, q1, qP, qK, qD⟩ := q; exact ⟨q0, q1, qP, va_K.moved (u := U) (U := U.calling g mk a) (Vm.Alike.refl U.vm) qK, qD⟩, va_recv hKc hPc (ci := 2) (q0 := 0) rfl rfl, fun U hU hW => ⟨rfl, by rw [hU], by rw [hU]; exact hPc, va_K.moved hW.alike hKc, hDc.weaken (fun _ _ _ _ => trivial)⟩⟩ rfl rfl hl.1 rfl (lv_room (Nat.le_of_ble_eq_true rfl)) dL_law_174 ⟨Nat.le_of_ble_eq_true rfl, Nat.le_of_ble_eq_true rfl⟩) hS (fun q _ h => hFc q h) hFc (fun r_m u t H1 locs ht hvm hwm hB hz1 hk1 hS => ?_)
  obtain ⟨hP1, hK1, hD1⟩ := hB
  rw [ht] at hP1
  have hK1 := va_K.moved hvm.symm hK1
  obtain ⟨hP, hD⟩ := va_join (wr := [(ax, .inr (0, [.ref av, .ref aq])), (aq, .inr (1, [.ref av, .ref ah, .int (nI sz), .null, .ref an])), (av, .inl (d, 64, .inl fv)), (ah, .inl (d, 64, .inl (hN hp))), (an, .inl (d, 64, .inl fi))]) (w1 := [(ay, .inr (2, [.ref mv, .ref mi])), (mv, .inl (d, 64, .inl gv)), (mi, .inl (dz, 64, .inl fb))]) hP hD [0, 1, 2] [3, 4, 5, 6, 7] rfl rfl (by decide) (by decide) hk1 hFc hP1 hD1
  generalize H1 = H at hP hS ⊢
  have hP : va_P (dC, dI) vwCl [(ax, .inr (0, [.ref av, .ref aq])), (aq, .inr (1, [.ref av, .ref ah, .int (nI sz), .null, .ref an])), (av, .inl (d, 64, .inl fv)), (ah, .inl (d, 64, .inl (hN hp))), (an, .inl (d, 64, .inl fi)), (ay, .inr (2, [.ref mv, .ref mi])), (mv, .inl (d, 64, .inl gv)), (mi, .inl (dz, 64, .inl fb))] H := hP
  have hD : va_D A [(ax, .inr (0, [.ref av, .ref aq])), (aq, .inr (1, [.ref av, .ref ah, .int (nI sz), .null, .ref an])), (av, .inl (d, 64, .inl fv)), (ah, .inl (d, 64, .inl (hN hp))), (an, .inl (d, 64, .inl fi)), (ay, .inr (2, [.ref mv, .ref mi])), (mv, .inl (d, 64, .inl gv)), (mi, .inl (dz, 64, .inl fb))] := hD
  refine lv_icmp_eq (tgt := 309) hx hb dL_law_177 (by decide) (fun c_1 => ?_) (fun c_1 => ?_)
  · have hP9 := hP.sub (ws' := [(ax, .inr (0, [.ref av, .ref aq])), (aq, .inr (1, [.ref av, .ref ah, .int (nI sz), .null, .ref an])), (av, .inl (d, 64, .inl fv)), (ah, .inl (d, 64, .inl (hN hp))), (an, .inl (d, 64, .inl fi)), (ay, .inr (2, [.ref mv, .ref mi])), (mv, .inl (d, 64, .inl gv)), (mi, .inl (dz, 64, .inl fb))]) [0, 1, 2, 3, 4, 5, 6, 7] rfl
    have hD9 := hD.sub (ws' := [(ax, .inr (0, [.ref av, .ref aq])), (aq, .inr (1, [.ref av, .ref ah, .int (nI sz), .null, .ref an])), (av, .inl (d, 64, .inl fv)), (ah, .inl (d, 64, .inl (hN hp))), (an, .inl (d, 64, .inl fi)), (ay, .inr (2, [.ref mv, .ref mi])), (mv, .inl (d, 64, .inl gv)), (mi, .inl (dz, 64, .inl fb))]) [0, 1, 2, 3, 4, 5, 6, 7] (by decide) rfl
    exact hk _ _ _ _ _ _ _ H locs ls hI hP9 hD9 hS (lv_sub hl [0, 1, 2, 3] rfl)
  · exact absurd (hI.least hwx hwm) c_1
set_option maxHeartbeats 4000000 in
set_option maxRecDepth 100000 in
/-- the law, case 4: take -/
theorem law_c4 {p : Program} {l : Launch} {e : Env} {s : State} {m : MethodId} {below : List Frame} {meth : Method} {c : Code} {Q : State → Prop} {dC : Nat → ClassId} {dI : Nat → Nat → Nat} {A : Nat → Prop} {b L : Nat} {xs : Nat → Int32} {d dz : ClassId} {ax aq av ah an ay mv mi i : Nat} (hx : p.tables.exec = Jvm.exec) (hb : c.code = cL_law) (hml : c.maxLocals = 4) (hown : s.vm.findClass R_law = some m.cls) (hts : ∀ w ∈ lw_all, w.before (#[Value.ref b] : Array Value) s = true) (hX : va_X b L xs s s.heap) (hbl : b < s.heap.size) (hbA : ¬ A b) (hA : ∀ q : Nat, s.heap.size ≤ q → A q) (hLs : L < 2 ^ 31) (hi6 : i + 6 ≤ L) (hK : va_K (dC, dI) vwCl [(d, .int), (dz, .boolean)] s)
    (hk : ∀ (M : Nat → Prop) (sz : Nat) (fv : Nat → Int32) (hp : Nat → Nat) (fi gv fb : Nat → Int32) (H : Heap) (locs : List Loc) (ls : Array Slot), LI M sz fv hp fi gv fb → va_P (dC, dI) vwCl [(ax, .inr (0, [.ref av, .ref aq])), (aq, .inr (1, [.ref av, .ref ah, .int (nI sz), .null, .ref an])), (av, .inl (d, 64, .inl fv)), (ah, .inl (d, 64, .inl (hN hp))), (an, .inl (d, 64, .inl fi)), (ay, .inr (2, [.ref mv, .ref mi])), (mv, .inl (d, 64, .inl gv)), (mi, .inl (dz, 64, .inl fb))] H → va_D A [(ax, .inr (0, [.ref av, .ref aq])), (aq, .inr (1, [.ref av, .ref ah, .int (nI sz), .null, .ref an])), (av, .inl (d, 64, .inl fv)), (ah, .inl (d, 64, .inl (hN hp))), (an, .inl (d, 64, .inl fi)), (ay, .inr (2, [.ref mv, .ref mi])), (mv, .inl (d, 64, .inl gv)), (mi, .inl (dz, 64, .inl fb))] → va_S A s.heap H locs → lv_has ls 4 [(0, .ref b), (1, .ref ax), (2, .ref ay), (3, .int (nI i))] → W p l e room_1 s m #[Value.ref b] below meth c H locs 8 329 Q (F0 m 309 ls [])) :
    ∀ (M : Nat → Prop) (sz : Nat) (fv : Nat → Int32) (hp : Nat → Nat) (fi gv fb : Nat → Int32) (H : Heap) (locs : List Loc) (ls : Array Slot), LI M sz fv hp fi gv fb → va_P (dC, dI) vwCl [(ax, .inr (0, [.ref av, .ref aq])), (aq, .inr (1, [.ref av, .ref ah, .int (nI sz), .null, .ref an])), (av, .inl (d, 64, .inl fv)), (ah, .inl (d, 64, .inl (hN hp))), (an, .inl (d, 64, .inl fi)), (ay, .inr (2, [.ref mv, .ref mi])), (mv, .inl (d, 64, .inl gv)), (mi, .inl (dz, 64, .inl fb))] H → va_D A [(ax, .inr (0, [.ref av, .ref aq])), (aq, .inr (1, [.ref av, .ref ah, .int (nI sz), .null, .ref an])), (av, .inl (d, 64, .inl fv)), (ah, .inl (d, 64, .inl (hN hp))), (an, .inl (d, 64, .inl fi)), (ay, .inr (2, [.ref mv, .ref mi])), (mv, .inl (d, 64, .inl gv)), (mi, .inl (dz, 64, .inl fb))] → va_S A s.heap H locs → lv_has ls 4 [(0, .ref b), (1, .ref ax), (2, .ref ay), (3, .int (nI i))] → W p l e room_1 s m #[Value.ref b] below meth c H locs 8 329 Q (F0 m 182 ls []) := by
  intro M sz fv hp fi gv fb H locs ls hI hP hD hS hl
  refine lv_aload_n hx hb dL_law_182 rfl (lv_at hl 1 rfl) ?_
  have hPc := hP.sub (ws' := [(ax, .inr (0, [.ref av, .ref aq])), (aq, .inr (1, [.ref av, .ref ah, .int (nI sz), .null, .ref an])), (av, .inl (d, 64, .inl fv)), (ah, .inl (d, 64, .inl (hN hp))), (an, .inl (d, 64, .inl fi))]) [0, 1, 2, 3, 4] rfl
  have hDc := hD.sub (ws' := [(ax, .inr (0, [.ref av, .ref aq])), (aq, .inr (1, [.ref av, .ref ah, .int (nI sz), .null, .ref an])), (av, .inl (d, 64, .inl fv)), (ah, .inl (d, 64, .inl (hN hp))), (an, .inl (d, 64, .inl fi))]) [0, 1, 2, 3, 4] (by decide) rfl
  have hKc := hK.sub (tys' := [(d, .int)]) [0] rfl
  have hFc := va_free (wc := [(ax, .inr (0, [.ref av, .ref aq])), (aq, .inr (1, [.ref av, .ref ah, .int (nI sz), .null, .ref an])), (av, .inl (d, 64, .inl fv)), (ah, .inl (d, 64, .inl (hN hp))), (an, .inl (d, 64, .inl fi))]) hD hS hA [0, 1, 2, 3, 4] rfl
  refine va_calli (va_runV (As := []) (rest := []) ⟨hx, hb, hml, hown, hts⟩ (metX0_take l dC dI d ax aq av ah an H.size fv hp fi sz M hI.1) (cwV 0 hts (lw_V q473 q474 q475 q3 q476) rfl rfl rfl (by decide +kernel) ⟨Nat.le_of_ble_eq_true rfl, Nat.le_of_ble_eq_true rfl⟩) ⟨fun a U g mk q => by obtain ⟨q0, q1, qP, qK, qD⟩ := q; exact ⟨q0, q1, qP, va_K.moved (u := U) (U := U.calling g mk a) (Vm.Alike.refl U.vm) qK, qD⟩, va_recv hKc hPc (ci := 0) (q0 := 0) rfl rfl, fun U hU hW => ⟨rfl, by rw [hU], by rw [hU]; exact hPc, va_K.moved hW.alike hKc, hDc.weaken (fun _ _ _ _ => trivial)⟩⟩ rfl rfl hl.1 rfl (lv_room (Nat.le_of_ble_eq_true rfl)) dL_law_183 ⟨Nat.le_of_ble_eq_true rfl, Nat.le_of_ble_eq_true rfl⟩) hS (fun q _ h => hFc q h) hFc (fun r_x u t H1 locs ht hvm hwx hB hz1 hk1 hS => ?_)
  obtain ⟨sz2, fv2, hp2, fi2⟩ := u
  obtain ⟨e2, e1⟩ := hwx
  dsimp only at e1 e2
  have e2 : fv = fv2 := e2.symm
  subst e2
  obtain ⟨hP1, hK1, hD1⟩ := hB
  rw [ht] at hP1
  have hK1 := va_K.moved hvm.symm hK1
  obtain ⟨hP, hD⟩ := va_join (wr := [(ay, .inr (2, [.ref mv, .ref mi])), (mv, .inl (d, 64, .inl gv)), (mi, .inl (dz, 64, .inl fb))]) (w1 := [(ax, .inr (0, [.ref av, .ref aq])), (aq, .inr (1, [.ref av, .ref ah, .int (nI sz2), .null, .ref an])), (av, .inl (d, 64, .inl fv)), (ah, .inl (d, 64, .inl (hN hp2))), (an, .inl (d, 64, .inl fi2))]) hP hD [0, 1, 2, 3, 4] [5, 6, 7] rfl rfl (by decide) (by decide) hk1 hFc hP1 hD1
  generalize H1 = H at hP hS ⊢
  have hP : va_P (dC, dI) vwCl [(ay, .inr (2, [.ref mv, .ref mi])), (mv, .inl (d, 64, .inl gv)), (mi, .inl (dz, 64, .inl fb)), (ax, .inr (0, [.ref av, .ref aq])), (aq, .inr (1, [.ref av, .ref ah, .int (nI sz2), .null, .ref an])), (av, .inl (d, 64, .inl fv)), (ah, .inl (d, 64, .inl (hN hp2))), (an, .inl (d, 64, .inl fi2))] H := hP
  have hD : va_D A [(ay, .inr (2, [.ref mv, .ref mi])), (mv, .inl (d, 64, .inl gv)), (mi, .inl (dz, 64, .inl fb)), (ax, .inr (0, [.ref av, .ref aq])), (aq, .inr (1, [.ref av, .ref ah, .int (nI sz2), .null, .ref an])), (av, .inl (d, 64, .inl fv)), (ah, .inl (d, 64, .inl (hN hp2))), (an, .inl (d, 64, .inl fi2))] := hD
  refine lv_aload_n hx hb dL_law_186 rfl (lv_at hl 2 rfl) ?_
  have hPc := hP.sub (ws' := [(ay, .inr (2, [.ref mv, .ref mi])), (mv, .inl (d, 64, .inl gv)), (mi, .inl (dz, 64, .inl fb))]) [0, 1, 2] rfl
  have hDc := hD.sub (ws' := [(ay, .inr (2, [.ref mv, .ref mi])), (mv, .inl (d, 64, .inl gv)), (mi, .inl (dz, 64, .inl fb))]) [0, 1, 2] (by decide) rfl
  have hKc := hK.sub (tys' := [(d, .int), (dz, .boolean)]) [0, 1] rfl
  have hFc := va_free (wc := [(ay, .inr (2, [.ref mv, .ref mi])), (mv, .inl (d, 64, .inl gv)), (mi, .inl (dz, 64, .inl fb))]) hD hS hA [0, 1, 2] rfl
  refine va_calli (va_runV (As := []) (rest := [.int r_x]) ⟨hx, hb, hml, hown, hts⟩ (metX4_take l dC dI d dz ay mv mi H.size gv fb hI.flag) (cwV 0 hts (lw_V q557 q558 q559 q8 q560) rfl rfl rfl (by decide +kernel) ⟨Nat.le_of_ble_eq_true rfl, Nat.le_of_ble_eq_true rfl⟩) ⟨fun a U g mk q => by obtain ⟨q0, q1, qP, qK, qD⟩ := q; exact ⟨q0, q1, qP, va_K.moved (u := U) (U := U.calling g mk a) (Vm.Alike.refl U.vm) qK, qD⟩, va_recv hKc hPc (ci := 2) (q0 := 0) rfl rfl, fun U hU hW => ⟨rfl, by rw [hU], by rw [hU]; exact hPc, va_K.moved hW.alike hKc, hDc.weaken (fun _ _ _ _ => trivial)⟩⟩ rfl rfl hl.1 rfl (lv_room (Nat.le_of_ble_eq_true rfl)) dL_law_187 ⟨Nat.le_of_ble_eq_true rfl, Nat.le_of_ble_eq_true rfl⟩) hS (fun q _ h => hFc q h) hFc (fun r_m u t H1 locs ht hvm hwm hB hz1 hk1 hS => ?_)
  obtain ⟨gv2, fb2⟩ := u
  obtain ⟨e3, e5⟩ := hwm
  dsimp only at e3 e5
  have e3 : gv = gv2 := e3.symm
  subst e3
  obtain ⟨hP1, hK1, hD1⟩ := hB
  rw [ht] at hP1
  have hK1 := va_K.moved hvm.symm hK1
  obtain ⟨hP, hD⟩ := va_join (wr := [(ax, .inr (0, [.ref av, .ref aq])), (aq, .inr (1, [.ref av, .ref ah, .int (nI sz2), .null, .ref an])), (av, .inl (d, 64, .inl fv)), (ah, .inl (d, 64, .inl (hN hp2))), (an, .inl (d, 64, .inl fi2))]) (w1 := [(ay, .inr (2, [.ref mv, .ref mi])), (mv, .inl (d, 64, .inl gv)), (mi, .inl (dz, 64, .inl fb2))]) hP hD [0, 1, 2] [3, 4, 5, 6, 7] rfl rfl (by decide) (by decide) hk1 hFc hP1 hD1
  generalize H1 = H at hP hS ⊢
  have hP : va_P (dC, dI) vwCl [(ax, .inr (0, [.ref av, .ref aq])), (aq, .inr (1, [.ref av, .ref ah, .int (nI sz2), .null, .ref an])), (av, .inl (d, 64, .inl fv)), (ah, .inl (d, 64, .inl (hN hp2))), (an, .inl (d, 64, .inl fi2)), (ay, .inr (2, [.ref mv, .ref mi])), (mv, .inl (d, 64, .inl gv)), (mi, .inl (dz, 64, .inl fb2))] H := hP
  have hD : va_D A [(ax, .inr (0, [.ref av, .ref aq])), (aq, .inr (1, [.ref av, .ref ah, .int (nI sz2), .null, .ref an])), (av, .inl (d, 64, .inl fv)), (ah, .inl (d, 64, .inl (hN hp2))), (an, .inl (d, 64, .inl fi2)), (ay, .inr (2, [.ref mv, .ref mi])), (mv, .inl (d, 64, .inl gv)), (mi, .inl (dz, 64, .inl fb2))] := hD
  obtain ⟨hE, M2, hI2⟩ := hI.take e1 e5
  refine lv_icmp_eq (tgt := 309) hx hb dL_law_190 (by decide) (fun c_1 => ?_) (fun c_1 => ?_)
  · have hP9 := hP.sub (ws' := [(ax, .inr (0, [.ref av, .ref aq])), (aq, .inr (1, [.ref av, .ref ah, .int (nI sz2), .null, .ref an])), (av, .inl (d, 64, .inl fv)), (ah, .inl (d, 64, .inl (hN hp2))), (an, .inl (d, 64, .inl fi2)), (ay, .inr (2, [.ref mv, .ref mi])), (mv, .inl (d, 64, .inl gv)), (mi, .inl (dz, 64, .inl fb2))]) [0, 1, 2, 3, 4, 5, 6, 7] rfl
    have hD9 := hD.sub (ws' := [(ax, .inr (0, [.ref av, .ref aq])), (aq, .inr (1, [.ref av, .ref ah, .int (nI sz2), .null, .ref an])), (av, .inl (d, 64, .inl fv)), (ah, .inl (d, 64, .inl (hN hp2))), (an, .inl (d, 64, .inl fi2)), (ay, .inr (2, [.ref mv, .ref mi])), (mv, .inl (d, 64, .inl gv)), (mi, .inl (dz, 64, .inl fb2))]) [0, 1, 2, 3, 4, 5, 6, 7] (by decide) rfl
    exact hk _ _ _ _ _ _ _ H locs ls hI2 hP9 hD9 hS (lv_sub hl [0, 1, 2, 3] rfl)
  · exact absurd hE c_1
set_option maxHeartbeats 4000000 in
set_option maxRecDepth 100000 in
/-- the law, case 5: headChanged -/
theorem law_c5 {p : Program} {l : Launch} {e : Env} {s : State} {m : MethodId} {below : List Frame} {meth : Method} {c : Code} {Q : State → Prop} {dC : Nat → ClassId} {dI : Nat → Nat → Nat} {A : Nat → Prop} {b L : Nat} {xs : Nat → Int32} {d dz : ClassId} {ax aq av ah an ay mv mi i : Nat} (hx : p.tables.exec = Jvm.exec) (hb : c.code = cL_law) (hml : c.maxLocals = 4) (hown : s.vm.findClass R_law = some m.cls) (hts : ∀ w ∈ lw_all, w.before (#[Value.ref b] : Array Value) s = true) (hX : va_X b L xs s s.heap) (hbl : b < s.heap.size) (hbA : ¬ A b) (hA : ∀ q : Nat, s.heap.size ≤ q → A q) (hLs : L < 2 ^ 31) (hi6 : i + 6 ≤ L) (hK : va_K (dC, dI) vwCl [(d, .int), (dz, .boolean)] s)
    (hk : ∀ (M : Nat → Prop) (sz : Nat) (fv : Nat → Int32) (hp : Nat → Nat) (fi gv fb : Nat → Int32) (H : Heap) (locs : List Loc) (ls : Array Slot), LI M sz fv hp fi gv fb → va_P (dC, dI) vwCl [(ax, .inr (0, [.ref av, .ref aq])), (aq, .inr (1, [.ref av, .ref ah, .int (nI sz), .null, .ref an])), (av, .inl (d, 64, .inl fv)), (ah, .inl (d, 64, .inl (hN hp))), (an, .inl (d, 64, .inl fi)), (ay, .inr (2, [.ref mv, .ref mi])), (mv, .inl (d, 64, .inl gv)), (mi, .inl (dz, 64, .inl fb))] H → va_D A [(ax, .inr (0, [.ref av, .ref aq])), (aq, .inr (1, [.ref av, .ref ah, .int (nI sz), .null, .ref an])), (av, .inl (d, 64, .inl fv)), (ah, .inl (d, 64, .inl (hN hp))), (an, .inl (d, 64, .inl fi)), (ay, .inr (2, [.ref mv, .ref mi])), (mv, .inl (d, 64, .inl gv)), (mi, .inl (dz, 64, .inl fb))] → va_S A s.heap H locs → lv_has ls 4 [(0, .ref b), (1, .ref ax), (2, .ref ay), (3, .int (nI i))] → W p l e room_1 s m #[Value.ref b] below meth c H locs 8 329 Q (F0 m 309 ls [])) :
    ∀ (M : Nat → Prop) (sz : Nat) (fv : Nat → Int32) (hp : Nat → Nat) (fi gv fb : Nat → Int32) (H : Heap) (locs : List Loc) (ls : Array Slot), LI M sz fv hp fi gv fb → va_P (dC, dI) vwCl [(ax, .inr (0, [.ref av, .ref aq])), (aq, .inr (1, [.ref av, .ref ah, .int (nI sz), .null, .ref an])), (av, .inl (d, 64, .inl fv)), (ah, .inl (d, 64, .inl (hN hp))), (an, .inl (d, 64, .inl fi)), (ay, .inr (2, [.ref mv, .ref mi])), (mv, .inl (d, 64, .inl gv)), (mi, .inl (dz, 64, .inl fb))] H → va_D A [(ax, .inr (0, [.ref av, .ref aq])), (aq, .inr (1, [.ref av, .ref ah, .int (nI sz), .null, .ref an])), (av, .inl (d, 64, .inl fv)), (ah, .inl (d, 64, .inl (hN hp))), (an, .inl (d, 64, .inl fi)), (ay, .inr (2, [.ref mv, .ref mi])), (mv, .inl (d, 64, .inl gv)), (mi, .inl (dz, 64, .inl fb))] → va_S A s.heap H locs → lv_has ls 4 [(0, .ref b), (1, .ref ax), (2, .ref ay), (3, .int (nI i))] → W p l e room_1 s m #[Value.ref b] below meth c H locs 8 329 Q (F0 m 195 ls []) := by
  intro M sz fv hp fi gv fb H locs ls hI hP hD hS hl
  refine lv_aload_n hx hb dL_law_195 rfl (lv_at hl 1 rfl) ?_
  refine lv_aload_n hx hb dL_law_196 rfl (lv_at hl 0 rfl) ?_
  refine lv_iload_n hx hb dL_law_197 rfl (lv_at hl 3 rfl) ?_
  refine lv_iconst (v := 1) hx hb dL_law_198 (by decide +kernel) ?_
  refine xi_add hx hb (nI (i + 1)) (x_inc i) dL_law_199 ?_
  refine xs_ld hx hb hX hbl hbA hS (i + 1) rfl (by omega) hLs dL_law_200 ?_
  have hPc := hP.sub (ws' := [(ax, .inr (0, [.ref av, .ref aq])), (aq, .inr (1, [.ref av, .ref ah, .int (nI sz), .null, .ref an])), (av, .inl (d, 64, .inl fv)), (ah, .inl (d, 64, .inl (hN hp))), (an, .inl (d, 64, .inl fi))]) [0, 1, 2, 3, 4] rfl
  have hDc := hD.sub (ws' := [(ax, .inr (0, [.ref av, .ref aq])), (aq, .inr (1, [.ref av, .ref ah, .int (nI sz), .null, .ref an])), (av, .inl (d, 64, .inl fv)), (ah, .inl (d, 64, .inl (hN hp))), (an, .inl (d, 64, .inl fi))]) [0, 1, 2, 3, 4] (by decide) rfl
  have hKc := hK.sub (tys' := [(d, .int)]) [0] rfl
  have hFc := va_free (wc := [(ax, .inr (0, [.ref av, .ref aq])), (aq, .inr (1, [.ref av, .ref ah, .int (nI sz), .null, .ref an])), (av, .inl (d, 64, .inl fv)), (ah, .inl (d, 64, .inl (hN hp))), (an, .inl (d, 64, .inl fi))]) hD hS hA [0, 1, 2, 3, 4] rfl
  refine va_calli (va_runV (As := [.int (xs (i + 1))]) (rest := []) ⟨hx, hb, hml, hown, hts⟩ (metX0_headChanged l dC dI d ax aq av ah an H.size fv hp fi sz M hI.1 (xs (i + 1))) (cwV 1 hts (lw_V q483 q484 q485 q3 q486) rfl rfl rfl (by decide +kernel) ⟨Nat.le_of_ble_eq_true rfl, Nat.le_of_ble_eq_true rfl⟩) ⟨fun a U g mk q => by obtain ⟨q0, q1, qP, qK, qD⟩ := q; exact ⟨q0, q1, qP, va_K.moved (u := U) (U := U.calling g mk a) (Vm.Alike.refl U.vm) qK, qD⟩, va_recv hKc hPc (ci := 0) (q0 := 0) rfl rfl, fun U hU hW => ⟨rfl, by rw [hU], by rw [hU]; exact hPc, va_K.moved hW.alike hKc, hDc.weaken (fun _ _ _ _ => trivial)⟩⟩ rfl rfl hl.1 rfl (lv_room (Nat.le_of_ble_eq_true rfl)) dL_law_201 ⟨Nat.le_of_ble_eq_true rfl, Nat.le_of_ble_eq_true rfl⟩) hS (fun q _ h => hFc q h) hFc (fun r_x u t H1 locs ht hvm hwx hB hz1 hk1 hS => ?_)
  obtain ⟨sz2, fv2, hp2, fi2⟩ := u
  obtain ⟨e1, hG2, e2⟩ := hwx
  dsimp only at e1 e2 hG2
  obtain ⟨hP1, hK1, hD1⟩ := hB
  rw [ht] at hP1
  have hK1 := va_K.moved hvm.symm hK1
  obtain ⟨hP, hD⟩ := va_join (wr := [(ay, .inr (2, [.ref mv, .ref mi])), (mv, .inl (d, 64, .inl gv)), (mi, .inl (dz, 64, .inl fb))]) (w1 := [(ax, .inr (0, [.ref av, .ref aq])), (aq, .inr (1, [.ref av, .ref ah, .int (nI sz2), .null, .ref an])), (av, .inl (d, 64, .inl fv2)), (ah, .inl (d, 64, .inl (hN hp2))), (an, .inl (d, 64, .inl fi2))]) hP hD [0, 1, 2, 3, 4] [5, 6, 7] rfl rfl (by decide) (by decide) hk1 hFc hP1 hD1
  generalize H1 = H at hP hS ⊢
  have hP : va_P (dC, dI) vwCl [(ay, .inr (2, [.ref mv, .ref mi])), (mv, .inl (d, 64, .inl gv)), (mi, .inl (dz, 64, .inl fb)), (ax, .inr (0, [.ref av, .ref aq])), (aq, .inr (1, [.ref av, .ref ah, .int (nI sz2), .null, .ref an])), (av, .inl (d, 64, .inl fv2)), (ah, .inl (d, 64, .inl (hN hp2))), (an, .inl (d, 64, .inl fi2))] H := hP
  have hD : va_D A [(ay, .inr (2, [.ref mv, .ref mi])), (mv, .inl (d, 64, .inl gv)), (mi, .inl (dz, 64, .inl fb)), (ax, .inr (0, [.ref av, .ref aq])), (aq, .inr (1, [.ref av, .ref ah, .int (nI sz2), .null, .ref an])), (av, .inl (d, 64, .inl fv2)), (ah, .inl (d, 64, .inl (hN hp2))), (an, .inl (d, 64, .inl fi2))] := hD
  refine lv_aload_n hx hb dL_law_204 rfl (lv_at hl 2 rfl) ?_
  refine lv_aload_n hx hb dL_law_205 rfl (lv_at hl 0 rfl) ?_
  refine lv_iload_n hx hb dL_law_206 rfl (lv_at hl 3 rfl) ?_
  refine lv_iconst (v := 1) hx hb dL_law_207 (by decide +kernel) ?_
  refine xi_add hx hb (nI (i + 1)) (x_inc i) dL_law_208 ?_
  refine xs_ld hx hb hX hbl hbA hS (i + 1) rfl (by omega) hLs dL_law_209 ?_
  have hPc := hP.sub (ws' := [(ay, .inr (2, [.ref mv, .ref mi])), (mv, .inl (d, 64, .inl gv)), (mi, .inl (dz, 64, .inl fb))]) [0, 1, 2] rfl
  have hDc := hD.sub (ws' := [(ay, .inr (2, [.ref mv, .ref mi])), (mv, .inl (d, 64, .inl gv)), (mi, .inl (dz, 64, .inl fb))]) [0, 1, 2] (by decide) rfl
  have hKc := hK.sub (tys' := [(d, .int), (dz, .boolean)]) [0, 1] rfl
  have hFc := va_free (wc := [(ay, .inr (2, [.ref mv, .ref mi])), (mv, .inl (d, 64, .inl gv)), (mi, .inl (dz, 64, .inl fb))]) hD hS hA [0, 1, 2] rfl
  refine va_calli (va_runV (As := [.int (xs (i + 1))]) (rest := [.int r_x]) ⟨hx, hb, hml, hown, hts⟩ (metX4_headChanged l dC dI d dz ay mv mi H.size gv fb hI.flag (xs (i + 1))) (cwV 1 hts (lw_V q561 q562 q563 q8 q564) rfl rfl rfl (by decide +kernel) ⟨Nat.le_of_ble_eq_true rfl, Nat.le_of_ble_eq_true rfl⟩) ⟨fun a U g mk q => by obtain ⟨q0, q1, qP, qK, qD⟩ := q; exact ⟨q0, q1, qP, va_K.moved (u := U) (U := U.calling g mk a) (Vm.Alike.refl U.vm) qK, qD⟩, va_recv hKc hPc (ci := 2) (q0 := 0) rfl rfl, fun U hU hW => ⟨rfl, by rw [hU], by rw [hU]; exact hPc, va_K.moved hW.alike hKc, hDc.weaken (fun _ _ _ _ => trivial)⟩⟩ rfl rfl hl.1 rfl (lv_room (Nat.le_of_ble_eq_true rfl)) dL_law_210 ⟨Nat.le_of_ble_eq_true rfl, Nat.le_of_ble_eq_true rfl⟩) hS (fun q _ h => hFc q h) hFc (fun r_m u t H1 locs ht hvm hwm hB hz1 hk1 hS => ?_)
  obtain ⟨gv2, fb2⟩ := u
  obtain ⟨e4, e5⟩ := hwm
  dsimp only at e4 e5
  have e4 : fb = fb2 := e4.symm
  subst e4
  obtain ⟨hP1, hK1, hD1⟩ := hB
  rw [ht] at hP1
  have hK1 := va_K.moved hvm.symm hK1
  obtain ⟨hP, hD⟩ := va_join (wr := [(ax, .inr (0, [.ref av, .ref aq])), (aq, .inr (1, [.ref av, .ref ah, .int (nI sz2), .null, .ref an])), (av, .inl (d, 64, .inl fv2)), (ah, .inl (d, 64, .inl (hN hp2))), (an, .inl (d, 64, .inl fi2))]) (w1 := [(ay, .inr (2, [.ref mv, .ref mi])), (mv, .inl (d, 64, .inl gv2)), (mi, .inl (dz, 64, .inl fb))]) hP hD [0, 1, 2] [3, 4, 5, 6, 7] rfl rfl (by decide) (by decide) hk1 hFc hP1 hD1
  generalize H1 = H at hP hS ⊢
  have hP : va_P (dC, dI) vwCl [(ax, .inr (0, [.ref av, .ref aq])), (aq, .inr (1, [.ref av, .ref ah, .int (nI sz2), .null, .ref an])), (av, .inl (d, 64, .inl fv2)), (ah, .inl (d, 64, .inl (hN hp2))), (an, .inl (d, 64, .inl fi2)), (ay, .inr (2, [.ref mv, .ref mi])), (mv, .inl (d, 64, .inl gv2)), (mi, .inl (dz, 64, .inl fb))] H := hP
  have hD : va_D A [(ax, .inr (0, [.ref av, .ref aq])), (aq, .inr (1, [.ref av, .ref ah, .int (nI sz2), .null, .ref an])), (av, .inl (d, 64, .inl fv2)), (ah, .inl (d, 64, .inl (hN hp2))), (an, .inl (d, 64, .inl fi2)), (ay, .inr (2, [.ref mv, .ref mi])), (mv, .inl (d, 64, .inl gv2)), (mi, .inl (dz, 64, .inl fb))] := hD
  have hE := hI.headc e1 hG2 e2 e5
  refine lv_icmp_eq (tgt := 309) hx hb dL_law_213 (by decide) (fun c_1 => ?_) (fun c_1 => ?_)
  · have hP9 := hP.sub (ws' := [(ax, .inr (0, [.ref av, .ref aq])), (aq, .inr (1, [.ref av, .ref ah, .int (nI sz2), .null, .ref an])), (av, .inl (d, 64, .inl fv2)), (ah, .inl (d, 64, .inl (hN hp2))), (an, .inl (d, 64, .inl fi2)), (ay, .inr (2, [.ref mv, .ref mi])), (mv, .inl (d, 64, .inl gv2)), (mi, .inl (dz, 64, .inl fb))]) [0, 1, 2, 3, 4, 5, 6, 7] rfl
    have hD9 := hD.sub (ws' := [(ax, .inr (0, [.ref av, .ref aq])), (aq, .inr (1, [.ref av, .ref ah, .int (nI sz2), .null, .ref an])), (av, .inl (d, 64, .inl fv2)), (ah, .inl (d, 64, .inl (hN hp2))), (an, .inl (d, 64, .inl fi2)), (ay, .inr (2, [.ref mv, .ref mi])), (mv, .inl (d, 64, .inl gv2)), (mi, .inl (dz, 64, .inl fb))]) [0, 1, 2, 3, 4, 5, 6, 7] (by decide) rfl
    exact hk _ _ _ _ _ _ _ H locs ls hE.2 hP9 hD9 hS (lv_sub hl [0, 1, 2, 3] rfl)
  · exact absurd hE.1 c_1
set_option maxHeartbeats 4000000 in
set_option maxRecDepth 100000 in
/-- the law, case 6: all -/
theorem law_c6 {p : Program} {l : Launch} {e : Env} {s : State} {m : MethodId} {below : List Frame} {meth : Method} {c : Code} {Q : State → Prop} {dC : Nat → ClassId} {dI : Nat → Nat → Nat} {A : Nat → Prop} {b L : Nat} {xs : Nat → Int32} {d dz : ClassId} {ax aq av ah an ay mv mi i : Nat} (hx : p.tables.exec = Jvm.exec) (hb : c.code = cL_law) (hml : c.maxLocals = 4) (hown : s.vm.findClass R_law = some m.cls) (hts : ∀ w ∈ lw_all, w.before (#[Value.ref b] : Array Value) s = true) (hX : va_X b L xs s s.heap) (hbl : b < s.heap.size) (hbA : ¬ A b) (hA : ∀ q : Nat, s.heap.size ≤ q → A q) (hLs : L < 2 ^ 31) (hi6 : i + 6 ≤ L) (hK : va_K (dC, dI) vwCl [(d, .int), (dz, .boolean)] s)
    (hk : ∀ (M : Nat → Prop) (sz : Nat) (fv : Nat → Int32) (hp : Nat → Nat) (fi gv fb : Nat → Int32) (H : Heap) (locs : List Loc) (ls : Array Slot), LI M sz fv hp fi gv fb → va_P (dC, dI) vwCl [(ax, .inr (0, [.ref av, .ref aq])), (aq, .inr (1, [.ref av, .ref ah, .int (nI sz), .null, .ref an])), (av, .inl (d, 64, .inl fv)), (ah, .inl (d, 64, .inl (hN hp))), (an, .inl (d, 64, .inl fi)), (ay, .inr (2, [.ref mv, .ref mi])), (mv, .inl (d, 64, .inl gv)), (mi, .inl (dz, 64, .inl fb))] H → va_D A [(ax, .inr (0, [.ref av, .ref aq])), (aq, .inr (1, [.ref av, .ref ah, .int (nI sz), .null, .ref an])), (av, .inl (d, 64, .inl fv)), (ah, .inl (d, 64, .inl (hN hp))), (an, .inl (d, 64, .inl fi)), (ay, .inr (2, [.ref mv, .ref mi])), (mv, .inl (d, 64, .inl gv)), (mi, .inl (dz, 64, .inl fb))] → va_S A s.heap H locs → lv_has ls 4 [(0, .ref b), (1, .ref ax), (2, .ref ay), (3, .int (nI i))] → W p l e room_1 s m #[Value.ref b] below meth c H locs 8 329 Q (F0 m 309 ls [])) :
    ∀ (M : Nat → Prop) (sz : Nat) (fv : Nat → Int32) (hp : Nat → Nat) (fi gv fb : Nat → Int32) (H : Heap) (locs : List Loc) (ls : Array Slot), LI M sz fv hp fi gv fb → va_P (dC, dI) vwCl [(ax, .inr (0, [.ref av, .ref aq])), (aq, .inr (1, [.ref av, .ref ah, .int (nI sz), .null, .ref an])), (av, .inl (d, 64, .inl fv)), (ah, .inl (d, 64, .inl (hN hp))), (an, .inl (d, 64, .inl fi)), (ay, .inr (2, [.ref mv, .ref mi])), (mv, .inl (d, 64, .inl gv)), (mi, .inl (dz, 64, .inl fb))] H → va_D A [(ax, .inr (0, [.ref av, .ref aq])), (aq, .inr (1, [.ref av, .ref ah, .int (nI sz), .null, .ref an])), (av, .inl (d, 64, .inl fv)), (ah, .inl (d, 64, .inl (hN hp))), (an, .inl (d, 64, .inl fi)), (ay, .inr (2, [.ref mv, .ref mi])), (mv, .inl (d, 64, .inl gv)), (mi, .inl (dz, 64, .inl fb))] → va_S A s.heap H locs → lv_has ls 4 [(0, .ref b), (1, .ref ax), (2, .ref ay), (3, .int (nI i))] → W p l e room_1 s m #[Value.ref b] below meth c H locs 8 329 Q (F0 m 218 ls []) := by
  intro M sz fv hp fi gv fb H locs ls hI hP hD hS hl
  refine lv_aload_n hx hb dL_law_218 rfl (lv_at hl 1 rfl) ?_
  refine lv_aload_n hx hb dL_law_219 rfl (lv_at hl 0 rfl) ?_
  refine lv_iload_n hx hb dL_law_220 rfl (lv_at hl 3 rfl) ?_
  refine lv_iconst (v := 1) hx hb dL_law_221 (by decide +kernel) ?_
  refine xi_add hx hb (nI (i + 1)) (x_inc i) dL_law_222 ?_
  refine xs_ld hx hb hX hbl hbA hS (i + 1) rfl (by omega) hLs dL_law_223 ?_
  have hPc := hP.sub (ws' := [(ax, .inr (0, [.ref av, .ref aq])), (aq, .inr (1, [.ref av, .ref ah, .int (nI sz), .null, .ref an])), (av, .inl (d, 64, .inl fv)), (ah, .inl (d, 64, .inl (hN hp))), (an, .inl (d, 64, .inl fi))]) [0, 1, 2, 3, 4] rfl
  have hDc := hD.sub (ws' := [(ax, .inr (0, [.ref av, .ref aq])), (aq, .inr (1, [.ref av, .ref ah, .int (nI sz), .null, .ref an])), (av, .inl (d, 64, .inl fv)), (ah, .inl (d, 64, .inl (hN hp))), (an, .inl (d, 64, .inl fi))]) [0, 1, 2, 3, 4] (by decide) rfl
  have hKc := hK.sub (tys' := [(d, .int)]) [0] rfl
  have hFc := va_free (wc := [(ax, .inr (0, [.ref av, .ref aq])), (aq, .inr (1, [.ref av, .ref ah, .int (nI sz), .null, .ref an])), (av, .inl (d, 64, .inl fv)), (ah, .inl (d, 64, .inl (hN hp))), (an, .inl (d, 64, .inl fi))]) hD hS hA [0, 1, 2, 3, 4] rfl
  refine va_callv (va_runV (As := [.int (xs (i + 1))]) (rest := []) ⟨hx, hb, hml, hown, hts⟩ (metX0_all l dC dI d ax aq av ah an H.size fv hp fi sz M hI.1 (xs (i + 1))) (cwV 1 hts (lw_V q491 q492 q493 q3 q494) rfl rfl rfl (by decide +kernel) ⟨Nat.le_of_ble_eq_true rfl, Nat.le_of_ble_eq_true rfl⟩) ⟨fun a U g mk q => by obtain ⟨q0, q1, qP, qK, qD⟩ := q; exact ⟨q0, q1, qP, va_K.moved (u := U) (U := U.calling g mk a) (Vm.Alike.refl U.vm) qK, qD⟩, va_recv hKc hPc (ci := 0) (q0 := 0) rfl rfl, fun U hU hW => ⟨rfl, by rw [hU], by rw [hU]; exact hPc, va_K.moved hW.alike hKc, hDc.weaken (fun _ _ _ _ => trivial)⟩⟩ rfl rfl hl.1 rfl (lv_room (Nat.le_of_ble_eq_true rfl)) dL_law_224 ⟨Nat.le_of_ble_eq_true rfl, Nat.le_of_ble_eq_true rfl⟩) hS (fun q _ h => hFc q h) hFc (fun u t H1 locs ht hvm hwx hB hz1 hk1 hS => ?_)
  obtain ⟨sz2, fv2, hp2, fi2⟩ := u
  obtain ⟨e1, e2, hG2⟩ := hwx
  dsimp only at e1 e2 hG2
  have e1 : sz = sz2 := e1.symm
  subst e1
  obtain ⟨hP1, hK1, hD1⟩ := hB
  rw [ht] at hP1
  have hK1 := va_K.moved hvm.symm hK1
  obtain ⟨hP, hD⟩ := va_join (wr := [(ay, .inr (2, [.ref mv, .ref mi])), (mv, .inl (d, 64, .inl gv)), (mi, .inl (dz, 64, .inl fb))]) (w1 := [(ax, .inr (0, [.ref av, .ref aq])), (aq, .inr (1, [.ref av, .ref ah, .int (nI sz), .null, .ref an])), (av, .inl (d, 64, .inl fv2)), (ah, .inl (d, 64, .inl (hN hp2))), (an, .inl (d, 64, .inl fi2))]) hP hD [0, 1, 2, 3, 4] [5, 6, 7] rfl rfl (by decide) (by decide) hk1 hFc hP1 hD1
  generalize H1 = H at hP hS ⊢
  have hP : va_P (dC, dI) vwCl [(ay, .inr (2, [.ref mv, .ref mi])), (mv, .inl (d, 64, .inl gv)), (mi, .inl (dz, 64, .inl fb)), (ax, .inr (0, [.ref av, .ref aq])), (aq, .inr (1, [.ref av, .ref ah, .int (nI sz), .null, .ref an])), (av, .inl (d, 64, .inl fv2)), (ah, .inl (d, 64, .inl (hN hp2))), (an, .inl (d, 64, .inl fi2))] H := hP
  have hD : va_D A [(ay, .inr (2, [.ref mv, .ref mi])), (mv, .inl (d, 64, .inl gv)), (mi, .inl (dz, 64, .inl fb)), (ax, .inr (0, [.ref av, .ref aq])), (aq, .inr (1, [.ref av, .ref ah, .int (nI sz), .null, .ref an])), (av, .inl (d, 64, .inl fv2)), (ah, .inl (d, 64, .inl (hN hp2))), (an, .inl (d, 64, .inl fi2))] := hD
  refine lv_aload_n hx hb dL_law_227 rfl (lv_at hl 2 rfl) ?_
  refine lv_aload_n hx hb dL_law_228 rfl (lv_at hl 0 rfl) ?_
  refine lv_iload_n hx hb dL_law_229 rfl (lv_at hl 3 rfl) ?_
  refine lv_iconst (v := 1) hx hb dL_law_230 (by decide +kernel) ?_
  refine xi_add hx hb (nI (i + 1)) (x_inc i) dL_law_231 ?_
  refine xs_ld hx hb hX hbl hbA hS (i + 1) rfl (by omega) hLs dL_law_232 ?_
  have hPc := hP.sub (ws' := [(ay, .inr (2, [.ref mv, .ref mi])), (mv, .inl (d, 64, .inl gv)), (mi, .inl (dz, 64, .inl fb))]) [0, 1, 2] rfl
  have hDc := hD.sub (ws' := [(ay, .inr (2, [.ref mv, .ref mi])), (mv, .inl (d, 64, .inl gv)), (mi, .inl (dz, 64, .inl fb))]) [0, 1, 2] (by decide) rfl
  have hKc := hK.sub (tys' := [(d, .int), (dz, .boolean)]) [0, 1] rfl
  have hFc := va_free (wc := [(ay, .inr (2, [.ref mv, .ref mi])), (mv, .inl (d, 64, .inl gv)), (mi, .inl (dz, 64, .inl fb))]) hD hS hA [0, 1, 2] rfl
  refine va_callv (va_runV (As := [.int (xs (i + 1))]) (rest := []) ⟨hx, hb, hml, hown, hts⟩ (metX4_all l dC dI d dz ay mv mi H.size gv fb hI.flag (xs (i + 1))) (cwV 1 hts (lw_V q565 q566 q567 q8 q568) rfl rfl rfl (by decide +kernel) ⟨Nat.le_of_ble_eq_true rfl, Nat.le_of_ble_eq_true rfl⟩) ⟨fun a U g mk q => by obtain ⟨q0, q1, qP, qK, qD⟩ := q; exact ⟨q0, q1, qP, va_K.moved (u := U) (U := U.calling g mk a) (Vm.Alike.refl U.vm) qK, qD⟩, va_recv hKc hPc (ci := 2) (q0 := 0) rfl rfl, fun U hU hW => ⟨rfl, by rw [hU], by rw [hU]; exact hPc, va_K.moved hW.alike hKc, hDc.weaken (fun _ _ _ _ => trivial)⟩⟩ rfl rfl hl.1 rfl (lv_room (Nat.le_of_ble_eq_true rfl)) dL_law_233 ⟨Nat.le_of_ble_eq_true rfl, Nat.le_of_ble_eq_true rfl⟩) hS (fun q _ h => hFc q h) hFc (fun u t H1 locs ht hvm hwm hB hz1 hk1 hS => ?_)
  obtain ⟨gv2, fb2⟩ := u
  obtain ⟨e4, e5⟩ := hwm
  dsimp only at e4 e5
  have e4 : fb = fb2 := e4.symm
  subst e4
  obtain ⟨hP1, hK1, hD1⟩ := hB
  rw [ht] at hP1
  have hK1 := va_K.moved hvm.symm hK1
  obtain ⟨hP, hD⟩ := va_join (wr := [(ax, .inr (0, [.ref av, .ref aq])), (aq, .inr (1, [.ref av, .ref ah, .int (nI sz), .null, .ref an])), (av, .inl (d, 64, .inl fv2)), (ah, .inl (d, 64, .inl (hN hp2))), (an, .inl (d, 64, .inl fi2))]) (w1 := [(ay, .inr (2, [.ref mv, .ref mi])), (mv, .inl (d, 64, .inl gv2)), (mi, .inl (dz, 64, .inl fb))]) hP hD [0, 1, 2] [3, 4, 5, 6, 7] rfl rfl (by decide) (by decide) hk1 hFc hP1 hD1
  generalize H1 = H at hP hS ⊢
  have hP : va_P (dC, dI) vwCl [(ax, .inr (0, [.ref av, .ref aq])), (aq, .inr (1, [.ref av, .ref ah, .int (nI sz), .null, .ref an])), (av, .inl (d, 64, .inl fv2)), (ah, .inl (d, 64, .inl (hN hp2))), (an, .inl (d, 64, .inl fi2)), (ay, .inr (2, [.ref mv, .ref mi])), (mv, .inl (d, 64, .inl gv2)), (mi, .inl (dz, 64, .inl fb))] H := hP
  have hD : va_D A [(ax, .inr (0, [.ref av, .ref aq])), (aq, .inr (1, [.ref av, .ref ah, .int (nI sz), .null, .ref an])), (av, .inl (d, 64, .inl fv2)), (ah, .inl (d, 64, .inl (hN hp2))), (an, .inl (d, 64, .inl fi2)), (ay, .inr (2, [.ref mv, .ref mi])), (mv, .inl (d, 64, .inl gv2)), (mi, .inl (dz, 64, .inl fb))] := hD
  refine lv_goto (tgt := 309) hx hb dL_law_236 (by decide) ?_
  have hP9 := hP.sub (ws' := [(ax, .inr (0, [.ref av, .ref aq])), (aq, .inr (1, [.ref av, .ref ah, .int (nI sz), .null, .ref an])), (av, .inl (d, 64, .inl fv2)), (ah, .inl (d, 64, .inl (hN hp2))), (an, .inl (d, 64, .inl fi2)), (ay, .inr (2, [.ref mv, .ref mi])), (mv, .inl (d, 64, .inl gv2)), (mi, .inl (dz, 64, .inl fb))]) [0, 1, 2, 3, 4, 5, 6, 7] rfl
  have hD9 := hD.sub (ws' := [(ax, .inr (0, [.ref av, .ref aq])), (aq, .inr (1, [.ref av, .ref ah, .int (nI sz), .null, .ref an])), (av, .inl (d, 64, .inl fv2)), (ah, .inl (d, 64, .inl (hN hp2))), (an, .inl (d, 64, .inl fi2)), (ay, .inr (2, [.ref mv, .ref mi])), (mv, .inl (d, 64, .inl gv2)), (mi, .inl (dz, 64, .inl fb))]) [0, 1, 2, 3, 4, 5, 6, 7] (by decide) rfl
  exact hk _ _ _ _ _ _ _ H locs ls (hI.all _ hG2 e2 e5) hP9 hD9 hS (lv_sub hl [0, 1, 2, 3] rfl)
set_option maxHeartbeats 4000000 in
set_option maxRecDepth 100000 in
/-- the law, case 7: inside -/
theorem law_c7 {p : Program} {l : Launch} {e : Env} {s : State} {m : MethodId} {below : List Frame} {meth : Method} {c : Code} {Q : State → Prop} {dC : Nat → ClassId} {dI : Nat → Nat → Nat} {A : Nat → Prop} {b L : Nat} {xs : Nat → Int32} {d dz : ClassId} {ax aq av ah an ay mv mi i : Nat} (hx : p.tables.exec = Jvm.exec) (hb : c.code = cL_law) (hml : c.maxLocals = 4) (hown : s.vm.findClass R_law = some m.cls) (hts : ∀ w ∈ lw_all, w.before (#[Value.ref b] : Array Value) s = true) (hX : va_X b L xs s s.heap) (hbl : b < s.heap.size) (hbA : ¬ A b) (hA : ∀ q : Nat, s.heap.size ≤ q → A q) (hLs : L < 2 ^ 31) (hi6 : i + 6 ≤ L) (hK : va_K (dC, dI) vwCl [(d, .int), (dz, .boolean)] s)
    (hk : ∀ (M : Nat → Prop) (sz : Nat) (fv : Nat → Int32) (hp : Nat → Nat) (fi gv fb : Nat → Int32) (H : Heap) (locs : List Loc) (ls : Array Slot), LI M sz fv hp fi gv fb → va_P (dC, dI) vwCl [(ax, .inr (0, [.ref av, .ref aq])), (aq, .inr (1, [.ref av, .ref ah, .int (nI sz), .null, .ref an])), (av, .inl (d, 64, .inl fv)), (ah, .inl (d, 64, .inl (hN hp))), (an, .inl (d, 64, .inl fi)), (ay, .inr (2, [.ref mv, .ref mi])), (mv, .inl (d, 64, .inl gv)), (mi, .inl (dz, 64, .inl fb))] H → va_D A [(ax, .inr (0, [.ref av, .ref aq])), (aq, .inr (1, [.ref av, .ref ah, .int (nI sz), .null, .ref an])), (av, .inl (d, 64, .inl fv)), (ah, .inl (d, 64, .inl (hN hp))), (an, .inl (d, 64, .inl fi)), (ay, .inr (2, [.ref mv, .ref mi])), (mv, .inl (d, 64, .inl gv)), (mi, .inl (dz, 64, .inl fb))] → va_S A s.heap H locs → lv_has ls 4 [(0, .ref b), (1, .ref ax), (2, .ref ay), (3, .int (nI i))] → W p l e room_1 s m #[Value.ref b] below meth c H locs 8 329 Q (F0 m 309 ls [])) :
    ∀ (M : Nat → Prop) (sz : Nat) (fv : Nat → Int32) (hp : Nat → Nat) (fi gv fb : Nat → Int32) (H : Heap) (locs : List Loc) (ls : Array Slot), LI M sz fv hp fi gv fb → va_P (dC, dI) vwCl [(ax, .inr (0, [.ref av, .ref aq])), (aq, .inr (1, [.ref av, .ref ah, .int (nI sz), .null, .ref an])), (av, .inl (d, 64, .inl fv)), (ah, .inl (d, 64, .inl (hN hp))), (an, .inl (d, 64, .inl fi)), (ay, .inr (2, [.ref mv, .ref mi])), (mv, .inl (d, 64, .inl gv)), (mi, .inl (dz, 64, .inl fb))] H → va_D A [(ax, .inr (0, [.ref av, .ref aq])), (aq, .inr (1, [.ref av, .ref ah, .int (nI sz), .null, .ref an])), (av, .inl (d, 64, .inl fv)), (ah, .inl (d, 64, .inl (hN hp))), (an, .inl (d, 64, .inl fi)), (ay, .inr (2, [.ref mv, .ref mi])), (mv, .inl (d, 64, .inl gv)), (mi, .inl (dz, 64, .inl fb))] → va_S A s.heap H locs → lv_has ls 4 [(0, .ref b), (1, .ref ax), (2, .ref ay), (3, .int (nI i))] → W p l e room_1 s m #[Value.ref b] below meth c H locs 8 329 Q (F0 m 239 ls []) := by
  intro M sz fv hp fi gv fb H locs ls hI hP hD hS hl
  refine lv_aload_n hx hb dL_law_239 rfl (lv_at hl 1 rfl) ?_
  refine lv_aload_n hx hb dL_law_240 rfl (lv_at hl 0 rfl) ?_
  refine lv_iload_n hx hb dL_law_241 rfl (lv_at hl 3 rfl) ?_
  refine lv_iconst (v := 1) hx hb dL_law_242 (by decide +kernel) ?_
  refine xi_add hx hb (nI (i + 1)) (x_inc i) dL_law_243 ?_
  refine xs_ld hx hb hX hbl hbA hS (i + 1) rfl (by omega) hLs dL_law_244 ?_
  have hPc := hP.sub (ws' := [(ax, .inr (0, [.ref av, .ref aq])), (aq, .inr (1, [.ref av, .ref ah, .int (nI sz), .null, .ref an])), (av, .inl (d, 64, .inl fv)), (ah, .inl (d, 64, .inl (hN hp))), (an, .inl (d, 64, .inl fi))]) [0, 1, 2, 3, 4] rfl
  have hDc := hD.sub (ws' := [(ax, .inr (0, [.ref av, .ref aq])), (aq, .inr (1, [.ref av, .ref ah, .int (nI sz), .null, .ref an])), (av, .inl (d, 64, .inl fv)), (ah, .inl (d, 64, .inl (hN hp))), (an, .inl (d, 64, .inl fi))]) [0, 1, 2, 3, 4] (by decide) rfl
  have hKc := hK.sub (tys' := [(d, .int)]) [0] rfl
  have hFc := va_free (wc := [(ax, .inr (0, [.ref av, .ref aq])), (aq, .inr (1, [.ref av, .ref ah, .int (nI sz), .null, .ref an])), (av, .inl (d, 64, .inl fv)), (ah, .inl (d, 64, .inl (hN hp))), (an, .inl (d, 64, .inl fi))]) hD hS hA [0, 1, 2, 3, 4] rfl
  refine va_calli (va_runV (As := [.int (xs (i + 1))]) (rest := []) ⟨hx, hb, hml, hown, hts⟩ (metX0_inside l dC dI d ax aq av ah an H.size fv hp fi sz M hI.1 (xs (i + 1))) (cwV 1 hts (lw_V q503 q504 q505 q3 q506) rfl rfl rfl (by decide +kernel) ⟨Nat.le_of_ble_eq_true rfl, Nat.le_of_ble_eq_true rfl⟩) ⟨fun a U g mk q => by obtain ⟨q0, q1, qP, qK, qD⟩ := q; exact ⟨q0, q1, qP, va_K.moved (u := U) (U := U.calling g mk a) (Vm.Alike.refl U.vm) qK, qD⟩, va_recv hKc hPc (ci := 0) (q0 := 0) rfl rfl, fun U hU hW => ⟨rfl, by rw [hU], by rw [hU]; exact hPc, va_K.moved hW.alike hKc, hDc.weaken (fun _ _ _ _ => trivial)⟩⟩ rfl rfl hl.1 rfl (lv_room (Nat.le_of_ble_eq_true rfl)) dL_law_245 ⟨Nat.le_of_ble_eq_true rfl, Nat.le_of_ble_eq_true rfl⟩) hS (fun q _ h => hFc q h) hFc (fun r_x u t H1 locs ht hvm hwx hB hz1 hk1 hS => ?_)
  obtain ⟨hP1, hK1, hD1⟩ := hB
  rw [ht] at hP1
  have hK1 := va_K.moved hvm.symm hK1
  obtain ⟨hP, hD⟩ := va_join (wr := [(ay, .inr (2, [.ref mv, .ref mi])), (mv, .inl (d, 64, .inl gv)), (mi, .inl (dz, 64, .inl fb))]) (w1 := [(ax, .inr (0, [.ref av, .ref aq])), (aq, .inr (1, [.ref av, .ref ah, .int (nI sz), .null, .ref an])), (av, .inl (d, 64, .inl fv)), (ah, .inl (d, 64, .inl (hN hp))), (an, .inl (d, 64, .inl fi))]) hP hD [0, 1, 2, 3, 4] [5, 6, 7] rfl rfl (by decide) (by decide) hk1 hFc hP1 hD1
  generalize H1 = H at hP hS ⊢
  have hP : va_P (dC, dI) vwCl [(ay, .inr (2, [.ref mv, .ref mi])), (mv, .inl (d, 64, .inl gv)), (mi, .inl (dz, 64, .inl fb)), (ax, .inr (0, [.ref av, .ref aq])), (aq, .inr (1, [.ref av, .ref ah, .int (nI sz), .null, .ref an])), (av, .inl (d, 64, .inl fv)), (ah, .inl (d, 64, .inl (hN hp))), (an, .inl (d, 64, .inl fi))] H := hP
  have hD : va_D A [(ay, .inr (2, [.ref mv, .ref mi])), (mv, .inl (d, 64, .inl gv)), (mi, .inl (dz, 64, .inl fb)), (ax, .inr (0, [.ref av, .ref aq])), (aq, .inr (1, [.ref av, .ref ah, .int (nI sz), .null, .ref an])), (av, .inl (d, 64, .inl fv)), (ah, .inl (d, 64, .inl (hN hp))), (an, .inl (d, 64, .inl fi))] := hD
  refine lv_aload_n hx hb dL_law_248 rfl (lv_at hl 2 rfl) ?_
  refine lv_aload_n hx hb dL_law_249 rfl (lv_at hl 0 rfl) ?_
  refine lv_iload_n hx hb dL_law_250 rfl (lv_at hl 3 rfl) ?_
  refine lv_iconst (v := 1) hx hb dL_law_251 (by decide +kernel) ?_
  refine xi_add hx hb (nI (i + 1)) (x_inc i) dL_law_252 ?_
  refine xs_ld hx hb hX hbl hbA hS (i + 1) rfl (by omega) hLs dL_law_253 ?_
  have hPc := hP.sub (ws' := [(ay, .inr (2, [.ref mv, .ref mi])), (mv, .inl (d, 64, .inl gv)), (mi, .inl (dz, 64, .inl fb))]) [0, 1, 2] rfl
  have hDc := hD.sub (ws' := [(ay, .inr (2, [.ref mv, .ref mi])), (mv, .inl (d, 64, .inl gv)), (mi, .inl (dz, 64, .inl fb))]) [0, 1, 2] (by decide) rfl
  have hKc := hK.sub (tys' := [(d, .int), (dz, .boolean)]) [0, 1] rfl
  have hFc := va_free (wc := [(ay, .inr (2, [.ref mv, .ref mi])), (mv, .inl (d, 64, .inl gv)), (mi, .inl (dz, 64, .inl fb))]) hD hS hA [0, 1, 2] rfl
  refine va_calli (va_runV (As := [.int (xs (i + 1))]) (rest := [.int r_x]) ⟨hx, hb, hml, hown, hts⟩ (metX4_inside l dC dI d dz ay mv mi H.size gv fb hI.flag (xs (i + 1))) (cwV 1 hts (lw_V q569 q570 q571 q8 q572) rfl rfl rfl (by decide +kernel) ⟨Nat.le_of_ble_eq_true rfl, Nat.le_of_ble_eq_true rfl⟩) ⟨fun a U g mk q => by obtain ⟨q0, q1, qP, qK, qD⟩ := q; exact ⟨q0, q1, qP, va_K.moved (u := U) (U := U.calling g mk a) (Vm.Alike.refl U.vm) qK, qD⟩, va_recv hKc hPc (ci := 2) (q0 := 0) rfl rfl, fun U hU hW => ⟨rfl, by rw [hU], by rw [hU]; exact hPc, va_K.moved hW.alike hKc, hDc.weaken (fun _ _ _ _ => trivial)⟩⟩ rfl rfl hl.1 rfl (lv_room (Nat.le_of_ble_eq_true rfl)) dL_law_254 ⟨Nat.le_of_ble_eq_true rfl, Nat.le_of_ble_eq_true rfl⟩) hS (fun q _ h => hFc q h) hFc (fun r_m u t H1 locs ht hvm hwm hB hz1 hk1 hS => ?_)
  obtain ⟨hP1, hK1, hD1⟩ := hB
  rw [ht] at hP1
  have hK1 := va_K.moved hvm.symm hK1
  obtain ⟨hP, hD⟩ := va_join (wr := [(ax, .inr (0, [.ref av, .ref aq])), (aq, .inr (1, [.ref av, .ref ah, .int (nI sz), .null, .ref an])), (av, .inl (d, 64, .inl fv)), (ah, .inl (d, 64, .inl (hN hp))), (an, .inl (d, 64, .inl fi))]) (w1 := [(ay, .inr (2, [.ref mv, .ref mi])), (mv, .inl (d, 64, .inl gv)), (mi, .inl (dz, 64, .inl fb))]) hP hD [0, 1, 2] [3, 4, 5, 6, 7] rfl rfl (by decide) (by decide) hk1 hFc hP1 hD1
  generalize H1 = H at hP hS ⊢
  have hP : va_P (dC, dI) vwCl [(ax, .inr (0, [.ref av, .ref aq])), (aq, .inr (1, [.ref av, .ref ah, .int (nI sz), .null, .ref an])), (av, .inl (d, 64, .inl fv)), (ah, .inl (d, 64, .inl (hN hp))), (an, .inl (d, 64, .inl fi)), (ay, .inr (2, [.ref mv, .ref mi])), (mv, .inl (d, 64, .inl gv)), (mi, .inl (dz, 64, .inl fb))] H := hP
  have hD : va_D A [(ax, .inr (0, [.ref av, .ref aq])), (aq, .inr (1, [.ref av, .ref ah, .int (nI sz), .null, .ref an])), (av, .inl (d, 64, .inl fv)), (ah, .inl (d, 64, .inl (hN hp))), (an, .inl (d, 64, .inl fi)), (ay, .inr (2, [.ref mv, .ref mi])), (mv, .inl (d, 64, .inl gv)), (mi, .inl (dz, 64, .inl fb))] := hD
  refine lv_icmp_eq (tgt := 309) hx hb dL_law_257 (by decide) (fun c_1 => ?_) (fun c_1 => ?_)
  · have hP9 := hP.sub (ws' := [(ax, .inr (0, [.ref av, .ref aq])), (aq, .inr (1, [.ref av, .ref ah, .int (nI sz), .null, .ref an])), (av, .inl (d, 64, .inl fv)), (ah, .inl (d, 64, .inl (hN hp))), (an, .inl (d, 64, .inl fi)), (ay, .inr (2, [.ref mv, .ref mi])), (mv, .inl (d, 64, .inl gv)), (mi, .inl (dz, 64, .inl fb))]) [0, 1, 2, 3, 4, 5, 6, 7] rfl
    have hD9 := hD.sub (ws' := [(ax, .inr (0, [.ref av, .ref aq])), (aq, .inr (1, [.ref av, .ref ah, .int (nI sz), .null, .ref an])), (av, .inl (d, 64, .inl fv)), (ah, .inl (d, 64, .inl (hN hp))), (an, .inl (d, 64, .inl fi)), (ay, .inr (2, [.ref mv, .ref mi])), (mv, .inl (d, 64, .inl gv)), (mi, .inl (dz, 64, .inl fb))]) [0, 1, 2, 3, 4, 5, 6, 7] (by decide) rfl
    exact hk _ _ _ _ _ _ _ H locs ls hI hP9 hD9 hS (lv_sub hl [0, 1, 2, 3] rfl)
  · exact absurd ((hI.inside (lo6_lt (xs (i + 1))) hwx).trans hwm.symm) c_1
set_option maxHeartbeats 4000000 in
set_option maxRecDepth 100000 in
/-- the law, case 8: waiting -/
theorem law_c8 {p : Program} {l : Launch} {e : Env} {s : State} {m : MethodId} {below : List Frame} {meth : Method} {c : Code} {Q : State → Prop} {dC : Nat → ClassId} {dI : Nat → Nat → Nat} {A : Nat → Prop} {b L : Nat} {xs : Nat → Int32} {d dz : ClassId} {ax aq av ah an ay mv mi i : Nat} (hx : p.tables.exec = Jvm.exec) (hb : c.code = cL_law) (hml : c.maxLocals = 4) (hown : s.vm.findClass R_law = some m.cls) (hts : ∀ w ∈ lw_all, w.before (#[Value.ref b] : Array Value) s = true) (hX : va_X b L xs s s.heap) (hbl : b < s.heap.size) (hbA : ¬ A b) (hA : ∀ q : Nat, s.heap.size ≤ q → A q) (hLs : L < 2 ^ 31) (hi6 : i + 6 ≤ L) (hK : va_K (dC, dI) vwCl [(d, .int), (dz, .boolean)] s)
    (hk : ∀ (M : Nat → Prop) (sz : Nat) (fv : Nat → Int32) (hp : Nat → Nat) (fi gv fb : Nat → Int32) (H : Heap) (locs : List Loc) (ls : Array Slot), LI M sz fv hp fi gv fb → va_P (dC, dI) vwCl [(ax, .inr (0, [.ref av, .ref aq])), (aq, .inr (1, [.ref av, .ref ah, .int (nI sz), .null, .ref an])), (av, .inl (d, 64, .inl fv)), (ah, .inl (d, 64, .inl (hN hp))), (an, .inl (d, 64, .inl fi)), (ay, .inr (2, [.ref mv, .ref mi])), (mv, .inl (d, 64, .inl gv)), (mi, .inl (dz, 64, .inl fb))] H → va_D A [(ax, .inr (0, [.ref av, .ref aq])), (aq, .inr (1, [.ref av, .ref ah, .int (nI sz), .null, .ref an])), (av, .inl (d, 64, .inl fv)), (ah, .inl (d, 64, .inl (hN hp))), (an, .inl (d, 64, .inl fi)), (ay, .inr (2, [.ref mv, .ref mi])), (mv, .inl (d, 64, .inl gv)), (mi, .inl (dz, 64, .inl fb))] → va_S A s.heap H locs → lv_has ls 4 [(0, .ref b), (1, .ref ax), (2, .ref ay), (3, .int (nI i))] → W p l e room_1 s m #[Value.ref b] below meth c H locs 8 329 Q (F0 m 309 ls [])) :
    ∀ (M : Nat → Prop) (sz : Nat) (fv : Nat → Int32) (hp : Nat → Nat) (fi gv fb : Nat → Int32) (H : Heap) (locs : List Loc) (ls : Array Slot), LI M sz fv hp fi gv fb → va_P (dC, dI) vwCl [(ax, .inr (0, [.ref av, .ref aq])), (aq, .inr (1, [.ref av, .ref ah, .int (nI sz), .null, .ref an])), (av, .inl (d, 64, .inl fv)), (ah, .inl (d, 64, .inl (hN hp))), (an, .inl (d, 64, .inl fi)), (ay, .inr (2, [.ref mv, .ref mi])), (mv, .inl (d, 64, .inl gv)), (mi, .inl (dz, 64, .inl fb))] H → va_D A [(ax, .inr (0, [.ref av, .ref aq])), (aq, .inr (1, [.ref av, .ref ah, .int (nI sz), .null, .ref an])), (av, .inl (d, 64, .inl fv)), (ah, .inl (d, 64, .inl (hN hp))), (an, .inl (d, 64, .inl fi)), (ay, .inr (2, [.ref mv, .ref mi])), (mv, .inl (d, 64, .inl gv)), (mi, .inl (dz, 64, .inl fb))] → va_S A s.heap H locs → lv_has ls 4 [(0, .ref b), (1, .ref ax), (2, .ref ay), (3, .int (nI i))] → W p l e room_1 s m #[Value.ref b] below meth c H locs 8 329 Q (F0 m 262 ls []) := by
  intro M sz fv hp fi gv fb H locs ls hI hP hD hS hl
  refine lv_aload_n hx hb dL_law_262 rfl (lv_at hl 1 rfl) ?_
  have hPc := hP.sub (ws' := [(ax, .inr (0, [.ref av, .ref aq])), (aq, .inr (1, [.ref av, .ref ah, .int (nI sz), .null, .ref an])), (av, .inl (d, 64, .inl fv)), (ah, .inl (d, 64, .inl (hN hp))), (an, .inl (d, 64, .inl fi))]) [0, 1, 2, 3, 4] rfl
  have hDc := hD.sub (ws' := [(ax, .inr (0, [.ref av, .ref aq])), (aq, .inr (1, [.ref av, .ref ah, .int (nI sz), .null, .ref an])), (av, .inl (d, 64, .inl fv)), (ah, .inl (d, 64, .inl (hN hp))), (an, .inl (d, 64, .inl fi))]) [0, 1, 2, 3, 4] (by decide) rfl
  have hKc := hK.sub (tys' := [(d, .int)]) [0] rfl
  have hFc := va_free (wc := [(ax, .inr (0, [.ref av, .ref aq])), (aq, .inr (1, [.ref av, .ref ah, .int (nI sz), .null, .ref an])), (av, .inl (d, 64, .inl fv)), (ah, .inl (d, 64, .inl (hN hp))), (an, .inl (d, 64, .inl fi))]) hD hS hA [0, 1, 2, 3, 4] rfl
  refine va_calli (va_runV (As := []) (rest := []) ⟨hx, hb, hml, hown, hts⟩ (metX0_waiting l dC dI d ax aq av ah an H.size fv hp fi sz M hI.1) (cwV 0 hts (lw_V q507 q508 q509 q3 q510) rfl rfl rfl (by decide +kernel) ⟨Nat.le_of_ble_eq_true rfl, Nat.le_of_ble_eq_true rfl⟩) ⟨fun a U g mk q => by obtain ⟨q0, q1, qP, qK, qD⟩ := q; exact ⟨q0, q1, qP, va_K.moved (u := U) (U := U.calling g mk a) (Vm.Alike.refl U.vm) qK, qD⟩, va_recv hKc hPc (ci := 0) (q0 := 0) rfl rfl, fun U hU hW => ⟨rfl, by rw [hU], by rw [hU]; exact hPc, va_K.moved hW.alike hKc, hDc.weaken (fun _ _ _ _ => trivial)⟩⟩ rfl rfl hl.1 rfl (lv_room (Nat.le_of_ble_eq_true rfl)) dL_law_263 ⟨Nat.le_of_ble_eq_true rfl, Nat.le_of_ble_eq_true rfl⟩) hS (fun q _ h => hFc q h) hFc (fun r_x u t H1 locs ht hvm hwx hB hz1 hk1 hS => ?_)
  obtain ⟨hP1, hK1, hD1⟩ := hB
  rw [ht] at hP1
  have hK1 := va_K.moved hvm.symm hK1
  obtain ⟨hP, hD⟩ := va_join (wr := [(ay, .inr (2, [.ref mv, .ref mi])), (mv, .inl (d, 64, .inl gv)), (mi, .inl (dz, 64, .inl fb))]) (w1 := [(ax, .inr (0, [.ref av, .ref aq])), (aq, .inr (1, [.ref av, .ref ah, .int (nI sz), .null, .ref an])), (av, .inl (d, 64, .inl fv)), (ah, .inl (d, 64, .inl (hN hp))), (an, .inl (d, 64, .inl fi))]) hP hD [0, 1, 2, 3, 4] [5, 6, 7] rfl rfl (by decide) (by decide) hk1 hFc hP1 hD1
  generalize H1 = H at hP hS ⊢
  have hP : va_P (dC, dI) vwCl [(ay, .inr (2, [.ref mv, .ref mi])), (mv, .inl (d, 64, .inl gv)), (mi, .inl (dz, 64, .inl fb)), (ax, .inr (0, [.ref av, .ref aq])), (aq, .inr (1, [.ref av, .ref ah, .int (nI sz), .null, .ref an])), (av, .inl (d, 64, .inl fv)), (ah, .inl (d, 64, .inl (hN hp))), (an, .inl (d, 64, .inl fi))] H := hP
  have hD : va_D A [(ay, .inr (2, [.ref mv, .ref mi])), (mv, .inl (d, 64, .inl gv)), (mi, .inl (dz, 64, .inl fb)), (ax, .inr (0, [.ref av, .ref aq])), (aq, .inr (1, [.ref av, .ref ah, .int (nI sz), .null, .ref an])), (av, .inl (d, 64, .inl fv)), (ah, .inl (d, 64, .inl (hN hp))), (an, .inl (d, 64, .inl fi))] := hD
  refine lv_aload_n hx hb dL_law_266 rfl (lv_at hl 2 rfl) ?_
  have hPc := hP.sub (ws' := [(ay, .inr (2, [.ref mv, .ref mi])), (mv, .inl (d, 64, .inl gv)), (mi, .inl (dz, 64, .inl fb))]) [0, 1, 2] rfl
  have hDc := hD.sub (ws' := [(ay, .inr (2, [.ref mv, .ref mi])), (mv, .inl (d, 64, .inl gv)), (mi, .inl (dz, 64, .inl fb))]) [0, 1, 2] (by decide) rfl
  have hKc := hK.sub (tys' := [(d, .int), (dz, .boolean)]) [0, 1] rfl
  have hFc := va_free (wc := [(ay, .inr (2, [.ref mv, .ref mi])), (mv, .inl (d, 64, .inl gv)), (mi, .inl (dz, 64, .inl fb))]) hD hS hA [0, 1, 2] rfl
  refine va_calli (va_runV (As := []) (rest := [.int r_x]) ⟨hx, hb, hml, hown, hts⟩ (metX4_waiting l dC dI d dz ay mv mi H.size gv fb hI.flag) (cwV 0 hts (lw_V q573 q574 q575 q8 q576) rfl rfl rfl (by decide +kernel) ⟨Nat.le_of_ble_eq_true rfl, Nat.le_of_ble_eq_true rfl⟩) ⟨fun a U g mk q => by obtain ⟨q0, q1, qP, qK, qD⟩ := q; exact ⟨q0, q1, qP, va_K.moved (u := U) (U := U.calling g mk a) (Vm.Alike.refl U.vm) qK, qD⟩, va_recv hKc hPc (ci := 2) (q0 := 0) rfl rfl, fun U hU hW => ⟨rfl, by rw [hU], by rw [hU]; exact hPc, va_K.moved hW.alike hKc, hDc.weaken (fun _ _ _ _ => trivial)⟩⟩ rfl rfl hl.1 rfl (lv_room (Nat.le_of_ble_eq_true rfl)) dL_law_267 ⟨Nat.le_of_ble_eq_true rfl, Nat.le_of_ble_eq_true rfl⟩) hS (fun q _ h => hFc q h) hFc (fun r_m u t H1 locs ht hvm hwm hB hz1 hk1 hS => ?_)
  obtain ⟨hP1, hK1, hD1⟩ := hB
  rw [ht] at hP1
  have hK1 := va_K.moved hvm.symm hK1
  obtain ⟨hP, hD⟩ := va_join (wr := [(ax, .inr (0, [.ref av, .ref aq])), (aq, .inr (1, [.ref av, .ref ah, .int (nI sz), .null, .ref an])), (av, .inl (d, 64, .inl fv)), (ah, .inl (d, 64, .inl (hN hp))), (an, .inl (d, 64, .inl fi))]) (w1 := [(ay, .inr (2, [.ref mv, .ref mi])), (mv, .inl (d, 64, .inl gv)), (mi, .inl (dz, 64, .inl fb))]) hP hD [0, 1, 2] [3, 4, 5, 6, 7] rfl rfl (by decide) (by decide) hk1 hFc hP1 hD1
  generalize H1 = H at hP hS ⊢
  have hP : va_P (dC, dI) vwCl [(ax, .inr (0, [.ref av, .ref aq])), (aq, .inr (1, [.ref av, .ref ah, .int (nI sz), .null, .ref an])), (av, .inl (d, 64, .inl fv)), (ah, .inl (d, 64, .inl (hN hp))), (an, .inl (d, 64, .inl fi)), (ay, .inr (2, [.ref mv, .ref mi])), (mv, .inl (d, 64, .inl gv)), (mi, .inl (dz, 64, .inl fb))] H := hP
  have hD : va_D A [(ax, .inr (0, [.ref av, .ref aq])), (aq, .inr (1, [.ref av, .ref ah, .int (nI sz), .null, .ref an])), (av, .inl (d, 64, .inl fv)), (ah, .inl (d, 64, .inl (hN hp))), (an, .inl (d, 64, .inl fi)), (ay, .inr (2, [.ref mv, .ref mi])), (mv, .inl (d, 64, .inl gv)), (mi, .inl (dz, 64, .inl fb))] := hD
  refine lv_icmp_eq (tgt := 309) hx hb dL_law_270 (by decide) (fun c_1 => ?_) (fun c_1 => ?_)
  · have hP9 := hP.sub (ws' := [(ax, .inr (0, [.ref av, .ref aq])), (aq, .inr (1, [.ref av, .ref ah, .int (nI sz), .null, .ref an])), (av, .inl (d, 64, .inl fv)), (ah, .inl (d, 64, .inl (hN hp))), (an, .inl (d, 64, .inl fi)), (ay, .inr (2, [.ref mv, .ref mi])), (mv, .inl (d, 64, .inl gv)), (mi, .inl (dz, 64, .inl fb))]) [0, 1, 2, 3, 4, 5, 6, 7] rfl
    have hD9 := hD.sub (ws' := [(ax, .inr (0, [.ref av, .ref aq])), (aq, .inr (1, [.ref av, .ref ah, .int (nI sz), .null, .ref an])), (av, .inl (d, 64, .inl fv)), (ah, .inl (d, 64, .inl (hN hp))), (an, .inl (d, 64, .inl fi)), (ay, .inr (2, [.ref mv, .ref mi])), (mv, .inl (d, 64, .inl gv)), (mi, .inl (dz, 64, .inl fb))]) [0, 1, 2, 3, 4, 5, 6, 7] (by decide) rfl
    exact hk _ _ _ _ _ _ _ H locs ls hI hP9 hD9 hS (lv_sub hl [0, 1, 2, 3] rfl)
  · exact absurd (by rw [hwx, hwm, hI.2.2.2.2]) c_1
set_option maxHeartbeats 4000000 in
set_option maxRecDepth 100000 in
/-- the law, case 9: value -/
theorem law_c9 {p : Program} {l : Launch} {e : Env} {s : State} {m : MethodId} {below : List Frame} {meth : Method} {c : Code} {Q : State → Prop} {dC : Nat → ClassId} {dI : Nat → Nat → Nat} {A : Nat → Prop} {b L : Nat} {xs : Nat → Int32} {d dz : ClassId} {ax aq av ah an ay mv mi i : Nat} (hx : p.tables.exec = Jvm.exec) (hb : c.code = cL_law) (hml : c.maxLocals = 4) (hown : s.vm.findClass R_law = some m.cls) (hts : ∀ w ∈ lw_all, w.before (#[Value.ref b] : Array Value) s = true) (hX : va_X b L xs s s.heap) (hbl : b < s.heap.size) (hbA : ¬ A b) (hA : ∀ q : Nat, s.heap.size ≤ q → A q) (hLs : L < 2 ^ 31) (hi6 : i + 6 ≤ L) (hK : va_K (dC, dI) vwCl [(d, .int), (dz, .boolean)] s)
    (hk : ∀ (M : Nat → Prop) (sz : Nat) (fv : Nat → Int32) (hp : Nat → Nat) (fi gv fb : Nat → Int32) (H : Heap) (locs : List Loc) (ls : Array Slot), LI M sz fv hp fi gv fb → va_P (dC, dI) vwCl [(ax, .inr (0, [.ref av, .ref aq])), (aq, .inr (1, [.ref av, .ref ah, .int (nI sz), .null, .ref an])), (av, .inl (d, 64, .inl fv)), (ah, .inl (d, 64, .inl (hN hp))), (an, .inl (d, 64, .inl fi)), (ay, .inr (2, [.ref mv, .ref mi])), (mv, .inl (d, 64, .inl gv)), (mi, .inl (dz, 64, .inl fb))] H → va_D A [(ax, .inr (0, [.ref av, .ref aq])), (aq, .inr (1, [.ref av, .ref ah, .int (nI sz), .null, .ref an])), (av, .inl (d, 64, .inl fv)), (ah, .inl (d, 64, .inl (hN hp))), (an, .inl (d, 64, .inl fi)), (ay, .inr (2, [.ref mv, .ref mi])), (mv, .inl (d, 64, .inl gv)), (mi, .inl (dz, 64, .inl fb))] → va_S A s.heap H locs → lv_has ls 4 [(0, .ref b), (1, .ref ax), (2, .ref ay), (3, .int (nI i))] → W p l e room_1 s m #[Value.ref b] below meth c H locs 8 329 Q (F0 m 309 ls [])) :
    ∀ (M : Nat → Prop) (sz : Nat) (fv : Nat → Int32) (hp : Nat → Nat) (fi gv fb : Nat → Int32) (H : Heap) (locs : List Loc) (ls : Array Slot), LI M sz fv hp fi gv fb → va_P (dC, dI) vwCl [(ax, .inr (0, [.ref av, .ref aq])), (aq, .inr (1, [.ref av, .ref ah, .int (nI sz), .null, .ref an])), (av, .inl (d, 64, .inl fv)), (ah, .inl (d, 64, .inl (hN hp))), (an, .inl (d, 64, .inl fi)), (ay, .inr (2, [.ref mv, .ref mi])), (mv, .inl (d, 64, .inl gv)), (mi, .inl (dz, 64, .inl fb))] H → va_D A [(ax, .inr (0, [.ref av, .ref aq])), (aq, .inr (1, [.ref av, .ref ah, .int (nI sz), .null, .ref an])), (av, .inl (d, 64, .inl fv)), (ah, .inl (d, 64, .inl (hN hp))), (an, .inl (d, 64, .inl fi)), (ay, .inr (2, [.ref mv, .ref mi])), (mv, .inl (d, 64, .inl gv)), (mi, .inl (dz, 64, .inl fb))] → va_S A s.heap H locs → lv_has ls 4 [(0, .ref b), (1, .ref ax), (2, .ref ay), (3, .int (nI i))] → W p l e room_1 s m #[Value.ref b] below meth c H locs 8 329 Q (F0 m 275 ls []) := by
  intro M sz fv hp fi gv fb H locs ls hI hP hD hS hl
  refine lv_aload_n hx hb dL_law_275 rfl (lv_at hl 1 rfl) ?_
  refine lv_aload_n hx hb dL_law_276 rfl (lv_at hl 0 rfl) ?_
  refine lv_iload_n hx hb dL_law_277 rfl (lv_at hl 3 rfl) ?_
  refine lv_iconst (v := 1) hx hb dL_law_278 (by decide +kernel) ?_
  refine xi_add hx hb (nI (i + 1)) (x_inc i) dL_law_279 ?_
  refine xs_ld hx hb hX hbl hbA hS (i + 1) rfl (by omega) hLs dL_law_280 ?_
  have hPc := hP.sub (ws' := [(ax, .inr (0, [.ref av, .ref aq])), (aq, .inr (1, [.ref av, .ref ah, .int (nI sz), .null, .ref an])), (av, .inl (d, 64, .inl fv)), (ah, .inl (d, 64, .inl (hN hp))), (an, .inl (d, 64, .inl fi))]) [0, 1, 2, 3, 4] rfl
  have hDc := hD.sub (ws' := [(ax, .inr (0, [.ref av, .ref aq])), (aq, .inr (1, [.ref av, .ref ah, .int (nI sz), .null, .ref an])), (av, .inl (d, 64, .inl fv)), (ah, .inl (d, 64, .inl (hN hp))), (an, .inl (d, 64, .inl fi))]) [0, 1, 2, 3, 4] (by decide) rfl
  have hKc := hK.sub (tys' := [(d, .int)]) [0] rfl
  have hFc := va_free (wc := [(ax, .inr (0, [.ref av, .ref aq])), (aq, .inr (1, [.ref av, .ref ah, .int (nI sz), .null, .ref an])), (av, .inl (d, 64, .inl fv)), (ah, .inl (d, 64, .inl (hN hp))), (an, .inl (d, 64, .inl fi))]) hD hS hA [0, 1, 2, 3, 4] rfl
  refine va_calli (va_runV (As := [.int (xs (i + 1))]) (rest := []) ⟨hx, hb, hml, hown, hts⟩ (metX0_value l dC dI d ax aq av ah an H.size fv hp fi sz M hI.1 (xs (i + 1))) (cwV 1 hts (lw_V q511 q512 q513 q3 q514) rfl rfl rfl (by decide +kernel) ⟨Nat.le_of_ble_eq_true rfl, Nat.le_of_ble_eq_true rfl⟩) ⟨fun a U g mk q => by obtain ⟨q0, q1, qP, qK, qD⟩ := q; exact ⟨q0, q1, qP, va_K.moved (u := U) (U := U.calling g mk a) (Vm.Alike.refl U.vm) qK, qD⟩, va_recv hKc hPc (ci := 0) (q0 := 0) rfl rfl, fun U hU hW => ⟨rfl, by rw [hU], by rw [hU]; exact hPc, va_K.moved hW.alike hKc, hDc.weaken (fun _ _ _ _ => trivial)⟩⟩ rfl rfl hl.1 rfl (lv_room (Nat.le_of_ble_eq_true rfl)) dL_law_281 ⟨Nat.le_of_ble_eq_true rfl, Nat.le_of_ble_eq_true rfl⟩) hS (fun q _ h => hFc q h) hFc (fun r_x u t H1 locs ht hvm hwx hB hz1 hk1 hS => ?_)
  obtain ⟨hP1, hK1, hD1⟩ := hB
  rw [ht] at hP1
  have hK1 := va_K.moved hvm.symm hK1
  obtain ⟨hP, hD⟩ := va_join (wr := [(ay, .inr (2, [.ref mv, .ref mi])), (mv, .inl (d, 64, .inl gv)), (mi, .inl (dz, 64, .inl fb))]) (w1 := [(ax, .inr (0, [.ref av, .ref aq])), (aq, .inr (1, [.ref av, .ref ah, .int (nI sz), .null, .ref an])), (av, .inl (d, 64, .inl fv)), (ah, .inl (d, 64, .inl (hN hp))), (an, .inl (d, 64, .inl fi))]) hP hD [0, 1, 2, 3, 4] [5, 6, 7] rfl rfl (by decide) (by decide) hk1 hFc hP1 hD1
  generalize H1 = H at hP hS ⊢
  have hP : va_P (dC, dI) vwCl [(ay, .inr (2, [.ref mv, .ref mi])), (mv, .inl (d, 64, .inl gv)), (mi, .inl (dz, 64, .inl fb)), (ax, .inr (0, [.ref av, .ref aq])), (aq, .inr (1, [.ref av, .ref ah, .int (nI sz), .null, .ref an])), (av, .inl (d, 64, .inl fv)), (ah, .inl (d, 64, .inl (hN hp))), (an, .inl (d, 64, .inl fi))] H := hP
  have hD : va_D A [(ay, .inr (2, [.ref mv, .ref mi])), (mv, .inl (d, 64, .inl gv)), (mi, .inl (dz, 64, .inl fb)), (ax, .inr (0, [.ref av, .ref aq])), (aq, .inr (1, [.ref av, .ref ah, .int (nI sz), .null, .ref an])), (av, .inl (d, 64, .inl fv)), (ah, .inl (d, 64, .inl (hN hp))), (an, .inl (d, 64, .inl fi))] := hD
  refine lv_aload_n hx hb dL_law_284 rfl (lv_at hl 2 rfl) ?_
  refine lv_aload_n hx hb dL_law_285 rfl (lv_at hl 0 rfl) ?_
  refine lv_iload_n hx hb dL_law_286 rfl (lv_at hl 3 rfl) ?_
  refine lv_iconst (v := 1) hx hb dL_law_287 (by decide +kernel) ?_
  refine xi_add hx hb (nI (i + 1)) (x_inc i) dL_law_288 ?_
  refine xs_ld hx hb hX hbl hbA hS (i + 1) rfl (by omega) hLs dL_law_289 ?_
  have hPc := hP.sub (ws' := [(ay, .inr (2, [.ref mv, .ref mi])), (mv, .inl (d, 64, .inl gv)), (mi, .inl (dz, 64, .inl fb))]) [0, 1, 2] rfl
  have hDc := hD.sub (ws' := [(ay, .inr (2, [.ref mv, .ref mi])), (mv, .inl (d, 64, .inl gv)), (mi, .inl (dz, 64, .inl fb))]) [0, 1, 2] (by decide) rfl
  have hKc := hK.sub (tys' := [(d, .int), (dz, .boolean)]) [0, 1] rfl
  have hFc := va_free (wc := [(ay, .inr (2, [.ref mv, .ref mi])), (mv, .inl (d, 64, .inl gv)), (mi, .inl (dz, 64, .inl fb))]) hD hS hA [0, 1, 2] rfl
  refine va_calli (va_runV (As := [.int (xs (i + 1))]) (rest := [.int r_x]) ⟨hx, hb, hml, hown, hts⟩ (metX4_value l dC dI d dz ay mv mi H.size gv fb hI.flag (xs (i + 1))) (cwV 1 hts (lw_V q577 q578 q579 q8 q580) rfl rfl rfl (by decide +kernel) ⟨Nat.le_of_ble_eq_true rfl, Nat.le_of_ble_eq_true rfl⟩) ⟨fun a U g mk q => by obtain ⟨q0, q1, qP, qK, qD⟩ := q; exact ⟨q0, q1, qP, va_K.moved (u := U) (U := U.calling g mk a) (Vm.Alike.refl U.vm) qK, qD⟩, va_recv hKc hPc (ci := 2) (q0 := 0) rfl rfl, fun U hU hW => ⟨rfl, by rw [hU], by rw [hU]; exact hPc, va_K.moved hW.alike hKc, hDc.weaken (fun _ _ _ _ => trivial)⟩⟩ rfl rfl hl.1 rfl (lv_room (Nat.le_of_ble_eq_true rfl)) dL_law_290 ⟨Nat.le_of_ble_eq_true rfl, Nat.le_of_ble_eq_true rfl⟩) hS (fun q _ h => hFc q h) hFc (fun r_m u t H1 locs ht hvm hwm hB hz1 hk1 hS => ?_)
  obtain ⟨hP1, hK1, hD1⟩ := hB
  rw [ht] at hP1
  have hK1 := va_K.moved hvm.symm hK1
  obtain ⟨hP, hD⟩ := va_join (wr := [(ax, .inr (0, [.ref av, .ref aq])), (aq, .inr (1, [.ref av, .ref ah, .int (nI sz), .null, .ref an])), (av, .inl (d, 64, .inl fv)), (ah, .inl (d, 64, .inl (hN hp))), (an, .inl (d, 64, .inl fi))]) (w1 := [(ay, .inr (2, [.ref mv, .ref mi])), (mv, .inl (d, 64, .inl gv)), (mi, .inl (dz, 64, .inl fb))]) hP hD [0, 1, 2] [3, 4, 5, 6, 7] rfl rfl (by decide) (by decide) hk1 hFc hP1 hD1
  generalize H1 = H at hP hS ⊢
  have hP : va_P (dC, dI) vwCl [(ax, .inr (0, [.ref av, .ref aq])), (aq, .inr (1, [.ref av, .ref ah, .int (nI sz), .null, .ref an])), (av, .inl (d, 64, .inl fv)), (ah, .inl (d, 64, .inl (hN hp))), (an, .inl (d, 64, .inl fi)), (ay, .inr (2, [.ref mv, .ref mi])), (mv, .inl (d, 64, .inl gv)), (mi, .inl (dz, 64, .inl fb))] H := hP
  have hD : va_D A [(ax, .inr (0, [.ref av, .ref aq])), (aq, .inr (1, [.ref av, .ref ah, .int (nI sz), .null, .ref an])), (av, .inl (d, 64, .inl fv)), (ah, .inl (d, 64, .inl (hN hp))), (an, .inl (d, 64, .inl fi)), (ay, .inr (2, [.ref mv, .ref mi])), (mv, .inl (d, 64, .inl gv)), (mi, .inl (dz, 64, .inl fb))] := hD
  refine lv_icmp_eq (tgt := 309) hx hb dL_law_293 (by decide) (fun c_1 => ?_) (fun c_1 => ?_)
  · have hP9 := hP.sub (ws' := [(ax, .inr (0, [.ref av, .ref aq])), (aq, .inr (1, [.ref av, .ref ah, .int (nI sz), .null, .ref an])), (av, .inl (d, 64, .inl fv)), (ah, .inl (d, 64, .inl (hN hp))), (an, .inl (d, 64, .inl fi)), (ay, .inr (2, [.ref mv, .ref mi])), (mv, .inl (d, 64, .inl gv)), (mi, .inl (dz, 64, .inl fb))]) [0, 1, 2, 3, 4, 5, 6, 7] rfl
    have hD9 := hD.sub (ws' := [(ax, .inr (0, [.ref av, .ref aq])), (aq, .inr (1, [.ref av, .ref ah, .int (nI sz), .null, .ref an])), (av, .inl (d, 64, .inl fv)), (ah, .inl (d, 64, .inl (hN hp))), (an, .inl (d, 64, .inl fi)), (ay, .inr (2, [.ref mv, .ref mi])), (mv, .inl (d, 64, .inl gv)), (mi, .inl (dz, 64, .inl fb))]) [0, 1, 2, 3, 4, 5, 6, 7] (by decide) rfl
    exact hk _ _ _ _ _ _ _ H locs ls hI hP9 hD9 hS (lv_sub hl [0, 1, 2, 3] rfl)
  · exact absurd (by rw [hwx, hwm, hI.2.2.1 _ (lo6_lt (xs (i + 1)))]) c_1
set_option maxHeartbeats 4000000 in
set_option maxRecDepth 100000 in
/-- the law, case 10: drain -/
theorem law_c10 {p : Program} {l : Launch} {e : Env} {s : State} {m : MethodId} {below : List Frame} {meth : Method} {c : Code} {Q : State → Prop} {dC : Nat → ClassId} {dI : Nat → Nat → Nat} {A : Nat → Prop} {b L : Nat} {xs : Nat → Int32} {d dz : ClassId} {ax aq av ah an ay mv mi i : Nat} (hx : p.tables.exec = Jvm.exec) (hb : c.code = cL_law) (hml : c.maxLocals = 4) (hown : s.vm.findClass R_law = some m.cls) (hts : ∀ w ∈ lw_all, w.before (#[Value.ref b] : Array Value) s = true) (hX : va_X b L xs s s.heap) (hbl : b < s.heap.size) (hbA : ¬ A b) (hA : ∀ q : Nat, s.heap.size ≤ q → A q) (hLs : L < 2 ^ 31) (hi6 : i + 6 ≤ L) (hK : va_K (dC, dI) vwCl [(d, .int), (dz, .boolean)] s)
    (hk : ∀ (M : Nat → Prop) (sz : Nat) (fv : Nat → Int32) (hp : Nat → Nat) (fi gv fb : Nat → Int32) (H : Heap) (locs : List Loc) (ls : Array Slot), LI M sz fv hp fi gv fb → va_P (dC, dI) vwCl [(ax, .inr (0, [.ref av, .ref aq])), (aq, .inr (1, [.ref av, .ref ah, .int (nI sz), .null, .ref an])), (av, .inl (d, 64, .inl fv)), (ah, .inl (d, 64, .inl (hN hp))), (an, .inl (d, 64, .inl fi)), (ay, .inr (2, [.ref mv, .ref mi])), (mv, .inl (d, 64, .inl gv)), (mi, .inl (dz, 64, .inl fb))] H → va_D A [(ax, .inr (0, [.ref av, .ref aq])), (aq, .inr (1, [.ref av, .ref ah, .int (nI sz), .null, .ref an])), (av, .inl (d, 64, .inl fv)), (ah, .inl (d, 64, .inl (hN hp))), (an, .inl (d, 64, .inl fi)), (ay, .inr (2, [.ref mv, .ref mi])), (mv, .inl (d, 64, .inl gv)), (mi, .inl (dz, 64, .inl fb))] → va_S A s.heap H locs → lv_has ls 4 [(0, .ref b), (1, .ref ax), (2, .ref ay), (3, .int (nI i))] → W p l e room_1 s m #[Value.ref b] below meth c H locs 8 329 Q (F0 m 309 ls [])) :
    ∀ (M : Nat → Prop) (sz : Nat) (fv : Nat → Int32) (hp : Nat → Nat) (fi gv fb : Nat → Int32) (H : Heap) (locs : List Loc) (ls : Array Slot), LI M sz fv hp fi gv fb → va_P (dC, dI) vwCl [(ax, .inr (0, [.ref av, .ref aq])), (aq, .inr (1, [.ref av, .ref ah, .int (nI sz), .null, .ref an])), (av, .inl (d, 64, .inl fv)), (ah, .inl (d, 64, .inl (hN hp))), (an, .inl (d, 64, .inl fi)), (ay, .inr (2, [.ref mv, .ref mi])), (mv, .inl (d, 64, .inl gv)), (mi, .inl (dz, 64, .inl fb))] H → va_D A [(ax, .inr (0, [.ref av, .ref aq])), (aq, .inr (1, [.ref av, .ref ah, .int (nI sz), .null, .ref an])), (av, .inl (d, 64, .inl fv)), (ah, .inl (d, 64, .inl (hN hp))), (an, .inl (d, 64, .inl fi)), (ay, .inr (2, [.ref mv, .ref mi])), (mv, .inl (d, 64, .inl gv)), (mi, .inl (dz, 64, .inl fb))] → va_S A s.heap H locs → lv_has ls 4 [(0, .ref b), (1, .ref ax), (2, .ref ay), (3, .int (nI i))] → W p l e room_1 s m #[Value.ref b] below meth c H locs 8 329 Q (F0 m 298 ls []) := by
  intro M sz fv hp fi gv fb H locs ls hI hP hD hS hl
  refine lv_aload_n hx hb dL_law_298 rfl (lv_at hl 1 rfl) ?_
  have hPc := hP.sub (ws' := [(ax, .inr (0, [.ref av, .ref aq])), (aq, .inr (1, [.ref av, .ref ah, .int (nI sz), .null, .ref an])), (av, .inl (d, 64, .inl fv)), (ah, .inl (d, 64, .inl (hN hp))), (an, .inl (d, 64, .inl fi))]) [0, 1, 2, 3, 4] rfl
  have hDc := hD.sub (ws' := [(ax, .inr (0, [.ref av, .ref aq])), (aq, .inr (1, [.ref av, .ref ah, .int (nI sz), .null, .ref an])), (av, .inl (d, 64, .inl fv)), (ah, .inl (d, 64, .inl (hN hp))), (an, .inl (d, 64, .inl fi))]) [0, 1, 2, 3, 4] (by decide) rfl
  have hKc := hK.sub (tys' := [(d, .int)]) [0] rfl
  have hFc := va_free (wc := [(ax, .inr (0, [.ref av, .ref aq])), (aq, .inr (1, [.ref av, .ref ah, .int (nI sz), .null, .ref an])), (av, .inl (d, 64, .inl fv)), (ah, .inl (d, 64, .inl (hN hp))), (an, .inl (d, 64, .inl fi))]) hD hS hA [0, 1, 2, 3, 4] rfl
  refine va_callv (va_runV (As := []) (rest := []) ⟨hx, hb, hml, hown, hts⟩ (metX0_drain l dC dI d ax aq av ah an H.size fv hp fi sz M hI.1) (cwV 0 hts (lw_V q515 q516 q517 q3 q518) rfl rfl rfl (by decide +kernel) ⟨Nat.le_of_ble_eq_true rfl, Nat.le_of_ble_eq_true rfl⟩) ⟨fun a U g mk q => by obtain ⟨q0, q1, qP, qK, qD⟩ := q; exact ⟨q0, q1, qP, va_K.moved (u := U) (U := U.calling g mk a) (Vm.Alike.refl U.vm) qK, qD⟩, va_recv hKc hPc (ci := 0) (q0 := 0) rfl rfl, fun U hU hW => ⟨rfl, by rw [hU], by rw [hU]; exact hPc, va_K.moved hW.alike hKc, hDc.weaken (fun _ _ _ _ => trivial)⟩⟩ rfl rfl hl.1 rfl (lv_room (Nat.le_of_ble_eq_true rfl)) dL_law_299 ⟨Nat.le_of_ble_eq_true rfl, Nat.le_of_ble_eq_true rfl⟩) hS (fun q _ h => hFc q h) hFc (fun u t H1 locs ht hvm hwx hB hz1 hk1 hS => ?_)
  obtain ⟨sz2, fv2, hp2, fi2⟩ := u
  obtain ⟨e1, e2, hG2⟩ := hwx
  dsimp only at e1 e2 hG2
  have e2 : fv = fv2 := e2.symm
  subst e2
  obtain ⟨hP1, hK1, hD1⟩ := hB
  rw [ht] at hP1
  have hK1 := va_K.moved hvm.symm hK1
  obtain ⟨hP, hD⟩ := va_join (wr := [(ay, .inr (2, [.ref mv, .ref mi])), (mv, .inl (d, 64, .inl gv)), (mi, .inl (dz, 64, .inl fb))]) (w1 := [(ax, .inr (0, [.ref av, .ref aq])), (aq, .inr (1, [.ref av, .ref ah, .int (nI sz2), .null, .ref an])), (av, .inl (d, 64, .inl fv)), (ah, .inl (d, 64, .inl (hN hp2))), (an, .inl (d, 64, .inl fi2))]) hP hD [0, 1, 2, 3, 4] [5, 6, 7] rfl rfl (by decide) (by decide) hk1 hFc hP1 hD1
  generalize H1 = H at hP hS ⊢
  have hP : va_P (dC, dI) vwCl [(ay, .inr (2, [.ref mv, .ref mi])), (mv, .inl (d, 64, .inl gv)), (mi, .inl (dz, 64, .inl fb)), (ax, .inr (0, [.ref av, .ref aq])), (aq, .inr (1, [.ref av, .ref ah, .int (nI sz2), .null, .ref an])), (av, .inl (d, 64, .inl fv)), (ah, .inl (d, 64, .inl (hN hp2))), (an, .inl (d, 64, .inl fi2))] H := hP
  have hD : va_D A [(ay, .inr (2, [.ref mv, .ref mi])), (mv, .inl (d, 64, .inl gv)), (mi, .inl (dz, 64, .inl fb)), (ax, .inr (0, [.ref av, .ref aq])), (aq, .inr (1, [.ref av, .ref ah, .int (nI sz2), .null, .ref an])), (av, .inl (d, 64, .inl fv)), (ah, .inl (d, 64, .inl (hN hp2))), (an, .inl (d, 64, .inl fi2))] := hD
  refine lv_aload_n hx hb dL_law_302 rfl (lv_at hl 2 rfl) ?_
  have hPc := hP.sub (ws' := [(ay, .inr (2, [.ref mv, .ref mi])), (mv, .inl (d, 64, .inl gv)), (mi, .inl (dz, 64, .inl fb))]) [0, 1, 2] rfl
  have hDc := hD.sub (ws' := [(ay, .inr (2, [.ref mv, .ref mi])), (mv, .inl (d, 64, .inl gv)), (mi, .inl (dz, 64, .inl fb))]) [0, 1, 2] (by decide) rfl
  have hKc := hK.sub (tys' := [(d, .int), (dz, .boolean)]) [0, 1] rfl
  have hFc := va_free (wc := [(ay, .inr (2, [.ref mv, .ref mi])), (mv, .inl (d, 64, .inl gv)), (mi, .inl (dz, 64, .inl fb))]) hD hS hA [0, 1, 2] rfl
  refine va_callv (va_runV (As := []) (rest := []) ⟨hx, hb, hml, hown, hts⟩ (metX4_drain l dC dI d dz ay mv mi H.size gv fb hI.flag) (cwV 0 hts (lw_V q581 q582 q583 q8 q584) rfl rfl rfl (by decide +kernel) ⟨Nat.le_of_ble_eq_true rfl, Nat.le_of_ble_eq_true rfl⟩) ⟨fun a U g mk q => by obtain ⟨q0, q1, qP, qK, qD⟩ := q; exact ⟨q0, q1, qP, va_K.moved (u := U) (U := U.calling g mk a) (Vm.Alike.refl U.vm) qK, qD⟩, va_recv hKc hPc (ci := 2) (q0 := 0) rfl rfl, fun U hU hW => ⟨rfl, by rw [hU], by rw [hU]; exact hPc, va_K.moved hW.alike hKc, hDc.weaken (fun _ _ _ _ => trivial)⟩⟩ rfl rfl hl.1 rfl (lv_room (Nat.le_of_ble_eq_true rfl)) dL_law_303 ⟨Nat.le_of_ble_eq_true rfl, Nat.le_of_ble_eq_true rfl⟩) hS (fun q _ h => hFc q h) hFc (fun u t H1 locs ht hvm hwm hB hz1 hk1 hS => ?_)
  obtain ⟨gv2, fb2⟩ := u
  obtain ⟨e3, e5⟩ := hwm
  dsimp only at e3 e5
  have e3 : gv = gv2 := e3.symm
  subst e3
  obtain ⟨hP1, hK1, hD1⟩ := hB
  rw [ht] at hP1
  have hK1 := va_K.moved hvm.symm hK1
  obtain ⟨hP, hD⟩ := va_join (wr := [(ax, .inr (0, [.ref av, .ref aq])), (aq, .inr (1, [.ref av, .ref ah, .int (nI sz2), .null, .ref an])), (av, .inl (d, 64, .inl fv)), (ah, .inl (d, 64, .inl (hN hp2))), (an, .inl (d, 64, .inl fi2))]) (w1 := [(ay, .inr (2, [.ref mv, .ref mi])), (mv, .inl (d, 64, .inl gv)), (mi, .inl (dz, 64, .inl fb2))]) hP hD [0, 1, 2] [3, 4, 5, 6, 7] rfl rfl (by decide) (by decide) hk1 hFc hP1 hD1
  generalize H1 = H at hP hS ⊢
  have hP : va_P (dC, dI) vwCl [(ax, .inr (0, [.ref av, .ref aq])), (aq, .inr (1, [.ref av, .ref ah, .int (nI sz2), .null, .ref an])), (av, .inl (d, 64, .inl fv)), (ah, .inl (d, 64, .inl (hN hp2))), (an, .inl (d, 64, .inl fi2)), (ay, .inr (2, [.ref mv, .ref mi])), (mv, .inl (d, 64, .inl gv)), (mi, .inl (dz, 64, .inl fb2))] H := hP
  have hD : va_D A [(ax, .inr (0, [.ref av, .ref aq])), (aq, .inr (1, [.ref av, .ref ah, .int (nI sz2), .null, .ref an])), (av, .inl (d, 64, .inl fv)), (ah, .inl (d, 64, .inl (hN hp2))), (an, .inl (d, 64, .inl fi2)), (ay, .inr (2, [.ref mv, .ref mi])), (mv, .inl (d, 64, .inl gv)), (mi, .inl (dz, 64, .inl fb2))] := hD
  refine lv_goto (tgt := 309) hx hb dL_law_306 (by decide) ?_
  have hP9 := hP.sub (ws' := [(ax, .inr (0, [.ref av, .ref aq])), (aq, .inr (1, [.ref av, .ref ah, .int (nI sz2), .null, .ref an])), (av, .inl (d, 64, .inl fv)), (ah, .inl (d, 64, .inl (hN hp2))), (an, .inl (d, 64, .inl fi2)), (ay, .inr (2, [.ref mv, .ref mi])), (mv, .inl (d, 64, .inl gv)), (mi, .inl (dz, 64, .inl fb2))]) [0, 1, 2, 3, 4, 5, 6, 7] rfl
  have hD9 := hD.sub (ws' := [(ax, .inr (0, [.ref av, .ref aq])), (aq, .inr (1, [.ref av, .ref ah, .int (nI sz2), .null, .ref an])), (av, .inl (d, 64, .inl fv)), (ah, .inl (d, 64, .inl (hN hp2))), (an, .inl (d, 64, .inl fi2)), (ay, .inr (2, [.ref mv, .ref mi])), (mv, .inl (d, 64, .inl gv)), (mi, .inl (dz, 64, .inl fb2))]) [0, 1, 2, 3, 4, 5, 6, 7] (by decide) rfl
  exact hk _ _ _ _ _ _ _ H locs ls (hI.drain e1 hG2 e5) hP9 hD9 hS (lv_sub hl [0, 1, 2, 3] rfl)
end
section
set_option maxHeartbeats 4000000 in
set_option maxRecDepth 100000 in
/-- the law's loop at its head -/
theorem law_loop {p : Program} {l : Launch} {e : Env} {s : State} {m : MethodId} {below : List Frame} {meth : Method} {c : Code} {Q : State → Prop} {dC : Nat → ClassId} {dI : Nat → Nat → Nat} {A : Nat → Prop} {b L : Nat} {xs : Nat → Int32} {d dz : ClassId} {ax aq av ah an ay mv mi : Nat} (hx : p.tables.exec = Jvm.exec) (hb : c.code = cL_law) (hml : c.maxLocals = 4) (hown : s.vm.findClass R_law = some m.cls) (hts : ∀ w ∈ lw_all, w.before (#[Value.ref b] : Array Value) s = true) (hX : va_X b L xs s s.heap) (hbl : b < s.heap.size) (hbA : ¬ A b) (hA : ∀ q : Nat, s.heap.size ≤ q → A q) (hL : L ≤ 384) (hK : va_K (dC, dI) vwCl [(d, .int), (dz, .boolean)] s)
    (hexit : ∀ (H : Heap) (locs : List Loc) (ls : Array Slot), va_S A s.heap H locs → W p l e room_1 s m #[Value.ref b] below meth c H locs 8 329 Q (F0 m 315 ls [])) :
    ∀ (n i : Nat), L < i + n → i ≤ 390 → ∀ (M : Nat → Prop) (sz : Nat) (fv : Nat → Int32) (hp : Nat → Nat) (fi gv fb : Nat → Int32) (H : Heap) (locs : List Loc) (ls : Array Slot), LI M sz fv hp fi gv fb → va_P (dC, dI) vwCl [(ax, .inr (0, [.ref av, .ref aq])), (aq, .inr (1, [.ref av, .ref ah, .int (nI sz), .null, .ref an])), (av, .inl (d, 64, .inl fv)), (ah, .inl (d, 64, .inl (hN hp))), (an, .inl (d, 64, .inl fi)), (ay, .inr (2, [.ref mv, .ref mi])), (mv, .inl (d, 64, .inl gv)), (mi, .inl (dz, 64, .inl fb))] H → va_D A [(ax, .inr (0, [.ref av, .ref aq])), (aq, .inr (1, [.ref av, .ref ah, .int (nI sz), .null, .ref an])), (av, .inl (d, 64, .inl fv)), (ah, .inl (d, 64, .inl (hN hp))), (an, .inl (d, 64, .inl fi)), (ay, .inr (2, [.ref mv, .ref mi])), (mv, .inl (d, 64, .inl gv)), (mi, .inl (dz, 64, .inl fb))] → va_S A s.heap H locs → lv_has ls 4 [(0, .ref b), (1, .ref ax), (2, .ref ay), (3, .int (nI i))] → W p l e room_1 s m #[Value.ref b] below meth c H locs 8 329 Q (F0 m 18 ls []) := by
  have hLs : L < 2 ^ 31 := by omega
  intro n
  induction n with
  | zero =>
    intro i h1 h2 M sz fv hp fi gv fb H locs ls hI hP hD hS hl
    refine lv_iload_n hx hb dL_law_18 rfl (lv_at hl 3 rfl) ?_
    refine lv_aload_n hx hb dL_law_19 rfl (lv_at hl 0 rfl) ?_
    refine va_slen hx hb hX hbl hbA hS dL_law_20 ?_
    refine lv_bipush (v := nI 6) hx hb dL_law_21 (by decide +kernel) ?_
    refine xi_sub hx hb (nI L - nI 6) rfl dL_law_23 ?_
    refine lv_icmp_gt (tgt := 315) hx hb dL_law_24 (by decide) (fun c_1 => ?_) (fun c_1 => ?_)
    · exact hexit H locs ls hS
    · exact absurd ((x_len hL h2).mpr (by omega)) c_1
  | succ n ih =>
    intro i h1 h2 M sz fv hp fi gv fb H locs ls hI hP hD hS hl
    refine lv_iload_n hx hb dL_law_18 rfl (lv_at hl 3 rfl) ?_
    refine lv_aload_n hx hb dL_law_19 rfl (lv_at hl 0 rfl) ?_
    refine va_slen hx hb hX hbl hbA hS dL_law_20 ?_
    refine lv_bipush (v := nI 6) hx hb dL_law_21 (by decide +kernel) ?_
    refine xi_sub hx hb (nI L - nI 6) rfl dL_law_23 ?_
    refine lv_icmp_gt (tgt := 315) hx hb dL_law_24 (by decide) (fun c_1 => ?_) (fun c_1 => ?_)
    · exact hexit H locs ls hS
    have hi6 : i + 6 ≤ L := by
      rcases Nat.lt_or_ge L (i + 6) with q | q
      · exact absurd ((x_len hL h2).mpr q) c_1
      · exact q
    have hk : ∀ (M : Nat → Prop) (sz : Nat) (fv : Nat → Int32) (hp : Nat → Nat) (fi gv fb : Nat → Int32) (H : Heap) (locs : List Loc) (ls : Array Slot), LI M sz fv hp fi gv fb → va_P (dC, dI) vwCl [(ax, .inr (0, [.ref av, .ref aq])), (aq, .inr (1, [.ref av, .ref ah, .int (nI sz), .null, .ref an])), (av, .inl (d, 64, .inl fv)), (ah, .inl (d, 64, .inl (hN hp))), (an, .inl (d, 64, .inl fi)), (ay, .inr (2, [.ref mv, .ref mi])), (mv, .inl (d, 64, .inl gv)), (mi, .inl (dz, 64, .inl fb))] H → va_D A [(ax, .inr (0, [.ref av, .ref aq])), (aq, .inr (1, [.ref av, .ref ah, .int (nI sz), .null, .ref an])), (av, .inl (d, 64, .inl fv)), (ah, .inl (d, 64, .inl (hN hp))), (an, .inl (d, 64, .inl fi)), (ay, .inr (2, [.ref mv, .ref mi])), (mv, .inl (d, 64, .inl gv)), (mi, .inl (dz, 64, .inl fb))] → va_S A s.heap H locs → lv_has ls 4 [(0, .ref b), (1, .ref ax), (2, .ref ay), (3, .int (nI i))] → W p l e room_1 s m #[Value.ref b] below meth c H locs 8 329 Q (F0 m 309 ls []) := by
      intro M sz fv hp fi gv fb H locs ls hI hP hD hS hl
      refine lv_iinc (v := nI (i + 6)) (lv' := [(3, .int (nI (i + 6))), (0, .ref b), (1, .ref ax), (2, .ref ay)]) hx hb dL_law_309 hl (k := 3) rfl (x_iinc6 i) (by decide) rfl (fun ls hl => ?_)
      refine lv_goto (tgt := 18) hx hb dL_law_312 (by decide) ?_
      exact ih (i + 6) (by omega) (by omega) M sz fv hp fi gv fb H locs ls hI hP hD hS (lv_sub hl [1, 2, 3, 0] rfl)
    refine lv_aload_n hx hb dL_law_27 rfl (lv_at hl 0 rfl) ?_
    refine lv_iload_n hx hb dL_law_28 rfl (lv_at hl 3 rfl) ?_
    refine xs_ld hx hb hX hbl hbA hS i rfl (by omega) hLs dL_law_29 ?_
    refine lv_bipush (v := 15) hx hb dL_law_30 (by decide +kernel) ?_
    refine xi_and hx hb (nI (lo4 (xs i))) (x_and15 (xs i)) dL_law_32 ?_
    obtain ⟨t, et⟩ : ∃ t, t = lo4 (xs i) := ⟨_, rfl⟩
    have ht : t < 16 := by rw [et]; exact lo4_lt _
    rw [← et]
    rcases (show t = 0 ∨ t = 1 ∨ t = 2 ∨ t = 3 ∨ t = 4 ∨ t = 5 ∨ t = 6 ∨ t = 7 ∨ t = 8 ∨ t = 9 ∨ t = 10 ∨ 11 ≤ t by omega) with ht | ht | ht | ht | ht | ht | ht | ht | ht | ht | ht | ht
    · rw [ht]
      refine lv_tableIn (off := 59) (tgt := 92) hx hb dL_law_33 (by decide +kernel) (by decide +kernel) (by decide +kernel) (by decide) ?_
      exact law_c0 hx hb hml hown hts hX hbl hbA hA hLs hi6 hK hk M sz fv hp fi gv fb H locs ls hI hP hD hS hl
    · rw [ht]
      refine lv_tableIn (off := 90) (tgt := 123) hx hb dL_law_33 (by decide +kernel) (by decide +kernel) (by decide +kernel) (by decide) ?_
      exact law_c1 hx hb hml hown hts hX hbl hbA hA hLs hi6 hK hk M sz fv hp fi gv fb H locs ls hI hP hD hS hl
    · rw [ht]
      refine lv_tableIn (off := 113) (tgt := 146) hx hb dL_law_33 (by decide +kernel) (by decide +kernel) (by decide +kernel) (by decide) ?_
      exact law_c2 hx hb hml hown hts hX hbl hbA hA hLs hi6 hK hk M sz fv hp fi gv fb H locs ls hI hP hD hS hl
    · rw [ht]
      refine lv_tableIn (off := 136) (tgt := 169) hx hb dL_law_33 (by decide +kernel) (by decide +kernel) (by decide +kernel) (by decide) ?_
      exact law_c3 hx hb hml hown hts hX hbl hbA hA hLs hi6 hK hk M sz fv hp fi gv fb H locs ls hI hP hD hS hl
    · rw [ht]
      refine lv_tableIn (off := 149) (tgt := 182) hx hb dL_law_33 (by decide +kernel) (by decide +kernel) (by decide +kernel) (by decide) ?_
      exact law_c4 hx hb hml hown hts hX hbl hbA hA hLs hi6 hK hk M sz fv hp fi gv fb H locs ls hI hP hD hS hl
    · rw [ht]
      refine lv_tableIn (off := 162) (tgt := 195) hx hb dL_law_33 (by decide +kernel) (by decide +kernel) (by decide +kernel) (by decide) ?_
      exact law_c5 hx hb hml hown hts hX hbl hbA hA hLs hi6 hK hk M sz fv hp fi gv fb H locs ls hI hP hD hS hl
    · rw [ht]
      refine lv_tableIn (off := 185) (tgt := 218) hx hb dL_law_33 (by decide +kernel) (by decide +kernel) (by decide +kernel) (by decide) ?_
      exact law_c6 hx hb hml hown hts hX hbl hbA hA hLs hi6 hK hk M sz fv hp fi gv fb H locs ls hI hP hD hS hl
    · rw [ht]
      refine lv_tableIn (off := 206) (tgt := 239) hx hb dL_law_33 (by decide +kernel) (by decide +kernel) (by decide +kernel) (by decide) ?_
      exact law_c7 hx hb hml hown hts hX hbl hbA hA hLs hi6 hK hk M sz fv hp fi gv fb H locs ls hI hP hD hS hl
    · rw [ht]
      refine lv_tableIn (off := 229) (tgt := 262) hx hb dL_law_33 (by decide +kernel) (by decide +kernel) (by decide +kernel) (by decide) ?_
      exact law_c8 hx hb hml hown hts hX hbl hbA hA hLs hi6 hK hk M sz fv hp fi gv fb H locs ls hI hP hD hS hl
    · rw [ht]
      refine lv_tableIn (off := 242) (tgt := 275) hx hb dL_law_33 (by decide +kernel) (by decide +kernel) (by decide +kernel) (by decide) ?_
      exact law_c9 hx hb hml hown hts hX hbl hbA hA hLs hi6 hK hk M sz fv hp fi gv fb H locs ls hI hP hD hS hl
    · rw [ht]
      refine lv_tableIn (off := 265) (tgt := 298) hx hb dL_law_33 (by decide +kernel) (by decide +kernel) (by decide +kernel) (by decide) ?_
      exact law_c10 hx hb hml hown hts hX hbl hbA hA hLs hi6 hK hk M sz fv hp fi gv fb H locs ls hI hP hD hS hl
    · refine lv_tableOut (tgt := 309) hx hb dL_law_33 (Or.inr (by rw [nI_toInt (by omega)]; omega)) (by decide) ?_
      exact hk M sz fv hp fi gv fb H locs ls hI hP hD hS hl
end
section
set_option maxHeartbeats 4000000 in
set_option maxRecDepth 100000 in
/-- THE LAW, from its entry -/
theorem whole_start {p : Program} {e : Env} {s : State} {m : MethodId} {below : List Frame} {meth : Method} {c : Code} (l : Launch) (hflags : l.flags = flags0) {b L : Nat} {xs : Nat → Int32} (hL : L ≤ 384) (C0 : lw_At p s m meth c b L xs) : W p l e room_1 s m #[Value.ref b] below meth c s.heap [] 0 0 (lw_Z below #[Value.ref b] s) (entryFrame m ([Value.ref b] : List Value).toArray 4) := by
  obtain ⟨hx, hb, hr, hml, hown, hts0, hX, hbl, hlocks, hgv⟩ := id C0
  have hts : ∀ w ∈ lw_all, w.before #[Value.ref b] s = true := fun w h => hts0 w (lw_all_tbl h)
  have hA : ∀ q : Nat, s.heap.size ≤ q → (fun q : Nat => s.heap.size ≤ q) q := fun _ h => h
  have hbA : ¬ (fun q : Nat => s.heap.size ≤ q) b := Nat.not_le.mpr hbl
  obtain ⟨c0_, iS0, hKn0⟩ := u_known (C := RX0) (T := TX0) (N := 2) (n := 2) hts in_X0 (hts _ q27)
  obtain ⟨c1_, iS1, hKn1⟩ := u_known (C := RX2) (T := TX2) (N := 5) (n := 5) hts in_X2 (hts _ q35)
  obtain ⟨c2_, iS2, hKn2⟩ := u_known (C := RX4) (T := TX4) (N := 2) (n := 2) hts in_X4 (hts _ q524)
  obtain ⟨dC, dI, hKc⟩ : ∃ (dC : Nat → ClassId) (dI : Nat → Nat → Nat), ∀ (k : Nat) (q : vw_C), vwCl[k]? = some q → u_Kn s q.1 q.2.1 q.2.2 (dC k) (dI k) := by
    refine ⟨fun k => if k = 0 then c0_ else if k = 1 then c1_ else c2_, fun k => if k = 0 then iS0 else if k = 1 then iS1 else iS2, ?_⟩
    intro k q hq
    match k, hq with
    | 0, hq => cases hq; exact hKn0
    | 1, hq => cases hq; exact hKn1
    | 2, hq => cases hq; exact hKn2
    | k + 3, hq => simp [vwCl] at hq
  obtain ⟨vz, hvn, hvf, hZ⟩ : ∃ vz : Value, narrow (.array .int) vz = vz ∧ fits (.array .int) vz = true ∧ va_Z "IntArrays" "EMPTY_ARRAY" "[I" vz (fun q : Nat => s.heap.size ≤ q) s s.heap := by
    have hr0 : (Cond.isRef (.static "IntArrays" "EMPTY_ARRAY" "[I")).before #[Value.ref b] s = true := flat_of_before _ hgv _ (by decide +kernel)
    rcases va_Zqof (A := fun q : Nat => s.heap.size ≤ q) (hts0 _ q47) (hts _ q6) hr0 (fun a h => Nat.not_le.mpr h) with h | ⟨t, h⟩
    · exact ⟨.null, rfl, rfl, h⟩
    · exact ⟨.ref t, rfl, rfl, h⟩
  have hS : va_S (fun q : Nat => s.heap.size ≤ q) s.heap s.heap [] := va_S.rf
  have hK : va_K (dC, dI) vwCl [] s := ⟨hKc, fun k q h => by simp at h⟩
  have hP : va_P (dC, dI) vwCl [] s.heap := fun k q h => by simp at h
  have hD : va_D (fun q : Nat => s.heap.size ≤ q) [] := ⟨fun i j p q h => by simp at h, fun k q h => by simp at h⟩
  have hl := lv_entry ([.ref b]) (n := 4) (Nat.le_of_ble_eq_true rfl)
  rw [lg_entry_eq]
  generalize (lg_sl ([.ref b]) ++ List.replicate (4 - (lg_sl ([.ref b])).length) Slot.unset).toArray = ls at hl ⊢
  have hl : lv_has ls 4 [(0, .ref b)] := hl
  refine va_new (ci := 0) (fs := [.null, .null]) (C := RX0) (T := TX0) (N := 2) hx hb hts in_X0 tyX0 tyX0_ok hown (hts _ q26) (hts _ q27) (hts _ q3) hK hP hD hS hA rfl (fun j hj => by rcases (show j = 0 ∨ j = 1 by omega) with rfl | rfl <;> rfl) (Nat.le_of_ble_eq_true rfl) (Nat.le_of_ble_eq_true rfl) dL_law_0 (fun ax H hP hD hS => ?_)
  have hP : va_P (dC, dI) vwCl [(ax, .inr (0, [.null, .null]))] H := hP
  have hD : va_D (fun q : Nat => s.heap.size ≤ q) [(ax, .inr (0, [.null, .null]))] := hD
  refine lv_dup hx hb dL_law_3 rfl ?_
  have hPc := hP.sub (ws' := [(ax, .inr (0, [.null, .null]))]) [0] rfl
  have hDc := hD.sub (ws' := [(ax, .inr (0, [.null, .null]))]) [0] (by decide) rfl
  have hKc := hK.sub (tys' := []) [] rfl
  have hFc := va_free (wc := [(ax, .inr (0, [.null, .null]))]) hD hS hA [0] rfl
  refine va_callv (va_runI (As := []) (rest := [.ref ax]) ⟨hx, hb, hml, hown, hts⟩ (metX0_init l dC dI ax H.size vz hvn hvf) (cwI 0 hts (lw_meth q30) rfl rfl rfl (hts _ q3) (hts _ q28) (hts _ q29) rfl (by decide +kernel) ⟨Nat.le_of_ble_eq_true rfl, Nat.le_of_ble_eq_true rfl⟩) ⟨fun a U g mk q => by obtain ⟨q0, q1, qP, qK, qD, qZ⟩ := q; exact ⟨q0, q1, qP, va_K.moved (u := U) (U := U.calling g mk a) (Vm.Alike.refl U.vm) qK, qD, va_Z.moved (u := U) (U := U.calling g mk a) (Vm.Alike.refl U.vm) qZ⟩, fun U hU hW => ⟨rfl, by rw [hU], by rw [hU]; exact hPc, va_K.moved hW.alike hKc, hDc.weaken (fun _ _ _ _ => trivial), by rw [hU]; exact va_Z.moved hW.alike ((va_Z.kept hZ hS.2.1).narrow hFc)⟩⟩ rfl rfl hl.1 rfl (lv_room (Nat.le_of_ble_eq_true rfl)) dL_law_4 ⟨Nat.le_of_ble_eq_true rfl, Nat.le_of_ble_eq_true rfl⟩) hS (fun q _ h => hFc q h) hFc (fun u t H1 locs ht hvm hwx hB hz1 hk1 hS => ?_)
  obtain ⟨sz, fv, hp, fi⟩ := u
  obtain ⟨hv0, hG0, hs0⟩ := hwx
  dsimp only at hv0 hG0 hs0
  obtain ⟨d, aq, av, ah, an, hP1, hK1, hD1⟩ := hB
  rw [ht] at hP1
  have hK1 := va_K.moved hvm.symm hK1
  obtain ⟨hP, hD⟩ := va_join (wr := []) (w1 := [(ax, .inr (0, [.ref av, .ref aq])), (aq, .inr (1, [.ref av, .ref ah, .int (nI sz), .null, .ref an])), (av, .inl (d, 64, .inl fv)), (ah, .inl (d, 64, .inl (hN hp))), (an, .inl (d, 64, .inl fi))]) hP hD [0] [] rfl rfl (by decide) (by decide) hk1 hFc hP1 hD1
  generalize H1 = H at hP hS ⊢
  have hP : va_P (dC, dI) vwCl [(ax, .inr (0, [.ref av, .ref aq])), (aq, .inr (1, [.ref av, .ref ah, .int (nI sz), .null, .ref an])), (av, .inl (d, 64, .inl fv)), (ah, .inl (d, 64, .inl (hN hp))), (an, .inl (d, 64, .inl fi))] H := hP
  have hD : va_D (fun q : Nat => s.heap.size ≤ q) [(ax, .inr (0, [.ref av, .ref aq])), (aq, .inr (1, [.ref av, .ref ah, .int (nI sz), .null, .ref an])), (av, .inl (d, 64, .inl fv)), (ah, .inl (d, 64, .inl (hN hp))), (an, .inl (d, 64, .inl fi))] := hD
  have hK : va_K (dC, dI) vwCl [(d, .int)] s := hK1
  refine lv_astore_n (lv' := [(1, .ref ax), (0, .ref b)]) hx hb dL_law_7 rfl hl (by decide) rfl (fun ls hl => ?_)
  refine va_new (ci := 2) (fs := [.null, .null]) (C := RX4) (T := TX4) (N := 2) hx hb hts in_X4 tyX4 tyX4_ok hown (hts _ q523) (hts _ q524) (hts _ q8) hK hP hD hS hA rfl (fun j hj => by rcases (show j = 0 ∨ j = 1 by omega) with rfl | rfl <;> rfl) (Nat.le_of_ble_eq_true rfl) (Nat.le_of_ble_eq_true rfl) dL_law_8 (fun ay H hP hD hS => ?_)
  have hP : va_P (dC, dI) vwCl [(ax, .inr (0, [.ref av, .ref aq])), (aq, .inr (1, [.ref av, .ref ah, .int (nI sz), .null, .ref an])), (av, .inl (d, 64, .inl fv)), (ah, .inl (d, 64, .inl (hN hp))), (an, .inl (d, 64, .inl fi)), (ay, .inr (2, [.null, .null]))] H := hP
  have hD : va_D (fun q : Nat => s.heap.size ≤ q) [(ax, .inr (0, [.ref av, .ref aq])), (aq, .inr (1, [.ref av, .ref ah, .int (nI sz), .null, .ref an])), (av, .inl (d, 64, .inl fv)), (ah, .inl (d, 64, .inl (hN hp))), (an, .inl (d, 64, .inl fi)), (ay, .inr (2, [.null, .null]))] := hD
  refine lv_dup hx hb dL_law_11 rfl ?_
  have hPc := hP.sub (ws' := [(ay, .inr (2, [.null, .null]))]) [5] rfl
  have hDc := hD.sub (ws' := [(ay, .inr (2, [.null, .null]))]) [5] (by decide) rfl
  have hKc := hK.sub (tys' := [(d, .int)]) [0] rfl
  have hFc := va_free (wc := [(ay, .inr (2, [.null, .null]))]) hD hS hA [5] rfl
  refine va_callv (va_runI (As := []) (rest := [.ref ay]) ⟨hx, hb, hml, hown, hts⟩ (metX4_init l dC dI d ay H.size) (cwI 0 hts (lw_meth q527) rfl rfl rfl (hts _ q8) (hts _ q525) (hts _ q526) rfl (by decide +kernel) ⟨Nat.le_of_ble_eq_true rfl, Nat.le_of_ble_eq_true rfl⟩) ⟨fun a U g mk q => by obtain ⟨q0, q1, qP, qK, qD⟩ := q; exact ⟨q0, q1, qP, va_K.moved (u := U) (U := U.calling g mk a) (Vm.Alike.refl U.vm) qK, qD⟩, fun U hU hW => ⟨rfl, by rw [hU], by rw [hU]; exact hPc, va_K.moved hW.alike hKc, hDc.weaken (fun _ _ _ _ => trivial)⟩⟩ rfl rfl hl.1 rfl (lv_room (Nat.le_of_ble_eq_true rfl)) dL_law_12 ⟨Nat.le_of_ble_eq_true rfl, Nat.le_of_ble_eq_true rfl⟩) hS (fun q _ h => hFc q h) hFc (fun u t H1 locs ht hvm hwm hB hz1 hk1 hS => ?_)
  obtain ⟨gv, fb⟩ := u
  obtain ⟨hv1, hf1⟩ := hwm
  dsimp only at hv1 hf1
  obtain ⟨dz, mv, mi, hP1, hK1, hD1⟩ := hB
  rw [ht] at hP1
  have hK1 := va_K.moved hvm.symm hK1
  obtain ⟨hP, hD⟩ := va_join (wr := [(ax, .inr (0, [.ref av, .ref aq])), (aq, .inr (1, [.ref av, .ref ah, .int (nI sz), .null, .ref an])), (av, .inl (d, 64, .inl fv)), (ah, .inl (d, 64, .inl (hN hp))), (an, .inl (d, 64, .inl fi))]) (w1 := [(ay, .inr (2, [.ref mv, .ref mi])), (mv, .inl (d, 64, .inl gv)), (mi, .inl (dz, 64, .inl fb))]) hP hD [5] [0, 1, 2, 3, 4] rfl rfl (by decide) (by decide) hk1 hFc hP1 hD1
  generalize H1 = H at hP hS ⊢
  have hP : va_P (dC, dI) vwCl [(ax, .inr (0, [.ref av, .ref aq])), (aq, .inr (1, [.ref av, .ref ah, .int (nI sz), .null, .ref an])), (av, .inl (d, 64, .inl fv)), (ah, .inl (d, 64, .inl (hN hp))), (an, .inl (d, 64, .inl fi)), (ay, .inr (2, [.ref mv, .ref mi])), (mv, .inl (d, 64, .inl gv)), (mi, .inl (dz, 64, .inl fb))] H := hP
  have hD : va_D (fun q : Nat => s.heap.size ≤ q) [(ax, .inr (0, [.ref av, .ref aq])), (aq, .inr (1, [.ref av, .ref ah, .int (nI sz), .null, .ref an])), (av, .inl (d, 64, .inl fv)), (ah, .inl (d, 64, .inl (hN hp))), (an, .inl (d, 64, .inl fi)), (ay, .inr (2, [.ref mv, .ref mi])), (mv, .inl (d, 64, .inl gv)), (mi, .inl (dz, 64, .inl fb))] := hD
  have hK : va_K (dC, dI) vwCl [(d, .int), (dz, .boolean)] s := hK1
  refine W.widen (k := 8) (n := 329) (Nat.le_of_ble_eq_true rfl) (Nat.le_of_ble_eq_true rfl) ?_
  refine lv_astore_n (lv' := [(2, .ref ay), (1, .ref ax), (0, .ref b)]) hx hb dL_law_15 rfl hl (by decide) rfl (fun ls hl => ?_)
  refine lv_iconst (v := nI 0) hx hb dL_law_16 (by decide +kernel) ?_
  refine lv_istore_n (lv' := [(3, .int (nI 0)), (2, .ref ay), (1, .ref ax), (0, .ref b)]) hx hb dL_law_17 rfl hl (by decide) rfl (fun ls hl => ?_)
  have hP9 := hP.sub (ws' := [(ax, .inr (0, [.ref av, .ref aq])), (aq, .inr (1, [.ref av, .ref ah, .int (nI sz), .null, .ref an])), (av, .inl (d, 64, .inl fv)), (ah, .inl (d, 64, .inl (hN hp))), (an, .inl (d, 64, .inl fi)), (ay, .inr (2, [.ref mv, .ref mi])), (mv, .inl (d, 64, .inl gv)), (mi, .inl (dz, 64, .inl fb))]) [0, 1, 2, 3, 4, 5, 6, 7] rfl
  have hD9 := hD.sub (ws' := [(ax, .inr (0, [.ref av, .ref aq])), (aq, .inr (1, [.ref av, .ref ah, .int (nI sz), .null, .ref an])), (av, .inl (d, 64, .inl fv)), (ah, .inl (d, 64, .inl (hN hp))), (an, .inl (d, 64, .inl fi)), (ay, .inr (2, [.ref mv, .ref mi])), (mv, .inl (d, 64, .inl gv)), (mi, .inl (dz, 64, .inl fb))]) [0, 1, 2, 3, 4, 5, 6, 7] (by decide) rfl
  refine law_loop hx hb hml hown hts hX hbl hbA hA hL hK ?_ (L + 1) 0 (by omega) (by omega) (fun _ => False) sz fv hp fi gv fb H _ ls (LI.start hG0 hs0 hv0 hv1 hf1) hP9 hD9 hS (lv_sub hl [3, 2, 1, 0] rfl)
  intro H locs ls hS
  refine lv_iconst (v := 1) hx hb dL_law_315 (by decide +kernel) ?_
  refine va_forget hS.2.2 ?_
  refine W.widen (k := 600128) (n := 7301098) (Nat.le_of_ble_eq_true rfl) (Nat.le_of_ble_eq_true rfl) ?_
  exact lw_ret hx hb hr hlocks dL_law_316
end
section
set_option maxHeartbeats 4000000 in
theorem lw_walk (l : Launch) (hflags : l.flags = flags0) (b : Addr) (xs : List Int32) : MetFree l x (headSpec (Jvm.Cond.code x code maxLocals ret :: tables_1) room_1) (lw_P b xs) (fun _ _ _ _ _ => True) lw_Q := by
  refine MetFree.of_bodyS (code := code) (maxLocals := maxLocals) (ret := ret) (by decide) ?_ ?_
  · intro args s m h hn
    obtain ⟨meth, c, h1, h2, h3, h4, h5, h6, -, -⟩ := Cond.code_spec hn (atoms_spec (ws := Jvm.Cond.code x code maxLocals ret :: tables_1) h _ List.mem_cons_self)
    exact ⟨meth, c, h1, h2, h3, h4, h5, h6⟩
  · intro p e s m args below meth c s₁ B hml0 hP _
    obtain ⟨rfl, hx, hbd, hgv⟩ := hP
    obtain ⟨scr, harrAt, hlist, hof, hsmall⟩ := hx
    obtain ⟨hcb, hkn, -, -⟩ := State.arrayAt?_spec harrAt
    have hown : s.vm.findClass R_law = some m.cls := findClass_of_methodNamed B.named
    have hts0 : ∀ c ∈ (Jvm.Cond.code x code maxLocals ret :: tables_1), c.before #[Value.ref b] s = true := atoms_spec (ws := Jvm.Cond.code x code maxLocals ret :: tables_1) B.pre
    have hts : ∀ w ∈ lw_tbl, w.before #[Value.ref b] s = true := k2_hts_sels lw_privs (fun w hw => hts0 w (List.mem_cons_of_mem _ hw)) lw_privs_ok
    have hml : c.maxLocals = 4 := B.maxLocals_eq (hts0 _ List.mem_cons_self)
    have X₀ : Stand p l e room_1 s m #[Value.ref b] below meth c s₁ [] 0 0 := Stand.of_body B
    have hh0 : s₁.heap = s.heap := by rw [B.state]; rfl
    have hsz : scr.slots.size = xs.length := by rw [← Array.length_toList, hlist, List.length_map]
    have hval : ∀ j : Nat, j < xs.length → scr.slots[j]? = some (.int (xs.getD j 0)) := fun j hj => by
      rw [← Array.getElem?_toList, hlist]
      simp [hj]
    have hbl : b < s.heap.size := (Array.getElem?_eq_some_iff.mp hcb).1
    have hX : va_X b xs.length (fun j => xs.getD j 0) s s.heap := ⟨scr, hcb, hof, hkn, hsz, hval⟩
    have K : W p l e room_1 s m #[Value.ref b] below meth c s₁.heap [] 0 0 (lw_Z below #[Value.ref b] s) (entryFrame m ([Value.ref b] : List Value).toArray 4) := by
      rw [hh0]
      exact whole_start l hflags hbd ⟨B.exec, B.bytes, B.returns, hml, hown, hts, hX, hbl, B.notSynchronized, hgv⟩
    obtain ⟨t, a1, o, b1, b2, b3⟩ := K s₁ rfl X₀
    exact ⟨t, o, a1, b1, b2, b3⟩
theorem lw_pre_spec {args : Array Value} {s : State} (h : (Jvm.Cond.and given_1 narrow_1).before args s = true) (hr : rest_1_c.before args s = true) : ∃ (b : Addr) (xs : List Int32), lw_P b xs args s := by
  have hs := flat_of_before _ h
  have hq := flat_of_before _ hr
  have hc : (Cond.count 1).before args s = true := hs _ (by decide +kernel)
  have harr : (Cond.arrayOf (.arg 0) .int).before args s = true := hs _ (by decide +kernel)
  have hle : (Cond.le (.length (.arg 0)) (.int 384)).before args s = true := hs _ (by decide +kernel)
  have hlen : (Cond.isInt (.length (.arg 0))).before args s = true := hq _ (by decide +kernel)
  have hall : (Cond.all (.arg 0) (.isInt (.elem (.arg 0) (.index 0)))).before args s = true := hq _ (by decide +kernel)
  obtain ⟨b, xs, hb, hx⟩ := State.ints_of_pre rfl harr hlen hall
  have hsm : xs.length < 2 ^ 31 := hx.choose_spec.2.2.2
  have hev : (Term.length (.arg 0)).eval args s none [] s = some (.int xs.length.toInt32) := hx.length_eval hb
  have hv := Cond.le_ints hev (show (Term.int 384).eval args s none [] s = some (.int 384) from rfl)
  have hd : xs.length.toInt32 ≤ 384 := by
    simpa [Cond.before, Cond.holds, hv] using hle
  have hN : xs.length ≤ 384 := (Int32.ofNat_le_ofNat hsm (by decide)).mp (show Int32.ofNat xs.length ≤ Int32.ofNat 384 from hd)
  exact ⟨b, xs, Cond.one_arg hc (show args[0]? = some (.ref b) from hb), hx, hN, h⟩
theorem lw_comes (l : Launch) (hflags : l.flags = flags0) : Comes l x (Jvm.Cond.code x code maxLocals ret :: tables_1) room_1 (fun tb e args s => Calls_1 tb e args s ∧ rest_1 tb e args s ∧ Pre_1 tb e args s)
    (fun _ _ args s o t => lw_Q args s o t) := by
  intro p e ha hc hk s m args below hf hfit hheap happ hpre
  obtain ⟨b, xs, hP⟩ := lw_pre_spec hpre.2.2 hpre.2.1
  obtain ⟨k, o, h1, h2, h3, hQ⟩ := lw_walk l hflags b xs p e ha hc hk s m args below hf ((Spec.applies_iff_loose hf).mp happ).1 hP trivial
  exact ⟨k, o, h1, h2, h3, hQ⟩
theorem lw_frame {s t : State} {o : Outcome} {args : Array Value} (h : Framed s o t [] 600128 7301098) :
    Framed s o t (fieldLocs frame_1_writes args s ++ arrayLocs frame_1_arrays args s ++ staticLocs frame_1_statics s) 600128 7301098 := h
theorem lw_limb (L : Cond) (hL : ∀ (args : Array Value) (s t : State), L.after args s (.returned (some (.int 1))) t = true) :
    ArmFor flags0 classFile x code maxLocals ret World_1 tables_1 room_1 Calls_1 rest_1 Pre_1
      (fun tb e a s o t => postC L tb e a s o t ∧ Framed s o t (fieldLocs frame_1_writes a s ++ arrayLocs frame_1_arrays a s ++ staticLocs frame_1_statics s) 600128 7301098) := by
  intro l hflags _ _ p e ha hc hk s m args below hf hfit hheap happ hpre
  obtain ⟨k, o, h1, h2, h3, rfl, hF⟩ := lw_comes l hflags p e ha hc hk s m args below hf hfit hheap happ hpre
  exact ⟨k, _, h1, h2, h3, hL args s _, lw_frame hF⟩
theorem i_vc : Claimed_1_1 ∧ Claimed_1_2 := ⟨lw_limb limb_1_1 (fun args s t => by simp [limb_1_1, Cond.after, Cond.holds, Cond.value]), lw_limb limb_1_2 (fun args s t => Cond.after_iff.mpr (by
  first | (rw [show limb_1_2 = Cond.eq .result (.int 1) from rfl, Cond.eq_ints (x := 1) (y := 1) rfl rfl]; simp; done) | (simp [limb_1_2, Cond.value, Term.eval]; done)))⟩
end
