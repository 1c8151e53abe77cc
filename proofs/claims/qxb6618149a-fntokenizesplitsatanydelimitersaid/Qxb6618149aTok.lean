namespace Go.Proofs.Qxb6618149a.Tok

/-- the six bytes of ASCII white space. -/
def isSp (c : UInt8) : Bool := c == 32 || c == 9 || c == 10 || c == 13 || c == 11 || c == 12
/-- the two parentheses. -/
def isPar (c : UInt8) : Bool := c == 40 || c == 41
/-- a byte at which a word ends. -/
def isDel (c : UInt8) : Bool := isSp c || isPar c

/-- one byte of the reader: (the word in hand, the tokens so far). -/
def stp (st : List UInt8 × List (List UInt8)) (c : UInt8) : List UInt8 × List (List UInt8) :=
  if isDel c then ([], st.2 ++ (if st.1 = [] then [] else [st.1]) ++ (if isPar c then [[c]] else []))
  else (st.1 ++ [c], st.2)
def stt (l : List UInt8) : List UInt8 × List (List UInt8) := l.foldl stp ([], [])
/-- the tokens of l. -/
def toks (l : List UInt8) : List (List UInt8) := (stp (stt l) 32).2
def extra (c : UInt8) : List (List UInt8) := if isPar c then [[c]] else []

theorem stt_snoc (l : List UInt8) (c : UInt8) : stt (l ++ [c]) = stp (stt l) c := by simp [stt]
theorem stt_nil : stt [] = ([], []) := rfl
theorem toks_def (l : List UInt8) : toks l = (stt l).2 ++ (if (stt l).1 = [] then [] else [(stt l).1]) := by
  have h1 : isDel 32 = true := by decide
  have h2 : isPar 32 = false := by decide
  simp [toks, stp, h1, h2]
theorem fold_app (T0 : List (List UInt8)) : ∀ (l : List UInt8) (cur : List UInt8) (T : List (List UInt8)),
    l.foldl stp (cur, T0 ++ T) = ((l.foldl stp (cur, T)).1, T0 ++ (l.foldl stp (cur, T)).2)
  | [], _, _ => rfl
  | c :: l, cur, T => by
    simp only [List.foldl_cons]
    by_cases h : isDel c
    · have e1 : stp (cur, T0 ++ T) c = ([], T0 ++ (stp (cur, T) c).2) := by simp [stp, h]
      have e2 : stp (cur, T) c = ([], (stp (cur, T) c).2) := by simp [stp, h]
      rw [e1, fold_app T0 l, ← e2]
    · have e1 : stp (cur, T0 ++ T) c = (cur ++ [c], T0 ++ T) := by simp [stp, h]
      have e2 : stp (cur, T) c = (cur ++ [c], T) := by simp [stp, h]
      rw [e1, fold_app T0 l, ← e2]
/-- a delimiter parts the tokens. -/
theorem split (a b : List UInt8) (sep : UInt8) (h : isDel sep = true) : toks (a ++ sep :: b) = toks a ++ extra sep ++ toks b := by
  have e : stt (a ++ sep :: b) = ((stt b).1, (toks a ++ extra sep) ++ (stt b).2) := by
    have e1 : stp (stt a) sep = ([], toks a ++ extra sep) := by
      rw [toks_def]; simp [stp, h, extra]
    have := fold_app (toks a ++ extra sep) b [] []
    simp only [List.append_nil] at this
    unfold stt at e1 ⊢
    rw [List.foldl_append, List.foldl_cons, e1, this]
  rw [toks_def, e, toks_def b]
  simp [List.append_assoc]
theorem toks_nil : toks [] = [] := by decide
theorem word_fold : ∀ (t cur : List UInt8) (T : List (List UInt8)), (∀ c ∈ t, isDel c = false) → t.foldl stp (cur, T) = (cur ++ t, T)
  | [], cur, T, _ => by simp
  | c :: t, cur, T, h => by
    have hc := h c (by simp)
    have e : stp (cur, T) c = (cur ++ [c], T) := by simp [stp, hc]
    rw [List.foldl_cons, e, word_fold t _ _ (fun d hd => h d (by simp [hd]))]; simp
theorem toks_word (t : List UInt8) (h : ∀ c ∈ t, isDel c = false) (hn : t ≠ []) : toks t = [t] := by
  rw [toks_def]; unfold stt; rw [word_fold t [] [] h]; simp [hn]

/-! ### how many -/
/-- the tokens that stand, and the word in hand. -/
def cnt (st : List UInt8 × List (List UInt8)) : Nat := st.2.length + if st.1 = [] then 0 else 1
theorem cnt_toks (l : List UInt8) : (toks l).length = cnt (stt l) := by
  rw [toks_def]; unfold cnt; split <;> simp
theorem cnt_snoc (l : List UInt8) (c : UInt8) : cnt (stt (l ++ [c])) = cnt (stt l) + if isPar c then 1 else if isSp c then 0 else if (stt l).1 = [] then 1 else 0 := by
  rw [stt_snoc]
  by_cases hp : isPar c
  · have hd : isDel c = true := by simp [isDel, hp]
    by_cases e : (stt l).1 = [] <;> simp [cnt, stp, hd, hp, e]
  · by_cases hs : isSp c
    · have hd : isDel c = true := by simp [isDel, hs]
      by_cases e : (stt l).1 = [] <;> simp [cnt, stp, hd, hp, hs, e]
    · have hd : isDel c = false := by simp [isDel, hp, hs]
      by_cases e : (stt l).1 = [] <;> simp [cnt, stp, hd, hp, hs, e]
theorem cur_snoc (l : List UInt8) (c : UInt8) : (stt (l ++ [c])).1 = [] ↔ isDel c = true := by
  rw [stt_snoc]
  by_cases hd : isDel c <;> simp [stp, hd]
theorem cnt_stp (st : List UInt8 × List (List UInt8)) (c : UInt8) : cnt (stp st c) ≤ cnt st + 1 := by
  by_cases hd : isDel c <;> by_cases e : st.1 = [] <;> by_cases hp : isPar c <;> simp [cnt, stp, hd, hp, e]
theorem cnt_fold : ∀ (l : List UInt8) (st : List UInt8 × List (List UInt8)), cnt (l.foldl stp st) ≤ cnt st + l.length
  | [], _ => by simp
  | c :: l, st => by have := cnt_fold l (stp st c); have := cnt_stp st c; simp; omega
theorem cnt_le (l : List UInt8) : cnt (stt l) ≤ l.length := by
  have h := cnt_fold l ([], [])
  have z : cnt ([], []) = 0 := by decide
  rw [z, Nat.zero_add] at h; exact h

/-! ### reading back -/
/-- t is a token of a text that goes on by rest. -/
def tokOk (t rest : List UInt8) : Prop :=
  (∃ c, isPar c = true ∧ t = [c]) ∨ (t ≠ [] ∧ (∀ c ∈ t, isDel c = false) ∧ (rest = [] ∨ ∃ d r, rest = d :: r ∧ isDel d = true))
/-- T, read in order over l with white space skipped, spells l. -/
def Rd (l : List UInt8) : List (List UInt8) → Prop
  | [] => ∀ c ∈ l, isSp c = true
  | t :: T => ∃ sp rest, l = sp ++ (t ++ rest) ∧ (∀ c ∈ sp, isSp c = true) ∧ tokOk t rest ∧ Rd rest T
theorem Rd_space (c : UInt8) (hc : isSp c = true) (l : List UInt8) : ∀ T, Rd l T → Rd (c :: l) T
  | [], h => by
    intro d hd
    rcases List.mem_cons.1 hd with rfl | hd
    · exact hc
    · exact h d hd
  | t :: T, ⟨sp, rest, e, hs, ht, hr⟩ => ⟨c :: sp, rest, by simp [e], by
      intro d hd
      rcases List.mem_cons.1 hd with rfl | hd
      · exact hc
      · exact hs d hd, ht, hr⟩
theorem word_parts : ∀ (l : List UInt8), ∃ t r, l = t ++ r ∧ (∀ c ∈ t, isDel c = false) ∧ (r = [] ∨ ∃ d r', r = d :: r' ∧ isDel d = true)
  | [] => ⟨[], [], rfl, by simp, .inl rfl⟩
  | c :: l => by
    by_cases h : isDel c
    · exact ⟨[], c :: l, rfl, by simp, .inr ⟨c, l, rfl, h⟩⟩
    · obtain ⟨t, r, e, ht, hr⟩ := word_parts l
      refine ⟨c :: t, r, by simp [e], ?_, hr⟩
      intro d hd
      rcases List.mem_cons.1 hd with rfl | hd
      · simpa using h
      · exact ht d hd
theorem reads : ∀ (n : Nat) (l : List UInt8), l.length ≤ n → Rd l (toks l)
  | _, [], _ => by rw [toks_nil]; simp [Rd]
  | 0, c :: l, h => by simp at h
  | n + 1, c :: l, h => by
    simp at h
    by_cases hd : isDel c
    · have e := split [] l c hd
      simp only [List.nil_append, toks_nil] at e
      rw [e]
      by_cases hp : isPar c
      · simp only [extra, hp, if_true, List.singleton_append]
        exact ⟨[], l, by simp, by simp, .inl ⟨c, hp, rfl⟩, reads n l h⟩
      · have hs : isSp c = true := by simpa [isDel, hp] using hd
        have hx : extra c = [] := by simp [extra, hp]
        rw [hx, List.nil_append]
        exact Rd_space c hs l _ (reads n l h)
    · obtain ⟨t, r, e, ht, hr⟩ := word_parts (c :: l)
      have hn : t ≠ [] := by
        intro h0; subst h0
        rcases hr with rfl | ⟨d, r', rfl, hd'⟩
        · simp at e
        · simp at e; rw [e.1] at hd; exact hd hd'
      have hlen : t.length + r.length = l.length + 1 := by have := congrArg List.length e; simp at this; omega
      have hpos : 0 < t.length := List.length_pos_iff.2 hn
      have et : toks (c :: l) = t :: toks r := by
        rw [e]
        rcases hr with rfl | ⟨d, r', rfl, hd'⟩
        · rw [List.append_nil, toks_word t ht hn, toks_nil]
        · rw [split t r' d hd', toks_word t ht hn]
          have := split [] r' d hd'
          simp only [List.nil_append, toks_nil] at this
          rw [this]; simp
      rw [et]
      exact ⟨[], r, by simp [e], by simp, .inr ⟨hn, ht, hr⟩, reads n r (by omega)⟩
theorem reads_back (l : List UInt8) : Rd l (toks l) := reads l.length l (Nat.le_refl _)
end Go.Proofs.Qxb6618149a.Tok
