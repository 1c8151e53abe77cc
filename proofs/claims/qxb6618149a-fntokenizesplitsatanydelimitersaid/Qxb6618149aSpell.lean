import Derived.Test.Qxb6618149aBytes
namespace Go.Proofs.Qxb6618149a
open Go.RowKit

/-- a token as the value of a Go string. -/
def strV (t : List UInt8) : Value := .string ⟨t.toArray⟩
/-- the reader behind the first k bytes of l and the blank at its end. -/
def S (l : List UInt8) (k : Nat) : List UInt8 × List (List UInt8) := Tok.stt ((l ++ [32]).take k)

theorem S_zero (l : List UInt8) : S l 0 = ([], []) := rfl
theorem S_succ (l : List UInt8) (k : Nat) (h : k < l.length) : S l (k + 1) = Tok.stp (S l k) l[k] := by
  unfold S
  rw [List.take_succ_eq_append_getElem (by simp; omega), Tok.stt_snoc, List.getElem_append_left h]
theorem S_last (l : List UInt8) : S l (l.length + 1) = Tok.stp (S l l.length) 32 := by
  unfold S
  rw [List.take_succ_eq_append_getElem (by simp), Tok.stt_snoc, List.getElem_append_right (by omega)]
  simp
theorem S_toks (l : List UInt8) : (S l (l.length + 1)).2 = Tok.toks l := by
  rw [S_last]; unfold S Tok.toks; simp
theorem cur_suffix (l : List UInt8) : ∀ (st : List UInt8 × List (List UInt8)) (p : List UInt8), (∃ q, p = q ++ st.1) → ∃ q, p ++ l = q ++ (l.foldl Tok.stp st).1 := by
  induction l with
  | nil => intro st p h; simpa using h
  | cons c l ih =>
    intro st p ⟨q, hq⟩
    have := ih (Tok.stp st c) (p ++ [c]) (by
      by_cases hd : Tok.isDel c
      · exact ⟨p ++ [c], by simp [Tok.stp, hd]⟩
      · exact ⟨q, by simp [Tok.stp, hd, hq]⟩)
    simpa using this
theorem S_suffix (l : List UInt8) (k : Nat) (hk : k ≤ l.length) : (S l k).1.length ≤ k ∧ (l.take k).drop (k - (S l k).1.length) = (S l k).1 := by
  have e : (l ++ [32]).take k = l.take k := by rw [List.take_append_of_le_length hk]
  obtain ⟨q, hq⟩ := cur_suffix (l.take k) ([], []) [] ⟨[], rfl⟩
  have hS : (S l k).1 = ((l.take k).foldl Tok.stp ([], [])).1 := by unfold S; rw [e]; rfl
  rw [← hS] at hq
  simp only [List.nil_append] at hq
  have hl : k = q.length + (S l k).1.length := by
    have := congrArg List.length hq
    simp [Nat.min_eq_left hk] at this; exact this
  refine ⟨by omega, ?_⟩
  have e2 : k - (S l k).1.length = q.length := by omega
  rw [e2, hq, List.drop_left]
theorem S_len (l : List UInt8) (k : Nat) : (S l k).2.length ≤ k := by
  have h := Tok.cnt_le ((l ++ [32]).take k)
  have h2 : ((l ++ [32]).take k).length ≤ k := List.length_take_le _ _
  unfold Tok.cnt at h
  unfold S
  omega
theorem ext_list (s : ByteArray) (a b : Nat) : (s.extract a b).data.toList = (s.data.toList.take b).drop a := by
  rw [ByteArray.data_extract, Array.toList_extract, List.extract_eq_take_drop, List.take_drop]
  by_cases h : a ≤ b
  · rw [Nat.add_sub_cancel' h]
  · rw [List.drop_eq_nil_of_le (by simp; omega), List.drop_eq_nil_of_le (by simp; omega)]
theorem ba_eq (x y : ByteArray) (h : x.data.toList = y.data.toList) : x = y := by
  obtain ⟨⟨x⟩⟩ := x; obtain ⟨⟨y⟩⟩ := y; simp at h; rw [h]
theorem str_word (s : ByteArray) (k : Nat) (hk : k ≤ s.size) : strV (S s.data.toList k).1 = .string (s.extract (k - (S s.data.toList k).1.length) k) := by
  have h := (S_suffix s.data.toList k (by simpa using hk)).2
  unfold strV
  congr 1
  apply ba_eq
  rw [ext_list, h]
theorem str_one (s : ByteArray) (k : Nat) (hk : k < s.size) : strV [s[k]] = .string (s.extract k (k + 1)) := by
  unfold strV
  congr 1
  apply ba_eq
  rw [ext_list, List.take_succ_eq_append_getElem (by simpa using hk), List.drop_left' (by simp; omega)]
  rfl

/-! ### what one byte does -/
theorem stp_word (st : List UInt8 × List (List UInt8)) (c : UInt8) (h : Tok.isDel c = false) : Tok.stp st c = (st.1 ++ [c], st.2) := by simp [Tok.stp, h]
theorem stp_sp0 (st : List UInt8 × List (List UInt8)) (c : UInt8) (h : Tok.isSp c = true) (h2 : Tok.isPar c = false) (e : st.1 = []) : Tok.stp st c = ([], st.2) := by simp [Tok.stp, Tok.isDel, h, h2, e]
theorem stp_sp1 (st : List UInt8 × List (List UInt8)) (c : UInt8) (h : Tok.isSp c = true) (h2 : Tok.isPar c = false) (e : st.1 ≠ []) : Tok.stp st c = ([], st.2 ++ [st.1]) := by simp [Tok.stp, Tok.isDel, h, h2, e]
theorem stp_par0 (st : List UInt8 × List (List UInt8)) (c : UInt8) (h2 : Tok.isPar c = true) (e : st.1 = []) : Tok.stp st c = ([], st.2 ++ [[c]]) := by simp [Tok.stp, Tok.isDel, h2, e]
theorem stp_par1 (st : List UInt8 × List (List UInt8)) (c : UInt8) (h2 : Tok.isPar c = true) (e : st.1 ≠ []) : Tok.stp st c = ([], st.2 ++ [st.1] ++ [[c]]) := by simp [Tok.stp, Tok.isDel, h2, e]
theorem sp_not_par (c : UInt8) (h : Tok.isSp c = true) : Tok.isPar c = false := by
  have h1 := spB_byte c; have h2 := parB_byte c
  rw [h] at h1; rw [← h2, parB_no]; rw [spB_iff] at h1; omega

/-! ### the loop's relation -/
/-- what the slots v (the tokens) and z (where the word in hand began) hold behind k bytes. -/
def Inv (l : List UInt8) (B : Nat) (w : World) (k : Nat) (v : Value) (z : Int) (wr : World) : Prop :=
  wr.ownsRow B 9 1 v (S l k).2.length ((S l k).2.map strV) ∧ ((S l k).2 = [] → v = .slice none 0 0) ∧
  (((S l k).1 = [] ∧ z = -1) ∨ ((S l k).1 ≠ [] ∧ z = ((k - (S l k).1.length : Nat) : Int))) ∧ Below B w wr

theorem inv_zero (l : List UInt8) (w : World) : Inv l w.heap.size w 0 (.slice none 0 0) (-1) w :=
  ⟨World.ownsRow_nil _ _ _ _, fun _ => rfl, .inl ⟨rfl, rfl⟩, Below.refl _ _⟩
theorem inv_start (l : List UInt8) (B : Nat) (w wr : World) (k : Nat) (v : Value) (h : k < l.length) (hd : Tok.isDel l[k] = false) (hi : Inv l B w k v (-1) wr) : Inv l B w (k + 1) v k wr := by
  obtain ⟨h1, h2, h3, h4⟩ := hi
  have h3' : (S l k).1 = [] := by rcases h3 with h3 | h3
                                  · exact h3.1
                                  · omega
  have e := S_succ l k h
  rw [stp_word _ _ hd, h3'] at e
  unfold Inv; rw [e]
  exact ⟨h1, h2, .inr ⟨by simp, by simp⟩, h4⟩
theorem inv_more (l : List UInt8) (B : Nat) (w wr : World) (k : Nat) (v : Value) (z : Int) (hz : 0 ≤ z) (h : k < l.length) (hd : Tok.isDel l[k] = false) (hi : Inv l B w k v z wr) : Inv l B w (k + 1) v z wr := by
  obtain ⟨h1, h2, h3, h4⟩ := hi
  have h3' : (S l k).1 ≠ [] ∧ z = ((k - (S l k).1.length : Nat) : Int) := by rcases h3 with h3 | h3
                                                                             · omega
                                                                             · exact h3
  have e := S_succ l k h
  rw [stp_word _ _ hd] at e
  unfold Inv; rw [e]
  refine ⟨h1, h2, .inr ⟨by simp, ?_⟩, h4⟩
  have := (S_suffix l k (by omega)).1
  simp; omega
end Go.Proofs.Qxb6618149a
