import Derived.Test.Qxb6618149aTokenize
namespace Go.Proofs.Qxb6618149a
open Go.RowKit

theorem byte_some (s : ByteArray) (i : Nat) (h : i < s.size) : s.data.toList[i]? = some s[i] := by
  rw [List.getElem?_eq_getElem (by simpa using h)]; rfl
theorem par_not_sp (c : UInt8) (h : Tok.isPar c = true) : Tok.isSp c = false := by
  have h1 := spB_byte c; have h2 := parB_byte c
  rw [h] at h2; rw [← h1, spB_no]; rw [parB_iff] at h2; omega

/-- one token of the text from place k on: it stands at p, behind white space alone. -/
structure At (s : ByteArray) (k : Nat) (tb : ByteArray) (T : List (List UInt8)) (p : Nat) : Prop where
  lo : k ≤ p
  hi : p + tb.size ≤ s.size
  pos : 0 < tb.size
  blank : ∀ i (h : i < s.size), k ≤ i → i < p → spB s[i].toNat = true
  same : ∀ i (h : i < tb.size) (h2 : p + i < s.size), s[p + i] = tb[i]
  rest : Tok.Rd (s.data.toList.drop (p + tb.size)) T
  kind : (tb.size = 1 ∧ parB (tb[0]'pos).toNat = true) ∨ ((∀ i (h : i < tb.size), delB tb[i].toNat = false) ∧ (∀ h : p + tb.size < s.size, delB s[p + tb.size].toNat = true))

theorem at_of_rd (s : ByteArray) (k : Nat) (tb : ByteArray) (T : List (List UInt8)) (hk : k ≤ s.size) (h : Tok.Rd (s.data.toList.drop k) (tb.data.toList :: T)) : ∃ p, At s k tb T p := by
  obtain ⟨sp, rest, e, hs, ht, hr⟩ := h
  have htl : tb.data.toList.length = tb.size := by simp
  have hsl : s.data.toList.length = s.size := by simp
  have hn : 0 < tb.size := by
    rw [← htl, List.length_pos_iff]
    rcases ht with ⟨c, _, hc⟩ | ⟨hc, _⟩
    · rw [hc]; simp
    · exact hc
  have hlen : s.size - k = sp.length + (tb.size + rest.length) := by
    have := congrArg List.length e
    simp only [List.length_drop, List.length_append, hsl, htl] at this; exact this
  have idx : ∀ j, s.data.toList[k + j]? = (sp ++ (tb.data.toList ++ rest))[j]? := fun j => by rw [← e, List.getElem?_drop]
  have tokidx : ∀ i (h : i < tb.size) (h2 : k + sp.length + i < s.size), s[k + sp.length + i] = tb[i] := by
    intro i h h2
    have h3 := idx (sp.length + i)
    rw [List.getElem?_append_right (by omega), show sp.length + i - sp.length = i from by omega, List.getElem?_append_left (by omega), byte_some tb i h, show k + (sp.length + i) = k + sp.length + i from by omega, byte_some s _ h2] at h3
    exact Option.some.inj h3
  have hdrop : s.data.toList.drop (k + sp.length + tb.size) = rest := by
    have : s.data.toList.drop (k + (sp.length + tb.size)) = rest := by
      rw [← List.drop_drop, e, ← List.append_assoc, List.drop_left' (by simp [htl])]
    rw [← Nat.add_assoc] at this; exact this
  refine ⟨k + sp.length, by omega, by omega, hn, ?_, tokidx, by rw [hdrop]; exact hr, ?_⟩
  · intro i h h1 h2
    have h3 := idx (i - k)
    rw [List.getElem?_append_left (by omega), show k + (i - k) = i from by omega, byte_some s i h] at h3
    rw [spB_byte]
    exact hs _ (List.mem_of_getElem? h3.symm)
  · rcases ht with ⟨c, hc, hc2⟩ | ⟨_, hc, hc2⟩
    · left
      have h1 : tb.size = 1 := by rw [← htl, hc2]; rfl
      refine ⟨h1, ?_⟩
      have h3 := byte_some tb 0 hn
      rw [hc2] at h3
      simp at h3
      rw [parB_byte, ← h3]; exact hc
    · right
      refine ⟨fun i h => ?_, fun h => ?_⟩
      · rw [delB_byte]
        exact hc _ (List.mem_of_getElem? (byte_some tb i h))
      · have h3 : s.data.toList[k + sp.length + tb.size]? = rest[0]? := by rw [← hdrop, List.getElem?_drop]; simp
        rw [byte_some s _ h] at h3
        rcases hc2 with rfl | ⟨d, r, rfl, hd⟩
        · simp at h3
        · simp at h3; rw [delB_byte, h3]; exact hd
theorem At.first {s : ByteArray} {k : Nat} {tb : ByteArray} {T : List (List UInt8)} {p : Nat} (h : At s k tb T p) (hp : p < s.size) : spB s[p].toNat = false := by
  have h1 := h.same 0 h.pos (by have := h.hi; have := h.pos; omega)
  simp only [Nat.add_zero] at h1
  rw [h1]
  rcases h.kind with ⟨_, h2⟩ | ⟨h2, _⟩
  · rw [parB_byte] at h2; rw [spB_byte]; exact par_not_sp _ h2
  · have := h2 0 h.pos
    simp [delB] at this; exact this.1
theorem rd_end (s : ByteArray) (k : Nat) (h : Tok.Rd (s.data.toList.drop k) []) : ∀ i (h : i < s.size), k ≤ i → spB s[i].toNat = true := by
  intro i hi hk
  rw [spB_byte]
  refine h _ (List.mem_of_getElem? (i := i - k) ?_)
  rw [List.getElem?_drop, show k + (i - k) = i from by omega, byte_some s i hi]
end Go.Proofs.Qxb6618149a
