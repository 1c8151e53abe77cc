import Derived.Test.Qxb6618149aProg
import Derived.Test.Qxb6618149aTok
import Derived.WalkKit
import Derived.WalkSpells
import Derived.WalkLawsBesides
import Derived.Below
namespace Go.Proofs.Qxb6618149a
open Go.RowKit

/-! ### a byte's kind, over the numbers that the walk sees -/
def spB (n : Int) : Bool := n == 32 || n == 9 || n == 10 || n == 13 || n == 11 || n == 12
def parB (n : Int) : Bool := n == 40 || n == 41
def delB (n : Int) : Bool := spB n || parB n

theorem spB_iff (n : Int) : spB n = true ↔ n = 32 ∨ n = 9 ∨ n = 10 ∨ n = 13 ∨ n = 11 ∨ n = 12 := by simp [spB, or_assoc]
theorem parB_iff (n : Int) : parB n = true ↔ n = 40 ∨ n = 41 := by simp [parB]
theorem spB_no (n : Int) : spB n = false ↔ n ≠ 32 ∧ n ≠ 9 ∧ n ≠ 10 ∧ n ≠ 13 ∧ n ≠ 11 ∧ n ≠ 12 := by simp [spB, and_assoc]
theorem parB_no (n : Int) : parB n = false ↔ n ≠ 40 ∧ n ≠ 41 := by simp [parB]
theorem byte_eq (c : UInt8) (k : UInt8) : ((c.toNat : Int) == (k.toNat : Int)) = (c == k) := by
  rw [Bool.eq_iff_iff]; simp [← UInt8.toNat_inj]; omega
theorem spB_byte (c : UInt8) : spB c.toNat = Tok.isSp c := by
  have h1 := byte_eq c 32; have h2 := byte_eq c 9; have h3 := byte_eq c 10; have h4 := byte_eq c 13; have h5 := byte_eq c 11; have h6 := byte_eq c 12
  simp at h1 h2 h3 h4 h5 h6
  simp [spB, Tok.isSp, h1, h2, h3, h4, h5, h6]
theorem parB_byte (c : UInt8) : parB c.toNat = Tok.isPar c := by
  have h1 := byte_eq c 40; have h2 := byte_eq c 41
  simp at h1 h2
  simp [parB, Tok.isPar, h1, h2]
theorem delB_byte (c : UInt8) : delB c.toNat = Tok.isDel c := by rw [delB, Tok.isDel, spB_byte, parB_byte]

set_option maxHeartbeats 400000 in
theorem space_any (n : Int) (w : World) :
    Calls Try.prog 7 #[.int .u8 n] w fun e w' => e = .returned (.bool (spB n)) ∧ w = w' := by
  by_cases h : spB n = true
  · rw [h]
    rw [spB_iff] at h
    rcases h with rfl | rfl | rfl | rfl | rfl | rfl
    all_goals
      go_enter Try.func7, Try.ntmps7
      go_wp2
      go_ret
      exact ⟨rfl, rfl⟩
  · have h' : spB n = false := by simpa using h
    rw [h']
    rw [spB_no] at h'
    obtain ⟨e1, e2, e3, e4, e5, e6⟩ := h'
    clear h
    go_enter Try.func7, Try.ntmps7
    go_wp2
    go_ret
    exact ⟨rfl, rfl⟩

set_option maxHeartbeats 400000 in
theorem paren_any (n : Int) (w : World) :
    Calls Try.prog 8 #[.int .u8 n] w fun e w' => e = .returned (.bool (parB n)) ∧ w = w' := by
  by_cases h : parB n = true
  · rw [h]
    rw [parB_iff] at h
    rcases h with rfl | rfl
    all_goals
      go_enter Try.func8, Try.ntmps8
      go_wp2
      go_ret
      exact ⟨rfl, rfl⟩
  · have h' : parB n = false := by simpa using h
    rw [h']
    rw [parB_no] at h'
    have e1 : (n == 40) = false := beq_eq_false_iff_ne.2 h'.1
    have e2 : (n == 41) = false := beq_eq_false_iff_ne.2 h'.2
    clear h h'
    go_enter Try.func8, Try.ntmps8
    go_wp2
    go_ret
    exact ⟨rfl, rfl⟩

set_option maxHeartbeats 400000 in
theorem delim_any (n : Int) (w : World) :
    Calls Try.prog 9 #[.int .u8 n] w fun e w' => e = .returned (.bool (delB n)) ∧ w = w' := by
  by_cases h : spB n = true
  · have e : delB n = true := by simp [delB, h]
    rw [e]
    clear e
    go_enter Try.func9, Try.ntmps9
    go_wp2_with (first | (go_at_call 7; refine (space_any _ _).mono ?_; rintro e w' ⟨rfl, rfl⟩) | (go_at_call 8; refine (paren_any _ _).mono ?_; rintro e w' ⟨rfl, rfl⟩))
    go_ret
    exact ⟨rfl, rfl⟩
  · have h' : spB n = false := by simpa using h
    have e : delB n = parB n := by simp [delB, h']
    rw [e]
    clear e h
    go_enter Try.func9, Try.ntmps9
    go_wp2_with (first | (go_at_call 7; refine (space_any _ _).mono ?_; rintro e w' ⟨rfl, rfl⟩) | (go_at_call 8; refine (paren_any _ _).mono ?_; rintro e w' ⟨rfl, rfl⟩))
    go_ret
    exact ⟨rfl, rfl⟩

set_option maxHeartbeats 400000 in
theorem bytes1_any (s : ByteArray) (w : World) (hs : s.size ≤ maxLen) :
    Calls Try.prog 5 #[.string s] w fun e w' => e = .returned (.bool (decide (s.size ≤ 1048576))) ∧ w = w' := by
  unfold maxLen at hs
  by_cases h : s.size ≤ 1048576
  · rw [decide_eq_true h]
    go_enter Try.func5, Try.ntmps5
    go_wp2
    go_ret
    exact ⟨rfl, rfl⟩
  · rw [decide_eq_false h]
    go_enter Try.func5, Try.ntmps5
    go_wp2
    go_ret
    exact ⟨rfl, rfl⟩

set_option maxHeartbeats 400000 in
theorem bytes2_any (a : ByteArray) (n : Int) (b : ByteArray) (w : World) (ha : a.size ≤ maxLen) (hb : b.size ≤ maxLen) :
    Calls Try.prog 10 #[.string a, .int .u8 n, .string b] w fun e w' => e = .returned (.bool (decide (a.size + b.size ≤ 1048576))) ∧ w = w' := by
  unfold maxLen at ha hb
  by_cases h : a.size + b.size ≤ 1048576
  · rw [decide_eq_true h]
    go_enter Try.func10, Try.ntmps10
    go_wp2
    go_ret
    exact ⟨rfl, rfl⟩
  · rw [decide_eq_false h]
    by_cases h2 : a.size ≤ 1048576
    · by_cases h3 : b.size ≤ 1048576
      · go_enter Try.func10, Try.ntmps10
        go_wp2
        go_ret
        exact ⟨rfl, rfl⟩
      · go_enter Try.func10, Try.ntmps10
        go_wp2
        go_ret
        exact ⟨rfl, rfl⟩
    · go_enter Try.func10, Try.ntmps10
      go_wp2
      go_ret
      exact ⟨rfl, rfl⟩
end Go.Proofs.Qxb6618149a
