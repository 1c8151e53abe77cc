import Derived.Test.Qxb6618149aRead
namespace Go.Proofs.Qxb6618149a
open Go.RowKit

/-- how many tokens the first k bytes begin. -/
def C (l : List UInt8) (k : Nat) : Nat := Tok.cnt (Tok.stt (l.take k))
theorem C_zero (l : List UInt8) : C l 0 = 0 := by simp [C, Tok.stt_nil, Tok.cnt]
theorem C_le (l : List UInt8) (k : Nat) : C l k ≤ k := by
  have h := Tok.cnt_le (l.take k)
  have h2 : (l.take k).length ≤ k := List.length_take_le _ _
  unfold C; omega
theorem C_all (l : List UInt8) : C l l.length = (Tok.toks l).length := by rw [Tok.cnt_toks]; unfold C; rw [List.take_length]
theorem C_succ (s : ByteArray) (k : Nat) (h : k < s.size) : C s.data.toList (k + 1) = C s.data.toList k + if Tok.isPar s[k] then 1 else if Tok.isSp s[k] then 0 else if (Tok.stt (s.data.toList.take k)).1 = [] then 1 else 0 := by
  unfold C
  rw [List.take_succ_eq_append_getElem (by simpa using h), Tok.cnt_snoc]
  rfl
theorem cur_zero (l : List UInt8) : (Tok.stt (l.take 0)).1 = [] := rfl
theorem cur_prev (s : ByteArray) (k : Nat) (h : k < s.size) : (Tok.stt (s.data.toList.take (k + 1))).1 = [] ↔ delB s[k].toNat = true := by
  rw [List.take_succ_eq_append_getElem (by simpa using h), Tok.cur_snoc, delB_byte]
  rfl
theorem C_par (s : ByteArray) (k : Nat) (h : k < s.size) (hp : parB s[k].toNat = true) : C s.data.toList (k + 1) = C s.data.toList k + 1 := by
  rw [C_succ s k h]; rw [parB_byte] at hp; simp [hp]
theorem C_sp (s : ByteArray) (k : Nat) (h : k < s.size) (hp : parB s[k].toNat = false) (hs : spB s[k].toNat = true) : C s.data.toList (k + 1) = C s.data.toList k := by
  rw [C_succ s k h]; rw [parB_byte] at hp; rw [spB_byte] at hs; simp [hp, hs]
theorem C_first (s : ByteArray) (h : 0 < s.size) (hp : parB s[0].toNat = false) (hs : spB s[0].toNat = false) : C s.data.toList (0 + 1) = C s.data.toList 0 + 1 := by
  rw [C_succ s 0 h]; rw [parB_byte] at hp; rw [spB_byte] at hs; simp [hp, hs, Tok.stt_nil]
theorem C_begin (s : ByteArray) (k : Nat) (h : k + 1 < s.size) (hp : parB s[k + 1].toNat = false) (hs : spB s[k + 1].toNat = false) (hd : delB s[k].toNat = true) : C s.data.toList (k + 1 + 1) = C s.data.toList (k + 1) + 1 := by
  rw [C_succ s (k + 1) h]; rw [parB_byte] at hp; rw [spB_byte] at hs
  have := (cur_prev s k (by omega)).2 hd
  simp [hp, hs, this]
theorem C_in (s : ByteArray) (k : Nat) (h : k + 1 < s.size) (hp : parB s[k + 1].toNat = false) (hs : spB s[k + 1].toNat = false) (hd : delB s[k].toNat = false) : C s.data.toList (k + 1 + 1) = C s.data.toList (k + 1) := by
  rw [C_succ s (k + 1) h]; rw [parB_byte] at hp; rw [spB_byte] at hs
  have : ¬ (Tok.stt (s.data.toList.take (k + 1))).1 = [] := fun e => by
    have := (cur_prev s k (by omega)).1 e
    rw [hd] at this; exact Bool.false_ne_true this
  simp [hp, hs, this]

set_option maxHeartbeats 1000000 in
set_option maxRecDepth 100000 in
theorem count_any (s : ByteArray) (w : World) (hs : s.size ≤ 1000000) :
    Calls Try.prog 11 #[.string s] w fun e w' => e = .returned (.int .i64 ((Tok.toks s.data.toList).length : Int)) ∧ w = w' := by
  have hz := C_zero s.data.toList
  have HE : Hid (C s.data.toList s.size = (Tok.toks s.data.toList).length) := by
    have := C_all s.data.toList
    rw [show s.data.toList.length = s.size from by simp] at this; exact this
  go_enter Try.func11, Try.ntmps11
  go_wp2
  go_loop [3, 4] (fun n i => ∃ k : Nat, k ≤ s.size ∧ i = .int .i64 k ∧ n = .int .i64 (C s.data.toList k : Nat)) (fun _ i => s.size - (intOf i).toNat)
  case atStart => exact ⟨0, Nat.zero_le _, rfl, by rw [hz]; rfl⟩
  case round =>
    obtain ⟨k, hk, rfl, rfl⟩ := hrel
    have hcl := C_le s.data.toList k
    clear hz
    by_cases hlt : k < s.size
    · by_cases hp : parB s[k].toNat = true
      · have HC : Hid (C s.data.toList (k + 1) = C s.data.toList k + 1) := C_par s k hlt hp
        go_wp2_with (first | (go_at_call 8; refine (paren_any _ _).mono ?_; rintro e w' ⟨rfl, rfl⟩) | (go_at_call 7; refine (space_any _ _).mono ?_; rintro e w' ⟨rfl, rfl⟩) | (go_at_call 9; refine (delim_any _ _).mono ?_; rintro e w' ⟨rfl, rfl⟩))
        go_round
        case rel => exact ⟨k + 1, by omega, by go_num, by rw [HC.out]; go_num⟩
        case measure => simp [intOf]; omega
      have hp' : parB s[k].toNat = false := by simpa using hp
      clear hp
      by_cases hsp : spB s[k].toNat = true
      · have HC : Hid (C s.data.toList (k + 1) = C s.data.toList k) := C_sp s k hlt hp' hsp
        go_wp2_with (first | (go_at_call 8; refine (paren_any _ _).mono ?_; rintro e w' ⟨rfl, rfl⟩) | (go_at_call 7; refine (space_any _ _).mono ?_; rintro e w' ⟨rfl, rfl⟩) | (go_at_call 9; refine (delim_any _ _).mono ?_; rintro e w' ⟨rfl, rfl⟩))
        go_round
        case rel => exact ⟨k + 1, by omega, by go_num, by rw [HC.out]⟩
        case measure => simp [intOf]; omega
      have hsp' : spB s[k].toNat = false := by simpa using hsp
      clear hsp
      cases k with
      | zero =>
        have HC : Hid (C s.data.toList (0 + 1) = C s.data.toList 0 + 1) := C_first s hlt hp' hsp'
        go_wp2_with (first | (go_at_call 8; refine (paren_any _ _).mono ?_; rintro e w' ⟨rfl, rfl⟩) | (go_at_call 7; refine (space_any _ _).mono ?_; rintro e w' ⟨rfl, rfl⟩) | (go_at_call 9; refine (delim_any _ _).mono ?_; rintro e w' ⟨rfl, rfl⟩))
        go_round
        case rel => exact ⟨0 + 1, by omega, by go_num, by rw [HC.out]; go_num⟩
        case measure => simp [intOf]; omega
      | succ k =>
        by_cases hd : delB s[k].toNat = true
        · have HC : Hid (C s.data.toList (k + 1 + 1) = C s.data.toList (k + 1) + 1) := C_begin s k hlt hp' hsp' hd
          go_wp2_with (first | (go_at_call 8; refine (paren_any _ _).mono ?_; rintro e w' ⟨rfl, rfl⟩) | (go_at_call 7; refine (space_any _ _).mono ?_; rintro e w' ⟨rfl, rfl⟩) | (go_at_call 9; refine (delim_any _ _).mono ?_; rintro e w' ⟨rfl, rfl⟩))
          go_round
          case rel => exact ⟨k + 1 + 1, by omega, by go_num, by rw [HC.out]; go_num⟩
          case measure => simp [intOf]; omega
        · have hd' : delB s[k].toNat = false := by simpa using hd
          have HC : Hid (C s.data.toList (k + 1 + 1) = C s.data.toList (k + 1)) := C_in s k hlt hp' hsp' hd'
          clear hd
          go_wp2_with (first | (go_at_call 8; refine (paren_any _ _).mono ?_; rintro e w' ⟨rfl, rfl⟩) | (go_at_call 7; refine (space_any _ _).mono ?_; rintro e w' ⟨rfl, rfl⟩) | (go_at_call 9; refine (delim_any _ _).mono ?_; rintro e w' ⟨rfl, rfl⟩))
          go_round
          case rel => exact ⟨k + 1 + 1, by omega, by go_num, by rw [HC.out]⟩
          case measure => simp [intOf]; omega
    · obtain rfl : k = s.size := by omega
      go_wp2
      go_ret
      exact ⟨congrArg (fun n : Nat => Ending.returned (.int .i64 (n : Int))) HE.out, rfl⟩
end Go.Proofs.Qxb6618149a
