import Derived.Test.Qxb6618149aRead
import Derived.BigQuiet
namespace Go.Proofs.Qxb6618149a
open Go.RowKit

set_option maxHeartbeats 1000000 in
set_option maxRecDepth 100000 in
theorem read_nil (s : ByteArray) (w : World) (hs : s.size ≤ 65536) (hT : Tok.toks s.data.toList = []) :
    Calls Try.prog 3 #[.string s] w fun e w' => e = .returned (.bool true) ∧ Below w.heap.size w w' := by
  have hd : decide (s.size ≤ 1048576) = true := decide_eq_true (by omega)
  have hR := Tok.reads_back s.data.toList
  rw [hT] at hR
  have hsp := rd_end s 0 (by simpa using hR)
  clear hR
  have HT : Hid (Tok.toks s.data.toList = []) := hT
  clear hT
  have heq := fun (w : World) (a : Option Addr) (n c : Nat) => Lib.run_eql_slice_nil (P := Try.prog) w 23 9 a n c 0 0 Try.underlying23
  go_enter Try.func3, Try.ntmps3
  go_wp2_with (go_at_call 5; refine (bytes1_any s _ (by unfold maxLen; omega)).mono ?_; rintro e w' ⟨rfl, rfl⟩)
  refine (zztokenize_any s _ (by omega)).mono ?_
  rintro e w1 ⟨v, rfl, hT, hb⟩
  rcases hT with ⟨_, hv⟩ | ⟨hT, _⟩
  · rw [hv]
    clear hv
    go_wp2
    go_loopw [4, 5] (fun k j wr => k = .int .i64 0 ∧ j = .int .i64 0 ∧ w1 = wr) (fun _ _ _ => 0)
    case atStart => exact ⟨rfl, rfl, rfl⟩
    case round =>
      obtain ⟨rfl, rfl, rfl⟩ := hrel
      go_wp2
      go_loopw [4] (fun k wr => ∃ kk : Nat, kk ≤ s.size ∧ k = .int .i64 kk ∧ w1 = wr) (fun k _ => s.size - (intOf k).toNat)
      case atStart => exact ⟨0, Nat.zero_le _, rfl, rfl⟩
      case round =>
        obtain ⟨kk, hkk, rfl, rfl⟩ := hrel
        by_cases hlt : kk < s.size
        · have hq := hsp kk hlt (Nat.zero_le _)
          go_wp2_with (go_at_call 7; refine (space_any _ _).mono ?_; rintro e w' ⟨rfl, rfl⟩)
          go_roundw
          case rel => exact ⟨kk + 1, by omega, by go_num, by trivial⟩
          case measure => simp [intOf]; omega
        · have he : ((kk : Int) == (s.size : Int)) = true := beq_iff_eq.2 (by omega)
          go_wp2
          go_ret
          exact ⟨rfl, hb⟩
  · exact absurd HT.out hT

theorem zztokenize_T (s : ByteArray) (T : List (List UInt8)) (hT : Tok.toks s.data.toList = T) (w : World) (hs : s.size ≤ 1000000) :
    Calls Try.prog 6 #[.string s] w fun e w' => ∃ v, e = .returned v ∧ Toks w w' T v ∧ Below w.heap.size w w' := by
  subst hT; exact zztokenize_any s w hs
theorem index_sum (s : ByteArray) (i m : Nat) (h : i + m < s.size) (w : World) : (Instr.index 9 (.string s) (.int .i64 ((i : Int) + (m : Int)))).run Try.prog w = .ok (.int .u8 (s[i + m].toNat : Int)) w := by
  rw [run_index_string _ _ _ _ _ Try.underlying9, dif_pos (by omega)]
  have e : ((i : Int) + (m : Int)).toNat = i + m := by omega
  simp only [e]
theorem str_tok (t : List UInt8) : ∃ tb : ByteArray, strV t = .string tb ∧ tb.data.toList = t := ⟨⟨t.toArray⟩, rfl, by simp⟩

set_option maxHeartbeats 2000000 in
set_option maxRecDepth 100000 in
theorem read_some (s : ByteArray) (w : World) (hs : s.size ≤ 65536) (T : List (List UInt8)) (HT : Hid (Tok.toks s.data.toList = T)) (hne : 0 < T.length) (hle : T.length ≤ s.size) :
    Calls Try.prog 3 #[.string s] w fun e w' => e = .returned (.bool true) ∧ Below w.heap.size w w' := by
  have hd : decide (s.size ≤ 1048576) = true := decide_eq_true (by omega)
  have HR : Hid (Tok.Rd (s.data.toList.drop 0) (T.drop 0)) := by
    have hR := Tok.reads_back s.data.toList
    rw [HT.out] at hR
    rw [List.drop_zero, List.drop_zero]; exact hR
  have heq := fun (w : World) (a : Option Addr) (n c : Nat) => Lib.run_eql_slice_nil (P := Try.prog) w 23 9 a n c 0 0 Try.underlying23
  have hz : ((T.length : Int) == 0) = false := beq_eq_false_iff_ne.2 (by omega)
  go_enter Try.func3, Try.ntmps3
  go_wp2_with (go_at_call 5; refine (bytes1_any s _ (by unfold maxLen; omega)).mono ?_; rintro e w' ⟨rfl, rfl⟩)
  refine (zztokenize_T s T HT.out _ (by omega)).mono ?_
  rintro e w1 ⟨v, rfl, hT, hb⟩
  rcases hT with ⟨h0, _⟩ | ⟨_, g, cap, hv, hg, hgl, hc⟩
  · rw [h0] at hne; exact absurd hne (by simp)
  · rw [hv]
    have HC : Hid (∀ j (h : j < T.length), w1.cell? ⟨g, j, none⟩ = some (strV T[j])) := hc
    clear hv hc
    go_wp2
    go_loopw [4, 5] (fun k j wr => ∃ kk jj nd : Nat, kk ≤ s.size ∧ jj ≤ T.length ∧ k = .int .i64 kk ∧ j = .int .i64 jj ∧ wr = w1.drewN nd ∧ Hid (Tok.Rd (s.data.toList.drop kk) (T.drop jj))) (fun _ j _ => T.length - (intOf j).toNat)
    case atStart => exact ⟨0, 0, 0, Nat.zero_le _, Nat.zero_le _, rfl, rfl, rfl, HR⟩
    case round =>
      obtain ⟨kk, jj, nd, hkk, hjj, rfl, rfl, rfl, hRd⟩ := hrel
      clear heq HR HT
      by_cases hj : jj < T.length
      · obtain ⟨tb, ht1, ht2⟩ := str_tok T[jj]
        have hc0 := HC.out jj hj
        rw [ht1] at hc0
        have hx : ∃ p, At s kk tb (T.drop (jj + 1)) p := by
          refine at_of_rd s kk tb _ hkk ?_
          rw [ht2, ← List.drop_eq_getElem_cons hj]; exact hRd.out
        obtain ⟨p, hat⟩ := hx
        have a1 := hat.lo
        have a2 := hat.hi
        have a3 := hat.pos
        clear ht1 ht2 hRd
        have q0 : ((tb.size : Int) == 0) = false := beq_eq_false_iff_ne.2 (by omega)
        go_wp2_with fail
        go_loopw [4] (fun k wr => ∃ i : Nat, kk ≤ i ∧ i ≤ p ∧ k = .int .i64 i ∧ wr = w1.drewN nd) (fun k _ => p - (intOf k).toNat)
        case atStart => exact ⟨kk, by omega, a1, rfl, rfl⟩
        case round =>
          obtain ⟨i, hi1, hi2, rfl, rfl⟩ := hrel
          by_cases hlt : i < p
          · have hq := hat.blank i (by omega) hi1 hlt
            go_wp2_with (go_at_call 7; refine (space_any _ _).mono ?_; rintro e w' ⟨rfl, rfl⟩)
            go_roundw
            case rel => exact ⟨i + 1, by omega, by omega, by go_num, by trivial⟩
            case measure => simp [intOf]; omega
          · obtain rfl : i = p := by omega
            have hps : i < s.size := by omega
            have hq := hat.first hps
            go_wp2_with (go_at_call 7; refine (space_any _ _).mono ?_; rintro e w' ⟨rfl, rfl⟩)
            clear hq hc0
            go_loopw [7] (fun m wr => ∃ mm nd2 : Nat, mm ≤ tb.size ∧ m = .int .i64 mm ∧ wr = w1.drewN nd2) (fun m _ => tb.size - (intOf m).toNat)
            case atStart => exact ⟨0, nd, by omega, rfl, rfl⟩
            case round =>
              obtain ⟨mm, nd2, hmm, rfl, rfl⟩ := hrel
              by_cases hm : mm < tb.size
              · have hsm := hat.same mm hm (by omega)
                have hq : ((s[i + mm].toNat : Int) != (tb[mm].toNat : Int)) = false := by rw [hsm]; simp
                clear hsm
                have hix := index_sum s i mm (by omega)
                go_wp2
                go_quiet (fail)
                go_wp2
                go_roundw
                case rel => exact ⟨mm + 1, _, by omega, by go_num, rfl⟩
                case measure => simp [intOf]; omega
              · have hRd := hat.rest
                have HRd : Hid (Tok.Rd (s.data.toList.drop (i + tb.size)) (T.drop (jj + 1))) := hRd
                clear hRd
                rcases hat.kind with ⟨k1, k2⟩ | ⟨k1, k2⟩
                · have q1 : ((tb.size : Int) != 1) = false := by rw [bne_eq_false_iff_eq]; omega
                  have k3 : parB (tb[0]'a3).toNat = true := k2
                  clear k1 k2 hat
                  go_wp2_with (go_at_call 8; refine (paren_any _ _).mono ?_; rintro e w' ⟨rfl, rfl⟩)
                  go_roundw
                  case rel => exact ⟨i + tb.size, jj + 1, nd2, by omega, by omega, by go_num, by go_num, rfl, HRd⟩
                  case measure => simp [intOf]; omega
                · have k3 : parB (tb[0]'a3).toNat = false := by
                    have := k1 0 a3
                    simp [delB] at this; exact this.2
                  clear hat
                  go_wp2_with (go_at_call 8; refine (paren_any _ _).mono ?_; rintro e w' ⟨rfl, rfl⟩)
                  clear k3
                  go_loopw [8] (fun m wr => ∃ mm : Nat, mm ≤ tb.size ∧ m = .int .i64 mm ∧ w1.drewN nd2 = wr) (fun m _ => tb.size - (intOf m).toNat)
                  case atStart => exact ⟨0, by omega, rfl, rfl⟩
                  case round =>
                    obtain ⟨m4, hm4, rfl, rfl⟩ := hrel
                    by_cases hlt4 : m4 < tb.size
                    · have hq := k1 m4 hlt4
                      clear k1 k2
                      go_wp2_with (go_at_call 9; refine (delim_any _ _).mono ?_; rintro e w' ⟨rfl, rfl⟩)
                      go_roundw
                      case rel => exact ⟨m4 + 1, by omega, by go_num, by trivial⟩
                      case measure => simp [intOf]; omega
                    · clear k1
                      by_cases hend : i + tb.size < s.size
                      · have hq := k2 hend
                        have hix := index_sum s i tb.size hend
                        clear k2
                        go_wp2_with (go_at_call 9; refine (delim_any _ _).mono ?_; rintro e w' ⟨rfl, rfl⟩)
                        go_roundw
                        case rel => exact ⟨i + tb.size, jj + 1, nd2, by omega, by omega, by go_num, by go_num, rfl, HRd⟩
                        case measure => simp [intOf]; omega
                      · clear k2
                        go_wp2_with (go_at_call 9; refine (delim_any _ _).mono ?_; rintro e w' ⟨rfl, rfl⟩)
                        go_roundw
                        case rel => exact ⟨i + tb.size, jj + 1, nd2, by omega, by omega, by go_num, by go_num, rfl, HRd⟩
                        case measure => simp [intOf]; omega
      · have hje : jj = T.length := by omega
        have hRe : Tok.Rd (s.data.toList.drop kk) [] := by
          have := hRd.out
          rw [hje, List.drop_length] at this; exact this
        have hsp := rd_end s kk hRe
        clear hRe hRd hje
        go_wp2
        go_loopw [4] (fun k wr => ∃ i : Nat, kk ≤ i ∧ i ≤ s.size ∧ k = .int .i64 i ∧ w1.drewN nd = wr) (fun k _ => s.size - (intOf k).toNat)
        case atStart => exact ⟨kk, by omega, hkk, rfl, rfl⟩
        case round =>
          obtain ⟨i, hi1, hi2, rfl, rfl⟩ := hrel
          by_cases hlt : i < s.size
          · have hq := hsp i hlt hi1
            go_wp2_with (go_at_call 7; refine (space_any _ _).mono ?_; rintro e w' ⟨rfl, rfl⟩)
            go_roundw
            case rel => exact ⟨i + 1, by omega, by omega, by go_num, by trivial⟩
            case measure => simp [intOf]; omega
          · have he : ((i : Int) == (s.size : Int)) = true := beq_iff_eq.2 (by omega)
            go_wp2
            go_ret
            exact ⟨rfl, below_drewN hb nd⟩
end Go.Proofs.Qxb6618149a
