import Derived.Test.Qxb6618149aJoin
import Derived.Test.Qxb6618149aBackwalk
import Derived.Deep.RegionWith
namespace Go.Proofs.Qxb6618149a
open Go.RowKit

theorem Try.info5 : (Try.prog.info? 5).map (fun i => (i.zero, i.size, i.bytes)) = some (some (.int .u8 0), 1, 1) := by kernel_rfl

/-- T is L, then x tokens of the one byte c, then R. -/
structure Parts (T L R : List (List UInt8)) (x : Nat) (c : UInt8) : Prop where
  len : T.length = L.length + x + R.length
  left : ∀ i (h : i < L.length) (h2 : i < T.length), T[i] = L[i]
  mid : x = 1 → ∀ h2 : L.length < T.length, T[L.length] = [c]
  right : ∀ i (h : i < R.length) (h2 : L.length + x + i < T.length), T[L.length + x + i] = R[i]
theorem parts_of (L R : List (List UInt8)) (c : UInt8) : Parts (L ++ Tok.extra c ++ R) L R (Tok.extra c).length c := by
  refine ⟨by simp; omega, fun i h h2 => ?_, fun hx h2 => ?_, fun i h h2 => ?_⟩
  · rw [List.getElem_append_left (by simp; omega), List.getElem_append_left h]
  · have he : Tok.extra c = [[c]] := by
      unfold Tok.extra at hx ⊢
      split at hx
      · next hp => rw [if_pos hp]
      · simp at hx
    have e : L ++ Tok.extra c ++ R = L ++ [c] :: R := by rw [he]; simp
    simp only [e]
    rw [List.getElem_append_right (Nat.le_refl _)]
    simp
  · rw [List.getElem_append_right (by simp)]
    congr 1
    simp
/-- what the walk is told of the joined text. -/
structure Jb (a : ByteArray) (c : UInt8) (b jb : ByteArray) : Prop where
  size : jb.size = a.size + 1 + b.size
  left : ∀ k (h : k < a.size) (h2 : k < jb.size), jb[k] = a[k]
  mid : ∀ h2 : a.size < jb.size, jb[a.size] = c
  right : ∀ k (h : k < b.size) (h2 : a.size + 1 + k < jb.size), jb[a.size + 1 + k] = b[k]
theorem jb_of (a : ByteArray) (c : UInt8) (b : ByteArray) : Jb a c b (joined a c b) :=
  ⟨joined_size a c b, joined_left a c b, joined_mid a c b, joined_right a c b⟩

theorem below2 {w w1 w2 : World} (p1 : Below w.heap.size w w1) (p2 : Below w1.heap.size w1 w2) : Below w.heap.size w w2 :=
  p1.trans (p2.mono p1.size)
theorem count_T (s : ByteArray) (T : List (List UInt8)) (hT : Tok.toks s.data.toList = T) (w : World) (hs : s.size ≤ 1000000) :
    Calls Try.prog 11 #[.string s] w fun e w' => e = .returned (.int .i64 (T.length : Int)) ∧ w = w' := by
  subst hT; exact count_any s w hs
/-- element j of a slice of tokens, the index spelt as the walk spells it. -/
theorem View.pick {W : World} {T : List (List UInt8)} {ad : Option Addr} (h : View W T ad) (j : Nat) (hj : j < T.length) (cap : Nat) :
    ∃ g, (∀ z : Int, z = j → ∀ W', (Instr.indexAt 23 (.slice ad T.length cap) (.int .i64 z)).run Try.prog W' = .ok (.pointer (some ⟨g, j, none⟩)) W') ∧ W.cell? ⟨g, j, none⟩ = some (strV T[j]) := by
  obtain ⟨g, h1, h2⟩ := h.elemAt j hj cap
  exact ⟨g, fun z hz W' => by rw [hz]; exact h1 W', h2⟩

set_option maxHeartbeats 2000000 in
set_option maxRecDepth 100000 in
theorem split_main (a b jb : ByteArray) (c : UInt8) (w : World) (ha : a.size ≤ 65536) (hb : b.size ≤ 65536) (hc : delB c.toNat = true) (J : Jb a c b jb)
    (T L R : List (List UInt8)) (x : Nat) (HT : Hid (Tok.toks jb.data.toList = T)) (HL : Hid (Tok.toks a.data.toList = L)) (HR : Hid (Tok.toks b.data.toList = R)) (P : Parts T L R x c)
    (hL : L.length ≤ a.size) (hR : R.length ≤ b.size) (hx : (parB c.toNat = true ∧ x = 1) ∨ (parB c.toNat = false ∧ x = 0)) :
    Calls Try.prog 4 #[.string a, .int .u8 (c.toNat : Int), .string b] w fun e w' => e = .returned (.bool true) ∧ Below w.heap.size w w' := by
  have hd : decide (a.size + b.size ≤ 1048576) = true := decide_eq_true (by omega)
  have js1 : jb.size ≤ a.size + 1 + b.size := by rw [J.size]; exact Nat.le_refl _
  have js2 : a.size + 1 + b.size ≤ jb.size := by rw [J.size]; exact Nat.le_refl _
  have HX : Hid ((parB c.toNat = true ∧ x = 1) ∨ (parB c.toNat = false ∧ x = 0)) := hx
  clear hx
  obtain ⟨i5, hi, hz0, hz1, hz2⟩ := info_parts Try.info5
  go_enter Try.func4, Try.ntmps4
  go_wp2_with (first
    | (go_at_call 10; refine (bytes2_any a _ b _ (by unfold maxLen; omega) (by unfold maxLen; omega)).mono ?_; rintro e w' ⟨rfl, rfl⟩)
    | (go_at_call 9; refine (delim_any _ _).mono ?_; rintro e w' ⟨rfl, rfl⟩)
    | (at_make; refine wpList_make_full _ rfl _ _ 27 rfl w.heap.size 5 i5 (.int .u8 0) 1 Try.underlying27 hi hz0 hz1 .i64 .i64 _ _ jb.size rfl rfl ?c1 ?c2 ?c3 ?c4 ?c5 ?_))
  case c1 => omega
  case c2 => omega
  case c3 => rw [hz2]; omega
  case c4 => unfold maxLen; omega
  case c5 => exact Nat.le_refl _
  intro w1 hown hgrow
  have F0 := filled_made hown rfl
  have B0 : Below w.heap.size w w1 := (Below.refl _ w).grown hgrow (Nat.le_refl _) (fun k hk => by cases hk)
  clear hown hgrow hi hz0 hz1 hz2 hd
  go_wp2
  go_loopw [8] (fun i wr => ∃ k : Nat, k ≤ a.size ∧ i = .int .i64 k ∧ Filled jb w.heap.size k wr ∧ Below w.heap.size w wr) (fun i _ => a.size - (intOf i).toNat)
  case atStart => exact ⟨0, Nat.zero_le _, rfl, F0, B0⟩
  case round =>
    obtain ⟨k, hk, rfl, hF, hB⟩ := hrel
    clear F0 B0
    by_cases hlt : k < a.size
    · obtain ⟨c0, hc0, _⟩ := hF.1 k (by omega)
      have hf0 := hF.2.1 k
      have F1 := filled_step hF (show k < jb.size by omega) _ (show ((a[k].toNat : Nat) : Int) = jb[k].toNat by rw [J.left k hlt (by omega)])
      have B1 := hB.setCell (p := ⟨w.heap.size, k, none⟩) (Nat.le_refl _) (.int .u8 (a[k].toNat : Int))
      clear hF hB
      go_wp2
      go_roundw
      case rel => exact ⟨k + 1, by omega, by go_num, F1, B1⟩
      case measure => simp [intOf]; omega
    · obtain rfl : k = a.size := by omega
      obtain ⟨c0, hc0, _⟩ := hF.1 a.size (by omega)
      have hf0 := hF.2.1 a.size
      have F1 := filled_step hF (show a.size < jb.size by omega) _ (show ((c.toNat : Nat) : Int) = jb[a.size].toNat by rw [J.mid (by omega)])
      have B1 := hB.setCell (p := ⟨w.heap.size, a.size, none⟩) (Nat.le_refl _) (.int .u8 (c.toNat : Int))
      clear hF hB
      go_wp2
      go_loopw [9] (fun i wr => ∃ k : Nat, k ≤ b.size ∧ i = .int .i64 k ∧ Filled jb w.heap.size (a.size + 1 + k) wr ∧ Below w.heap.size w wr) (fun i _ => b.size - (intOf i).toNat)
      case atStart => exact ⟨0, Nat.zero_le _, rfl, F1, B1⟩
      case round =>
        obtain ⟨k, hk2, rfl, hF, hB⟩ := hrel
        clear F1 B1 hc0 hf0
        by_cases hlt2 : k < b.size
        · obtain ⟨c1, hc1, _⟩ := hF.1 (a.size + 1 + k) (by omega)
          have hf1 := hF.2.1 (a.size + 1 + k)
          have F2 := filled_step hF (show a.size + 1 + k < jb.size by omega) _ (show ((b[k].toNat : Nat) : Int) = jb[a.size + 1 + k].toNat by rw [J.right k hlt2 (by omega)])
          have B2 := hB.setCell (p := ⟨w.heap.size, a.size + 1 + k, none⟩) (Nat.le_refl _) (.int .u8 (b[k].toNat : Int))
          clear hF hB
          go_wp2
          go_roundw
          case rel => exact ⟨k + 1, by omega, by go_num, F2, B2⟩
          case measure => simp [intOf]; omega
        · have hF2 : Filled jb w.heap.size jb.size wr := by
            have e : jb.size = a.size + 1 + k := by omega
            exact e ▸ hF
          have hcv := Lib.run_convert_whole (P := Try.prog) wr 27 5 9 Try.underlying27 Try.underlying5 Try.underlying9 w.heap.size 0 jb (filled_bytes hF2) jb.size
          clear hF2 hF
          go_wp2_with fail
          refine (zztokenize_T jb T HT.out _ (by omega)).mono ?_
          rintro e u1 ⟨v1, rfl, t1, p1⟩
          obtain ⟨ad1, cap1, hv1, V1⟩ := view_of t1
          rw [hv1]
          clear hv1 t1 hcv
          go_wp2_with fail
          refine (zztokenize_T a L HL.out _ (by omega)).mono ?_
          rintro e u2 ⟨v2, rfl, t2, p2⟩
          obtain ⟨ad2, cap2, hv2, V2⟩ := view_of t2
          rw [hv2]
          clear hv2 t2
          go_wp2_with fail
          refine (zztokenize_T b R HR.out _ (by omega)).mono ?_
          rintro e u3 ⟨v3, rfl, t3, p3⟩
          obtain ⟨ad3, cap3, hv3, V3⟩ := view_of t3
          rw [hv3]
          clear hv3 t3
          have W1 := (V1.later p2).later p3
          have W2 := V2.later p3
          have B3 : Below w.heap.size w u3 := below2 (below2 (below2 hB p1) p2) p3
          clear V1 V2 p1 p2 p3 hB
          have hn1 : ad1.isNone = ((T.length : Int) == 0) := by
            rw [W1.1, Bool.eq_iff_iff]; simp
          have lt1 : T.length ≤ L.length + x + R.length := by rw [P.len]; exact Nat.le_refl _
          have lt2 : L.length + x + R.length ≤ T.length := by rw [P.len]; exact Nat.le_refl _
          have heq := fun (w : World) (a : Option Addr) (n c : Nat) => Lib.run_eql_slice_nil (P := Try.prog) w 23 9 a n c 0 0 Try.underlying23
          rcases HX.out with ⟨hp, rfl⟩ | ⟨hp, rfl⟩
          · clear HX
            go_wp2_with (first | (go_at_call_of 11 a; refine (count_T a L HL.out _ (by omega)).mono ?_; rintro e w' ⟨rfl, rfl⟩) | (go_at_call_of 11 b; refine (count_T b R HR.out _ (by omega)).mono ?_; rintro e w' ⟨rfl, rfl⟩) | (go_at_call 8; refine (paren_any _ _).mono ?_; rintro e w' ⟨rfl, rfl⟩))
            clear heq hn1
            go_loopw [15] (fun i wr => ∃ ii nd : Nat, ii ≤ L.length ∧ i = .int .i64 ii ∧ wr = u3.drewN nd) (fun i _ => L.length - (intOf i).toNat)
            case atStart => exact ⟨0, 0, Nat.zero_le _, rfl, rfl⟩
            case round =>
              obtain ⟨ii, nd, hii, rfl, rfl⟩ := hrel
              by_cases h3 : ii < L.length
              · obtain ⟨tb, hs1, _⟩ := str_tok L[ii]
                obtain ⟨g1, x1, y1⟩ := W1.pick ii (by omega) cap1
                obtain ⟨g2, x2, y2⟩ := W2.pick ii h3 cap2
                rw [P.left ii h3 (by omega), hs1] at y1
                rw [hs1] at y2
                have x1' := x1 ii rfl
                have x2' := x2 ii rfl
                clear x1 x2 hs1
                go_wp2
                go_quiet (fail)
                go_wp2
                go_roundw
                case rel => exact ⟨ii + 1, _, by omega, by go_num, rfl⟩
                case measure => simp [intOf]; omega
              · obtain ⟨g0, x0, y0⟩ := W1.pick L.length (by omega) cap1
                obtain ⟨sb, hs0, hs2⟩ := str_tok [c]
                rw [P.mid rfl (by omega), hs0] at y0
                have x0' := x0 L.length rfl
                have hsz : sb.size = 1 := by
                  have h : sb.size = sb.data.toList.length := by simp
                  rw [h, hs2]; rfl
                have hs3 : ((sb.size : Int) != 1) = false := by rw [hsz]; rfl
                have hs4 : 0 < sb.size := by omega
                have hs5 : (sb[0].toNat : Int) = (c.toNat : Int) := by
                  have h := byte_some sb 0 hs4
                  rw [hs2] at h
                  simp at h
                  rw [h]
                have hs6 : ((sb[0].toNat : Int) != (c.toNat : Int)) = false := by rw [bne_eq_false_iff_eq]; exact hs5
                have hs7 : 1 ≤ sb.size := hs4
                clear x0 hs0 hs2 hsz hs5
                go_wp2
                clear x0' y0 hs3 hs6 hs7
                go_loopw [17] (fun i wr => ∃ jj nd2 : Nat, jj ≤ R.length ∧ i = .int .i64 jj ∧ wr = u3.drewN nd2) (fun i _ => R.length - (intOf i).toNat)
                case atStart => exact ⟨0, nd, Nat.zero_le _, rfl, rfl⟩
                case round =>
                  obtain ⟨jj, nd2, hjj, rfl, rfl⟩ := hrel
                  by_cases h4 : jj < R.length
                  · obtain ⟨tb, hs1, _⟩ := str_tok R[jj]
                    obtain ⟨g1, x1, y1⟩ := W1.pick (L.length + 1 + jj) (by omega) cap1
                    obtain ⟨g3, x3, y3⟩ := V3.pick jj h4 cap3
                    rw [P.right jj h4 (by omega), hs1] at y1
                    rw [hs1] at y3
                    have x1' := x1 ((L.length : Int) + 1 + (jj : Int)) (by omega)
                    have x3' := x3 jj rfl
                    clear x1 x3 hs1
                    go_wp2
                    go_quiet (fail)
                    go_wp2
                    go_roundw
                    case rel => exact ⟨jj + 1, _, by omega, by go_num, rfl⟩
                    case measure => simp [intOf]; omega
                  · go_wp2
                    go_ret
                    exact ⟨rfl, below_drewN B3 nd2⟩
          · clear HX
            go_wp2_with (first | (go_at_call_of 11 a; refine (count_T a L HL.out _ (by omega)).mono ?_; rintro e w' ⟨rfl, rfl⟩) | (go_at_call_of 11 b; refine (count_T b R HR.out _ (by omega)).mono ?_; rintro e w' ⟨rfl, rfl⟩) | (go_at_call 8; refine (paren_any _ _).mono ?_; rintro e w' ⟨rfl, rfl⟩))
            clear heq hn1
            go_loopw [15] (fun i wr => ∃ ii nd : Nat, ii ≤ L.length ∧ i = .int .i64 ii ∧ wr = u3.drewN nd) (fun i _ => L.length - (intOf i).toNat)
            case atStart => exact ⟨0, 0, Nat.zero_le _, rfl, rfl⟩
            case round =>
              obtain ⟨ii, nd, hii, rfl, rfl⟩ := hrel
              by_cases h3 : ii < L.length
              · obtain ⟨tb, hs1, _⟩ := str_tok L[ii]
                obtain ⟨g1, x1, y1⟩ := W1.pick ii (by omega) cap1
                obtain ⟨g2, x2, y2⟩ := W2.pick ii h3 cap2
                rw [P.left ii h3 (by omega), hs1] at y1
                rw [hs1] at y2
                have x1' := x1 ii rfl
                have x2' := x2 ii rfl
                clear x1 x2 hs1
                go_wp2
                go_quiet (fail)
                go_wp2
                go_roundw
                case rel => exact ⟨ii + 1, _, by omega, by go_num, rfl⟩
                case measure => simp [intOf]; omega
              · go_wp2
                go_loopw [17] (fun i wr => ∃ jj nd2 : Nat, jj ≤ R.length ∧ i = .int .i64 jj ∧ wr = u3.drewN nd2) (fun i _ => R.length - (intOf i).toNat)
                case atStart => exact ⟨0, nd, Nat.zero_le _, rfl, rfl⟩
                case round =>
                  obtain ⟨jj, nd2, hjj, rfl, rfl⟩ := hrel
                  by_cases h4 : jj < R.length
                  · obtain ⟨tb, hs1, _⟩ := str_tok R[jj]
                    have er := P.right jj h4 (by omega)
                    simp only [Nat.add_zero] at er
                    obtain ⟨g1, x1, y1⟩ := W1.pick (L.length + jj) (by omega) cap1
                    obtain ⟨g3, x3, y3⟩ := V3.pick jj h4 cap3
                    rw [er, hs1] at y1
                    rw [hs1] at y3
                    have x1' := x1 ((L.length : Int) + 0 + (jj : Int)) (by omega)
                    have x1'' := x1 ((L.length : Int) + (jj : Int)) (by omega)
                    have x3' := x3 jj rfl
                    clear x1 x3 hs1 er
                    go_wp2
                    go_quiet (fail)
                    go_wp2
                    go_roundw
                    case rel => exact ⟨jj + 1, _, by omega, by go_num, rfl⟩
                    case measure => simp [intOf]; omega
                  · go_wp2
                    go_ret
                    exact ⟨rfl, below_drewN B3 nd2⟩
end Go.Proofs.Qxb6618149a
