import Derived.Test.Qxb6618149aSpell
namespace Go.Proofs.Qxb6618149a
open Go.RowKit

theorem Try.info9 : (Try.prog.info? 9).map (fun i => (i.zero, i.size, i.bytes)) = some (some (.string ⟨#[]⟩), 1, 16) := by kernel_rfl

theorem push_below {B : Nat} {w wr w1 : World} {v : Value} {n : Nat} {xs : List Value} {o : Obj} (hb : Below B w wr) (hB : B ≤ wr.heap.size) (hown : wr.ownsRow B 9 1 v n xs) (hg : (wr.alloc o).grownBy w1 v.ownBlock) : Below B w w1 ∧ B ≤ w1.heap.size := by
  refine ⟨(hb.alloc hB o).grown hg (by simp; omega) (fun k hk => (hown.lt k hk).1), ?_⟩
  have := hg.size; simp at this; omega

theorem inv_sp0 {l : List UInt8} {B : Nat} {w wr : World} {k : Nat} {v : Value} {c : UInt8} (e : S l (k + 1) = Tok.stp (S l k) c) (hc : Tok.isSp c = true) (hi : Inv l B w k v (-1) wr) : Inv l B w (k + 1) v (-1) wr := by
  obtain ⟨h1, h2, h3, h4⟩ := hi
  have h3' : (S l k).1 = [] := by rcases h3 with h3 | h3
                                  · exact h3.1
                                  · omega
  rw [stp_sp0 _ _ hc (sp_not_par c hc) h3'] at e
  unfold Inv; rw [e]
  exact ⟨h1, h2, .inl ⟨rfl, rfl⟩, h4⟩
theorem inv_sp1 {s : ByteArray} {B : Nat} {w w1 : World} {k a : Nat} {v' : Value} {c : UInt8} (e : S s.data.toList (k + 1) = Tok.stp (S s.data.toList k) c) (hc : Tok.isSp c = true)
    (hk : k ≤ s.size) (hn : (S s.data.toList k).1 ≠ []) (ha : a = k - (S s.data.toList k).1.length)
    (hown : w1.ownsRow B 9 1 v' ((S s.data.toList k).2.length + 1) ((S s.data.toList k).2.map strV ++ [.string (s.extract a k)])) (hb : Below B w w1) : Inv s.data.toList B w (k + 1) v' (-1) w1 := by
  rw [stp_sp1 _ _ hc (sp_not_par c hc) hn] at e
  rw [ha, ← str_word s k hk] at hown
  unfold Inv; rw [e]
  exact ⟨by simpa using hown, by simp, .inl ⟨rfl, rfl⟩, hb⟩
theorem inv_par0 {s : ByteArray} {B : Nat} {w w1 : World} {k : Nat} {v' : Value} (hk : k < s.size) (e : S s.data.toList (k + 1) = Tok.stp (S s.data.toList k) s[k]) (hc : Tok.isPar s[k] = true)
    (hn : (S s.data.toList k).1 = [])
    (hown : w1.ownsRow B 9 1 v' ((S s.data.toList k).2.length + 1) ((S s.data.toList k).2.map strV ++ [.string (s.extract k (k + 1))])) (hb : Below B w w1) : Inv s.data.toList B w (k + 1) v' (-1) w1 := by
  rw [stp_par0 _ _ hc hn] at e
  rw [← str_one s k hk] at hown
  unfold Inv; rw [e]
  exact ⟨by simpa using hown, by simp, .inl ⟨rfl, rfl⟩, hb⟩
theorem inv_par1 {s : ByteArray} {B : Nat} {w w1 : World} {k a : Nat} {v' : Value} (hk : k < s.size) (e : S s.data.toList (k + 1) = Tok.stp (S s.data.toList k) s[k]) (hc : Tok.isPar s[k] = true)
    (hn : (S s.data.toList k).1 ≠ []) (ha : a = k - (S s.data.toList k).1.length)
    (hown : w1.ownsRow B 9 1 v' ((S s.data.toList k).2.length + 1 + 1) ((S s.data.toList k).2.map strV ++ [.string (s.extract a k), .string (s.extract k (k + 1))])) (hb : Below B w w1) : Inv s.data.toList B w (k + 1) v' (-1) w1 := by
  rw [stp_par1 _ _ hc hn] at e
  rw [ha, ← str_word s k (by omega), ← str_one s k hk] at hown
  unfold Inv; rw [e]
  exact ⟨by simpa using hown, by simp, .inl ⟨rfl, rfl⟩, hb⟩

set_option maxHeartbeats 1000000 in
set_option maxRecDepth 100000 in
theorem tokenize_own (s : ByteArray) (w : World) (hs : s.size ≤ 1000000) :
    Calls Try.prog 12 #[.string s] w fun e w' => ∃ v, e = .returned v ∧ w'.ownsRow w.heap.size 9 1 v (Tok.toks s.data.toList).length ((Tok.toks s.data.toList).map strV) ∧ (Tok.toks s.data.toList = [] → v = .slice none 0 0) ∧ Below w.heap.size w w' := by
  obtain ⟨i0, hi, hz0, hz1, hz2⟩ := info_parts Try.info9
  have I0 := inv_zero s.data.toList w
  go_enter Try.func12, Try.ntmps12
  go_wp2
  go_loopw [3, 4, 5] (fun v z i wr => ∃ (k : Nat) (zz : Int), k ≤ s.size + 1 ∧ i = .int .i64 k ∧ z = .int .i64 zz ∧ Inv s.data.toList w.heap.size w k v zz wr) (fun _ _ i _ => s.size + 1 - (intOf i).toNat)
  case atStart => exact ⟨0, -1, Nat.zero_le _, rfl, rfl, I0⟩
  case round =>
    obtain ⟨k, zz, hk, rfl, rfl, hinv⟩ := hrel
    clear I0
    have hinv0 := hinv
    obtain ⟨hown, hnil, hz, hnx⟩ := hinv
    have hB := hnx.size
    have hTl := S_len s.data.toList k
    by_cases hk1 : k < s.size
    · have est : Hid (S s.data.toList (k + 1) = Tok.stp (S s.data.toList k) s[k]) := S_succ s.data.toList k (by simpa using hk1)
      rcases hz with ⟨hcur, hzz⟩ | ⟨hcur, hzz⟩
      · subst hzz
        have HC : Hid ((S s.data.toList k).1 = []) := hcur
        clear hcur
        by_cases hsp : spB s[k].toNat = true
        · have HS : Hid (Tok.isSp s[k] = true) := by rw [← spB_byte]; exact hsp
          rw [spB_iff] at hsp
          rcases hsp with hsp | hsp | hsp | hsp | hsp | hsp
          all_goals
            have q1 := Int.le_of_eq hsp
            have q2 := Int.le_of_eq hsp.symm
            have e40 : ((s[k].toNat : Int) == 40) = false := beq_eq_false_iff_ne.2 (by omega)
            have e41 : ((s[k].toNat : Int) == 41) = false := beq_eq_false_iff_ne.2 (by omega)
            clear hsp
            have R := inv_sp0 est.out HS.out hinv0
            clear hown hnx hnil hinv0 est HC HS hi hz0 hz1 hz2
            go_wp2
            go_roundw
            case rel => exact ⟨k + 1, -1, by omega, by go_num, rfl, R⟩
            case measure => simp [intOf]; omega
        by_cases hpr : parB s[k].toNat = true
        · have HP : Hid (Tok.isPar s[k] = true) := by rw [← parB_byte]; exact hpr
          clear hsp
          rw [parB_iff] at hpr
          rcases hpr with hpr | hpr
          · have q1 := Int.le_of_eq hpr
            have q2 := Int.le_of_eq hpr.symm
            have e40 : ((s[k].toNat : Int) == 40) = true := beq_iff_eq.2 hpr
            clear hpr
            go_wp2_with (at_builtin; refine wpList_append_own _ rfl _ _ 23 rfl w.heap.size 9 i0 (.string ⟨#[]⟩) 1 16 Try.underlying23 hi hz0 hz1 hz2 rfl (by decide) _ _ _ rfl (hown.alloc _) ⟨wr.heap.size, 0, none⟩ 1 1 [.string (s.extract k (k + 1))] rfl rfl ?c1 ?c2 ?c3 ?c4 ?c5 ?_)
            case c1 =>
              intro j u hj
              match j, hj with
              | 0, hj => simp at hj; subst hj; simp [Addr.add]
            case c2 => intro u hu; simp at hu; subst hu; rfl
            case c3 => unfold maxLen; omega
            case c4 => omega
            case c5 => simp; omega
            intro v' w1 hown' hgrow' _
            have R := inv_par0 hk1 est.out HP.out HC.out hown' (push_below hnx hB hown hgrow').1
            clear hown' hgrow' hown hnx hnil hinv0 est HC HP hi hz0 hz1 hz2
            go_wp2
            go_roundw
            case rel => exact ⟨k + 1, -1, by omega, by go_num, rfl, R⟩
            case measure => simp [intOf]; omega
          · have q1 := Int.le_of_eq hpr
            have q2 := Int.le_of_eq hpr.symm
            have e40 : ((s[k].toNat : Int) == 40) = false := beq_eq_false_iff_ne.2 (by omega)
            have e41 : ((s[k].toNat : Int) == 41) = true := beq_iff_eq.2 hpr
            clear hpr
            go_wp2_with (at_builtin; refine wpList_append_own _ rfl _ _ 23 rfl w.heap.size 9 i0 (.string ⟨#[]⟩) 1 16 Try.underlying23 hi hz0 hz1 hz2 rfl (by decide) _ _ _ rfl (hown.alloc _) ⟨wr.heap.size, 0, none⟩ 1 1 [.string (s.extract k (k + 1))] rfl rfl ?c1 ?c2 ?c3 ?c4 ?c5 ?_)
            case c1 =>
              intro j u hj
              match j, hj with
              | 0, hj => simp at hj; subst hj; simp [Addr.add]
            case c2 => intro u hu; simp at hu; subst hu; rfl
            case c3 => unfold maxLen; omega
            case c4 => omega
            case c5 => simp; omega
            intro v' w1 hown' hgrow' _
            have R := inv_par0 hk1 est.out HP.out HC.out hown' (push_below hnx hB hown hgrow').1
            clear hown' hgrow' hown hnx hnil hinv0 est HC HP hi hz0 hz1 hz2
            go_wp2
            go_roundw
            case rel => exact ⟨k + 1, -1, by omega, by go_num, rfl, R⟩
            case measure => simp [intOf]; omega
        have hsp' : spB s[k].toNat = false := by simpa using hsp
        have hpr' : parB s[k].toNat = false := by simpa using hpr
        have hd0 : Tok.isDel s[k] = false := by rw [← delB_byte]; simp [delB, hsp', hpr']
        have HD : Hid (Tok.isDel s[k] = false) := hd0
        clear hd0
        rw [spB_no] at hsp'
        rw [parB_no] at hpr'
        obtain ⟨x1, x2, x3, x4, x5, x6⟩ := hsp'
        obtain ⟨x7, x8⟩ := hpr'
        clear hsp hpr
        have R := inv_start s.data.toList w.heap.size w wr k _ (by simpa using hk1) HD.out hinv0
        clear hown hnx hnil hinv0 est HC HD hi hz0 hz1 hz2
        go_wp2
        go_roundw
        case rel => exact ⟨k + 1, k, by omega, by go_num, rfl, R⟩
        case measure => simp [intOf]; omega
      · have hsf := (S_suffix s.data.toList k (by simp; omega)).1
        have hpos : 0 < (S s.data.toList k).1.length := List.length_pos_iff.2 hcur
        obtain ⟨a, ha⟩ : ∃ a, a = k - (S s.data.toList k).1.length := ⟨_, rfl⟩
        rw [← ha] at hzz
        have hak : a < k := by omega
        have HA : Hid (a = k - (S s.data.toList k).1.length) := ha
        clear ha hpos hsf
        subst hzz
        have HC : Hid ((S s.data.toList k).1 ≠ []) := hcur
        clear hcur
        by_cases hsp : spB s[k].toNat = true
        · have HS : Hid (Tok.isSp s[k] = true) := by rw [← spB_byte]; exact hsp
          rw [spB_iff] at hsp
          rcases hsp with hsp | hsp | hsp | hsp | hsp | hsp
          all_goals
            have q1 := Int.le_of_eq hsp
            have q2 := Int.le_of_eq hsp.symm
            have e40 : ((s[k].toNat : Int) == 40) = false := beq_eq_false_iff_ne.2 (by omega)
            have e41 : ((s[k].toNat : Int) == 41) = false := beq_eq_false_iff_ne.2 (by omega)
            clear hsp
            go_wp2_with (at_builtin; refine wpList_append_own _ rfl _ _ 23 rfl w.heap.size 9 i0 (.string ⟨#[]⟩) 1 16 Try.underlying23 hi hz0 hz1 hz2 rfl (by decide) _ _ _ rfl (hown.alloc _) ⟨wr.heap.size, 0, none⟩ 1 1 [.string (s.extract a k)] rfl rfl ?c1 ?c2 ?c3 ?c4 ?c5 ?_)
            case c1 =>
              intro j u hj
              match j, hj with
              | 0, hj => simp at hj; subst hj; simp [Addr.add]
            case c2 => intro u hu; simp at hu; subst hu; rfl
            case c3 => unfold maxLen; omega
            case c4 => omega
            case c5 => simp; omega
            intro v' w1 hown' hgrow' _
            have R := inv_sp1 est.out HS.out (by omega) HC.out HA.out hown' (push_below hnx hB hown hgrow').1
            clear hown' hgrow' hown hnx hnil hinv0 est HS HC HA hi hz0 hz1 hz2
            go_wp2
            go_roundw
            case rel => exact ⟨k + 1, -1, by omega, by go_num, rfl, R⟩
            case measure => simp [intOf]; omega
        by_cases hpr : parB s[k].toNat = true
        · have HP : Hid (Tok.isPar s[k] = true) := by rw [← parB_byte]; exact hpr
          clear hsp
          rw [parB_iff] at hpr
          rcases hpr with hpr | hpr
          · have q1 := Int.le_of_eq hpr
            have q2 := Int.le_of_eq hpr.symm
            have e40 : ((s[k].toNat : Int) == 40) = true := beq_iff_eq.2 hpr
            clear hpr
            go_wp2_with (at_builtin; refine wpList_append_own _ rfl _ _ 23 rfl w.heap.size 9 i0 (.string ⟨#[]⟩) 1 16 Try.underlying23 hi hz0 hz1 hz2 rfl (by decide) _ _ _ rfl (hown.alloc _) ⟨wr.heap.size, 0, none⟩ 1 1 [.string (s.extract a k)] rfl rfl ?c1 ?c2 ?c3 ?c4 ?c5 ?_)
            case c1 =>
              intro j u hj
              match j, hj with
              | 0, hj => simp at hj; subst hj; simp [Addr.add]
            case c2 => intro u hu; simp at hu; subst hu; rfl
            case c3 => unfold maxLen; omega
            case c4 => omega
            case c5 => simp; omega
            intro v' w1 hown1 hgrow1 _
            obtain ⟨hnx1, hB1⟩ := push_below hnx hB hown hgrow1
            clear hgrow1 hown hnx hnil hinv0
            go_wp2_with (at_builtin; refine wpList_append_own _ rfl _ _ 23 rfl w.heap.size 9 i0 (.string ⟨#[]⟩) 1 16 Try.underlying23 hi hz0 hz1 hz2 rfl (by decide) _ _ _ rfl (hown1.alloc _) ⟨w1.heap.size, 0, none⟩ 1 1 [.string (s.extract k (k + 1))] rfl rfl ?c1 ?c2 ?c3 ?c4 ?c5 ?_)
            case c1 =>
              intro j u hj
              match j, hj with
              | 0, hj => simp at hj; subst hj; simp [Addr.add]
            case c2 => intro u hu; simp at hu; subst hu; rfl
            case c3 => unfold maxLen; omega
            case c4 => omega
            case c5 => simp; omega
            intro v2 w2 hown' hgrow' _
            have R := inv_par1 hk1 est.out HP.out HC.out HA.out hown' (push_below hnx1 hB1 hown1 hgrow').1
            clear hown' hgrow' hown1 hnx1 est HC HA HP hi hz0 hz1 hz2
            go_wp2
            go_roundw
            case rel => exact ⟨k + 1, -1, by omega, by go_num, rfl, R⟩
            case measure => simp [intOf]; omega
          · have q1 := Int.le_of_eq hpr
            have q2 := Int.le_of_eq hpr.symm
            have e40 : ((s[k].toNat : Int) == 40) = false := beq_eq_false_iff_ne.2 (by omega)
            have e41 : ((s[k].toNat : Int) == 41) = true := beq_iff_eq.2 hpr
            clear hpr
            go_wp2_with (at_builtin; refine wpList_append_own _ rfl _ _ 23 rfl w.heap.size 9 i0 (.string ⟨#[]⟩) 1 16 Try.underlying23 hi hz0 hz1 hz2 rfl (by decide) _ _ _ rfl (hown.alloc _) ⟨wr.heap.size, 0, none⟩ 1 1 [.string (s.extract a k)] rfl rfl ?c1 ?c2 ?c3 ?c4 ?c5 ?_)
            case c1 =>
              intro j u hj
              match j, hj with
              | 0, hj => simp at hj; subst hj; simp [Addr.add]
            case c2 => intro u hu; simp at hu; subst hu; rfl
            case c3 => unfold maxLen; omega
            case c4 => omega
            case c5 => simp; omega
            intro v' w1 hown1 hgrow1 _
            obtain ⟨hnx1, hB1⟩ := push_below hnx hB hown hgrow1
            clear hgrow1 hown hnx hnil hinv0
            go_wp2_with (at_builtin; refine wpList_append_own _ rfl _ _ 23 rfl w.heap.size 9 i0 (.string ⟨#[]⟩) 1 16 Try.underlying23 hi hz0 hz1 hz2 rfl (by decide) _ _ _ rfl (hown1.alloc _) ⟨w1.heap.size, 0, none⟩ 1 1 [.string (s.extract k (k + 1))] rfl rfl ?c1 ?c2 ?c3 ?c4 ?c5 ?_)
            case c1 =>
              intro j u hj
              match j, hj with
              | 0, hj => simp at hj; subst hj; simp [Addr.add]
            case c2 => intro u hu; simp at hu; subst hu; rfl
            case c3 => unfold maxLen; omega
            case c4 => omega
            case c5 => simp; omega
            intro v2 w2 hown' hgrow' _
            have R := inv_par1 hk1 est.out HP.out HC.out HA.out hown' (push_below hnx1 hB1 hown1 hgrow').1
            clear hown' hgrow' hown1 hnx1 est HC HA HP hi hz0 hz1 hz2
            go_wp2
            go_roundw
            case rel => exact ⟨k + 1, -1, by omega, by go_num, rfl, R⟩
            case measure => simp [intOf]; omega
        have hsp' : spB s[k].toNat = false := by simpa using hsp
        have hpr' : parB s[k].toNat = false := by simpa using hpr
        have hd0 : Tok.isDel s[k] = false := by rw [← delB_byte]; simp [delB, hsp', hpr']
        have HD : Hid (Tok.isDel s[k] = false) := hd0
        clear hd0
        rw [spB_no] at hsp'
        rw [parB_no] at hpr'
        obtain ⟨x1, x2, x3, x4, x5, x6⟩ := hsp'
        obtain ⟨x7, x8⟩ := hpr'
        clear hsp hpr
        have R := inv_more s.data.toList w.heap.size w wr k _ _ (by omega) (by simpa using hk1) HD.out hinv0
        clear hown hnx hnil hinv0 est HC HA HD hi hz0 hz1 hz2
        go_wp2
        go_roundw
        case rel => exact ⟨k + 1, a, by omega, by go_num, rfl, R⟩
        case measure => simp [intOf]; omega
    · by_cases hk2 : k = s.size
      · have est : Hid (S s.data.toList (k + 1) = Tok.stp (S s.data.toList k) 32) := by
          have h := S_last s.data.toList
          have e : s.data.toList.length = k := by simp; omega
          rw [e] at h; exact h
        have hk3 : k ≤ s.size := by omega
        have hk4 : s.size ≤ k := by omega
        clear hk2 hk1
        have HS : Hid (Tok.isSp 32 = true) := rfl
        rcases hz with ⟨hcur, hzz⟩ | ⟨hcur, hzz⟩
        · subst hzz
          clear hcur
          have R := inv_sp0 est.out HS.out hinv0
          clear hown hnx hnil hinv0 est HS hi hz0 hz1 hz2
          go_wp2
          go_roundw
          case rel => exact ⟨k + 1, -1, by omega, by go_num, rfl, R⟩
          case measure => simp [intOf]; omega
        · have hsf := (S_suffix s.data.toList k (by simp; omega)).1
          have hpos : 0 < (S s.data.toList k).1.length := List.length_pos_iff.2 hcur
          obtain ⟨a, ha⟩ : ∃ a, a = k - (S s.data.toList k).1.length := ⟨_, rfl⟩
          rw [← ha] at hzz
          have hak : a < k := by omega
          have HA : Hid (a = k - (S s.data.toList k).1.length) := ha
          clear ha hpos hsf
          subst hzz
          have HC : Hid ((S s.data.toList k).1 ≠ []) := hcur
          clear hcur
          go_wp2_with (at_builtin; refine wpList_append_own _ rfl _ _ 23 rfl w.heap.size 9 i0 (.string ⟨#[]⟩) 1 16 Try.underlying23 hi hz0 hz1 hz2 rfl (by decide) _ _ _ rfl (hown.alloc _) ⟨wr.heap.size, 0, none⟩ 1 1 [.string (s.extract a k)] rfl rfl ?c1 ?c2 ?c3 ?c4 ?c5 ?_)
          case c1 =>
            intro j u hj
            match j, hj with
            | 0, hj => simp at hj; subst hj; simp [Addr.add]
          case c2 => intro u hu; simp at hu; subst hu; rfl
          case c3 => unfold maxLen; omega
          case c4 => omega
          case c5 => simp; omega
          intro v' w1 hown' hgrow' _
          have R := inv_sp1 est.out HS.out hk3 HC.out HA.out hown' (push_below hnx hB hown hgrow').1
          clear hown' hgrow' hown hnx hnil hinv0 est HS HC HA hi hz0 hz1 hz2
          go_wp2
          go_roundw
          case rel => exact ⟨k + 1, -1, by omega, by go_num, rfl, R⟩
          case measure => simp [intOf]; omega
      · have he : k = s.data.toList.length + 1 := by simp; omega
        have ht := S_toks s.data.toList
        rw [← he] at ht
        have HO : Hid (wr.ownsRow w.heap.size 9 1 u3 (Tok.toks s.data.toList).length ((Tok.toks s.data.toList).map strV)) := by rw [← ht]; exact hown
        have HN : Hid (Tok.toks s.data.toList = [] → u3 = .slice none 0 0) := by rw [← ht]; exact hnil
        clear he ht hown hnil hinv0 hz
        go_wp2
        go_ret
        exact ⟨_, rfl, HO.out, HN.out, hnx⟩

/-- tokenize, as its callers meet it. -/
def Toks (w w' : World) (T : List (List UInt8)) (v : Value) : Prop :=
  (T = [] ∧ v = .slice none 0 0) ∨ (T ≠ [] ∧ ∃ g cap, v = .slice (some ⟨g, 0, none⟩) T.length cap ∧ w.heap.size ≤ g ∧ g < w'.heap.size ∧ ∀ j (h : j < T.length), w'.cell? ⟨g, j, none⟩ = some (strV T[j]))

theorem toks_of_own {w w' : World} {T : List (List UInt8)} {v : Value} (h : w'.ownsRow w.heap.size 9 1 v T.length (T.map strV)) (hn : T = [] → v = .slice none 0 0) : Toks w w' T v := by
  by_cases e : T = []
  · exact .inl ⟨e, hn e⟩
  · refine .inr ⟨e, ?_⟩
    have h0 := h
    obtain ⟨_, h1⟩ := h
    rcases h1 with ⟨rfl, h2⟩ | ⟨g, cap, cur, rfl, hg, hb, hc, hm, hs, ht⟩
    · exact absurd (List.length_eq_zero_iff.1 h2) e
    · refine ⟨g, cap, rfl, hg, (h0.lt g rfl).2, fun j hj => ?_⟩
      have := h0.cells (g := g) rfl j (strV T[j]) (by simp [hj])
      have e2 : (⟨g, 0, none⟩ : Addr).add j = ⟨g, j, none⟩ := by simp only [Addr.add]; split <;> simp_all
      rw [e2] at this; exact this

theorem tokenize_any (s : ByteArray) (w : World) (hs : s.size ≤ 1000000) :
    Calls Try.prog 12 #[.string s] w fun e w' => ∃ v, e = .returned v ∧ Toks w w' (Tok.toks s.data.toList) v ∧ Below w.heap.size w w' :=
  (tokenize_own s w hs).mono fun _ _ ⟨v, h1, h2, h3, h4⟩ => ⟨v, h1, toks_of_own h2 h3, h4⟩

set_option maxHeartbeats 400000 in
theorem zztokenize_any (s : ByteArray) (w : World) (hs : s.size ≤ 1000000) :
    Calls Try.prog 6 #[.string s] w fun e w' => ∃ v, e = .returned v ∧ Toks w w' (Tok.toks s.data.toList) v ∧ Below w.heap.size w w' := by
  go_enter Try.func6, Try.ntmps6
  go_wp2_with (go_at_call 12; refine (tokenize_any s _ hs).mono ?_; rintro e w' ⟨v, rfl, h1, h2⟩)
  go_ret
  exact ⟨_, rfl, h1, h2⟩
end Go.Proofs.Qxb6618149a
