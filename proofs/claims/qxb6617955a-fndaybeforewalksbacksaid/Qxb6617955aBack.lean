import Derived.Test.Qxb6617955aSteps
import Derived.Deep.Cut
import Derived.Deep.CutRange
namespace Go.Proofs.Qxb6617955a
open Go.RowKit

/-- the loop's relation: behind k rounds the variable cur (block g) holds cm, cd. -/
def Rel (w : World) (g : Nat) (q mo st n : Int) (sv iv : Value) (wr : World) : Prop :=
  ∃ (k : Nat) (cm cd : Int), (k : Int) ≤ n ∧ iv = .int .i64 k ∧ sv = .int .i64 k ∧ wr.cell? ⟨g, 0, none⟩ = some (.int .i64 cm) ∧ wr.cell? ⟨g, 1, none⟩ = some (.int .i64 cd) ∧
    wr.frozen? ⟨g, 0, none⟩ = false ∧ wr.frozen? ⟨g, 1, none⟩ = false ∧ Below w.heap.size w wr ∧ w.heap.size ≤ g ∧ g < wr.heap.size ∧ Good q mo st k cm cd

theorem bcell {W w1 : World} (hb : Below W.heap.size W w1) (b o : Nat) (h : b < W.heap.size) : w1.cell? ⟨b, o, none⟩ = W.cell? ⟨b, o, none⟩ ∧ w1.frozen? ⟨b, o, none⟩ = W.frozen? ⟨b, o, none⟩ :=
  ⟨hb.cell (p := ⟨b, o, none⟩) h, hb.frozen (p := ⟨b, o, none⟩) h⟩

theorem rel_step {w wr w2 : World} {g : Nat} {q mo st n : Int} {k : Nat} {cm cd x y : Int} {o : Obj} (hk : (k : Int) < n) (hb : Below w.heap.size w wr) (hg : w.heap.size ≤ g) (p2 : Below wr.heap.size wr w2)
    (c0 : w2.cell? ⟨g, 0, none⟩ = some (.int .i64 cm)) (c1 : w2.cell? ⟨g, 1, none⟩ = some (.int .i64 cd)) (f0 : w2.frozen? ⟨g, 0, none⟩ = false) (f1 : w2.frozen? ⟨g, 1, none⟩ = false) (hg2 : g < w2.heap.size)
    (G : Good q mo st (k + 1) x y) :
    Rel w g q mo st n (.int .i64 ((k : Int) + 1)) (.int .i64 ((k : Int) + 1)) (((w2.setCell ⟨g, 0, none⟩ (.int .i64 x)).setCell ⟨g, 1, none⟩ (.int .i64 y)).alloc o) := by
  have b2 : Below w.heap.size w w2 := below2 hb p2
  have hs : w.heap.size ≤ w2.heap.size := b2.size
  refine ⟨k + 1, x, y, by omega, by simp, by simp, ?_, ?_, ?_, ?_, ?_, hg, ?_, G⟩
  · rw [World.cell?_alloc_lt _ _ _ (by simpa using hg2), World.cell?_setCell_other _ _ _ _ (by simp)]
    exact World.cell?_setCell_same _ _ _ c0
  · rw [World.cell?_alloc_lt _ _ _ (by simpa using hg2)]
    refine World.cell?_setCell_same _ _ _ (u := .int .i64 cd) ?_
    rw [World.cell?_setCell_other _ _ _ _ (by simp)]; exact c1
  · rw [World.frozen?_alloc_old _ _ _ (by simp; omega)]; simpa using f0
  · rw [World.frozen?_alloc_old _ _ _ (by simp; omega)]; simpa using f1
  · exact ((b2.setCell hg _).setCell hg _).alloc (by simpa using hs) _
  · simp; omega
theorem good_more {q mo st : Int} {k : Nat} {cm cd : Int} (h : Good q mo st k cm cd) (hd : ¬ 1 < cd) (hm : 0 < cm) (big : q = 0 ∨ 65536 ≤ st) (hk : (k : Int) < 65536) : (k : Int) < st := by
  rcases big with rfl | big
  · obtain ⟨h1, h2, h3, h4, h5⟩ := h
    have e : cd = 1 := by omega
    subst e
    have := Cal.days0_lt 0 1 (cm - 0 * 4800) 1 (by omega) (by have := Cal.dim_lo 0; omega) (by omega)
    have z := Cal.days0_zero
    omega
  · omega

set_option maxHeartbeats 1000000 in
set_option maxRecDepth 100000 in
theorem back_main (a0 a1 a2 : Int) (w : World) (h0 : 0 ≤ a0) (hM : a0 ≤ 9223372036854775807) (h1 : 1 ≤ a1) (h2 : a1 ≤ Cal.dim a0) (h3 : 0 ≤ a2) (h4 : a2 ≤ 65536) :
    Calls Try.prog 8 #[.int .i64 a0, .int .i64 a1, .int .i64 a2] w fun e w' => e = .returned (.bool true) ∧ Below w.heap.size w w' := by
  have l1 := Cal.dim_lo a0
  go_enter Try.func8, Try.ntmps8
  go_upto_if 36 with (go_at_call 10; refine (monthLen_any _ _ (by omega) (by omega)).mono ?_; rintro e w' ⟨rfl, rfl⟩)
  go_cut [7] from 17 (fun s wc => w = wc ∧ ∃ q, s = .int .i64 (q * 4800) ∧ 0 ≤ q ∧ q * 4800 ≤ a0 ∧ a0 - q * 4800 ≤ 9600 ∧ (q = 0 ∨ 4800 ≤ a0 - q * 4800))
  case first =>
    by_cases c : 4800 ≤ a0
    · go_wp2
      go_meet
      case rel => exact ⟨rfl, a0 / 4800 - 1, rfl, by omega, by omega, by omega, by omega⟩
    · go_wp2
      go_meet
      case rel => exact ⟨rfl, 0, rfl, by omega, by omega, by omega, by omega⟩
  case rest =>
    obtain ⟨rfl, q, rfl, q0, q1, q2, q3⟩ := hcut
    have b1 := days0_bd (a0 - q * 4800) a1 (by omega) (by omega) (by omega) (by omega)
    have G0 := good_zero q1 h1 h2
    have n0 : 0 ≤ Cal.days0 (a0 - q * 4800) a1 := Cal.days0_nonneg _ _ (by omega) h1
    have big : q = 0 ∨ 65536 ≤ Cal.days0 (a0 - q * 4800) a1 := by
      rcases q3 with q3 | q3
      · exact .inl q3
      · right
        have k1 := Cal.days0_mono 4800 (a0 - q * 4800 - 4800).toNat
        have e : (4800 : Int) + ((a0 - q * 4800 - 4800).toNat : Int) = a0 - q * 4800 := by omega
        rw [e] at k1
        have k2 : Cal.days0 4800 1 = 146097 := by decide
        have k3 := Cal.days0_day (a0 - q * 4800) a1
        omega
    clear q3
    by_cases c : Cal.days0 (a0 - q * 4800) a1 < a2
    · go_wp2_with (go_at_call 14; refine (days0_any _ _ _ (by omega) (by omega) (by omega) (by omega)).mono ?_; rintro e w' ⟨rfl, rfl⟩)
      refine (mkDate_any _ _ _).mono ?_
      rintro e w1 ⟨rfl, p1⟩
      go_wp2
      go_loopw [11, 12] (fun sv iv wr => Rel w w1.heap.size q a0 (Cal.days0 (a0 - q * 4800) a1) a2 sv iv wr) (fun _ iv _ => a2.toNat - (intOf iv).toNat)
      case atStart =>
        refine ⟨0, a0, a1, h3, rfl, rfl, by simp, by simp, by simp, by simp, p1.alloc p1.size _, p1.size, by simp, G0⟩
      case round =>
        obtain ⟨k, cm, cd, hk, rfl, rfl, c0, c1, f0, f1, hb, hg, hgl, G⟩ := hrel
        have kl := good_le G
        have g1 := G.1
        have g2 := G.2.1
        have g3 := G.2.2.1
        have g4 := G.2.2.2.1
        have g5 := Cal.dim_lo cm
        clear G0
        have hlt : (k : Int) < a2 := by omega
        by_cases hd : 1 < cd
        · have G' := good_day G hd
          go_wp2_with fail
          refine (before_day _ _ _ hd (by omega)).mono ?_
          rintro e w2 ⟨rfl, p2⟩
          have e0 := (bcell p2 w1.heap.size 0 hgl).1
          have e1 := (bcell p2 w1.heap.size 1 hgl).1
          have i0 := (bcell p2 w1.heap.size 0 hgl).2
          have i1 := (bcell p2 w1.heap.size 1 hgl).2
          rw [c0] at e0
          rw [c1] at e1
          rw [f0] at i0
          rw [f1] at i1
          have hgl2 : w1.heap.size < w2.heap.size := Nat.lt_of_lt_of_le hgl p2.size
          have R := fun o => rel_step (o := o) hlt hb hg p2 e0 e1 i0 i1 hgl2 G'
          go_wp2
          go_roundw
          case rel => exact R _
          case measure => simp [intOf]; omega
        by_cases hm : 0 < cm
        · have G' := good_month G hd (good_more G hd hm big (by omega))
          go_wp2_with fail
          refine (before_month _ _ _ (by omega) hm (by omega)).mono ?_
          rintro e w2 ⟨rfl, p2⟩
          have e0 := (bcell p2 w1.heap.size 0 hgl).1
          have e1 := (bcell p2 w1.heap.size 1 hgl).1
          have i0 := (bcell p2 w1.heap.size 0 hgl).2
          have i1 := (bcell p2 w1.heap.size 1 hgl).2
          rw [c0] at e0
          rw [c1] at e1
          rw [f0] at i0
          rw [f1] at i1
          have hgl2 : w1.heap.size < w2.heap.size := Nat.lt_of_lt_of_le hgl p2.size
          have R := fun o => rel_step (o := o) hlt hb hg p2 e0 e1 i0 i1 hgl2 G'
          go_wp2
          go_roundw
          case rel => exact R _
          case measure => simp [intOf]; omega
        have hf := good_first G q0 hd hm
        have z2 : ((k : Int) == Cal.days0 (a0 - q * 4800) a1) = true := beq_iff_eq.2 hf
        clear hf
        have d1 := days0_bd (cm - q * 4800) cd (by omega) (by omega) (by omega) (by omega)
        have z1 : (Cal.days0 (cm - q * 4800) cd == Cal.days0 (a0 - q * 4800) a1 - k) = true := beq_iff_eq.2 G.2.2.2.2
        go_wp2_with fail
        refine (before_none _ _ _ (by omega) (by omega)).mono ?_
        rintro e w2 ⟨rfl, p2⟩
        have e0 := (bcell p2 w1.heap.size 0 hgl).1
        have e1 := (bcell p2 w1.heap.size 1 hgl).1
        rw [c0] at e0
        rw [c1] at e1
        have hgl2 : w1.heap.size < w2.heap.size := Nat.lt_of_lt_of_le hgl p2.size
        have fin : ∀ o w3 w4, Below (w2.alloc o).heap.size (w2.alloc o) w3 → Below w3.heap.size w3 w4 → Below w.heap.size w w4 := fun o w3 w4 p3 p4 => below3 ((below2 hb p2).alloc (below2 hb p2).size o) p3 p4
        go_wp2_with fail
        refine (dateMonth_any _ _ _).mono ?_
        rintro e w3 ⟨rfl, p3⟩
        have j0 := (bcell p3 w1.heap.size 0 (by simp; omega)).1
        have j1 := (bcell p3 w1.heap.size 1 (by simp; omega)).1
        rw [World.cell?_alloc_lt _ _ _ hgl2, e0] at j0
        rw [World.cell?_alloc_lt _ _ _ hgl2, e1] at j1
        go_wp2_with fail
        refine (dateDay_any _ _ _).mono ?_
        rintro e w4 ⟨rfl, p4⟩
        go_wp2_with (first | (go_at_call 10; refine (monthLen_any _ _ (by omega) (by omega)).mono ?_; rintro e w' ⟨rfl, rfl⟩) | (go_at_call 14; refine (days0_any _ _ _ (by omega) (by omega) (by omega) (by omega)).mono ?_; rintro e w' ⟨rfl, rfl⟩))
        go_ret
        exact ⟨rfl, fin _ _ _ p3 p4⟩
    · go_wp2_with (go_at_call 14; refine (days0_any _ _ _ (by omega) (by omega) (by omega) (by omega)).mono ?_; rintro e w' ⟨rfl, rfl⟩)
      refine (mkDate_any _ _ _).mono ?_
      rintro e w1 ⟨rfl, p1⟩
      go_wp2
      go_loopw [11, 12] (fun sv iv wr => Rel w w1.heap.size q a0 (Cal.days0 (a0 - q * 4800) a1) a2 sv iv wr) (fun _ iv _ => a2.toNat - (intOf iv).toNat)
      case atStart =>
        refine ⟨0, a0, a1, h3, rfl, rfl, by simp, by simp, by simp, by simp, p1.alloc p1.size _, p1.size, by simp, G0⟩
      case round =>
        obtain ⟨k, cm, cd, hk, rfl, rfl, c0, c1, f0, f1, hb, hg, hgl, G⟩ := hrel
        have kl := good_le G
        have g1 := G.1
        have g2 := G.2.1
        have g3 := G.2.2.1
        have g4 := G.2.2.2.1
        have g5 := Cal.dim_lo cm
        clear G0
        by_cases hlt0 : ¬ (k : Int) < a2
        · have z2 : ((k : Int) == a2) = true := beq_iff_eq.2 (by omega)
          have d1 := days0_bd (cm - q * 4800) cd (by omega) (by omega) (by omega) (by omega)
          have z1 : (Cal.days0 (cm - q * 4800) cd == Cal.days0 (a0 - q * 4800) a1 - k) = true := beq_iff_eq.2 G.2.2.2.2
          go_wp2_with fail
          refine (dateMonth_any _ _ _).mono ?_
          rintro e w3 ⟨rfl, p3⟩
          have j0 := (bcell p3 w1.heap.size 0 (by omega)).1
          have j1 := (bcell p3 w1.heap.size 1 (by omega)).1
          rw [c0] at j0
          rw [c1] at j1
          go_wp2_with fail
          refine (dateDay_any _ _ _).mono ?_
          rintro e w4 ⟨rfl, p4⟩
          go_wp2_with (first | (go_at_call 10; refine (monthLen_any _ _ (by omega) (by omega)).mono ?_; rintro e w' ⟨rfl, rfl⟩) | (go_at_call 14; refine (days0_any _ _ _ (by omega) (by omega) (by omega) (by omega)).mono ?_; rintro e w' ⟨rfl, rfl⟩))
          go_ret
          exact ⟨rfl, below3 hb p3 p4⟩
        have hlt : (k : Int) < a2 := by omega
        by_cases hd : 1 < cd
        · have G' := good_day G hd
          go_wp2_with fail
          refine (before_day _ _ _ hd (by omega)).mono ?_
          rintro e w2 ⟨rfl, p2⟩
          have e0 := (bcell p2 w1.heap.size 0 hgl).1
          have e1 := (bcell p2 w1.heap.size 1 hgl).1
          have i0 := (bcell p2 w1.heap.size 0 hgl).2
          have i1 := (bcell p2 w1.heap.size 1 hgl).2
          rw [c0] at e0
          rw [c1] at e1
          rw [f0] at i0
          rw [f1] at i1
          have hgl2 : w1.heap.size < w2.heap.size := Nat.lt_of_lt_of_le hgl p2.size
          have R := fun o => rel_step (o := o) hlt hb hg p2 e0 e1 i0 i1 hgl2 G'
          go_wp2
          go_roundw
          case rel => exact R _
          case measure => simp [intOf]; omega
        by_cases hm : 0 < cm
        · have G' := good_month G hd (good_more G hd hm big (by omega))
          go_wp2_with fail
          refine (before_month _ _ _ (by omega) hm (by omega)).mono ?_
          rintro e w2 ⟨rfl, p2⟩
          have e0 := (bcell p2 w1.heap.size 0 hgl).1
          have e1 := (bcell p2 w1.heap.size 1 hgl).1
          have i0 := (bcell p2 w1.heap.size 0 hgl).2
          have i1 := (bcell p2 w1.heap.size 1 hgl).2
          rw [c0] at e0
          rw [c1] at e1
          rw [f0] at i0
          rw [f1] at i1
          have hgl2 : w1.heap.size < w2.heap.size := Nat.lt_of_lt_of_le hgl p2.size
          have R := fun o => rel_step (o := o) hlt hb hg p2 e0 e1 i0 i1 hgl2 G'
          go_wp2
          go_roundw
          case rel => exact R _
          case measure => simp [intOf]; omega
        have hf := good_first G q0 hd hm
        omega
end Go.Proofs.Qxb6617955a
