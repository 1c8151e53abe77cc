import Derived.Test.Qxb6618149aCount
import Derived.Lib.SlBytesRow
import Derived.Laws.OwnMore
namespace Go.Proofs.Qxb6618149a
open Go.RowKit

/-- a, one byte, b. -/
def joined (a : ByteArray) (c : UInt8) (b : ByteArray) : ByteArray := ⟨(a.data.toList ++ c :: b.data.toList).toArray⟩
theorem joined_list (a : ByteArray) (c : UInt8) (b : ByteArray) : (joined a c b).data.toList = a.data.toList ++ c :: b.data.toList := by simp [joined]
theorem joined_size (a : ByteArray) (c : UInt8) (b : ByteArray) : (joined a c b).size = a.size + 1 + b.size := by
  have h : (joined a c b).size = (joined a c b).data.toList.length := by simp
  rw [h, joined_list]; simp; omega
theorem joined_left (a : ByteArray) (c : UInt8) (b : ByteArray) (k : Nat) (h : k < a.size) (h2 : k < (joined a c b).size) : (joined a c b)[k] = a[k] := by
  have h3 := byte_some (joined a c b) k h2
  rw [joined_list, List.getElem?_append_left (by simpa using h), byte_some a k h] at h3
  exact (Option.some.inj h3).symm
theorem joined_mid (a : ByteArray) (c : UInt8) (b : ByteArray) (h2 : a.size < (joined a c b).size) : (joined a c b)[a.size] = c := by
  have h3 := byte_some (joined a c b) a.size h2
  rw [joined_list, List.getElem?_append_right (by simp)] at h3
  simp at h3; exact h3.symm
theorem joined_right (a : ByteArray) (c : UInt8) (b : ByteArray) (k : Nat) (h : k < b.size) (h2 : a.size + 1 + k < (joined a c b).size) : (joined a c b)[a.size + 1 + k] = b[k] := by
  have h3 := byte_some (joined a c b) _ h2
  rw [joined_list, List.getElem?_append_right (by simp; omega)] at h3
  have e : a.size + 1 + k - a.data.toList.length = k + 1 := by simp; omega
  rw [e, List.getElem?_cons_succ, byte_some b k h] at h3
  exact (Option.some.inj h3).symm
theorem joined_toks (a : ByteArray) (c : UInt8) (b : ByteArray) (h : delB c.toNat = true) : Tok.toks (joined a c b).data.toList = Tok.toks a.data.toList ++ Tok.extra c ++ Tok.toks b.data.toList := by
  rw [delB_byte] at h
  rw [joined_list, Tok.split _ _ _ h]

/-! ### the buffer -/
/-- the first k cells of block g hold the bytes of jb; the others hold some byte. -/
def Filled (jb : ByteArray) (g k : Nat) (wr : World) : Prop :=
  (∀ j (h : j < jb.size), ∃ c : Int, wr.cell? ⟨g, j, none⟩ = some (.int .u8 c) ∧ (j < k → c = jb[j].toNat)) ∧ (∀ j, wr.frozen? ⟨g, j, none⟩ = false) ∧ g < wr.heap.size

theorem add_plain0 (g j : Nat) : (⟨g, 0, none⟩ : Addr).add j = ⟨g, j, none⟩ := by simp only [Addr.add]; split <;> simp_all
theorem filled_made {B g : Nat} {w1 : World} {jb : ByteArray} {n : Nat} (h : w1.ownsRow B 5 1 (.slice (some ⟨g, 0, none⟩) n n) n (madeCells #[.int .u8 0] n).toList) (hn : n = jb.size) : Filled jb g 0 w1 := by
  have hlt := (h.lt g rfl).2
  refine ⟨fun j hj => ⟨0, ?_, fun h0 => absurd h0 (by omega)⟩, fun j => ?_, hlt⟩
  · have hc := h.cells (g := g) rfl j (.int .u8 0) (by
      rw [toList_madeCells_one]
      rw [List.getElem?_replicate, if_pos (by omega)])
    rw [add_plain0] at hc; exact hc
  · rcases h.2 with ⟨h1, _⟩ | ⟨g', cap, cur, hv, _, hb, _⟩
    · cases h1
    · simp at hv
      obtain ⟨rfl, _⟩ := hv
      simp [World.frozen?, hb]
theorem filled_step {jb : ByteArray} {g k : Nat} {wr : World} (h : Filled jb g k wr) (hk : k < jb.size) (v : Int) (hv : v = jb[k].toNat) : Filled jb g (k + 1) (wr.setCell ⟨g, k, none⟩ (.int .u8 v)) := by
  obtain ⟨h1, h2, h3⟩ := h
  refine ⟨fun j hj => ?_, fun j => by simpa using h2 j, by simpa using h3⟩
  by_cases e : k = j
  · subst e
    obtain ⟨c, hc, _⟩ := h1 k hj
    exact ⟨v, World.cell?_setCell_same _ _ _ hc, fun _ => hv⟩
  · obtain ⟨c, hc, hc2⟩ := h1 j hj
    exact ⟨c, by rw [World.cell?_setCell_other _ _ _ _ (fun he => e (congrArg Addr.off he))]; exact hc, fun hlt => hc2 (by omega)⟩
theorem filled_bytes {jb : ByteArray} {g : Nat} {wr : World} (h : Filled jb g jb.size wr) : Lib.Bytes wr g 0 jb := fun i hi => by
  obtain ⟨c, hc, hc2⟩ := h.1 i hi
  rw [Nat.zero_add, hc, hc2 hi]

/-! ### a slice of tokens -/
/-- v is a slice whose elements are the tokens T, in the world W. -/
def View (W : World) (T : List (List UInt8)) (ad : Option Addr) : Prop :=
  ad.isNone = decide (T.length = 0) ∧ ∀ j (h : j < T.length), ∃ g, ad = some ⟨g, 0, none⟩ ∧ g < W.heap.size ∧ W.cell? ⟨g, j, none⟩ = some (strV T[j])

theorem view_of {w w' : World} {T : List (List UInt8)} {v : Value} (h : Toks w w' T v) : ∃ ad cap, v = .slice ad T.length cap ∧ View w' T ad := by
  rcases h with ⟨h1, h2⟩ | ⟨h1, g, cap, h2, h3, h4, h5⟩
  · subst h1
    exact ⟨none, 0, h2, by simp, fun j h => by simp at h⟩
  · have : ¬ T.length = 0 := fun e => h1 (List.length_eq_zero_iff.1 e)
    exact ⟨some ⟨g, 0, none⟩, cap, h2, by simp [this], fun j h => ⟨g, rfl, h4, h5 j h⟩⟩
theorem View.later {W W' : World} {T : List (List UInt8)} {ad : Option Addr} (h : View W T ad) (hb : Below W.heap.size W W') : View W' T ad :=
  ⟨h.1, fun j hj => by
    obtain ⟨g, h1, h2, h3⟩ := h.2 j hj
    exact ⟨g, h1, Nat.lt_of_lt_of_le h2 hb.size, by rw [hb.cell (p := ⟨g, j, none⟩) h2]; exact h3⟩⟩
theorem size_elem (W : World) : (sizeOf (Try.prog.elem 23)).run Try.prog W = .ok 1 W := by kernel_rfl
theorem under23 : Try.prog.underlying 23 = some (.slice (Try.prog.elem 23)) := by kernel_rfl
/-- element j of such a slice: its address, and what lies there. -/
theorem View.elemAt {W : World} {T : List (List UInt8)} {ad : Option Addr} (h : View W T ad) (j : Nat) (hj : j < T.length) (cap : Nat) :
    ∃ g, (∀ W', (Instr.indexAt 23 (.slice ad T.length cap) (.int .i64 (j : Int))).run Try.prog W' = .ok (.pointer (some ⟨g, j, none⟩)) W') ∧ W.cell? ⟨g, j, none⟩ = some (strV T[j]) := by
  obtain ⟨g, h1, h2, h3⟩ := h.2 j hj
  refine ⟨g, fun W' => ?_, h3⟩
  rw [h1, run_indexAt_slice _ _ _ _ _ _ _ under23, if_pos (by omega), size_elem]
  simp [Result.andThen, add_plain0]
end Go.Proofs.Qxb6618149a
