/- THE WALK of zzState: function 14. -/
import Derived.Test.Qxb6605433aBlk
namespace Go.Proofs.Qxb6605433a
open Go.RowKit

/-- Behind k rounds of zzState's loop. -/
def stK (k : Nat) (m v c : Nat → Int) : Array Value :=
  #[.int .u8 (if 0 < k then m 0 else 0), .int .u8 (if 0 < k then v 0 else 0), .int .u8 (if 0 < k then c 0 else 0), .int .u8 (if 1 < k then m 1 else 0), .int .u8 (if 1 < k then v 1 else 0), .int .u8 (if 1 < k then c 1 else 0), .int .u8 (if 2 < k then m 2 else 0), .int .u8 (if 2 < k then v 2 else 0), .int .u8 (if 2 < k then c 2 else 0), .int .u8 (if 3 < k then m 3 else 0), .int .u8 (if 3 < k then v 3 else 0), .int .u8 (if 3 < k then c 3 else 0), .int .u8 (if 4 < k then m 4 else 0), .int .u8 (if 4 < k then v 4 else 0), .int .u8 (if 4 < k then c 4 else 0), .int .u8 0, .int .u8 0, .int .u8 0, .int .u8 0, .int .u8 0, .int .u8 0, .int .u8 0, .int .u8 0, .int .u8 0, .int .u8 0, .int .u16 0]
def zeros26 : Array Value := #[.int .u8 0, .int .u8 0, .int .u8 0, .int .u8 0, .int .u8 0, .int .u8 0, .int .u8 0, .int .u8 0, .int .u8 0, .int .u8 0, .int .u8 0, .int .u8 0, .int .u8 0, .int .u8 0, .int .u8 0, .int .u8 0, .int .u8 0, .int .u8 0, .int .u8 0, .int .u8 0, .int .u8 0, .int .u8 0, .int .u8 0, .int .u8 0, .int .u8 0, .int .u16 0]

theorem a5_at (m : Nat → Int) (k : Nat) (h : k < 5) : (#[.int .u8 (m 0), .int .u8 (m 1), .int .u8 (m 2), .int .u8 (m 3), .int .u8 (m 4)] : Array Value)[k]? = some (.int .u8 (m k)) := by
  obtain rfl | rfl | rfl | rfl | rfl : k = 0 ∨ k = 1 ∨ k = 2 ∨ k = 3 ∨ k = 4 := by omega
  all_goals rfl
theorem stK_zero (m v c : Nat → Int) : stK 0 m v c = zeros26 := by simp [stK, zeros26]
theorem stK_step (m v c : Nat → Int) (k : Nat) (h : k < 5) : (((stK k m v c).setIfInBounds (k * 3) (.int .u8 (m k))).setIfInBounds (k * 3 + 1) (.int .u8 (v k))).setIfInBounds (k * 3 + 2) (.int .u8 (c k)) = stK (k + 1) m v c := by
  obtain rfl | rfl | rfl | rfl | rfl : k = 0 ∨ k = 1 ∨ k = 2 ∨ k = 3 ∨ k = 4 := by omega
  all_goals simp [stK]
theorem stK_some (m v c : Nat → Int) (k j : Nat) (h : j < 26) : ∃ x, (stK k m v c)[j]? = some x := by
  have : j < (stK k m v c).size := by simpa [stK] using h
  exact ⟨_, Array.getElem?_eq_getElem this⟩

set_option maxHeartbeats 1000000 in
theorem zzState_any (m v c t p : Nat → Int) (won : Int) (w : World) :
    Calls Try.prog 14 #[.agg #[.int .u8 (m 0), .int .u8 (m 1), .int .u8 (m 2), .int .u8 (m 3), .int .u8 (m 4)], .agg #[.int .u8 (v 0), .int .u8 (v 1), .int .u8 (v 2), .int .u8 (v 3), .int .u8 (v 4)], .agg #[.int .u8 (c 0), .int .u8 (c 1), .int .u8 (c 2), .int .u8 (c 3), .int .u8 (c 4)], .agg #[.int .u8 (t 0), .int .u8 (t 1), .int .u8 (t 2), .int .u8 (t 3), .int .u8 (t 4)], .agg #[.int .u8 (p 0), .int .u8 (p 1), .int .u8 (p 2), .int .u8 (p 3), .int .u8 (p 4)], .int .u16 won] w
     fun e w' => e = .returned (.agg #[.int .u8 (m 0), .int .u8 (v 0), .int .u8 (c 0), .int .u8 (m 1), .int .u8 (v 1), .int .u8 (c 1), .int .u8 (m 2), .int .u8 (v 2), .int .u8 (c 2), .int .u8 (m 3), .int .u8 (v 3), .int .u8 (c 3), .int .u8 (m 4), .int .u8 (v 4), .int .u8 (c 4), .int .u8 (t 0), .int .u8 (t 1), .int .u8 (t 2), .int .u8 (t 3), .int .u8 (t 4), .int .u8 (p 0), .int .u8 (p 1), .int .u8 (p 2), .int .u8 (p 3), .int .u8 (p 4), .int .u16 won]) ∧ Below w.heap.size w w' := by
  go_enter Try.func14, Try.ntmps14
  go_wp2
  go_loopw [14] (fun i wr => ∃ k : Nat, k ≤ 5 ∧ i = .int .i64 k ∧ Below w.heap.size w wr ∧ Blk wr (w.heap.size) #[.int .u8 (m 0), .int .u8 (m 1), .int .u8 (m 2), .int .u8 (m 3), .int .u8 (m 4)] 22
     ∧ Blk wr (w.heap.size + 1) #[.int .u8 (v 0), .int .u8 (v 1), .int .u8 (v 2), .int .u8 (v 3), .int .u8 (v 4)] 22 ∧ Blk wr (w.heap.size + 1 + 1) #[.int .u8 (c 0), .int .u8 (c 1), .int .u8 (c 2), .int .u8 (c 3), .int .u8 (c 4)] 22
     ∧ Blk wr (w.heap.size + 1 + 1 + 1) #[.int .u8 (t 0), .int .u8 (t 1), .int .u8 (t 2), .int .u8 (t 3), .int .u8 (t 4)] 22 ∧ Blk wr (w.heap.size + 1 + 1 + 1 + 1) #[.int .u8 (p 0), .int .u8 (p 1), .int .u8 (p 2), .int .u8 (p 3), .int .u8 (p 4)] 22
     ∧ Blk wr (w.heap.size + 1 + 1 + 1 + 1 + 1) zeros26 39 ∧ Blk wr (w.heap.size + 1 + 1 + 1 + 1 + 1 + 1) (stK k m v c) 39) (fun i _ => 5 - (intOf i).toNat)
  case atStart =>
    refine ⟨0, by omega, rfl, ?_, ?_, ?_, ?_, ?_, ?_, ?_, ?_⟩
    · repeat (first | exact Below.refl _ _ | refine Below.alloc ?_ (by simp <;> omega) _)
    · exact ((((((Blk.newAt _ _ _ _ rfl).old _).old _).old _).old _).old _).old _
    · exact (((((Blk.newAt _ _ _ _ (by simp)).old _).old _).old _).old _).old _
    · exact ((((Blk.newAt _ _ _ _ (by simp)).old _).old _).old _).old _
    · exact (((Blk.newAt _ _ _ _ (by simp)).old _).old _).old _
    · exact ((Blk.newAt _ _ _ _ (by simp)).old _).old _
    · exact (Blk.newAt _ _ _ _ (by simp)).old _
    · exact (Blk.newAt _ _ _ _ (by simp)).eq (stK_zero m v c).symm
  case round =>
    obtain ⟨k, hk, rfl, hb, b0, b1, b2, b3, b4, b5, b6⟩ := hrel
    by_cases hlt : k < 5
    · have hc0 := (b0.cell k).trans (a5_at m k hlt)
      have hc1 := (b1.cell k).trans (a5_at v k hlt)
      have hc2 := (b2.cell k).trans (a5_at c k hlt)
      obtain ⟨x0, hx0⟩ := stK_some m v c k (k * 3) (by omega)
      obtain ⟨x1, hx1⟩ := stK_some m v c k (k * 3 + 1) (by omega)
      obtain ⟨x2, hx2⟩ := stK_some m v c k (k * 3 + 2) (by omega)
      have hd0 := (b6.cell _).trans hx0
      have hd1 := (b6.cell _).trans hx1
      have hd2 := (b6.cell _).trans hx2
      have hf6 := b6.frozen
      clear hx0 hx1 hx2
      go_wp2
      go_region
      go_wp2
      go_roundw
      case rel =>
        refine ⟨k + 1, by omega, by go_num, ?_, ?_, ?_, ?_, ?_, ?_, ?_, ?_⟩
        · exact (((hb.setCell (by show _ ≤ _ + 1 + 1 + 1 + 1 + 1 + 1; omega) _).setCell (by show _ ≤ _ + 1 + 1 + 1 + 1 + 1 + 1; omega) _).setCell (by show _ ≤ _ + 1 + 1 + 1 + 1 + 1 + 1; omega) _).drew
        · exact (((b0.far _ _ (by show _ ≠ _ + 1 + 1 + 1 + 1 + 1 + 1; omega)).far _ _ (by show _ ≠ _ + 1 + 1 + 1 + 1 + 1 + 1; omega)).far _ _ (by show _ ≠ _ + 1 + 1 + 1 + 1 + 1 + 1; omega)).drew
        · exact (((b1.far _ _ (by show _ ≠ _ + 1 + 1 + 1 + 1 + 1 + 1; omega)).far _ _ (by show _ ≠ _ + 1 + 1 + 1 + 1 + 1 + 1; omega)).far _ _ (by show _ ≠ _ + 1 + 1 + 1 + 1 + 1 + 1; omega)).drew
        · exact (((b2.far _ _ (by show _ ≠ _ + 1 + 1 + 1 + 1 + 1 + 1; omega)).far _ _ (by show _ ≠ _ + 1 + 1 + 1 + 1 + 1 + 1; omega)).far _ _ (by show _ ≠ _ + 1 + 1 + 1 + 1 + 1 + 1; omega)).drew
        · exact (((b3.far _ _ (by show _ ≠ _ + 1 + 1 + 1 + 1 + 1 + 1; omega)).far _ _ (by show _ ≠ _ + 1 + 1 + 1 + 1 + 1 + 1; omega)).far _ _ (by show _ ≠ _ + 1 + 1 + 1 + 1 + 1 + 1; omega)).drew
        · exact (((b4.far _ _ (by show _ ≠ _ + 1 + 1 + 1 + 1 + 1 + 1; omega)).far _ _ (by show _ ≠ _ + 1 + 1 + 1 + 1 + 1 + 1; omega)).far _ _ (by show _ ≠ _ + 1 + 1 + 1 + 1 + 1 + 1; omega)).drew
        · exact (((b5.far _ _ (by show _ ≠ _ + 1 + 1 + 1 + 1 + 1 + 1; omega)).far _ _ (by show _ ≠ _ + 1 + 1 + 1 + 1 + 1 + 1; omega)).far _ _ (by show _ ≠ _ + 1 + 1 + 1 + 1 + 1 + 1; omega)).drew
        · exact (((b6.set _ _).set _ _).set _ _).drew.eq (stK_step m v c k hlt)
      case measure => simp [intOf]; omega
    · obtain rfl : k = 5 := by omega
      have hc3 := b3.cell
      have hc4 := b4.cell
      have hc6 := b6.cell
      have hf6 := b6.frozen
      simp only [stK] at hc6
      go_upto_region 8 with fail
      go_cut [14] from 15 to 37 (fun _ wq => Below w.heap.size w wq ∧ Blk wq (w.heap.size + 1 + 1 + 1 + 1 + 1) zeros26 39 ∧ Blk wq (w.heap.size + 1 + 1 + 1 + 1 + 1 + 1) #[.int .u8 (m 0), .int .u8 (v 0), .int .u8 (c 0), .int .u8 (m 1), .int .u8 (v 1), .int .u8 (c 1), .int .u8 (m 2), .int .u8 (v 2), .int .u8 (c 2), .int .u8 (m 3), .int .u8 (v 3), .int .u8 (c 3), .int .u8 (m 4), .int .u8 (v 4), .int .u8 (c 4), .int .u8 (t 0), .int .u8 (t 1), .int .u8 (t 2), .int .u8 (t 3), .int .u8 (t 4), .int .u8 (p 0), .int .u8 (p 1), .int .u8 (p 2), .int .u8 (p 3), .int .u8 (p 4), .int .u16 won] 39)
      case rest =>
        obtain ⟨hbq, bq5, bq6⟩ := hcut
        go_wp2_with (first | (refine wpList_load_row rfl 39 _ rfl (w.heap.size + 1 + 1 + 1 + 1 + 1 + 1) rfl 39 _ (0, 0) _ bq6 Try.underlying39 rfl (by kernel_rfl) ?_) | (refine wpList_store_row rfl 39 _ _ rfl (w.heap.size + 1 + 1 + 1 + 1 + 1) _ rfl rfl 39 _ bq5 (by kernel_rfl) rfl (by kernel_rfl) ?_))
        exact bodyPost_ret (v := .agg #[.int .u8 (m 0), .int .u8 (v 0), .int .u8 (c 0), .int .u8 (m 1), .int .u8 (v 1), .int .u8 (c 1), .int .u8 (m 2), .int .u8 (v 2), .int .u8 (c 2), .int .u8 (m 3), .int .u8 (v 3), .int .u8 (c 3), .int .u8 (m 4), .int .u8 (v 4), .int .u8 (c 4), .int .u8 (t 0), .int .u8 (t 1), .int .u8 (t 2), .int .u8 (t 3), .int .u8 (t 4), .int .u8 (p 0), .int .u8 (p 1), .int .u8 (p 2), .int .u8 (p 3), .int .u8 (p 4), .int .u16 won]) (results_cell_row Try.results14 _ _ (w.heap.size + 1 + 1 + 1 + 1 + 1) 39 _ (0, 0) _ rfl (bq5.row _) Try.underlying39 rfl (by kernel_rfl)) rfl ⟨rfl, below_setRow hbq (by omega) _⟩
      case first =>
        go_wp2
        go_meet
        case rel =>
          have hle : w.heap.size ≤ w.heap.size + 1 + 1 + 1 + 1 + 1 + 1 := by omega
          have hne : w.heap.size + 1 + 1 + 1 + 1 + 1 ≠ w.heap.size + 1 + 1 + 1 + 1 + 1 + 1 := by omega
          refine ⟨?_, ?_, ?_⟩
          · exact (Below.setCell (p := ⟨w.heap.size + 1 + 1 + 1 + 1 + 1 + 1, 25, none⟩) (Below.setCell (p := ⟨w.heap.size + 1 + 1 + 1 + 1 + 1 + 1, 24, none⟩) (Below.setCell (p := ⟨w.heap.size + 1 + 1 + 1 + 1 + 1 + 1, 23, none⟩) (Below.setCell (p := ⟨w.heap.size + 1 + 1 + 1 + 1 + 1 + 1, 22, none⟩) (Below.setCell (p := ⟨w.heap.size + 1 + 1 + 1 + 1 + 1 + 1, 21, none⟩) (Below.setCell (p := ⟨w.heap.size + 1 + 1 + 1 + 1 + 1 + 1, 20, none⟩) (Below.setCell (p := ⟨w.heap.size + 1 + 1 + 1 + 1 + 1 + 1, 19, none⟩) (Below.setCell (p := ⟨w.heap.size + 1 + 1 + 1 + 1 + 1 + 1, 18, none⟩) (Below.setCell (p := ⟨w.heap.size + 1 + 1 + 1 + 1 + 1 + 1, 17, none⟩) (Below.setCell (p := ⟨w.heap.size + 1 + 1 + 1 + 1 + 1 + 1, 16, none⟩) (Below.setCell (p := ⟨w.heap.size + 1 + 1 + 1 + 1 + 1 + 1, 15, none⟩) hb hle _) hle _) hle _) hle _) hle _) hle _) hle _) hle _) hle _) hle _) hle _)
          · exact (Blk.far (Blk.far (Blk.far (Blk.far (Blk.far (Blk.far (Blk.far (Blk.far (Blk.far (Blk.far (Blk.far b5 ⟨w.heap.size + 1 + 1 + 1 + 1 + 1 + 1, 15, none⟩ _ hne) ⟨w.heap.size + 1 + 1 + 1 + 1 + 1 + 1, 16, none⟩ _ hne) ⟨w.heap.size + 1 + 1 + 1 + 1 + 1 + 1, 17, none⟩ _ hne) ⟨w.heap.size + 1 + 1 + 1 + 1 + 1 + 1, 18, none⟩ _ hne) ⟨w.heap.size + 1 + 1 + 1 + 1 + 1 + 1, 19, none⟩ _ hne) ⟨w.heap.size + 1 + 1 + 1 + 1 + 1 + 1, 20, none⟩ _ hne) ⟨w.heap.size + 1 + 1 + 1 + 1 + 1 + 1, 21, none⟩ _ hne) ⟨w.heap.size + 1 + 1 + 1 + 1 + 1 + 1, 22, none⟩ _ hne) ⟨w.heap.size + 1 + 1 + 1 + 1 + 1 + 1, 23, none⟩ _ hne) ⟨w.heap.size + 1 + 1 + 1 + 1 + 1 + 1, 24, none⟩ _ hne) ⟨w.heap.size + 1 + 1 + 1 + 1 + 1 + 1, 25, none⟩ _ hne)
          · exact (((((((((((b6.set _ _).set _ _).set _ _).set _ _).set _ _).set _ _).set _ _).set _ _).set _ _).set _ _).set _ _).eq (by simp [stK])
end Go.Proofs.Qxb6605433a
