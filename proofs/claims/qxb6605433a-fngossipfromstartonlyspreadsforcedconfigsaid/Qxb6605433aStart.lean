/- THE WALKS of has and start: functions 21, 18. -/
import Derived.Test.Qxb6605433aFields
import Derived.Test.Qxb6605433aOne
namespace Go.Proofs.Qxb6605433a
open Go.RowKit
/-- The states that gossip from start reaches: node 4 has been told (r) or not. -/
def gM (r : Bool) : Nat → Int := fun k => if k = 4 then (if r then 15 else 0) else 15
def gV (r : Bool) : Nat → Int := fun k => if k = 4 then (if r then 1 else 0) else 1
def gC : Nat → Int := fun _ => 0
def gT : Nat → Int := fun _ => 1
def gP : Nat → Int := fun k => if k = 0 then 1 else 0
def hasB (m n : Int) : Bool := bits .and .u8 m (IntKind.u8.wrap (2 ^ n.toNat)) != 0
set_option maxHeartbeats 400000 in
theorem has_any (m v c n : Int) (w : World) (h0 : 0 ≤ n) (h1 : n ≤ 4) :
    Calls Try.prog 21 #[.agg #[.int .u8 m, .int .u8 v, .int .u8 c], .int .i64 n] w fun e w' => e = .returned (.bool (hasB m n)) ∧ Below w.heap.size w w' := by
  go_enter Try.func21, Try.ntmps21
  go_wp2
  go_region
  go_wp2
  go_ret
  exact ⟨rfl, ((Below.refl _ _).alloc (Nat.le_refl _) _).drew⟩
theorem hasB_15 (k : Nat) (h : k < 5) : hasB 15 k = decide (k < 4) := by
  obtain rfl | rfl | rfl | rfl | rfl : k = 0 ∨ k = 1 ∨ k = 2 ∨ k = 3 ∨ k = 4 := by omega
  all_goals decide
/-- Behind k rounds of start's loop. -/
def stG (k : Nat) : Array Value := #[.int .u8 (if 0 < k then gM false 0 else 0), .int .u8 (if 0 < k then gV false 0 else 0), .int .u8 0, .int .u8 (if 1 < k then gM false 1 else 0), .int .u8 (if 1 < k then gV false 1 else 0), .int .u8 0, .int .u8 (if 2 < k then gM false 2 else 0), .int .u8 (if 2 < k then gV false 2 else 0), .int .u8 0, .int .u8 (if 3 < k then gM false 3 else 0), .int .u8 (if 3 < k then gV false 3 else 0), .int .u8 0, .int .u8 (if 4 < k then gM false 4 else 0), .int .u8 (if 4 < k then gV false 4 else 0), .int .u8 0, .int .u8 (if 0 < k then 1 else 0), .int .u8 (if 1 < k then 1 else 0), .int .u8 (if 2 < k then 1 else 0), .int .u8 (if 3 < k then 1 else 0), .int .u8 (if 4 < k then 1 else 0), .int .u8 0, .int .u8 0, .int .u8 0, .int .u8 0, .int .u8 0, .int .u16 0]
theorem stG_zero : stG 0 = #[.int .u8 0, .int .u8 0, .int .u8 0, .int .u8 0, .int .u8 0, .int .u8 0, .int .u8 0, .int .u8 0, .int .u8 0, .int .u8 0, .int .u8 0, .int .u8 0, .int .u8 0, .int .u8 0, .int .u8 0, .int .u8 0, .int .u8 0, .int .u8 0, .int .u8 0, .int .u8 0, .int .u8 0, .int .u8 0, .int .u8 0, .int .u8 0, .int .u8 0, .int .u16 0] := by simp [stG]
theorem stG_some (k j : Nat) (h : j < 26) : ∃ x, (stG k)[j]? = some x := by
  have : j < (stG k).size := by simpa [stG] using h
  exact ⟨_, Array.getElem?_eq_getElem this⟩
theorem stG_yes (k : Nat) (h : k < 4) : ((((stG k).setIfInBounds (k * 3) (.int .u8 15)).setIfInBounds (k * 3 + 1) (.int .u8 1)).setIfInBounds (k * 3 + 2) (.int .u8 0)).setIfInBounds (15 + k) (.int .u8 1) = stG (k + 1) := by
  obtain rfl | rfl | rfl | rfl : k = 0 ∨ k = 1 ∨ k = 2 ∨ k = 3 := by omega
  all_goals simp [stG, gM, gV]
theorem stG_no : (stG 4).setIfInBounds 19 (.int .u8 1) = stG 5 := by simp [stG, gM, gV]
theorem stG_end : ((stG 5).setIfInBounds 20 (.int .u8 1)).setIfInBounds 25 (.int .u16 1) = #[.int .u8 (gM false 0), .int .u8 (gV false 0), .int .u8 (gC 0), .int .u8 (gM false 1), .int .u8 (gV false 1), .int .u8 (gC 1), .int .u8 (gM false 2), .int .u8 (gV false 2), .int .u8 (gC 2), .int .u8 (gM false 3), .int .u8 (gV false 3), .int .u8 (gC 3), .int .u8 (gM false 4), .int .u8 (gV false 4), .int .u8 (gC 4), .int .u8 (gT 0), .int .u8 (gT 1), .int .u8 (gT 2), .int .u8 (gT 3), .int .u8 (gT 4), .int .u8 (gP 0), .int .u8 (gP 1), .int .u8 (gP 2), .int .u8 (gP 3), .int .u8 (gP 4), .int .u16 1] := by simp [stG, gM, gV, gC, gT, gP]
set_option maxHeartbeats 1000000 in
theorem start_any (w : World) : Calls Try.prog 18 #[] w fun e w' => e = .returned (.agg #[.int .u8 (gM false 0), .int .u8 (gV false 0), .int .u8 (gC 0), .int .u8 (gM false 1), .int .u8 (gV false 1), .int .u8 (gC 1), .int .u8 (gM false 2), .int .u8 (gV false 2), .int .u8 (gC 2), .int .u8 (gM false 3), .int .u8 (gV false 3), .int .u8 (gC 3), .int .u8 (gM false 4), .int .u8 (gV false 4), .int .u8 (gC 4), .int .u8 (gT 0), .int .u8 (gT 1), .int .u8 (gT 2), .int .u8 (gT 3), .int .u8 (gT 4), .int .u8 (gP 0), .int .u8 (gP 1), .int .u8 (gP 2), .int .u8 (gP 3), .int .u8 (gP 4), .int .u16 1]) ∧ Below w.heap.size w w' := by
  have hle : w.heap.size ≤ w.heap.size + 1 := by omega
  have hn0 : w.heap.size ≠ w.heap.size + 1 := by omega
  have hn2 : w.heap.size + 1 + 1 ≠ w.heap.size + 1 := by omega
  go_enter Try.func18, Try.ntmps18
  go_wp2
  go_loopw [5] (fun i wr => ∃ k : Nat, k ≤ 5 ∧ i = .int .i64 k ∧ Below w.heap.size w wr ∧ Blk wr (w.heap.size) #[.int .u8 0, .int .u8 0, .int .u8 0, .int .u8 0, .int .u8 0, .int .u8 0, .int .u8 0, .int .u8 0, .int .u8 0, .int .u8 0, .int .u8 0, .int .u8 0, .int .u8 0, .int .u8 0, .int .u8 0, .int .u8 0, .int .u8 0, .int .u8 0, .int .u8 0, .int .u8 0, .int .u8 0, .int .u8 0, .int .u8 0, .int .u8 0, .int .u8 0, .int .u16 0] 39 ∧ Blk wr (w.heap.size + 1) (stG k) 39 ∧ Blk wr (w.heap.size + 1 + 1) #[.int .u8 15, .int .u8 1, .int .u8 0] 36) (fun i _ => 5 - (intOf i).toNat)
  case atStart =>
    refine ⟨0, by omega, rfl, ?_, ?_, ?_, ?_⟩
    · exact (((Below.refl _ _).alloc (Nat.le_refl _) _).alloc (by simp) _).alloc (by simp <;> omega) _
    · exact ((Blk.newAt _ _ _ _ rfl).old _).old _
    · exact ((Blk.newAt _ _ _ _ (by simp)).old _).eq stG_zero.symm
    · exact Blk.newAt _ _ _ _ (by simp)
  case round =>
    obtain ⟨k, hk, rfl, hb, b0, b1, b2⟩ := hrel
    have hc2 := b2.cell
    simp at hc2
    have HB : Hid _ := And.intro hb (And.intro b0 (And.intro b1 b2))
    clear hb b0 b1 b2
    by_cases hlt : k < 5
    · go_wp2_with fail
      refine (has_any _ _ _ _ _ (by omega) (by omega)).mono ?_
      rintro e w1 ⟨rfl, hbw⟩
      rw [hasB_15 k hlt]
      obtain ⟨hb, b0, b1, b2⟩ := HB.out
      have l2 := b2.lt
      have q0 := b0.below hbw b0.lt
      have q1 := b1.below hbw b1.lt
      have q2 := b2.below hbw l2
      have hbq := hb.trans (hbw.mono (by omega))
      clear HB hb b0 b1 b2 hbw hc2
      have HB : Hid _ := And.intro hbq (And.intro q0 (And.intro q1 q2))
      have hc2 := q2.cell
      simp at hc2
      obtain ⟨x0, hx0⟩ := stG_some k (k * 3) (by omega)
      obtain ⟨x1, hx1⟩ := stG_some k (k * 3 + 1) (by omega)
      obtain ⟨x2, hx2⟩ := stG_some k (k * 3 + 2) (by omega)
      obtain ⟨x3, hx3⟩ := stG_some k (15 + k) (by omega)
      have hd0 := (q1.cell _).trans hx0
      have hd1 := (q1.cell _).trans hx1
      have hd2 := (q1.cell _).trans hx2
      have hd3 := (q1.cell _).trans hx3
      have hf := q1.frozen
      clear hx0 hx1 hx2 hx3 hbq q0 q1 q2
      by_cases h4 : k < 4
      · have hdd : decide (k < 4) = true := by simp [h4]
        go_wp2
        go_roundw
        case rel =>
          obtain ⟨hb, b0, b1, b2⟩ := HB.out
          refine ⟨k + 1, by omega, by go_num, ?_, ?_, ?_, ?_⟩
          · exact (Below.setCell (p := ⟨w.heap.size + 1, 15 + k, none⟩) (Below.setCell (p := ⟨w.heap.size + 1, k * 3 + 2, none⟩) (Below.setCell (p := ⟨w.heap.size + 1, k * 3 + 1, none⟩) (Below.setCell (p := ⟨w.heap.size + 1, k * 3, none⟩) hb hle _) hle _) hle _) hle _)
          · exact (Blk.far (Blk.far (Blk.far (Blk.far b0 ⟨w.heap.size + 1, k * 3, none⟩ _ hn0) ⟨w.heap.size + 1, k * 3 + 1, none⟩ _ hn0) ⟨w.heap.size + 1, k * 3 + 2, none⟩ _ hn0) ⟨w.heap.size + 1, 15 + k, none⟩ _ hn0)
          · exact (((Blk.set (Blk.set (Blk.set (Blk.set b1 (k * 3) _) (k * 3 + 1) _) (k * 3 + 2) _) (15 + k) _)).eq (stG_yes k h4))
          · exact (Blk.far (Blk.far (Blk.far (Blk.far b2 ⟨w.heap.size + 1, k * 3, none⟩ _ hn2) ⟨w.heap.size + 1, k * 3 + 1, none⟩ _ hn2) ⟨w.heap.size + 1, k * 3 + 2, none⟩ _ hn2) ⟨w.heap.size + 1, 15 + k, none⟩ _ hn2)
        case measure => simp [intOf]; omega
      · obtain rfl : k = 4 := by omega
        have hdd : decide (4 < 4) = false := by simp
        go_wp2
        go_roundw
        case rel =>
          obtain ⟨hb, b0, b1, b2⟩ := HB.out
          exact ⟨4 + 1, by omega, by go_num, Below.setCell (p := ⟨w.heap.size + 1, 19, none⟩) hb hle _, b0.far ⟨w.heap.size + 1, 19, none⟩ _ hn0, (b1.set 19 _).eq stG_no, b2.far ⟨w.heap.size + 1, 19, none⟩ _ hn2⟩
        case measure => simp [intOf]
    · obtain rfl : k = 5 := by omega
      obtain ⟨hb, b0, b1, b2⟩ := HB.out
      obtain ⟨x0, hx0⟩ := stG_some 5 20 (by omega)
      obtain ⟨x1, hx1⟩ := stG_some 5 25 (by omega)
      have hd0 := (b1.cell _).trans hx0
      have hd1 := (b1.cell _).trans hx1
      have hf := b1.frozen
      have c1 := ((b1.set 20 (.int .u8 1)).set 25 (.int .u16 1)).eq stG_end
      have c0 := (b0.far ⟨w.heap.size + 1, 20, none⟩ (.int .u8 1) hn0).far ⟨w.heap.size + 1, 25, none⟩ (.int .u16 1) hn0
      have cb := (Below.setCell (p := ⟨w.heap.size + 1, 20, none⟩) hb hle (.int .u8 1)).setCell (p := ⟨w.heap.size + 1, 25, none⟩) hle (.int .u16 1)
      clear hx0 hx1 hc2 HB hb b0 b1 b2
      go_wp2_with fail
      refine (wonBit_any _ _ _ (by omega) (by omega) (by omega) (by omega)).mono ?_
      rintro e w1 ⟨rfl, rfl⟩
      rw [show wb 1 0 = 1 from by decide]
      go_upto_region 12 with fail
      go_wp2_with (first | (refine wpList_load_row rfl 39 _ rfl (w.heap.size + 1) rfl 39 #[.int .u8 (gM false 0), .int .u8 (gV false 0), .int .u8 (gC 0), .int .u8 (gM false 1), .int .u8 (gV false 1), .int .u8 (gC 1), .int .u8 (gM false 2), .int .u8 (gV false 2), .int .u8 (gC 2), .int .u8 (gM false 3), .int .u8 (gV false 3), .int .u8 (gC 3), .int .u8 (gM false 4), .int .u8 (gV false 4), .int .u8 (gC 4), .int .u8 (gT 0), .int .u8 (gT 1), .int .u8 (gT 2), .int .u8 (gT 3), .int .u8 (gT 4), .int .u8 (gP 0), .int .u8 (gP 1), .int .u8 (gP 2), .int .u8 (gP 3), .int .u8 (gP 4), .int .u16 1] (0, 0) _ ?hg Try.underlying39 rfl (by kernel_rfl) ?_; case hg => exact c1) | (refine wpList_store_row rfl 39 _ _ rfl (w.heap.size) _ rfl rfl 39 #[.int .u8 0, .int .u8 0, .int .u8 0, .int .u8 0, .int .u8 0, .int .u8 0, .int .u8 0, .int .u8 0, .int .u8 0, .int .u8 0, .int .u8 0, .int .u8 0, .int .u8 0, .int .u8 0, .int .u8 0, .int .u8 0, .int .u8 0, .int .u8 0, .int .u8 0, .int .u8 0, .int .u8 0, .int .u8 0, .int .u8 0, .int .u8 0, .int .u8 0, .int .u16 0] ?hg (by kernel_rfl) rfl (by kernel_rfl) ?_; case hg => exact c0))
      exact bodyPost_ret (v := .agg #[.int .u8 (gM false 0), .int .u8 (gV false 0), .int .u8 (gC 0), .int .u8 (gM false 1), .int .u8 (gV false 1), .int .u8 (gC 1), .int .u8 (gM false 2), .int .u8 (gV false 2), .int .u8 (gC 2), .int .u8 (gM false 3), .int .u8 (gV false 3), .int .u8 (gC 3), .int .u8 (gM false 4), .int .u8 (gV false 4), .int .u8 (gC 4), .int .u8 (gT 0), .int .u8 (gT 1), .int .u8 (gT 2), .int .u8 (gT 3), .int .u8 (gT 4), .int .u8 (gP 0), .int .u8 (gP 1), .int .u8 (gP 2), .int .u8 (gP 3), .int .u8 (gP 4), .int .u16 1]) (results_cell_row Try.results18 _ _ (w.heap.size) 39 _ (0, 0) _ rfl (c0.row _) Try.underlying39 rfl (by kernel_rfl)) rfl ⟨rfl, below_setRow cb (Nat.le_refl _) _⟩
end Go.Proofs.Qxb6605433a
