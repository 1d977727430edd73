/- THE WALKS of ZZStart and the length's guard: functions 13, 12. -/
import Derived.Test.Qxb6605433aStart
namespace Go.Proofs.Qxb6605433a
open Go.RowKit
set_option maxHeartbeats 1000000 in
theorem zzStart_any (w : World) : Calls Try.prog 13 #[] w fun e w' => e = .returned (.tuple #[.agg #[.int .u8 (gM false 0), .int .u8 (gM false 1), .int .u8 (gM false 2), .int .u8 (gM false 3), .int .u8 (gM false 4)], .agg #[.int .u8 (gV false 0), .int .u8 (gV false 1), .int .u8 (gV false 2), .int .u8 (gV false 3), .int .u8 (gV false 4)], .agg #[.int .u8 (gC 0), .int .u8 (gC 1), .int .u8 (gC 2), .int .u8 (gC 3), .int .u8 (gC 4)], .agg #[.int .u8 (gT 0), .int .u8 (gT 1), .int .u8 (gT 2), .int .u8 (gT 3), .int .u8 (gT 4)], .agg #[.int .u8 (gP 0), .int .u8 (gP 1), .int .u8 (gP 2), .int .u8 (gP 3), .int .u8 (gP 4)], .int .u16 1]) ∧ Below w.heap.size w w' := by
  go_enter Try.func13, Try.ntmps13
  go_wp2_with fail
  refine (start_any _).mono ?_
  rintro e w1 ⟨rfl, hb⟩
  go_wp2_with fail
  refine (zzFields_any _ _ _ _ _ 1 _).mono ?_
  rintro e w3 ⟨rfl, hb3⟩
  have hs1 := hb.size
  simp at hs1
  have q0 : Blk w3 (w.heap.size) #[.int .u8 0, .int .u8 0, .int .u8 0, .int .u8 0, .int .u8 0] 22 := (Blk.below (show Blk _ (w.heap.size) #[.int .u8 0, .int .u8 0, .int .u8 0, .int .u8 0, .int .u8 0] 22 from (((((Blk.newAt _ _ _ _ rfl).old _).old _).old _).old _)) hb (by simp <;> omega)).below hb3 (by omega)
  have q1 : Blk w3 (w.heap.size + 1) #[.int .u8 0, .int .u8 0, .int .u8 0, .int .u8 0, .int .u8 0] 22 := (Blk.below (show Blk _ (w.heap.size + 1) #[.int .u8 0, .int .u8 0, .int .u8 0, .int .u8 0, .int .u8 0] 22 from ((((Blk.newAt _ _ _ _ (by simp)).old _).old _).old _)) hb (by simp <;> omega)).below hb3 (by omega)
  have q2 : Blk w3 (w.heap.size + 1 + 1) #[.int .u8 0, .int .u8 0, .int .u8 0, .int .u8 0, .int .u8 0] 22 := (Blk.below (show Blk _ (w.heap.size + 1 + 1) #[.int .u8 0, .int .u8 0, .int .u8 0, .int .u8 0, .int .u8 0] 22 from (((Blk.newAt _ _ _ _ (by simp)).old _).old _)) hb (by simp <;> omega)).below hb3 (by omega)
  have q3 : Blk w3 (w.heap.size + 1 + 1 + 1) #[.int .u8 0, .int .u8 0, .int .u8 0, .int .u8 0, .int .u8 0] 22 := (Blk.below (show Blk _ (w.heap.size + 1 + 1 + 1) #[.int .u8 0, .int .u8 0, .int .u8 0, .int .u8 0, .int .u8 0] 22 from ((Blk.newAt _ _ _ _ (by simp)).old _)) hb (by simp <;> omega)).below hb3 (by omega)
  have q4 : Blk w3 (w.heap.size + 1 + 1 + 1 + 1) #[.int .u8 0, .int .u8 0, .int .u8 0, .int .u8 0, .int .u8 0] 22 := (Blk.below (show Blk _ (w.heap.size + 1 + 1 + 1 + 1) #[.int .u8 0, .int .u8 0, .int .u8 0, .int .u8 0, .int .u8 0] 22 from (Blk.newAt _ _ _ _ (by simp))) hb (by simp <;> omega)).below hb3 (by omega)
  have HB : Hid (Below w.heap.size w w3) := by
    refine Below.trans ?_ (hb3.mono (by omega))
    refine Below.trans ?_ (hb.mono (by simp <;> omega))
    exact ((((((Below.refl _ _).alloc (by simp <;> omega) _).alloc (by simp <;> omega) _).alloc (by simp <;> omega) _).alloc (by simp <;> omega) _).alloc (by simp <;> omega) _)
  clear hb hb3 hs1
  have n01 : w.heap.size ≠ w.heap.size + 1 := by omega
  have n02 : w.heap.size ≠ w.heap.size + 1 + 1 := by omega
  have n03 : w.heap.size ≠ w.heap.size + 1 + 1 + 1 := by omega
  have n04 : w.heap.size ≠ w.heap.size + 1 + 1 + 1 + 1 := by omega
  have n10 : w.heap.size + 1 ≠ w.heap.size := by omega
  have n12 : w.heap.size + 1 ≠ w.heap.size + 1 + 1 := by omega
  have n13 : w.heap.size + 1 ≠ w.heap.size + 1 + 1 + 1 := by omega
  have n14 : w.heap.size + 1 ≠ w.heap.size + 1 + 1 + 1 + 1 := by omega
  have n20 : w.heap.size + 1 + 1 ≠ w.heap.size := by omega
  have n21 : w.heap.size + 1 + 1 ≠ w.heap.size + 1 := by omega
  have n23 : w.heap.size + 1 + 1 ≠ w.heap.size + 1 + 1 + 1 := by omega
  have n24 : w.heap.size + 1 + 1 ≠ w.heap.size + 1 + 1 + 1 + 1 := by omega
  have n30 : w.heap.size + 1 + 1 + 1 ≠ w.heap.size := by omega
  have n31 : w.heap.size + 1 + 1 + 1 ≠ w.heap.size + 1 := by omega
  have n32 : w.heap.size + 1 + 1 + 1 ≠ w.heap.size + 1 + 1 := by omega
  have n34 : w.heap.size + 1 + 1 + 1 ≠ w.heap.size + 1 + 1 + 1 + 1 := by omega
  have n40 : w.heap.size + 1 + 1 + 1 + 1 ≠ w.heap.size := by omega
  have n41 : w.heap.size + 1 + 1 + 1 + 1 ≠ w.heap.size + 1 := by omega
  have n42 : w.heap.size + 1 + 1 + 1 + 1 ≠ w.heap.size + 1 + 1 := by omega
  have n43 : w.heap.size + 1 + 1 + 1 + 1 ≠ w.heap.size + 1 + 1 + 1 := by omega
  go_wp2_with (first | (refine wpList_store_row rfl 22 _ _ rfl (w.heap.size) _ rfl rfl 22 #[.int .u8 0, .int .u8 0, .int .u8 0, .int .u8 0, .int .u8 0] ?hg (by kernel_rfl) rfl (by kernel_rfl) ?_; case hg => exact q0) | (refine wpList_store_row rfl 22 _ _ rfl (w.heap.size + 1) _ rfl rfl 22 #[.int .u8 0, .int .u8 0, .int .u8 0, .int .u8 0, .int .u8 0] ?hg (by kernel_rfl) rfl (by kernel_rfl) ?_; case hg => exact (Blk.rowFar q1 (w.heap.size) _ n10)) | (refine wpList_store_row rfl 22 _ _ rfl (w.heap.size + 1 + 1) _ rfl rfl 22 #[.int .u8 0, .int .u8 0, .int .u8 0, .int .u8 0, .int .u8 0] ?hg (by kernel_rfl) rfl (by kernel_rfl) ?_; case hg => exact (Blk.rowFar (Blk.rowFar q2 (w.heap.size) _ n20) (w.heap.size + 1) _ n21)) | (refine wpList_store_row rfl 22 _ _ rfl (w.heap.size + 1 + 1 + 1) _ rfl rfl 22 #[.int .u8 0, .int .u8 0, .int .u8 0, .int .u8 0, .int .u8 0] ?hg (by kernel_rfl) rfl (by kernel_rfl) ?_; case hg => exact (Blk.rowFar (Blk.rowFar (Blk.rowFar q3 (w.heap.size) _ n30) (w.heap.size + 1) _ n31) (w.heap.size + 1 + 1) _ n32)) | (refine wpList_store_row rfl 22 _ _ rfl (w.heap.size + 1 + 1 + 1 + 1) _ rfl rfl 22 #[.int .u8 0, .int .u8 0, .int .u8 0, .int .u8 0, .int .u8 0] ?hg (by kernel_rfl) rfl (by kernel_rfl) ?_; case hg => exact (Blk.rowFar (Blk.rowFar (Blk.rowFar (Blk.rowFar q4 (w.heap.size) _ n40) (w.heap.size + 1) _ n41) (w.heap.size + 1 + 1) _ n42) (w.heap.size + 1 + 1 + 1) _ n43)))
  refine bodyPost_ret (v := .tuple #[.agg #[.int .u8 (gM false 0), .int .u8 (gM false 1), .int .u8 (gM false 2), .int .u8 (gM false 3), .int .u8 (gM false 4)], .agg #[.int .u8 (gV false 0), .int .u8 (gV false 1), .int .u8 (gV false 2), .int .u8 (gV false 3), .int .u8 (gV false 4)], .agg #[.int .u8 (gC 0), .int .u8 (gC 1), .int .u8 (gC 2), .int .u8 (gC 3), .int .u8 (gC 4)], .agg #[.int .u8 (gT 0), .int .u8 (gT 1), .int .u8 (gT 2), .int .u8 (gT 3), .int .u8 (gT 4)], .agg #[.int .u8 (gP 0), .int .u8 (gP 1), .int .u8 (gP 2), .int .u8 (gP 3), .int .u8 (gP 4)], .int .u16 1]) ?_ rfl ⟨rfl, (below_setRow (below_setRow (below_setRow (below_setRow (below_setRow HB.out (show w.heap.size ≤ w.heap.size by omega) _) (show w.heap.size ≤ w.heap.size + 1 by omega) _) (show w.heap.size ≤ w.heap.size + 1 + 1 by omega) _) (show w.heap.size ≤ w.heap.size + 1 + 1 + 1 by omega) _) (show w.heap.size ≤ w.heap.size + 1 + 1 + 1 + 1 by omega) _)⟩
  have l0 := run_loadVar_row (P := Try.prog) (((((w3.setRow (w.heap.size) #[.int .u8 (gM false 0), .int .u8 (gM false 1), .int .u8 (gM false 2), .int .u8 (gM false 3), .int .u8 (gM false 4)]).setRow (w.heap.size + 1) #[.int .u8 (gV false 0), .int .u8 (gV false 1), .int .u8 (gV false 2), .int .u8 (gV false 3), .int .u8 (gV false 4)]).setRow (w.heap.size + 1 + 1) #[.int .u8 (gC 0), .int .u8 (gC 1), .int .u8 (gC 2), .int .u8 (gC 3), .int .u8 (gC 4)]).setRow (w.heap.size + 1 + 1 + 1) #[.int .u8 (gT 0), .int .u8 (gT 1), .int .u8 (gT 2), .int .u8 (gT 3), .int .u8 (gT 4)]).setRow (w.heap.size + 1 + 1 + 1 + 1) #[.int .u8 (gP 0), .int .u8 (gP 1), .int .u8 (gP 2), .int .u8 (gP 3), .int .u8 (gP 4)]) (w.heap.size) 22 22 #[.int .u8 (gM false 0), .int .u8 (gM false 1), .int .u8 (gM false 2), .int .u8 (gM false 3), .int .u8 (gM false 4)] (0, 0) _ (Blk.rowFar (Blk.rowFar (Blk.rowFar (Blk.rowFar (Blk.row q0 _) (w.heap.size + 1) _ n01) (w.heap.size + 1 + 1) _ n02) (w.heap.size + 1 + 1 + 1) _ n03) (w.heap.size + 1 + 1 + 1 + 1) _ n04) Try.underlying22 rfl (by kernel_rfl)
  have l1 := run_loadVar_row (P := Try.prog) (((((w3.setRow (w.heap.size) #[.int .u8 (gM false 0), .int .u8 (gM false 1), .int .u8 (gM false 2), .int .u8 (gM false 3), .int .u8 (gM false 4)]).setRow (w.heap.size + 1) #[.int .u8 (gV false 0), .int .u8 (gV false 1), .int .u8 (gV false 2), .int .u8 (gV false 3), .int .u8 (gV false 4)]).setRow (w.heap.size + 1 + 1) #[.int .u8 (gC 0), .int .u8 (gC 1), .int .u8 (gC 2), .int .u8 (gC 3), .int .u8 (gC 4)]).setRow (w.heap.size + 1 + 1 + 1) #[.int .u8 (gT 0), .int .u8 (gT 1), .int .u8 (gT 2), .int .u8 (gT 3), .int .u8 (gT 4)]).setRow (w.heap.size + 1 + 1 + 1 + 1) #[.int .u8 (gP 0), .int .u8 (gP 1), .int .u8 (gP 2), .int .u8 (gP 3), .int .u8 (gP 4)]) (w.heap.size + 1) 22 22 #[.int .u8 (gV false 0), .int .u8 (gV false 1), .int .u8 (gV false 2), .int .u8 (gV false 3), .int .u8 (gV false 4)] (0, 0) _ (Blk.rowFar (Blk.rowFar (Blk.rowFar (Blk.row (Blk.rowFar q1 (w.heap.size) _ n10) _) (w.heap.size + 1 + 1) _ n12) (w.heap.size + 1 + 1 + 1) _ n13) (w.heap.size + 1 + 1 + 1 + 1) _ n14) Try.underlying22 rfl (by kernel_rfl)
  have l2 := run_loadVar_row (P := Try.prog) (((((w3.setRow (w.heap.size) #[.int .u8 (gM false 0), .int .u8 (gM false 1), .int .u8 (gM false 2), .int .u8 (gM false 3), .int .u8 (gM false 4)]).setRow (w.heap.size + 1) #[.int .u8 (gV false 0), .int .u8 (gV false 1), .int .u8 (gV false 2), .int .u8 (gV false 3), .int .u8 (gV false 4)]).setRow (w.heap.size + 1 + 1) #[.int .u8 (gC 0), .int .u8 (gC 1), .int .u8 (gC 2), .int .u8 (gC 3), .int .u8 (gC 4)]).setRow (w.heap.size + 1 + 1 + 1) #[.int .u8 (gT 0), .int .u8 (gT 1), .int .u8 (gT 2), .int .u8 (gT 3), .int .u8 (gT 4)]).setRow (w.heap.size + 1 + 1 + 1 + 1) #[.int .u8 (gP 0), .int .u8 (gP 1), .int .u8 (gP 2), .int .u8 (gP 3), .int .u8 (gP 4)]) (w.heap.size + 1 + 1) 22 22 #[.int .u8 (gC 0), .int .u8 (gC 1), .int .u8 (gC 2), .int .u8 (gC 3), .int .u8 (gC 4)] (0, 0) _ (Blk.rowFar (Blk.rowFar (Blk.row (Blk.rowFar (Blk.rowFar q2 (w.heap.size) _ n20) (w.heap.size + 1) _ n21) _) (w.heap.size + 1 + 1 + 1) _ n23) (w.heap.size + 1 + 1 + 1 + 1) _ n24) Try.underlying22 rfl (by kernel_rfl)
  have l3 := run_loadVar_row (P := Try.prog) (((((w3.setRow (w.heap.size) #[.int .u8 (gM false 0), .int .u8 (gM false 1), .int .u8 (gM false 2), .int .u8 (gM false 3), .int .u8 (gM false 4)]).setRow (w.heap.size + 1) #[.int .u8 (gV false 0), .int .u8 (gV false 1), .int .u8 (gV false 2), .int .u8 (gV false 3), .int .u8 (gV false 4)]).setRow (w.heap.size + 1 + 1) #[.int .u8 (gC 0), .int .u8 (gC 1), .int .u8 (gC 2), .int .u8 (gC 3), .int .u8 (gC 4)]).setRow (w.heap.size + 1 + 1 + 1) #[.int .u8 (gT 0), .int .u8 (gT 1), .int .u8 (gT 2), .int .u8 (gT 3), .int .u8 (gT 4)]).setRow (w.heap.size + 1 + 1 + 1 + 1) #[.int .u8 (gP 0), .int .u8 (gP 1), .int .u8 (gP 2), .int .u8 (gP 3), .int .u8 (gP 4)]) (w.heap.size + 1 + 1 + 1) 22 22 #[.int .u8 (gT 0), .int .u8 (gT 1), .int .u8 (gT 2), .int .u8 (gT 3), .int .u8 (gT 4)] (0, 0) _ (Blk.rowFar (Blk.row (Blk.rowFar (Blk.rowFar (Blk.rowFar q3 (w.heap.size) _ n30) (w.heap.size + 1) _ n31) (w.heap.size + 1 + 1) _ n32) _) (w.heap.size + 1 + 1 + 1 + 1) _ n34) Try.underlying22 rfl (by kernel_rfl)
  have l4 := run_loadVar_row (P := Try.prog) (((((w3.setRow (w.heap.size) #[.int .u8 (gM false 0), .int .u8 (gM false 1), .int .u8 (gM false 2), .int .u8 (gM false 3), .int .u8 (gM false 4)]).setRow (w.heap.size + 1) #[.int .u8 (gV false 0), .int .u8 (gV false 1), .int .u8 (gV false 2), .int .u8 (gV false 3), .int .u8 (gV false 4)]).setRow (w.heap.size + 1 + 1) #[.int .u8 (gC 0), .int .u8 (gC 1), .int .u8 (gC 2), .int .u8 (gC 3), .int .u8 (gC 4)]).setRow (w.heap.size + 1 + 1 + 1) #[.int .u8 (gT 0), .int .u8 (gT 1), .int .u8 (gT 2), .int .u8 (gT 3), .int .u8 (gT 4)]).setRow (w.heap.size + 1 + 1 + 1 + 1) #[.int .u8 (gP 0), .int .u8 (gP 1), .int .u8 (gP 2), .int .u8 (gP 3), .int .u8 (gP 4)]) (w.heap.size + 1 + 1 + 1 + 1) 22 22 #[.int .u8 (gP 0), .int .u8 (gP 1), .int .u8 (gP 2), .int .u8 (gP 3), .int .u8 (gP 4)] (0, 0) _ (Blk.row (Blk.rowFar (Blk.rowFar (Blk.rowFar (Blk.rowFar q4 (w.heap.size) _ n40) (w.heap.size + 1) _ n41) (w.heap.size + 1 + 1) _ n42) (w.heap.size + 1 + 1 + 1) _ n43) _) Try.underlying22 rfl (by kernel_rfl)
  simp [results, Try.results13, asAddr, l0, l1, l2, l3, l4]
set_option maxHeartbeats 400000 in
theorem bytes_yes (a : Option Addr) (len cap : Nat) (w : World) (h : len ≤ 1048576) : Calls Try.prog 12 #[.slice a len cap] w fun e w' => e = .returned (.bool true) ∧ w = w' := by
  go_enter Try.func12, Try.ntmps12
  go_wp2
  go_ret
  exact ⟨rfl, rfl⟩
set_option maxHeartbeats 400000 in
theorem bytes_no (a : Option Addr) (len cap : Nat) (w : World) (h : ¬ len ≤ 1048576) : Calls Try.prog 12 #[.slice a len cap] w fun e w' => e = .returned (.bool false) ∧ w = w' := by
  go_enter Try.func12, Try.ntmps12
  go_wp2
  go_ret
  exact ⟨rfl, rfl⟩
end Go.Proofs.Qxb6605433a
