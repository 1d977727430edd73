/- THE WALK of ZZHighestSince: function 10; zzTreeOK's two answers. -/
import Derived.Test.Qxb6605451aSince
namespace Go.Proofs.Qxb6605451a
open Go.RowKit
set_option maxHeartbeats 400000 in
theorem zzSince_any (L : Nat) (a : Option Addr) (len cap : Nat) (T : Nat → Int) (below since : Int) (w : World) (hL : L ≤ 65536) (hb1 : -9223372036854775808 ≤ below) (hb2 : below ≤ 9223372036854775807)
    (hr : Row w a len T) (hT : L = 0 ∨ TreeP L len T) :
    Calls Try.prog 10 #[.int .i64 L, .slice a len cap, .int .i64 below, .int .i64 since] w fun e w' => e = .returned (.int .i64 (scan T L since (lev below L))) ∧ Below w.heap.size w w' := by
  have HR : Hid (Row w a len T) := hr
  have HT : Hid _ := hT
  clear hr hT
  go_enter Try.func10, Try.ntmps10
  go_wp2_with fail
  refine (since_any w.heap.size L a len cap T below since _ hL hb1 hb2 ?_ ?_ ?_ HT.out).mono ?_
  · simp
  · simp
  · exact HR.out.below ((Below.refl _ _).alloc (Nat.le_refl _) _)
  rintro e w' ⟨rfl, rfl⟩
  go_wp2_with fail
  go_ret
  exact ⟨rfl, (Below.refl _ _).alloc (Nat.le_refl _) _⟩
theorem tree_yes (L : Nat) (a : Option Addr) (len cap : Nat) (T : Nat → Int) (w : World) (hL2 : L ≤ 65536) (hlen : len ≤ 1048576) (hr : Row w a len T) (hT : L = 0 ∨ TreeP L len T) :
    Calls Try.prog 8 #[.int .i64 L, .slice a len cap] w fun e w' => e = .returned (.bool true) ∧ w = w' := by
  by_cases h0 : L = 0
  · subst h0; exact tree_zero a len cap w
  · refine (tree_any L a len cap T w (by omega) hL2 hlen hr).mono ?_
    rintro e w' ⟨b, rfl, hb, rfl⟩
    rcases hT with h | h
    · exact absurd h h0
    · exact ⟨by rw [hb.2 h], rfl⟩
theorem tree_no (L : Nat) (a : Option Addr) (len cap : Nat) (T : Nat → Int) (w : World) (hL2 : L ≤ 65536) (hlen : len ≤ 1048576) (hr : Row w a len T) (hT : ¬ (L = 0 ∨ TreeP L len T)) :
    Calls Try.prog 8 #[.int .i64 L, .slice a len cap] w fun e w' => e = .returned (.bool false) ∧ w = w' := by
  have h0 : ¬ L = 0 := fun h => hT (Or.inl h)
  refine (tree_any L a len cap T w (by omega) hL2 hlen hr).mono ?_
  rintro e w' ⟨b, rfl, hb, rfl⟩
  cases b
  · exact ⟨rfl, rfl⟩
  · exact absurd (Or.inr (hb.1 rfl)) hT
end Go.Proofs.Qxb6605451a
