/- THE WALK of ZZOnePrimaryPerTerm: function 7. -/
import Derived.Test.Qxb6605433aState
import Derived.Test.Qxb6605433aOne
namespace Go.Proofs.Qxb6605433a
open Go.RowKit
set_option maxHeartbeats 400000 in
theorem zzOne_any (m v c t p : Nat → Int) (won : Int) (w : World) :
    Calls Try.prog 7 #[.agg #[.int .u8 (m 0), .int .u8 (m 1), .int .u8 (m 2), .int .u8 (m 3), .int .u8 (m 4)], .agg #[.int .u8 (v 0), .int .u8 (v 1), .int .u8 (v 2), .int .u8 (v 3), .int .u8 (v 4)], .agg #[.int .u8 (c 0), .int .u8 (c 1), .int .u8 (c 2), .int .u8 (c 3), .int .u8 (c 4)], .agg #[.int .u8 (t 0), .int .u8 (t 1), .int .u8 (t 2), .int .u8 (t 3), .int .u8 (t 4)], .agg #[.int .u8 (p 0), .int .u8 (p 1), .int .u8 (p 2), .int .u8 (p 3), .int .u8 (p 4)], .int .u16 won] w fun e w' => e = .returned (.bool (oneB won)) ∧ Below w.heap.size w w' := by
  go_enter Try.func7, Try.ntmps7
  go_wp2_with fail
  refine (zzState_any m v c t p won _).mono ?_
  rintro e w1 ⟨rfl, hb⟩
  go_wp2_with fail
  refine (onePrimary_any m v c t p won _).mono ?_
  rintro e w2 ⟨rfl, hb2⟩
  go_wp2_with fail
  go_ret
  refine ⟨rfl, ?_⟩
  have hs := hb.size
  simp at hs
  refine Below.trans ?_ (hb2.mono (by omega))
  refine Below.trans ?_ (hb.mono (by simp <;> omega))
  exact (((((Below.refl _ _).alloc (Nat.le_refl _) _).alloc (by simp) _).alloc (by simp <;> omega) _).alloc (by simp <;> omega) _).alloc (by simp <;> omega) _
end Go.Proofs.Qxb6605433a
