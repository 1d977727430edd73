/- THE WALK of the law of highestSince: function 3. -/
import Derived.Test.Qxb6605451aZZSince
namespace Go.Proofs.Qxb6605451a
open Go.RowKit
set_option maxHeartbeats 1000000 in
theorem high_any (a0 : Int) (a : Option Addr) (len cap : Nat) (T : Nat → Int) (below since : Int) (w : World) (hb1 : -9223372036854775808 ≤ below) (hb2 : below ≤ 9223372036854775807) (hr : Row w a len T) (hn : a = none → len = 0) :
    Calls Try.prog 3 #[.int .i64 a0, .slice a len cap, .int .i64 below, .int .i64 since] w fun e w' => e = .returned (.bool true) ∧ Below w.heap.size w w' := by
  have HR : Hid (Row w a len T) := hr
  have HN : Hid _ := hn
  clear hr hn
  by_cases h1 : len ≤ 1048576
  · by_cases h2 : len ≤ 131072
    · by_cases h3 : a0 < 0
      · go_enter Try.func3, Try.ntmps3
        go_wp2_with fail
        refine (bytesH_yes _ a len cap _ _ _ h1).mono ?_
        rintro e w' ⟨rfl, rfl⟩
        go_wp2_with fail
        go_ret
        exact ⟨rfl, Below.refl _ _⟩
      · by_cases h4 : 65536 < a0
        · go_enter Try.func3, Try.ntmps3
          go_wp2_with fail
          refine (bytesH_yes _ a len cap _ _ _ h1).mono ?_
          rintro e w' ⟨rfl, rfl⟩
          go_wp2_with fail
          go_ret
          exact ⟨rfl, Below.refl _ _⟩
        · obtain ⟨L, rfl⟩ := Int.eq_ofNat_of_zero_le (show 0 ≤ a0 by omega)
          have hL : L ≤ 65536 := by omega
          by_cases hT : L = 0 ∨ TreeP L len T
          · have HT : Hid _ := hT
            clear hT
            go_enter Try.func3, Try.ntmps3
            go_wp2_with fail
            refine (bytesH_yes _ a len cap _ _ _ h1).mono ?_
            rintro e w' ⟨rfl, rfl⟩
            go_wp2_with fail
            refine (tree_yes L a len cap T _ hL h1 HR.out HT.out).mono ?_
            rintro e w' ⟨rfl, rfl⟩
            go_wp2_with fail
            refine (copy_any a len cap T _ h1 HR.out HN.out).mono ?_
            rintro e w1 ⟨a', cap', rfl, hb, hr1⟩
            have HR1 : Hid (Row w1 a' len T) := hr1
            have HB : Hid _ := hb
            clear hr1 hb
            go_wp2_with fail
            refine (zzSince_any L a' len cap' T below since _ hL hb1 hb2 HR1.out HT.out).mono ?_
            rintro e w2 ⟨rfl, hb2⟩
            have HB2 : Hid _ := hb2
            clear hb2
            go_wp2_with fail
            refine (scan_any L a' len cap' T below since _ hL ?_ (HR1.out.below HB2.out)).mono ?_
            · rcases HT.out with h | h
              · exact Or.inl h
              · exact Or.inr h.2.1
            rintro e w3 ⟨rfl, rfl⟩
            go_wp2_with fail
            go_ret
            exact ⟨by simp, HB.out.trans (HB2.out.mono HB.out.size)⟩
          · have HT : Hid _ := hT
            clear hT
            go_enter Try.func3, Try.ntmps3
            go_wp2_with fail
            refine (bytesH_yes _ a len cap _ _ _ h1).mono ?_
            rintro e w' ⟨rfl, rfl⟩
            go_wp2_with fail
            refine (tree_no L a len cap T _ hL h1 HR.out HT.out).mono ?_
            rintro e w' ⟨rfl, rfl⟩
            go_wp2_with fail
            go_ret
            exact ⟨rfl, Below.refl _ _⟩
    · go_enter Try.func3, Try.ntmps3
      go_wp2_with fail
      refine (bytesH_yes _ a len cap _ _ _ h1).mono ?_
      rintro e w' ⟨rfl, rfl⟩
      go_wp2_with fail
      go_ret
      exact ⟨rfl, Below.refl _ _⟩
  · go_enter Try.func3, Try.ntmps3
    go_wp2_with fail
    refine (bytesH_no _ a len cap _ _ _ h1).mono ?_
    rintro e w' ⟨rfl, rfl⟩
    go_wp2_with fail
    go_ret
    exact ⟨rfl, Below.refl _ _⟩
end Go.Proofs.Qxb6605451a
