/- THE WALKS of zzScanHighest, highestSince, ZZHighestSince: functions 11, 20, 10. -/
import Derived.Test.Qxb6605451aTree
namespace Go.Proofs.Qxb6605451a
open Go.RowKit
/-- How many levels are asked about. -/
def lev (below : Int) (L : Nat) : Nat := (min below (L : Int)).toNat
set_option maxHeartbeats 400000 in
theorem scan_any (L : Nat) (a : Option Addr) (len cap : Nat) (T : Nat → Int) (below since : Int) (w : World) (hL : L ≤ 65536) (hlen : L = 0 ∨ len = 2 * L) (hr : Row w a len T) :
    Calls Try.prog 11 #[.int .i64 L, .slice a len cap, .int .i64 below, .int .i64 since] w fun e w' => e = .returned (.int .i64 (scan T L since (lev below L))) ∧ w = w' := by
  have HR : Hid _ := hr
  clear hr
  by_cases h1 : below ≤ 0
  · have HS : Hid (scan T L since (lev below L) = -1) := by
      have : lev below L = 0 := by unfold lev; omega
      show scan T L since (lev below L) = -1
      rw [this]; rfl
    have h2 : ¬ (L : Int) < below := by omega
    go_enter Try.func11, Try.ntmps11
    go_wp2
    go_ret
    exact ⟨by rw [HS.out]; rfl, rfl⟩
  · by_cases hL0 : L = 0
    · subst hL0
      have HS : Hid (scan T 0 since (lev below 0) = -1) := by
        have : lev below 0 = 0 := by unfold lev; omega
        show scan T 0 since (lev below 0) = -1
        rw [this]; rfl
      go_enter Try.func11, Try.ntmps11
      go_wp2
      go_ret
      exact ⟨by rw [HS.out]; rfl, rfl⟩
    · obtain hl : len = 2 * L := by omega
      subst hl
      clear hlen
      obtain ⟨n, hn⟩ : ∃ n, lev below L = n := ⟨_, rfl⟩
      have hn1 : 1 ≤ n := by unfold lev at hn; omega
      have hn2 : n ≤ L := by unfold lev at hn; omega
      rw [hn]
      by_cases h2 : (L : Int) < below
      · have e : n = L := by unfold lev at hn; omega
        subst e
        clear hn
        go_enter Try.func11, Try.ntmps11
        go_wp2
        go_loop [10] (fun s10 => ∃ m : Nat, m ≤ n ∧ ((m = 0 ∧ s10 = .int .i64 (-1)) ∨ ∃ j : Nat, m = j + 1 ∧ s10 = .int .i64 j) ∧ Hid (scan T n since n = scan T n since m)) (fun i => (intOf i + 1).toNat)
        case atStart => exact ⟨n, by omega, Or.inr ⟨n - 1, by omega, by go_num⟩, rfl⟩
        case round =>
          obtain ⟨m, hm, hs, HS⟩ := hrel
          rcases hs with ⟨rfl, rfl⟩ | ⟨j, rfl, rfl⟩
          · go_wp2
            go_ret
            exact ⟨by rw [HS.out]; rfl, rfl⟩
          · obtain ⟨b, off, rfl, hc⟩ := HR.out (n + j) (by omega)
            have c1 := hc (n + j) (by omega)
            clear hc
            by_cases hq : since ≤ T (n + j)
            · have HZ : Hid _ := HS.out.trans (scan_hit T n since j hq)
              go_wp2
              go_ret
              exact ⟨by rw [HZ.out]; rfl, rfl⟩
            · have HZ : Hid (scan T n since n = scan T n since j) := HS.out.trans (by rw [scan, if_neg hq])
              have zq : decide (since ≤ T (n + j)) = false := by simpa using hq
              go_wp2
              go_round
              case rel =>
                refine ⟨j, by omega, ?_, HZ⟩
                cases j with
                | zero => exact Or.inl ⟨rfl, by go_num⟩
                | succ i => exact Or.inr ⟨i, rfl, by go_num⟩
              case measure => simp [intOf]
      · have e : below = (n : Int) := by unfold lev at hn; omega
        subst e
        clear hn
        go_enter Try.func11, Try.ntmps11
        go_wp2
        go_loop [10] (fun s10 => ∃ m : Nat, m ≤ n ∧ ((m = 0 ∧ s10 = .int .i64 (-1)) ∨ ∃ j : Nat, m = j + 1 ∧ s10 = .int .i64 j) ∧ Hid (scan T L since n = scan T L since m)) (fun i => (intOf i + 1).toNat)
        case atStart => exact ⟨n, by omega, Or.inr ⟨n - 1, by omega, by go_num⟩, rfl⟩
        case round =>
          obtain ⟨m, hm, hs, HS⟩ := hrel
          rcases hs with ⟨rfl, rfl⟩ | ⟨j, rfl, rfl⟩
          · go_wp2
            go_ret
            exact ⟨by rw [HS.out]; rfl, rfl⟩
          · obtain ⟨b, off, rfl, hc⟩ := HR.out (L + j) (by omega)
            have c1 := hc (L + j) (by omega)
            clear hc
            by_cases hq : since ≤ T (L + j)
            · have HZ : Hid _ := HS.out.trans (scan_hit T L since j hq)
              go_wp2
              go_ret
              exact ⟨by rw [HZ.out]; rfl, rfl⟩
            · have HZ : Hid (scan T L since n = scan T L since j) := HS.out.trans (by rw [scan, if_neg hq])
              have zq : decide (since ≤ T (L + j)) = false := by simpa using hq
              go_wp2
              go_round
              case rel =>
                refine ⟨j, by omega, ?_, HZ⟩
                cases j with
                | zero => exact Or.inl ⟨rfl, by go_num⟩
                | succ i => exact Or.inr ⟨i, rfl, by go_num⟩
              case measure => simp [intOf]
set_option maxHeartbeats 1000000 in
theorem since_any (g L : Nat) (a : Option Addr) (len cap : Nat) (T : Nat → Int) (below since : Int) (w : World) (hL : L ≤ 65536) (hb1 : -9223372036854775808 ≤ below) (hb2 : below ≤ 9223372036854775807)
    (c0 : w.cell? ⟨g, 0, none⟩ = some (.int .i64 L)) (c1 : w.cell? ⟨g, 1, none⟩ = some (.slice a len cap)) (hr : Row w a len T) (hT : L = 0 ∨ TreeP L len T) :
    Calls Try.prog 20 #[.pointer (some ⟨g, 0, none⟩), .int .i64 below, .int .i64 since] w fun e w' => e = .returned (.int .i64 (scan T L since (lev below L))) ∧ w = w' := by
  have HR : Hid _ := hr
  have HT : Hid _ := hT
  clear hr hT
  by_cases h1 : below ≤ 0
  · have HS : Hid (scan T L since (lev below L) = -1) := by
      have : lev below L = 0 := by unfold lev; omega
      show scan T L since (lev below L) = -1
      rw [this]; rfl
    go_enter Try.func20, Try.ntmps20
    go_wp2
    go_ret
    exact ⟨by rw [HS.out]; rfl, rfl⟩
  · by_cases hL0 : L = 0
    · subst hL0
      have HS : Hid (scan T 0 since (lev below 0) = -1) := by
        have : lev below 0 = 0 := by unfold lev; omega
        show scan T 0 since (lev below 0) = -1
        rw [this]; rfl
      have h2 : (0 : Int) < below := by omega
      go_enter Try.func20, Try.ntmps20
      go_wp2
      go_ret
      exact ⟨by rw [HS.out]; rfl, rfl⟩
    · obtain ⟨hp, hl, hI⟩ : TreeP L len T := by rcases HT.out with h | h; exact absurd h hL0; exact h
      subst hl
      have HP : Hid _ := hp
      have HI : Hid _ := hI
      clear hp hI HT
      obtain ⟨b, off, rfl, hc⟩ := HR.out 0 (by omega)
      have HC : Hid _ := hc
      clear hc HR
      obtain ⟨n, hn⟩ : ∃ n, lev below L = n := ⟨_, rfl⟩
      have hn1 : 1 ≤ n := by unfold lev at hn; omega
      have hn2 : n ≤ L := by unfold lev at hn; omega
      rw [hn]
      by_cases h2 : (L : Int) < below
      · have e : n = L := by unfold lev at hn; omega
        subst e
        clear hn
        go_enter Try.func20, Try.ntmps20
        go_wp2
        go_loop [7] (fun s7 => ∃ i : Nat, s7 = .int .i64 i ∧ Hid (Head T n n since i)) (fun s => (intOf s).toNat)
        case atStart => exact ⟨n + n - 1, by go_num, head_start T n n since HP.out hn1 hn2⟩
        case round =>
          obtain ⟨i, rfl, HH⟩ := hrel
          obtain ⟨hi1, hi2⟩ := head_pos HH.out
          have c2 := HC.out i (by omega)
          by_cases ht : T i < since
          · have HM : Hid _ := head_mid HI.out HH.out ht
            go_wp2
            go_loop [7] (fun s7 => ∃ j : Nat, s7 = .int .i64 j ∧ j ≤ i ∧ Hid (Mid T n n since j)) (fun s => (intOf s).toNat)
            case atStart => exact ⟨i, rfl, Nat.le_refl _, HM⟩
            case round =>
              clear HM c2
              obtain ⟨j, rfl, hji, HM⟩ := hrel
              obtain ⟨hj1, hj2⟩ := mid_pos HM.out
              by_cases he : j % 2 = 0
              · obtain ⟨m, rfl⟩ : ∃ m, j = 2 * m := ⟨j / 2, by omega⟩
                have HU : Hid _ := mid_up HM.out
                have ze : (((2 * m : Nat) : Int) % 2 == 0) = true := by rw [beq_iff_eq]; omega
                clear he
                go_wp2
                go_round
                case rel => exact ⟨m, by go_num, by omega, HU⟩
                case measure => simp [intOf]; omega
              · obtain ⟨m, rfl⟩ : ∃ m, j = 2 * m + 1 := ⟨j / 2, by omega⟩
                have ze : (((2 * m + 1 : Nat) : Int) % 2 == 0) = false := by rw [beq_eq_false_iff_ne]; omega
                clear he
                by_cases hm : m = 0
                · subst hm
                  have HZ : Hid _ := mid_one HM.out
                  go_wp2
                  go_ret
                  exact ⟨by rw [HZ.out]; rfl, rfl⟩
                · have HD : Hid _ := mid_down HM.out (by omega)
                  have z1 : (((2 * m + 1 : Nat) : Int) == 1) = false := by rw [beq_eq_false_iff_ne]; omega
                  clear hm
                  go_wp2
                  exact ⟨⟨2 * m, by go_num, HD⟩, by simp [intOf]; omega⟩
          · have hge : since ≤ T i := by omega
            go_wp2
            go_loop [7] (fun s7 => ∃ j : Nat, s7 = .int .i64 j ∧ Hid (Head T n n since j ∧ since ≤ T j)) (fun s => 2 * n - (intOf s).toNat)
            case atStart => exact ⟨i, rfl, HH.out, hge⟩
            case round =>
              clear c2 ht hge
              obtain ⟨j, rfl, HJ⟩ := hrel
              obtain ⟨hj1, hj2⟩ := head_pos HJ.out.1
              by_cases hj : j < n
              · have c3 := HC.out (2 * j + 1) (by omega)
                have hjI : (j : Int) < (n : Int) := by omega
                by_cases hr : T (2 * j + 1) < since
                · have HN : Hid _ := And.intro (desc_left HI.out HJ.out.1 hj hr) (desc_ge HI.out hj1 hj HJ.out.2 hr)
                  go_wp2
                  go_round
                  case rel => exact ⟨2 * j, by go_num, HN⟩
                  case measure => simp [intOf]; omega
                · have HN : Hid _ := And.intro (desc_right HJ.out.1 hj) (show since ≤ T (2 * j + 1) by omega)
                  go_wp2
                  go_round
                  case rel => exact ⟨2 * j + 1, by go_num, HN⟩
                  case measure => simp [intOf]; omega
              · have HE : Hid _ := head_end HJ.out.1 hj HJ.out.2
                go_wp2
                go_ret
                exact ⟨by rw [HE.out]; rfl, rfl⟩
      · have e : below = (n : Int) := by unfold lev at hn; omega
        subst e
        clear hn
        go_enter Try.func20, Try.ntmps20
        go_wp2
        go_loop [7] (fun s7 => ∃ i : Nat, s7 = .int .i64 i ∧ Hid (Head T L n since i)) (fun s => (intOf s).toNat)
        case atStart => exact ⟨L + n - 1, by go_num, head_start T L n since HP.out hn1 hn2⟩
        case round =>
          obtain ⟨i, rfl, HH⟩ := hrel
          obtain ⟨hi1, hi2⟩ := head_pos HH.out
          have c2 := HC.out i (by omega)
          by_cases ht : T i < since
          · have HM : Hid _ := head_mid HI.out HH.out ht
            go_wp2
            go_loop [7] (fun s7 => ∃ j : Nat, s7 = .int .i64 j ∧ j ≤ i ∧ Hid (Mid T L n since j)) (fun s => (intOf s).toNat)
            case atStart => exact ⟨i, rfl, Nat.le_refl _, HM⟩
            case round =>
              clear HM c2
              obtain ⟨j, rfl, hji, HM⟩ := hrel
              obtain ⟨hj1, hj2⟩ := mid_pos HM.out
              by_cases he : j % 2 = 0
              · obtain ⟨m, rfl⟩ : ∃ m, j = 2 * m := ⟨j / 2, by omega⟩
                have HU : Hid _ := mid_up HM.out
                have ze : (((2 * m : Nat) : Int) % 2 == 0) = true := by rw [beq_iff_eq]; omega
                clear he
                go_wp2
                go_round
                case rel => exact ⟨m, by go_num, by omega, HU⟩
                case measure => simp [intOf]; omega
              · obtain ⟨m, rfl⟩ : ∃ m, j = 2 * m + 1 := ⟨j / 2, by omega⟩
                have ze : (((2 * m + 1 : Nat) : Int) % 2 == 0) = false := by rw [beq_eq_false_iff_ne]; omega
                clear he
                by_cases hm : m = 0
                · subst hm
                  have HZ : Hid _ := mid_one HM.out
                  go_wp2
                  go_ret
                  exact ⟨by rw [HZ.out]; rfl, rfl⟩
                · have HD : Hid _ := mid_down HM.out (by omega)
                  have z1 : (((2 * m + 1 : Nat) : Int) == 1) = false := by rw [beq_eq_false_iff_ne]; omega
                  clear hm
                  go_wp2
                  exact ⟨⟨2 * m, by go_num, HD⟩, by simp [intOf]; omega⟩
          · have hge : since ≤ T i := by omega
            go_wp2
            go_loop [7] (fun s7 => ∃ j : Nat, s7 = .int .i64 j ∧ Hid (Head T L n since j ∧ since ≤ T j)) (fun s => 2 * L - (intOf s).toNat)
            case atStart => exact ⟨i, rfl, HH.out, hge⟩
            case round =>
              clear c2 ht hge
              obtain ⟨j, rfl, HJ⟩ := hrel
              obtain ⟨hj1, hj2⟩ := head_pos HJ.out.1
              by_cases hj : j < L
              · have c3 := HC.out (2 * j + 1) (by omega)
                have hjI : (j : Int) < (L : Int) := by omega
                by_cases hr : T (2 * j + 1) < since
                · have HN : Hid _ := And.intro (desc_left HI.out HJ.out.1 hj hr) (desc_ge HI.out hj1 hj HJ.out.2 hr)
                  go_wp2
                  go_round
                  case rel => exact ⟨2 * j, by go_num, HN⟩
                  case measure => simp [intOf]; omega
                · have HN : Hid _ := And.intro (desc_right HJ.out.1 hj) (show since ≤ T (2 * j + 1) by omega)
                  go_wp2
                  go_round
                  case rel => exact ⟨2 * j + 1, by go_num, HN⟩
                  case measure => simp [intOf]; omega
              · have HE : Hid _ := head_end HJ.out.1 hj HJ.out.2
                go_wp2
                go_ret
                exact ⟨by rw [HE.out]; rfl, rfl⟩
end Go.Proofs.Qxb6605451a
