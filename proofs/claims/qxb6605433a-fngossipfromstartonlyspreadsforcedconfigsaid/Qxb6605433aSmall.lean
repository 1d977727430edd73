/- THE WALKS of newer, zzfrsMax, zzfrsKey: functions 20, 10, 11. -/
import Derived.Test.Qxb6605433aBlk
namespace Go.Proofs.Qxb6605433a
open Go.RowKit
/-- Is the config of term c and version v newer than the one of term c' and version v'? -/
def newB (v c v' c' : Int) : Bool := decide (c' < c) || (decide (c = c') && decide (v' < v))
theorem newB_yes1 (v c v' c' : Int) (h : c' < c) : newB v c v' c' = true := by simp [newB, h]
theorem newB_no1 (v c v' c' : Int) (h : ¬ c' < c) (h2 : ¬ c = c') : newB v c v' c' = false := by simp [newB, h, h2]
theorem newB_2 (v c v' c' : Int) (_h : ¬ c' < c) (h2 : c = c') : newB v c v' c' = decide (v' < v) := by simp [newB, h2]
set_option maxHeartbeats 400000 in
theorem newer_any (m v c m' v' c' : Int) (w : World) :
    Calls Try.prog 20 #[.agg #[.int .u8 m, .int .u8 v, .int .u8 c], .agg #[.int .u8 m', .int .u8 v', .int .u8 c']] w
     fun e w' => e = .returned (.bool (newB v c v' c')) ∧ w' = (w.alloc (.cells #[.int .u8 m, .int .u8 v, .int .u8 c] 36)).alloc (.cells #[.int .u8 m', .int .u8 v', .int .u8 c'] 36) := by
  by_cases h1 : c' < c
  · have HB : Hid _ := newB_yes1 v c v' c' h1
    go_enter Try.func20, Try.ntmps20
    go_wp2
    go_ret
    exact ⟨by rw [HB.out]; rfl, rfl⟩
  · by_cases h2 : c = c'
    · have HB : Hid _ := newB_2 v c v' c' h1 h2
      have h3 : (c == c') = true := by simp [h2]
      have H2 : Hid _ := h2
      clear h2
      go_enter Try.func20, Try.ntmps20
      go_wp2
      go_ret
      exact ⟨by rw [HB.out]; rfl, rfl⟩
    · have HB : Hid _ := newB_no1 v c v' c' h1 h2
      have h3 : (c == c') = false := by simp [h2]
      go_enter Try.func20, Try.ntmps20
      go_wp2
      go_ret
      exact ⟨by rw [HB.out]; rfl, rfl⟩
def mx (a b : Int) : Int := if b < a then a else b
set_option maxHeartbeats 400000 in
theorem max_any (a b : Int) (w : World) : Calls Try.prog 10 #[.int .u8 a, .int .u8 b] w fun e w' => e = .returned (.int .u8 (mx a b)) ∧ w' = w := by
  by_cases h : b < a
  · have HB : Hid (mx a b = a) := if_pos h
    go_enter Try.func10, Try.ntmps10
    go_wp2
    go_ret
    exact ⟨by rw [HB.out]; rfl, rfl⟩
  · have HB : Hid (mx a b = b) := if_neg h
    go_enter Try.func10, Try.ntmps10
    go_wp2
    go_ret
    exact ⟨by rw [HB.out]; rfl, rfl⟩
def key (c v : Int) : Int := c * 256 + v
theorem or_key (c v : Int) (h1 : 0 ≤ c) (h2 : c ≤ 255) (h3 : 0 ≤ v) (h4 : v ≤ 255) : bits .or .u16 (c * 256) v = key c v := by
  rw [u16_or _ _ (by omega) (by omega) (by omega) (by omega), nat_join 8 _ _ (by omega) (by omega)]
  unfold key; omega
set_option maxHeartbeats 400000 in
theorem key_any (c v : Int) (w : World) (h1 : 0 ≤ c) (h2 : c ≤ 255) (h3 : 0 ≤ v) (h4 : v ≤ 255) : Calls Try.prog 11 #[.int .u8 c, .int .u8 v] w fun e w' => e = .returned (.int .u16 (key c v)) ∧ w' = w := by
  have HK : Hid _ := or_key c v h1 h2 h3 h4
  go_enter Try.func11, Try.ntmps11
  go_wp2
  go_ret
  exact ⟨by rw [← HK.out]; rfl, rfl⟩
theorem key_lt (v c v' c' : Int) (h3 : 0 ≤ v) (h4 : v ≤ 255) (h5 : 0 ≤ v') (h6 : v' ≤ 255) : decide (key c' v' < key c v) = newB v c v' c' := by
  unfold key newB
  by_cases h : c' < c
  · have : c' * 256 + v' < c * 256 + v := by omega
    simp [h, this]
  · by_cases h2 : c = c'
    · subst h2
      have : (c * 256 + v' < c * 256 + v) ↔ v' < v := by omega
      simp [this]
    · have : ¬ c' * 256 + v' < c * 256 + v := by omega
      simp [h, h2, this]
end Go.Proofs.Qxb6605433a
