import Derived.Test.Qxb6605433aOne
namespace Go.Proofs.Qxb6605433a
open Go.RowKit
/-- Does group T hold two bits or more, by g and g less one? -/
def two (won : Int) (T : Nat) : Bool := bits .and .u16 (bits .and .u16 (won / 2 ^ (5 * T)) 31) (IntKind.u16.wrap (bits .and .u16 (won / 2 ^ (5 * T)) 31 - 1)) != 0
def atMostB (won : Int) : Bool := !two won 0 && !two won 1 && !two won 2

theorem group_eq (n T : Nat) (h : n < 65536) : bits .and .u16 ((n : Int) / 2 ^ (5 * T)) 31 = ((n / 2 ^ (5 * T) % 32 : Nat) : Int) := by
  have e : ((n : Int) / 2 ^ (5 * T)) = ((n / 2 ^ (5 * T) : Nat) : Int) := by push_cast; rfl
  have hl : n / 2 ^ (5 * T) ≤ n := Nat.div_le_self _ _
  rw [e, show (31 : Int) = ((31 : Nat) : Int) from rfl, u16_and_nat _ _ (by omega) (by omega)]
  rw [show (31 : Nat) = 2 ^ 5 - 1 from rfl, Nat.and_two_pow_sub_one_eq_mod]
theorem and_pow (n i : Nat) : n &&& 2 ^ i = if n.testBit i then 2 ^ i else 0 := by
  apply Nat.eq_of_testBit_eq
  intro j
  rw [Nat.testBit_and, Nat.testBit_two_pow]
  by_cases e : i = j
  · subst e
    cases n.testBit i <;> simp
  · cases n.testBit i <;> simp [e]
theorem hit_eq (n T k : Nat) (h : n < 65536) (hT : T < 3) (hk : k < 5) : hit n ((T + 1 : Nat) : Int) k = (n / 2 ^ (5 * T) % 32).testBit k := by
  have e1 : wb ((T + 1 : Nat) : Int) k = ((2 ^ (5 * T + k) : Nat) : Int) := by
    unfold wb
    have e2 : ((((T + 1 : Nat) : Int) - 1) * 5 + (k : Int)).toNat = 5 * T + k := by omega
    rw [e2, IntKind.wrap_u16]
    obtain rfl | rfl | rfl : T = 0 ∨ T = 1 ∨ T = 2 := by omega
    all_goals (obtain rfl | rfl | rfl | rfl | rfl : k = 0 ∨ k = 1 ∨ k = 2 ∨ k = 3 ∨ k = 4 := by omega) <;> decide
  have hp : 2 ^ (5 * T + k) < 65536 := by
    have : 2 ^ (5 * T + k) ≤ 2 ^ 14 := Nat.pow_le_pow_right (by omega) (by omega)
    omega
  unfold hit
  rw [e1, u16_and_nat _ _ h hp]
  rw [show (32 : Nat) = 2 ^ 5 from rfl, Nat.testBit_mod_two_pow, ← Nat.shiftRight_eq_div_pow, Nat.testBit_shiftRight]
  simp only [hk, decide_true, Bool.true_and]
  rw [and_pow]
  have hz : 2 ^ (5 * T + k) ≠ 0 := Nat.pos_iff_ne_zero.1 (Nat.pow_pos (by omega))
  cases hb : n.testBit (5 * T + k)
  · simp
  · have : ((2 ^ (5 * T + k) : Nat) : Int) ≠ 0 := by omega
    simp only [if_true, bne_iff_ne, ne_eq]
    exact this
def cntG (g : Nat) : Nat → Nat
  | 0 => 0
  | k + 1 => cntG g k + if g.testBit k then 1 else 0
theorem cnt_eq (n T : Nat) (h : n < 65536) (hT : T < 3) : ∀ k, k ≤ 5 → cnt n ((T + 1 : Nat) : Int) k = cntG (n / 2 ^ (5 * T) % 32) k
  | 0, _ => rfl
  | k + 1, hk => by rw [cnt, cntG, cnt_eq n T h hT k (by omega), hit_eq n T k h hT (by omega)]
theorem group_law : ∀ g : Nat, g < 32 → (bits .and .u16 (g : Int) (IntKind.u16.wrap ((g : Int) - 1)) != 0) = decide (1 < cntG g 5) := by decide +kernel
theorem two_eq (n T : Nat) (h : n < 65536) (hT : T < 3) : two n T = decide (1 < cnt n ((T + 1 : Nat) : Int) 5) := by
  unfold two
  rw [group_eq n T h, cnt_eq n T h hT 5 (by omega)]
  exact group_law _ (Nat.mod_lt _ (by omega))
theorem not_gt (a : Nat) : (!decide (1 < a)) = decide (a ≤ 1) := by
  by_cases h : a ≤ 1
  · have : ¬ 1 < a := by omega
    simp [h, this]
  · have : 1 < a := by omega
    simp [h, this]
theorem law_eq (won : Int) (h0 : 0 ≤ won) (h1 : won ≤ 65535) : oneB won = atMostB won := by
  obtain ⟨n, rfl⟩ := Int.eq_ofNat_of_zero_le h0
  have h : n < 65536 := by omega
  unfold oneB atMostB
  rw [two_eq n 0 h (by omega), two_eq n 1 h (by omega), two_eq n 2 h (by omega), not_gt, not_gt, not_gt]
  rfl

theorem atMostB_false (won : Int) (T : Nat) (h1 : T < 3) (h : two won T = true) : atMostB won = false := by
  obtain rfl | rfl | rfl : T = 0 ∨ T = 1 ∨ T = 2 := by omega
  all_goals simp [atMostB, h]
set_option maxHeartbeats 400000 in
theorem atMost_any (won : Int) (w : World) (_h0 : 0 ≤ won) (_h1 : won ≤ 65535) :
    Calls Try.prog 8 #[.int .u16 won] w fun e w' => e = .returned (.bool (atMostB won)) ∧ w' = w := by
  go_enter Try.func8, Try.ntmps8
  go_wp2
  go_loop [3] (fun s3 => ∃ T : Nat, T ≤ 3 ∧ s3 = .int .u64 T ∧ ∀ T', T' < T → two won T' = false) (fun i => 3 - (intOf i).toNat)
  case atStart =>
    exact ⟨0, by omega, rfl, fun T' h => by omega⟩
  case round =>
    obtain ⟨T, hT1, rfl, hall⟩ := hrel
    have H : Hid (∀ T', T' < T → two won T' = false) := hall
    clear hall
    by_cases hlt : T < 3
    · go_wp2
      · have h2 : two won T = true := by unfold two; assumption
        go_ret
        exact ⟨by rw [atMostB_false won T hlt h2]; rfl, rfl⟩
      · have h2 : two won T = false := by unfold two; assumption
        exact ⟨⟨T + 1, by omega, by go_num, fun T' h => by
          by_cases e : T' = T
          · rw [e]; exact h2
          · exact H.out T' (by omega)⟩, by simp [intOf]; omega⟩
    · obtain rfl : T = 3 := by omega
      go_wp2
      go_ret
      exact ⟨by simp [atMostB, H.out 0 (by omega), H.out 1 (by omega), H.out 2 (by omega)], rfl⟩
end Go.Proofs.Qxb6605433a
