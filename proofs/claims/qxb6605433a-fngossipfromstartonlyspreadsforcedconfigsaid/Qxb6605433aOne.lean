import Derived.Test.Qxb6605433aBlk
namespace Go.Proofs.Qxb6605433a
open Go.RowKit

/-- wonBit's answer. -/
def wb (t n : Int) : Int := IntKind.u16.wrap (2 ^ ((t - 1) * 5 + n).toNat)
set_option maxHeartbeats 400000 in
theorem wonBit_any (t n : Int) (w : World) (h1 : 1 ≤ t) (h2 : t ≤ 3) (h3 : 0 ≤ n) (h4 : n ≤ 4) : Calls Try.prog 19 #[.int .u8 t, .int .i64 n] w fun e w' => e = .returned (.int .u16 (wb t n)) ∧ w' = w := by
  go_enter Try.func19, Try.ntmps19
  go_wp2
  go_ret
  exact ⟨rfl, rfl⟩

/-- Did node n win in term t? -/
def hit (won : Int) (t : Int) (n : Nat) : Bool := bits .and .u16 won (wb t n) != 0
/-- How many of the first k nodes did. -/
def cnt (won : Int) (t : Int) : Nat → Nat
  | 0 => 0
  | k + 1 => cnt won t k + if hit won t k then 1 else 0
theorem cnt_le (won t : Int) (k : Nat) : cnt won t k ≤ k := by
  induction k with
  | zero => simp [cnt]
  | succ k ih => unfold cnt; split <;> omega
theorem cnt_hit (won t : Int) (k : Nat) (h : hit won t k = true) : cnt won t (k + 1) = cnt won t k + 1 := by rw [cnt]; simp [h]
theorem cnt_miss (won t : Int) (k : Nat) (h : hit won t k = false) : cnt won t (k + 1) = cnt won t k := by rw [cnt]; simp [h]
def oneB (won : Int) : Bool := decide (cnt won 1 5 ≤ 1) && decide (cnt won 2 5 ≤ 1) && decide (cnt won 3 5 ≤ 1)

theorem oneB_false (won : Int) (T : Nat) (h1 : 1 ≤ T) (h2 : T ≤ 3) (h : 1 < cnt won T 5) : oneB won = false := by
  obtain rfl | rfl | rfl : T = 1 ∨ T = 2 ∨ T = 3 := by omega
  · have : ¬ cnt won 1 5 ≤ 1 := by have := h; simp at this; omega
    simp [oneB, this]
  · have : ¬ cnt won 2 5 ≤ 1 := by have := h; simp at this; omega
    simp [oneB, this]
  · have : ¬ cnt won 3 5 ≤ 1 := by have := h; simp at this; omega
    simp [oneB, this]
theorem Blk.drewN {w : World} {g : Nat} {cs : Array Value} {t : TypeId} (h : Blk w g cs t) (n : Nat) : Blk (w.drewN n) g cs t := h

set_option maxHeartbeats 400000 in
theorem onePrimary_any (m v c t p : Nat → Int) (won : Int) (w : World) :
    Calls Try.prog 15 #[.agg #[.int .u8 (m 0), .int .u8 (v 0), .int .u8 (c 0), .int .u8 (m 1), .int .u8 (v 1), .int .u8 (c 1), .int .u8 (m 2), .int .u8 (v 2), .int .u8 (c 2), .int .u8 (m 3), .int .u8 (v 3), .int .u8 (c 3), .int .u8 (m 4), .int .u8 (v 4), .int .u8 (c 4), .int .u8 (t 0), .int .u8 (t 1), .int .u8 (t 2), .int .u8 (t 3), .int .u8 (t 4), .int .u8 (p 0), .int .u8 (p 1), .int .u8 (p 2), .int .u8 (p 3), .int .u8 (p 4), .int .u16 won]] w fun e w' => e = .returned (.bool (oneB won)) ∧ Below w.heap.size w w' := by
  go_enter Try.func15, Try.ntmps15
  go_wp2
  go_loopw [3] (fun s3 wr => ∃ T : Nat, 1 ≤ T ∧ T ≤ 4 ∧ s3 = .int .u8 T ∧ Below w.heap.size w wr ∧ Blk wr w.heap.size #[.int .u8 (m 0), .int .u8 (v 0), .int .u8 (c 0), .int .u8 (m 1), .int .u8 (v 1), .int .u8 (c 1), .int .u8 (m 2), .int .u8 (v 2), .int .u8 (c 2), .int .u8 (m 3), .int .u8 (v 3), .int .u8 (c 3), .int .u8 (m 4), .int .u8 (v 4), .int .u8 (c 4), .int .u8 (t 0), .int .u8 (t 1), .int .u8 (t 2), .int .u8 (t 3), .int .u8 (t 4), .int .u8 (p 0), .int .u8 (p 1), .int .u8 (p 2), .int .u8 (p 3), .int .u8 (p 4), .int .u16 won] 39 ∧ ∀ T' : Nat, 1 ≤ T' → T' < T → cnt won T' 5 ≤ 1) (fun i _ => 4 - (intOf i).toNat)
  case atStart =>
    exact ⟨1, by omega, by omega, rfl, (Below.refl _ _).alloc (Nat.le_refl _) _, Blk.new _ _ _, fun T' h1 h2 => by omega⟩
  case round =>
    obtain ⟨T, hT1, hT2, rfl, hb, b0, hall⟩ := hrel
    have HB : Hid (Below w.heap.size w wr ∧ Blk wr w.heap.size #[.int .u8 (m 0), .int .u8 (v 0), .int .u8 (c 0), .int .u8 (m 1), .int .u8 (v 1), .int .u8 (c 1), .int .u8 (m 2), .int .u8 (v 2), .int .u8 (c 2), .int .u8 (m 3), .int .u8 (v 3), .int .u8 (c 3), .int .u8 (m 4), .int .u8 (v 4), .int .u8 (c 4), .int .u8 (t 0), .int .u8 (t 1), .int .u8 (t 2), .int .u8 (t 3), .int .u8 (t 4), .int .u8 (p 0), .int .u8 (p 1), .int .u8 (p 2), .int .u8 (p 3), .int .u8 (p 4), .int .u16 won] 39 ∧ ∀ T' : Nat, 1 ≤ T' → T' < T → cnt won T' 5 ≤ 1) := ⟨hb, b0, hall⟩
    clear hb b0 hall
    by_cases hlt : T < 4
    · have hd : decide ((T : Int) ≤ 3) = true := by simp; omega
      go_wp2
      go_loopw [4, 10] (fun s4 s10 wq => ∃ k : Nat, k ≤ 5 ∧ s10 = .int .i64 k ∧ s4 = .int .i64 (cnt won T k : Nat) ∧ Below w.heap.size w wq ∧ Blk wq w.heap.size #[.int .u8 (m 0), .int .u8 (v 0), .int .u8 (c 0), .int .u8 (m 1), .int .u8 (v 1), .int .u8 (c 1), .int .u8 (m 2), .int .u8 (v 2), .int .u8 (c 2), .int .u8 (m 3), .int .u8 (v 3), .int .u8 (c 3), .int .u8 (m 4), .int .u8 (v 4), .int .u8 (c 4), .int .u8 (t 0), .int .u8 (t 1), .int .u8 (t 2), .int .u8 (t 3), .int .u8 (t 4), .int .u8 (p 0), .int .u8 (p 1), .int .u8 (p 2), .int .u8 (p 3), .int .u8 (p 4), .int .u16 won] 39) (fun _ i _ => 5 - (intOf i).toNat)
      case atStart => exact ⟨0, by omega, rfl, rfl, HB.out.1, HB.out.2.1⟩
      case round =>
        obtain ⟨k, hk, rfl, rfl, hbq, bq⟩ := hrel
        have hcw := bq.cell 25
        simp at hcw
        have hcl := cnt_le won T k
        have HQ : Hid (Below w.heap.size w wr ∧ Blk wr w.heap.size #[.int .u8 (m 0), .int .u8 (v 0), .int .u8 (c 0), .int .u8 (m 1), .int .u8 (v 1), .int .u8 (c 1), .int .u8 (m 2), .int .u8 (v 2), .int .u8 (c 2), .int .u8 (m 3), .int .u8 (v 3), .int .u8 (c 3), .int .u8 (m 4), .int .u8 (v 4), .int .u8 (c 4), .int .u8 (t 0), .int .u8 (t 1), .int .u8 (t 2), .int .u8 (t 3), .int .u8 (t 4), .int .u8 (p 0), .int .u8 (p 1), .int .u8 (p 2), .int .u8 (p 3), .int .u8 (p 4), .int .u16 won] 39) := ⟨hbq, bq⟩
        clear hbq bq
        by_cases hk5 : k < 5
        · go_wp2
          go_quiet ((go_at_call 19; exact Calls.quiet_of_same (wonBit_any _ _ _ (by omega) (by omega) (by omega) (by omega))))
          go_wp2
          · have hh : hit won T k = true := by unfold hit; assumption
            have HS : Hid (cnt won T (k + 1) = cnt won T k + 1) := cnt_hit won T k hh
            exact ⟨⟨k + 1, by omega, by go_num, by rw [HS.out]; go_num, below_drewN HQ.out.1 nq, HQ.out.2.drewN nq⟩, by simp [intOf]; omega⟩
          · have hh : hit won T k = false := by unfold hit; assumption
            have HS : Hid (cnt won T (k + 1) = cnt won T k) := cnt_miss won T k hh
            exact ⟨⟨k + 1, by omega, by go_num, by rw [HS.out], below_drewN HQ.out.1 nq, HQ.out.2.drewN nq⟩, by simp [intOf]; omega⟩
        · obtain rfl : k = 5 := by omega
          go_wp2
          · have hgt : 1 < cnt won T 5 := by omega
            go_ret
            exact ⟨by rw [oneB_false won T hT1 (by omega) hgt]; rfl, HQ.out.1⟩
          · have hle : cnt won T 5 ≤ 1 := by omega
            exact ⟨⟨T + 1, by omega, by omega, by go_num, HQ.out.1, HQ.out.2, fun T' h1 h2 => by
              by_cases e : T' = T
              · rw [e]; exact hle
              · exact HB.out.2.2 T' h1 (by omega)⟩, by simp [intOf]; omega⟩
    · go_wp2
      go_ret
      have hT : T = 4 := by omega
      subst hT
      have h1 := HB.out.2.2 1 (by omega) (by omega)
      have h2 := HB.out.2.2 2 (by omega) (by omega)
      have h3 := HB.out.2.2 3 (by omega) (by omega)
      exact ⟨by simp [oneB]; exact ⟨⟨h1, h2⟩, h3⟩, HB.out.1⟩
end Go.Proofs.Qxb6605433a
