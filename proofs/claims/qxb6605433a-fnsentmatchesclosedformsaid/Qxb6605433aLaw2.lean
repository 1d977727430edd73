/- THE WALK of FnSentMatchesClosedForm: function 4. -/
import Derived.Test.Qxb6605433aZZSent
namespace Go.Proofs.Qxb6605433a
open Go.RowKit
/-- The world behind the delivery: the five arguments' boxes, the five results' boxes from block g on. -/
structure L2 (w : World) (m v c t p m' v' c' t' p' : Nat → Int) (g : Nat) (wq : World) : Prop where
  bel : Below w.heap.size w wq
  bm : Blk wq (w.heap.size) #[.int .u8 (m 0), .int .u8 (m 1), .int .u8 (m 2), .int .u8 (m 3), .int .u8 (m 4)] 22
  bv : Blk wq (w.heap.size + 1) #[.int .u8 (v 0), .int .u8 (v 1), .int .u8 (v 2), .int .u8 (v 3), .int .u8 (v 4)] 22
  bc : Blk wq (w.heap.size + 1 + 1) #[.int .u8 (c 0), .int .u8 (c 1), .int .u8 (c 2), .int .u8 (c 3), .int .u8 (c 4)] 22
  bt : Blk wq (w.heap.size + 1 + 1 + 1) #[.int .u8 (t 0), .int .u8 (t 1), .int .u8 (t 2), .int .u8 (t 3), .int .u8 (t 4)] 22
  bp : Blk wq (w.heap.size + 1 + 1 + 1 + 1) #[.int .u8 (p 0), .int .u8 (p 1), .int .u8 (p 2), .int .u8 (p 3), .int .u8 (p 4)] 22
  om : Blk wq g #[.int .u8 (m' 0), .int .u8 (m' 1), .int .u8 (m' 2), .int .u8 (m' 3), .int .u8 (m' 4)] 22
  ov : Blk wq (g + 1) #[.int .u8 (v' 0), .int .u8 (v' 1), .int .u8 (v' 2), .int .u8 (v' 3), .int .u8 (v' 4)] 22
  oc : Blk wq (g + 1 + 1) #[.int .u8 (c' 0), .int .u8 (c' 1), .int .u8 (c' 2), .int .u8 (c' 3), .int .u8 (c' 4)] 22
  ot : Blk wq (g + 1 + 1 + 1) #[.int .u8 (t' 0), .int .u8 (t' 1), .int .u8 (t' 2), .int .u8 (t' 3), .int .u8 (t' 4)] 22
  op : Blk wq (g + 1 + 1 + 1 + 1) #[.int .u8 (p' 0), .int .u8 (p' 1), .int .u8 (p' 2), .int .u8 (p' 3), .int .u8 (p' 4)] 22
theorem L2.drewN {w : World} {m v c t p m' v' c' t' p' : Nat → Int} {g : Nat} {wq : World} (h : L2 w m v c t p m' v' c' t' p' g wq) (n : Nat) : L2 w m v c t p m' v' c' t' p' g (wq.drewN n) :=
  ⟨below_drewN h.bel n, h.bm, h.bv, h.bc, h.bt, h.bp, h.om, h.ov, h.oc, h.ot, h.op⟩
theorem L2.made (w w1 : World) (m v c t p m' v' c' t' p' : Nat → Int)
    (hb : Below (((((w.alloc (.cells #[.int .u8 (m 0), .int .u8 (m 1), .int .u8 (m 2), .int .u8 (m 3), .int .u8 (m 4)] 22)).alloc (.cells #[.int .u8 (v 0), .int .u8 (v 1), .int .u8 (v 2), .int .u8 (v 3), .int .u8 (v 4)] 22)).alloc (.cells #[.int .u8 (c 0), .int .u8 (c 1), .int .u8 (c 2), .int .u8 (c 3), .int .u8 (c 4)] 22)).alloc (.cells #[.int .u8 (t 0), .int .u8 (t 1), .int .u8 (t 2), .int .u8 (t 3), .int .u8 (t 4)] 22)).alloc (.cells #[.int .u8 (p 0), .int .u8 (p 1), .int .u8 (p 2), .int .u8 (p 3), .int .u8 (p 4)] 22)).heap.size (((((w.alloc (.cells #[.int .u8 (m 0), .int .u8 (m 1), .int .u8 (m 2), .int .u8 (m 3), .int .u8 (m 4)] 22)).alloc (.cells #[.int .u8 (v 0), .int .u8 (v 1), .int .u8 (v 2), .int .u8 (v 3), .int .u8 (v 4)] 22)).alloc (.cells #[.int .u8 (c 0), .int .u8 (c 1), .int .u8 (c 2), .int .u8 (c 3), .int .u8 (c 4)] 22)).alloc (.cells #[.int .u8 (t 0), .int .u8 (t 1), .int .u8 (t 2), .int .u8 (t 3), .int .u8 (t 4)] 22)).alloc (.cells #[.int .u8 (p 0), .int .u8 (p 1), .int .u8 (p 2), .int .u8 (p 3), .int .u8 (p 4)] 22)) w1) :
    L2 w m v c t p m' v' c' t' p' w1.heap.size (((((w1.alloc (.cells #[.int .u8 (m' 0), .int .u8 (m' 1), .int .u8 (m' 2), .int .u8 (m' 3), .int .u8 (m' 4)] 22)).alloc (.cells #[.int .u8 (v' 0), .int .u8 (v' 1), .int .u8 (v' 2), .int .u8 (v' 3), .int .u8 (v' 4)] 22)).alloc (.cells #[.int .u8 (c' 0), .int .u8 (c' 1), .int .u8 (c' 2), .int .u8 (c' 3), .int .u8 (c' 4)] 22)).alloc (.cells #[.int .u8 (t' 0), .int .u8 (t' 1), .int .u8 (t' 2), .int .u8 (t' 3), .int .u8 (t' 4)] 22)).alloc (.cells #[.int .u8 (p' 0), .int .u8 (p' 1), .int .u8 (p' 2), .int .u8 (p' 3), .int .u8 (p' 4)] 22)) := by
  have hs := hb.size
  simp at hs
  have b0 := Below.trans ((((((Below.refl w.heap.size w).alloc (Nat.le_refl _) _).alloc (by simp) _).alloc (by simp <;> omega) _).alloc (by simp <;> omega) _).alloc (by simp <;> omega) _) (hb.mono (by simp <;> omega))
  have c0 := ((((Blk.newAt w #[.int .u8 (m 0), .int .u8 (m 1), .int .u8 (m 2), .int .u8 (m 3), .int .u8 (m 4)] 22 _ rfl).old (.cells #[.int .u8 (v 0), .int .u8 (v 1), .int .u8 (v 2), .int .u8 (v 3), .int .u8 (v 4)] 22)).old (.cells #[.int .u8 (c 0), .int .u8 (c 1), .int .u8 (c 2), .int .u8 (c 3), .int .u8 (c 4)] 22)).old (.cells #[.int .u8 (t 0), .int .u8 (t 1), .int .u8 (t 2), .int .u8 (t 3), .int .u8 (t 4)] 22)).old (.cells #[.int .u8 (p 0), .int .u8 (p 1), .int .u8 (p 2), .int .u8 (p 3), .int .u8 (p 4)] 22)
  have c1 := (((Blk.newAt (w.alloc (.cells #[.int .u8 (m 0), .int .u8 (m 1), .int .u8 (m 2), .int .u8 (m 3), .int .u8 (m 4)] 22)) #[.int .u8 (v 0), .int .u8 (v 1), .int .u8 (v 2), .int .u8 (v 3), .int .u8 (v 4)] 22 (w.heap.size + 1) (by simp)).old (.cells #[.int .u8 (c 0), .int .u8 (c 1), .int .u8 (c 2), .int .u8 (c 3), .int .u8 (c 4)] 22)).old (.cells #[.int .u8 (t 0), .int .u8 (t 1), .int .u8 (t 2), .int .u8 (t 3), .int .u8 (t 4)] 22)).old (.cells #[.int .u8 (p 0), .int .u8 (p 1), .int .u8 (p 2), .int .u8 (p 3), .int .u8 (p 4)] 22)
  have c2 := ((Blk.newAt ((w.alloc (.cells #[.int .u8 (m 0), .int .u8 (m 1), .int .u8 (m 2), .int .u8 (m 3), .int .u8 (m 4)] 22)).alloc (.cells #[.int .u8 (v 0), .int .u8 (v 1), .int .u8 (v 2), .int .u8 (v 3), .int .u8 (v 4)] 22)) #[.int .u8 (c 0), .int .u8 (c 1), .int .u8 (c 2), .int .u8 (c 3), .int .u8 (c 4)] 22 (w.heap.size + 1 + 1) (by simp)).old (.cells #[.int .u8 (t 0), .int .u8 (t 1), .int .u8 (t 2), .int .u8 (t 3), .int .u8 (t 4)] 22)).old (.cells #[.int .u8 (p 0), .int .u8 (p 1), .int .u8 (p 2), .int .u8 (p 3), .int .u8 (p 4)] 22)
  have c3 := (Blk.newAt (((w.alloc (.cells #[.int .u8 (m 0), .int .u8 (m 1), .int .u8 (m 2), .int .u8 (m 3), .int .u8 (m 4)] 22)).alloc (.cells #[.int .u8 (v 0), .int .u8 (v 1), .int .u8 (v 2), .int .u8 (v 3), .int .u8 (v 4)] 22)).alloc (.cells #[.int .u8 (c 0), .int .u8 (c 1), .int .u8 (c 2), .int .u8 (c 3), .int .u8 (c 4)] 22)) #[.int .u8 (t 0), .int .u8 (t 1), .int .u8 (t 2), .int .u8 (t 3), .int .u8 (t 4)] 22 (w.heap.size + 1 + 1 + 1) (by simp)).old (.cells #[.int .u8 (p 0), .int .u8 (p 1), .int .u8 (p 2), .int .u8 (p 3), .int .u8 (p 4)] 22)
  have c4 := Blk.newAt ((((w.alloc (.cells #[.int .u8 (m 0), .int .u8 (m 1), .int .u8 (m 2), .int .u8 (m 3), .int .u8 (m 4)] 22)).alloc (.cells #[.int .u8 (v 0), .int .u8 (v 1), .int .u8 (v 2), .int .u8 (v 3), .int .u8 (v 4)] 22)).alloc (.cells #[.int .u8 (c 0), .int .u8 (c 1), .int .u8 (c 2), .int .u8 (c 3), .int .u8 (c 4)] 22)).alloc (.cells #[.int .u8 (t 0), .int .u8 (t 1), .int .u8 (t 2), .int .u8 (t 3), .int .u8 (t 4)] 22)) #[.int .u8 (p 0), .int .u8 (p 1), .int .u8 (p 2), .int .u8 (p 3), .int .u8 (p 4)] 22 (w.heap.size + 1 + 1 + 1 + 1) (by simp)
  exact ⟨((((b0.alloc (by omega) _).alloc (by simp <;> omega) _).alloc (by simp <;> omega) _).alloc (by simp <;> omega) _).alloc (by simp <;> omega) _,
    (((((c0.below hb (by simp <;> omega)).old _).old _).old _).old _).old _, (((((c1.below hb (by simp <;> omega)).old _).old _).old _).old _).old _, (((((c2.below hb (by simp <;> omega)).old _).old _).old _).old _).old _,
    (((((c3.below hb (by simp <;> omega)).old _).old _).old _).old _).old _, (((((c4.below hb (by simp <;> omega)).old _).old _).old _).old _).old _,
    ((((Blk.newAt _ _ _ _ rfl).old _).old _).old _).old _, (((Blk.newAt _ _ _ _ (by simp)).old _).old _).old _, ((Blk.newAt _ _ _ _ (by simp)).old _).old _, (Blk.newAt _ _ _ _ (by simp)).old _, Blk.newAt _ _ _ _ (by simp)⟩

theorem sT_i (t : Nat → Int) (i j : Nat) : sT t i j i = mx (t i) (t j) := by
  unfold sT mx
  by_cases h : t i < t j
  · have : ¬ t j < t i := by omega
    simp [h, this, upd]
  · by_cases h2 : t j < t i
    · simp [h, h2, upd]
    · have : t i = t j := by omega
      simp [this]
theorem sT_j (t : Nat → Int) (i j : Nat) : sT t i j j = mx (t i) (t j) := by
  unfold sT mx
  by_cases h : t i < t j
  · have : ¬ t j < t i := by omega
    simp [h, this, upd]
  · by_cases h2 : t j < t i
    · simp [h, h2, upd]
    · have : t i = t j := by omega
      simp [this]
theorem sT_other (t : Nat → Int) (i j k : Nat) (h1 : k ≠ i) (h2 : k ≠ j) : sT t i j k = t k := by
  unfold sT
  split
  · simp [upd, h1]
  · split
    · simp [upd, h2]
    · rfl
theorem sP_other (t p : Nat → Int) (i j k : Nat) (h1 : k ≠ i) (h2 : k ≠ j) : sP t p i j k = p k := by
  unfold sP
  split
  · simp [upd, h1]
  · split
    · simp [upd, h2]
    · rfl
theorem mx_gt (a b : Int) (h : a < mx a b) : a < b := by unfold mx at h; split at h <;> omega
theorem mx_ge (a b : Int) (h : ¬ a < mx a b) : ¬ a < b := by
  unfold mx at h
  split at h <;> omega
theorem mx_gt' (a b : Int) (h : b < mx a b) : b < a := by unfold mx at h; split at h <;> omega
theorem mx_ge' (a b : Int) (h : ¬ b < mx a b) : ¬ b < a := by
  unfold mx at h
  split at h <;> omega
theorem sP_i0 (t p : Nat → Int) (i j : Nat) (h : t i < mx (t i) (t j)) : sP t p i j i = 0 := by
  have := mx_gt _ _ h
  simp [sP, this, upd]
theorem sP_i1 (t p : Nat → Int) (i j : Nat) (h : ¬ t i < mx (t i) (t j)) : sP t p i j i = p i := by
  have h1 := mx_ge _ _ h
  unfold sP
  rw [if_neg h1]
  split
  · rename_i h2
    have : i ≠ j := by intro e; subst e; omega
    simp [upd, this]
  · rfl
theorem sP_j0 (t p : Nat → Int) (i j : Nat) (h : t j < mx (t i) (t j)) : sP t p i j j = 0 := by
  have h1 := mx_gt' _ _ h
  have h2 : ¬ t i < t j := by omega
  simp [sP, h1, h2, upd]
theorem sP_j1 (t p : Nat → Int) (i j : Nat) (h : ¬ t j < mx (t i) (t j)) : sP t p i j j = p j := by
  have h1 := mx_ge' _ _ h
  unfold sP
  split
  · rename_i h2
    have : j ≠ i := by intro e; subst e; omega
    simp [upd, this]
  · rfl
theorem sF_other (b : Bool) (f : Nat → Int) (i j k : Nat) (h : k ≠ j) : sF b f i j k = f k := by
  cases b <;> simp [sF, upd, h]
theorem sF_j1 (f : Nat → Int) (i j : Nat) : sF true f i j j = f i := by simp [sF, upd]
theorem sF_j0 (f : Nat → Int) (i j : Nat) : sF false f i j j = f j := by simp [sF]
theorem tk_ge (v c t : Nat → Int) (i j : Nat) (h : t j ≤ t i) (hvb : ∀ k, 0 ≤ v k ∧ v k ≤ 255) : decide (key (c j) (v j) < key (c i) (v i)) = tk v c t i j := by
  have h1 : ¬ t i < t j := by omega
  rw [key_lt _ _ _ _ (hvb i).1 (hvb i).2 (hvb j).1 (hvb j).2]
  simp [tk, h1]
theorem tk_lt (v c t : Nat → Int) (i j : Nat) (h : ¬ t j ≤ t i) : false = tk v c t i j := by
  have h1 : t i < t j := by omega
  simp [tk, h1]
theorem tk_self (v c t : Nat → Int) (k : Nat) : tk v c t k k = false := by simp [tk, newB]
theorem ne_of {a b : Int} (h : a = b) : (a != b) = false := by simp [h]
set_option maxRecDepth 100000 in
set_option maxHeartbeats 400000 in
theorem law2_out (m v c t p : Nat → Int) (won i j : Int) (h : i < 0 ∨ 5 ≤ i ∨ j < 0 ∨ 5 ≤ j) (w : World) :
    Calls Try.prog 4 #[.agg #[.int .u8 (m 0), .int .u8 (m 1), .int .u8 (m 2), .int .u8 (m 3), .int .u8 (m 4)], .agg #[.int .u8 (v 0), .int .u8 (v 1), .int .u8 (v 2), .int .u8 (v 3), .int .u8 (v 4)], .agg #[.int .u8 (c 0), .int .u8 (c 1), .int .u8 (c 2), .int .u8 (c 3), .int .u8 (c 4)], .agg #[.int .u8 (t 0), .int .u8 (t 1), .int .u8 (t 2), .int .u8 (t 3), .int .u8 (t 4)], .agg #[.int .u8 (p 0), .int .u8 (p 1), .int .u8 (p 2), .int .u8 (p 3), .int .u8 (p 4)], .int .u16 won, .int .i64 i, .int .i64 j] w fun e w' => e = .returned (.bool true) ∧ Below w.heap.size w w' := by
  have fin : Below w.heap.size w (((((w.alloc (.cells #[.int .u8 (m 0), .int .u8 (m 1), .int .u8 (m 2), .int .u8 (m 3), .int .u8 (m 4)] 22)).alloc (.cells #[.int .u8 (v 0), .int .u8 (v 1), .int .u8 (v 2), .int .u8 (v 3), .int .u8 (v 4)] 22)).alloc (.cells #[.int .u8 (c 0), .int .u8 (c 1), .int .u8 (c 2), .int .u8 (c 3), .int .u8 (c 4)] 22)).alloc (.cells #[.int .u8 (t 0), .int .u8 (t 1), .int .u8 (t 2), .int .u8 (t 3), .int .u8 (t 4)] 22)).alloc (.cells #[.int .u8 (p 0), .int .u8 (p 1), .int .u8 (p 2), .int .u8 (p 3), .int .u8 (p 4)] 22)) :=
    (((((Below.refl _ _).alloc (Nat.le_refl _) _).alloc (by simp) _).alloc (by simp <;> omega) _).alloc (by simp <;> omega) _).alloc (by simp <;> omega) _
  by_cases h1 : i < 0
  · go_enter Try.func4, Try.ntmps4
    go_wp2
    go_ret
    exact ⟨rfl, fin⟩
  · by_cases h2 : 5 ≤ i
    · go_enter Try.func4, Try.ntmps4
      go_wp2
      go_ret
      exact ⟨rfl, fin⟩
    · by_cases h3 : j < 0
      · go_enter Try.func4, Try.ntmps4
        go_wp2
        go_ret
        exact ⟨rfl, fin⟩
      · have h4 : 5 ≤ j := by omega
        go_enter Try.func4, Try.ntmps4
        go_wp2
        go_ret
        exact ⟨rfl, fin⟩
set_option maxRecDepth 100000 in
set_option maxHeartbeats 1000000 in
theorem law2_in (m v c t p : Nat → Int) (won : Int) (i j : Nat) (hi : i < 5) (hj : j < 5) (w : World)
    (hcb : ∀ k, 0 ≤ c k ∧ c k ≤ 255) (hvb : ∀ k, 0 ≤ v k ∧ v k ≤ 255) :
    Calls Try.prog 4 #[.agg #[.int .u8 (m 0), .int .u8 (m 1), .int .u8 (m 2), .int .u8 (m 3), .int .u8 (m 4)], .agg #[.int .u8 (v 0), .int .u8 (v 1), .int .u8 (v 2), .int .u8 (v 3), .int .u8 (v 4)], .agg #[.int .u8 (c 0), .int .u8 (c 1), .int .u8 (c 2), .int .u8 (c 3), .int .u8 (c 4)], .agg #[.int .u8 (t 0), .int .u8 (t 1), .int .u8 (t 2), .int .u8 (t 3), .int .u8 (t 4)], .agg #[.int .u8 (p 0), .int .u8 (p 1), .int .u8 (p 2), .int .u8 (p 3), .int .u8 (p 4)], .int .u16 won, .int .i64 i, .int .i64 j] w fun e w' => e = .returned (.bool true) ∧ Below w.heap.size w w' := by
  have a1 : decide ((i : Int) < 0) = false := by simp
  have a2 : decide (5 ≤ (i : Int)) = false := by simp; omega
  have a3 : decide ((j : Int) < 0) = false := by simp
  have a4 : decide (5 ≤ (j : Int)) = false := by simp; omega
  go_enter Try.func4, Try.ntmps4
  go_upto_region 3 with fail
  go_cut [17, 18, 19, 20, 21, 22] from 31 to 173 (fun s17 s18 s19 s20 s21 s22 wq => ∃ g, s17 = .pointer (some ⟨g, 0, none⟩) ∧ s18 = .pointer (some ⟨g + 1, 0, none⟩) ∧ s19 = .pointer (some ⟨g + 1 + 1, 0, none⟩) ∧ s20 = .pointer (some ⟨g + 1 + 1 + 1, 0, none⟩) ∧ s21 = .pointer (some ⟨g + 1 + 1 + 1 + 1, 0, none⟩) ∧ s22 = .int .u16 won ∧ L2 w m v c t p (sF (tk v c t i j) m i j) (sF (tk v c t i j) v i j) (sF (tk v c t i j) c i j) (sT t i j) (sP t p i j) g wq)
  case first =>
    go_wp2_with fail
    refine (zzSent_any m v c t p won i j hi hj _).mono ?_
    rintro e w1 ⟨rfl, hb⟩
    go_wp2_with fail
    go_meet
    case rel =>
      exact ⟨_, rfl, rfl, rfl, rfl, rfl, rfl, L2.made w w1 m v c t p _ _ _ _ _ hb⟩
  case rest =>
    obtain ⟨g, rfl, rfl, rfl, rfl, rfl, rfl, L⟩ := hcut
    have hiI : (i : Int) < 5 := by omega
    have hjI : (j : Int) < 5 := by omega
    have hi0 : (0 : Int) ≤ (i : Int) := by omega
    have hj0 : (0 : Int) ≤ (j : Int) := by omega
    clear a1 a2 a3 a4
    go_upto_region 4 with fail
    go_cut [23] from 31 to 173 (fun s23 wq => s23 = .int .u8 (mx (t i) (t j)) ∧ L2 w m v c t p (sF (tk v c t i j) m i j) (sF (tk v c t i j) v i j) (sF (tk v c t i j) c i j) (sT t i j) (sP t p i j) g wq)
    case first =>
      have hti := (L.bt.cell _).trans (a5_at t i hi)
      have htj := (L.bt.cell _).trans (a5_at t j hj)
      have HL : Hid _ := L
      clear L
      go_quiet ((go_at_call 10; exact Calls.quiet_of_same (max_any _ _ _)))
      go_wp2
      go_meet
      case rel => exact ⟨rfl, HL.out.drewN _⟩
    case rest =>
    clear L
    obtain ⟨rfl, L⟩ := hcut
    have hti := (L.bt.cell _).trans (a5_at t i hi)
    have htj := (L.bt.cell _).trans (a5_at t j hj)
    have hvi := (L.bv.cell _).trans (a5_at v i hi)
    have hvj := (L.bv.cell _).trans (a5_at v j hj)
    have hci := (L.bc.cell _).trans (a5_at c i hi)
    have hcj := (L.bc.cell _).trans (a5_at c j hj)
    have HL : Hid _ := L
    clear L
    go_upto_region 5 with fail
    go_cut [24] from 31 to 173 (fun s24 wq => s24 = .bool (tk v c t i j) ∧ L2 w m v c t p (sF (tk v c t i j) m i j) (sF (tk v c t i j) v i j) (sF (tk v c t i j) c i j) (sT t i j) (sP t p i j) g wq)
    case first =>
      by_cases hg : t j ≤ t i
      · have HK : Hid _ := tk_ge v c t i j hg hvb
        have k1 := hcb i
        have k2 := hcb j
        have k3 := hvb i
        have k4 := hvb j
        go_quiet ((go_at_call 11; exact Calls.quiet_of_same (key_any _ _ _ (by omega) (by omega) (by omega) (by omega))))
        go_wp2
        go_meet
        case rel => exact ⟨by rw [← HK.out], HL.out.drewN _⟩
      · have HK : Hid _ := tk_lt v c t i j hg
        have hgd : decide (t j ≤ t i) = false := by simpa using hg
        go_quiet (fail)
        go_wp2
        go_meet
        case rel => exact ⟨by rw [← HK.out], HL.out.drewN _⟩
    case rest =>
      clear hti htj hvi hvj hci hcj HL
      obtain ⟨rfl, L⟩ := hcut
      generalize hbt : tk v c t i j = bt at L ⊢
      have HT : Hid _ := hbt
      clear hbt
      cases bt
      · go_wp2
        go_loopw [25] (fun s25 wq => ∃ k : Nat, k ≤ 5 ∧ s25 = .int .i64 k ∧ L2 w m v c t p (sF false m i j) (sF false v i j) (sF false c i j) (sT t i j) (sP t p i j) g wq) (fun i _ => 5 - (intOf i).toNat)
        case atStart => exact ⟨0, by omega, rfl, L⟩
        case round =>
          clear L
          obtain ⟨k, hk, rfl, L⟩ := hrel
          by_cases hk5 : k < 5
          · have xm := (L.bm.cell _).trans (a5_at m k hk5)
            have xv := (L.bv.cell _).trans (a5_at v k hk5)
            have xc := (L.bc.cell _).trans (a5_at c k hk5)
            have xt := (L.bt.cell _).trans (a5_at t k hk5)
            have xp := (L.bp.cell _).trans (a5_at p k hk5)
            have ym := (L.om.cell _).trans (a5_at _ k hk5)
            have yv := (L.ov.cell _).trans (a5_at _ k hk5)
            have yc := (L.oc.cell _).trans (a5_at _ k hk5)
            have yt := (L.ot.cell _).trans (a5_at _ k hk5)
            have yp := (L.op.cell _).trans (a5_at _ k hk5)
            have hkI : (k : Int) < 5 := by omega
            have hk0 : (0 : Int) ≤ (k : Int) := by omega
            have HL : Hid _ := L
            by_cases e2 : k = j
            · subst e2
              have zt := ne_of (sT_j t i k)
              by_cases e1 : k = i
              · subst e1
                have hl : ¬ t k < mx (t k) (t k) := by simp [mx]
                have zp := ne_of (sP_j1 t p k k hl)
                have zm := ne_of (sF_j0 m k k)
                have zv := ne_of (sF_j0 v k k)
                have zc := ne_of (sF_j0 c k k)
                clear L
                go_wp2
                go_quiet (fail)
                go_wp2
                exact ⟨⟨k + 1, by omega, by go_num, HL.out.drewN _⟩, by simp [intOf]; omega⟩
              · have n1 : ((k : Int) == (i : Int)) = false := by rw [beq_eq_false_iff_ne]; omega
                have xmi := (L.bm.cell _).trans (a5_at m i hi)
                have xvi := (L.bv.cell _).trans (a5_at v i hi)
                have xci := (L.bc.cell _).trans (a5_at c i hi)
                have zm := ne_of (sF_j0 m i k)
                have zv := ne_of (sF_j0 v i k)
                have zc := ne_of (sF_j0 c i k)
                by_cases hl : t k < mx (t i) (t k)
                · have zp := ne_of (sP_j0 t p i k hl)
                  clear L
                  go_wp2
                  go_quiet (fail)
                  go_wp2
                  exact ⟨⟨k + 1, by omega, by go_num, HL.out.drewN _⟩, by simp [intOf]; omega⟩
                · have zp := ne_of (sP_j1 t p i k hl)
                  clear L
                  go_wp2
                  go_quiet (fail)
                  go_wp2
                  exact ⟨⟨k + 1, by omega, by go_num, HL.out.drewN _⟩, by simp [intOf]; omega⟩
            · have n2 : ((k : Int) == (j : Int)) = false := by rw [beq_eq_false_iff_ne]; omega
              have zm := ne_of (sF_other false m i j k e2)
              have zv := ne_of (sF_other false v i j k e2)
              have zc := ne_of (sF_other false c i j k e2)
              by_cases e1 : k = i
              · subst e1
                have zt := ne_of (sT_i t k j)
                by_cases hl : t k < mx (t k) (t j)
                · have zp := ne_of (sP_i0 t p k j hl)
                  clear L
                  go_wp2
                  go_quiet (fail)
                  go_wp2
                  exact ⟨⟨k + 1, by omega, by go_num, HL.out.drewN _⟩, by simp [intOf]; omega⟩
                · have zp := ne_of (sP_i1 t p k j hl)
                  clear L
                  go_wp2
                  go_quiet (fail)
                  go_wp2
                  exact ⟨⟨k + 1, by omega, by go_num, HL.out.drewN _⟩, by simp [intOf]; omega⟩
              · have n1 : ((k : Int) == (i : Int)) = false := by rw [beq_eq_false_iff_ne]; omega
                have zt := ne_of (sT_other t i j k e1 e2)
                have zp := ne_of (sP_other t p i j k e1 e2)
                clear L
                go_wp2
                go_quiet (fail)
                go_wp2
                exact ⟨⟨k + 1, by omega, by go_num, HL.out.drewN _⟩, by simp [intOf]; omega⟩
          · obtain rfl : k = 5 := by omega
            go_wp2
            go_ret
            exact ⟨by simp, L.bel⟩
      · go_wp2
        go_loopw [25] (fun s25 wq => ∃ k : Nat, k ≤ 5 ∧ s25 = .int .i64 k ∧ L2 w m v c t p (sF true m i j) (sF true v i j) (sF true c i j) (sT t i j) (sP t p i j) g wq) (fun i _ => 5 - (intOf i).toNat)
        case atStart => exact ⟨0, by omega, rfl, L⟩
        case round =>
          clear L
          obtain ⟨k, hk, rfl, L⟩ := hrel
          by_cases hk5 : k < 5
          · have xm := (L.bm.cell _).trans (a5_at m k hk5)
            have xv := (L.bv.cell _).trans (a5_at v k hk5)
            have xc := (L.bc.cell _).trans (a5_at c k hk5)
            have xt := (L.bt.cell _).trans (a5_at t k hk5)
            have xp := (L.bp.cell _).trans (a5_at p k hk5)
            have ym := (L.om.cell _).trans (a5_at _ k hk5)
            have yv := (L.ov.cell _).trans (a5_at _ k hk5)
            have yc := (L.oc.cell _).trans (a5_at _ k hk5)
            have yt := (L.ot.cell _).trans (a5_at _ k hk5)
            have yp := (L.op.cell _).trans (a5_at _ k hk5)
            have hkI : (k : Int) < 5 := by omega
            have hk0 : (0 : Int) ≤ (k : Int) := by omega
            have HL : Hid _ := L
            by_cases e2 : k = j
            · subst e2
              have zt := ne_of (sT_j t i k)
              by_cases e1 : k = i
              · subst e1
                exfalso
                have q := HT.out
                rw [tk_self] at q
                exact absurd q (by decide)
              · have n1 : ((k : Int) == (i : Int)) = false := by rw [beq_eq_false_iff_ne]; omega
                have xmi := (L.bm.cell _).trans (a5_at m i hi)
                have xvi := (L.bv.cell _).trans (a5_at v i hi)
                have xci := (L.bc.cell _).trans (a5_at c i hi)
                have zm := ne_of (sF_j1 m i k)
                have zv := ne_of (sF_j1 v i k)
                have zc := ne_of (sF_j1 c i k)
                by_cases hl : t k < mx (t i) (t k)
                · have zp := ne_of (sP_j0 t p i k hl)
                  clear L
                  go_wp2
                  go_quiet (fail)
                  go_wp2
                  go_quiet (fail)
                  go_wp2
                  exact ⟨⟨k + 1, by omega, by go_num, HL.out.drewN _⟩, by simp [intOf]; omega⟩
                · have zp := ne_of (sP_j1 t p i k hl)
                  clear L
                  go_wp2
                  go_quiet (fail)
                  go_wp2
                  go_quiet (fail)
                  go_wp2
                  exact ⟨⟨k + 1, by omega, by go_num, HL.out.drewN _⟩, by simp [intOf]; omega⟩
            · have n2 : ((k : Int) == (j : Int)) = false := by rw [beq_eq_false_iff_ne]; omega
              have zm := ne_of (sF_other true m i j k e2)
              have zv := ne_of (sF_other true v i j k e2)
              have zc := ne_of (sF_other true c i j k e2)
              by_cases e1 : k = i
              · subst e1
                have zt := ne_of (sT_i t k j)
                by_cases hl : t k < mx (t k) (t j)
                · have zp := ne_of (sP_i0 t p k j hl)
                  clear L
                  go_wp2
                  go_quiet (fail)
                  go_wp2
                  exact ⟨⟨k + 1, by omega, by go_num, HL.out.drewN _⟩, by simp [intOf]; omega⟩
                · have zp := ne_of (sP_i1 t p k j hl)
                  clear L
                  go_wp2
                  go_quiet (fail)
                  go_wp2
                  exact ⟨⟨k + 1, by omega, by go_num, HL.out.drewN _⟩, by simp [intOf]; omega⟩
              · have n1 : ((k : Int) == (i : Int)) = false := by rw [beq_eq_false_iff_ne]; omega
                have zt := ne_of (sT_other t i j k e1 e2)
                have zp := ne_of (sP_other t p i j k e1 e2)
                clear L
                go_wp2
                go_quiet (fail)
                go_wp2
                exact ⟨⟨k + 1, by omega, by go_num, HL.out.drewN _⟩, by simp [intOf]; omega⟩
          · obtain rfl : k = 5 := by omega
            go_wp2
            go_ret
            exact ⟨by simp, L.bel⟩
theorem law2_any (m v c t p : Nat → Int) (won i j : Int) (w : World) (hcb : ∀ k, 0 ≤ c k ∧ c k ≤ 255) (hvb : ∀ k, 0 ≤ v k ∧ v k ≤ 255) :
    Calls Try.prog 4 #[.agg #[.int .u8 (m 0), .int .u8 (m 1), .int .u8 (m 2), .int .u8 (m 3), .int .u8 (m 4)], .agg #[.int .u8 (v 0), .int .u8 (v 1), .int .u8 (v 2), .int .u8 (v 3), .int .u8 (v 4)], .agg #[.int .u8 (c 0), .int .u8 (c 1), .int .u8 (c 2), .int .u8 (c 3), .int .u8 (c 4)], .agg #[.int .u8 (t 0), .int .u8 (t 1), .int .u8 (t 2), .int .u8 (t 3), .int .u8 (t 4)], .agg #[.int .u8 (p 0), .int .u8 (p 1), .int .u8 (p 2), .int .u8 (p 3), .int .u8 (p 4)], .int .u16 won, .int .i64 i, .int .i64 j] w fun e w' => e = .returned (.bool true) ∧ Below w.heap.size w w' := by
  by_cases h : i < 0 ∨ 5 ≤ i ∨ j < 0 ∨ 5 ≤ j
  · exact law2_out m v c t p won i j h w
  · obtain ⟨a, rfl⟩ := Int.eq_ofNat_of_zero_le (show 0 ≤ i by omega)
    obtain ⟨b, rfl⟩ := Int.eq_ofNat_of_zero_le (show 0 ≤ j by omega)
    exact law2_in m v c t p won a b (by omega) (by omega) w hcb hvb
end Go.Proofs.Qxb6605433a
