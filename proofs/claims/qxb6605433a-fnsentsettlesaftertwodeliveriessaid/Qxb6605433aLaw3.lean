/- THE WALK of FnSentSettlesAfterTwoDeliveries: function 5. -/
import Derived.Test.Qxb6605433aTwo
namespace Go.Proofs.Qxb6605433a
open Go.RowKit
/-- The world behind three deliveries. -/
structure W3 (w : World) (m v c t p m1 v1 c1 t1 p1 m2 v2 c2 t2 p2 : Nat → Int) (g g2 g3 : Nat) (wq : World) : Prop where
  bel : Below w.heap.size w wq
  g0 : G5 wq w.heap.size m v c t p
  g1 : G5 wq g m1 v1 c1 t1 p1
  g2 : G5 wq g2 m2 v2 c2 t2 p2
  g3 : G5 wq g3 m2 v2 c2 t2 p2
theorem W3.drewN {w : World} {m v c t p m1 v1 c1 t1 p1 m2 v2 c2 t2 p2 : Nat → Int} {g g2 g3 : Nat} {wq : World} (h : W3 w m v c t p m1 v1 c1 t1 p1 m2 v2 c2 t2 p2 g g2 g3 wq) (n : Nat) :
    W3 w m v c t p m1 v1 c1 t1 p1 m2 v2 c2 t2 p2 g g2 g3 (wq.drewN n) := ⟨below_drewN h.bel n, h.g0.drewN n, h.g1.drewN n, h.g2.drewN n, h.g3.drewN n⟩
set_option maxRecDepth 100000 in
set_option maxHeartbeats 400000 in
theorem law3_out (m v c t p : Nat → Int) (won i j : Int) (h : i < 0 ∨ 5 ≤ i ∨ j < 0 ∨ 5 ≤ j) (w : World) :
    Calls Try.prog 5 #[.agg #[.int .u8 (m 0), .int .u8 (m 1), .int .u8 (m 2), .int .u8 (m 3), .int .u8 (m 4)], .agg #[.int .u8 (v 0), .int .u8 (v 1), .int .u8 (v 2), .int .u8 (v 3), .int .u8 (v 4)], .agg #[.int .u8 (c 0), .int .u8 (c 1), .int .u8 (c 2), .int .u8 (c 3), .int .u8 (c 4)], .agg #[.int .u8 (t 0), .int .u8 (t 1), .int .u8 (t 2), .int .u8 (t 3), .int .u8 (t 4)], .agg #[.int .u8 (p 0), .int .u8 (p 1), .int .u8 (p 2), .int .u8 (p 3), .int .u8 (p 4)], .int .u16 won, .int .i64 i, .int .i64 j] w fun e w' => e = .returned (.bool true) ∧ Below w.heap.size w w' := by
  by_cases h1 : i < 0
  · go_enter Try.func5, Try.ntmps5
    go_wp2
    go_ret
    exact ⟨rfl, below5 _ _ _ _ _ _⟩
  · by_cases h2 : 5 ≤ i
    · go_enter Try.func5, Try.ntmps5
      go_wp2
      go_ret
      exact ⟨rfl, below5 _ _ _ _ _ _⟩
    · by_cases h3 : j < 0
      · go_enter Try.func5, Try.ntmps5
        go_wp2
        go_ret
        exact ⟨rfl, below5 _ _ _ _ _ _⟩
      · have h4 : 5 ≤ j := by omega
        go_enter Try.func5, Try.ntmps5
        go_wp2
        go_ret
        exact ⟨rfl, below5 _ _ _ _ _ _⟩
set_option maxRecDepth 100000 in
set_option maxHeartbeats 1000000 in
theorem law3_in (m v c t p : Nat → Int) (won : Int) (i j : Nat) (hi : i < 5) (hj : j < 5) (w : World)
    (hcb : ∀ k, 0 ≤ c k ∧ c k ≤ 255) (hvb : ∀ k, 0 ≤ v k ∧ v k ≤ 255) :
    Calls Try.prog 5 #[.agg #[.int .u8 (m 0), .int .u8 (m 1), .int .u8 (m 2), .int .u8 (m 3), .int .u8 (m 4)], .agg #[.int .u8 (v 0), .int .u8 (v 1), .int .u8 (v 2), .int .u8 (v 3), .int .u8 (v 4)], .agg #[.int .u8 (c 0), .int .u8 (c 1), .int .u8 (c 2), .int .u8 (c 3), .int .u8 (c 4)], .agg #[.int .u8 (t 0), .int .u8 (t 1), .int .u8 (t 2), .int .u8 (t 3), .int .u8 (t 4)], .agg #[.int .u8 (p 0), .int .u8 (p 1), .int .u8 (p 2), .int .u8 (p 3), .int .u8 (p 4)], .int .u16 won, .int .i64 i, .int .i64 j] w fun e w' => e = .returned (.bool true) ∧ Below w.heap.size w w' := by
  have a1 : decide ((i : Int) < 0) = false := by simp
  have a2 : decide (5 ≤ (i : Int)) = false := by simp; omega
  have a3 : decide ((j : Int) < 0) = false := by simp
  have a4 : decide (5 ≤ (j : Int)) = false := by simp; omega
  go_enter Try.func5, Try.ntmps5
  go_upto_region 3 with fail
  go_cut [17, 18, 19, 20, 21, 22] from 40 to 69 (fun s17 s18 s19 s20 s21 s22 wq => ∃ g, s17 = .pointer (some ⟨g, 0, none⟩) ∧ s18 = .pointer (some ⟨g + 1, 0, none⟩) ∧ s19 = .pointer (some ⟨g + 1 + 1, 0, none⟩) ∧ s20 = .pointer (some ⟨g + 1 + 1 + 1, 0, none⟩) ∧ s21 = .pointer (some ⟨g + 1 + 1 + 1 + 1, 0, none⟩) ∧ s22 = .int .u16 won ∧ Below w.heap.size w wq ∧ w.heap.size + 4 < g ∧ G5 wq w.heap.size m v c t p ∧ G5 wq g (sF (tk v c t i j) m i j) (sF (tk v c t i j) v i j) (sF (tk v c t i j) c i j) (sT t i j) (sP t p i j))
  case first => as_aux_lemma =>
    go_wp2_with fail
    refine (zzSent_any m v c t p won i j hi hj _).mono ?_
    rintro e w1 ⟨rfl, hb⟩
    go_wp2_with fail
    go_meet
    case rel =>
      have hs := hb.size
      simp at hs
      exact ⟨_, rfl, rfl, rfl, rfl, rfl, rfl, ((below5 w _ _ _ _ _).trans (hb.mono (by simp <;> omega))).trans ((below5 w1 _ _ _ _ _).mono (by omega)), by omega, (((G5.made w m v c t p).below hb (by simp <;> omega)).below (below5 w1 _ _ _ _ _) (by omega)), G5.made w1 _ _ _ _ _⟩
  case rest =>
  obtain ⟨g, rfl, rfl, rfl, rfl, rfl, rfl, hbel, hg, G, G1⟩ := hcut
  clear a1 a2 a3 a4
  go_upto_region 4 with fail
  go_cut [23, 24, 25, 26, 27, 28] from 70 to 85 (fun s23 s24 s25 s26 s27 s28 wq => ∃ g2, s23 = .pointer (some ⟨g2, 0, none⟩) ∧ s24 = .pointer (some ⟨g2 + 1, 0, none⟩) ∧ s25 = .pointer (some ⟨g2 + 1 + 1, 0, none⟩) ∧ s26 = .pointer (some ⟨g2 + 1 + 1 + 1, 0, none⟩) ∧ s27 = .pointer (some ⟨g2 + 1 + 1 + 1 + 1, 0, none⟩) ∧ s28 = .int .u16 won ∧ Below w.heap.size w wq ∧ g + 4 < g2 ∧ G5 wq w.heap.size m v c t p ∧ G5 wq g (sF (tk v c t i j) m i j) (sF (tk v c t i j) v i j) (sF (tk v c t i j) c i j) (sT t i j) (sP t p i j) ∧ G5 wq g2 (sF (tk (sF (tk v c t i j) v i j) (sF (tk v c t i j) c i j) (sT t i j) i j) (sF (tk v c t i j) m i j) i j) (sF (tk (sF (tk v c t i j) v i j) (sF (tk v c t i j) c i j) (sT t i j) i j) (sF (tk v c t i j) v i j) i j) (sF (tk (sF (tk v c t i j) v i j) (sF (tk v c t i j) c i j) (sT t i j) i j) (sF (tk v c t i j) c i j) i j) (sT (sT t i j) i j) (sP (sT t i j) (sP t p i j) i j))
  case first => as_aux_lemma =>
    have hm := G1.m.cell
    have hv := G1.v.cell
    have hc := G1.c.cell
    have ht := G1.t.cell
    have hp := G1.p.cell
    simp at hm hv hc ht hp
    have HG : Hid _ := And.intro hbel (And.intro G G1)
    clear hbel G G1
    go_wp2_with fail
    refine (zzSent_any (sF (tk v c t i j) m i j) (sF (tk v c t i j) v i j) (sF (tk v c t i j) c i j) (sT t i j) (sP t p i j) won i j hi hj _).mono ?_
    rintro e w1 ⟨rfl, hb⟩
    go_wp2_with fail
    go_meet
    case rel =>
      obtain ⟨hbel, G, G1⟩ := HG.out
      have hs := hb.size
      have l0 := G.lt
      have l1 := G1.lt
      have l2 := hbel.size
      exact ⟨_, rfl, rfl, rfl, rfl, rfl, rfl, (hbel.trans (hb.mono (by omega))).trans ((below5 w1 _ _ _ _ _).mono (by omega)), by omega, (G.below hb (by omega)).below (below5 w1 _ _ _ _ _) (by omega), (G1.below hb (by omega)).below (below5 w1 _ _ _ _ _) (by omega), G5.made w1 _ _ _ _ _⟩
  case rest =>
  clear hbel G G1
  obtain ⟨g2, rfl, rfl, rfl, rfl, rfl, rfl, hbel, hg2, G, G1, G2⟩ := hcut
  go_upto_region 5 with fail
  go_cut [29, 30, 31, 32, 33, 34] from 86 to 101 (fun s29 s30 s31 s32 s33 s34 wq => ∃ g3, s29 = .pointer (some ⟨g3, 0, none⟩) ∧ s30 = .pointer (some ⟨g3 + 1, 0, none⟩) ∧ s31 = .pointer (some ⟨g3 + 1 + 1, 0, none⟩) ∧ s32 = .pointer (some ⟨g3 + 1 + 1 + 1, 0, none⟩) ∧ s33 = .pointer (some ⟨g3 + 1 + 1 + 1 + 1, 0, none⟩) ∧ s34 = .int .u16 won ∧ Below w.heap.size w wq ∧ g2 + 4 < g3 ∧ G5 wq w.heap.size m v c t p ∧ G5 wq g (sF (tk v c t i j) m i j) (sF (tk v c t i j) v i j) (sF (tk v c t i j) c i j) (sT t i j) (sP t p i j) ∧ G5 wq g2 (sF (tk (sF (tk v c t i j) v i j) (sF (tk v c t i j) c i j) (sT t i j) i j) (sF (tk v c t i j) m i j) i j) (sF (tk (sF (tk v c t i j) v i j) (sF (tk v c t i j) c i j) (sT t i j) i j) (sF (tk v c t i j) v i j) i j) (sF (tk (sF (tk v c t i j) v i j) (sF (tk v c t i j) c i j) (sT t i j) i j) (sF (tk v c t i j) c i j) i j) (sT (sT t i j) i j) (sP (sT t i j) (sP t p i j) i j) ∧ G5 wq g3 (sF (tk (sF (tk v c t i j) v i j) (sF (tk v c t i j) c i j) (sT t i j) i j) (sF (tk v c t i j) m i j) i j) (sF (tk (sF (tk v c t i j) v i j) (sF (tk v c t i j) c i j) (sT t i j) i j) (sF (tk v c t i j) v i j) i j) (sF (tk (sF (tk v c t i j) v i j) (sF (tk v c t i j) c i j) (sT t i j) i j) (sF (tk v c t i j) c i j) i j) (sT (sT t i j) i j) (sP (sT t i j) (sP t p i j) i j))
  case first => as_aux_lemma =>
    have E3 : Hid _ := third (sF (tk v c t i j) v i j) (sF (tk v c t i j) c i j) (sT t i j) i j (by rw [sT_i, sT_j]) (sF (tk (sF (tk v c t i j) v i j) (sF (tk v c t i j) c i j) (sT t i j) i j) (sF (tk v c t i j) m i j) i j) (sF (tk (sF (tk v c t i j) v i j) (sF (tk v c t i j) c i j) (sT t i j) i j) (sF (tk v c t i j) v i j) i j) (sF (tk (sF (tk v c t i j) v i j) (sF (tk v c t i j) c i j) (sT t i j) i j) (sF (tk v c t i j) c i j) i j) (sT (sT t i j) i j) (sP (sT t i j) (sP t p i j) i j) rfl rfl rfl
    obtain ⟨m2, v2, c2, t2, p2, H2, E4⟩ : ∃ m2 v2 c2 t2 p2, Hid (m2 = (sF (tk (sF (tk v c t i j) v i j) (sF (tk v c t i j) c i j) (sT t i j) i j) (sF (tk v c t i j) m i j) i j) ∧ v2 = (sF (tk (sF (tk v c t i j) v i j) (sF (tk v c t i j) c i j) (sT t i j) i j) (sF (tk v c t i j) v i j) i j) ∧ c2 = (sF (tk (sF (tk v c t i j) v i j) (sF (tk v c t i j) c i j) (sT t i j) i j) (sF (tk v c t i j) c i j) i j) ∧ t2 = (sT (sT t i j) i j) ∧ p2 = (sP (sT t i j) (sP t p i j) i j)) ∧ G5 wc g2 m2 v2 c2 t2 p2 := ⟨_, _, _, _, _, ⟨rfl, rfl, rfl, rfl, rfl⟩, G2⟩
    have hm := E4.m.cell
    have hv := E4.v.cell
    have hc := E4.c.cell
    have ht := E4.t.cell
    have hp := E4.p.cell
    simp at hm hv hc ht hp
    have HG : Hid _ := And.intro hbel (And.intro G (And.intro G1 G2))
    clear hbel G G1 G2 E4
    go_wp2_with fail
    refine (zzSent_any m2 v2 c2 t2 p2 won i j hi hj _).mono ?_
    rintro e w1 ⟨rfl, hb⟩
    go_wp2_with fail
    go_meet
    case rel =>
      obtain ⟨hbel, G, G1, G2⟩ := HG.out
      obtain ⟨rfl, rfl, rfl, rfl, rfl⟩ := H2.out
      obtain ⟨q1, q2, q3, q4, q5⟩ := E3.out
      have hs := hb.size
      have l0 := G.lt
      have l1 := G1.lt
      have l2 := hbel.size
      have l3 := G2.lt
      have G3 := G5.made w1 (sF (tk (sF (tk (sF (tk v c t i j) v i j) (sF (tk v c t i j) c i j) (sT t i j) i j) (sF (tk v c t i j) v i j) i j) (sF (tk (sF (tk v c t i j) v i j) (sF (tk v c t i j) c i j) (sT t i j) i j) (sF (tk v c t i j) c i j) i j) (sT (sT t i j) i j) i j) (sF (tk (sF (tk v c t i j) v i j) (sF (tk v c t i j) c i j) (sT t i j) i j) (sF (tk v c t i j) m i j) i j) i j) (sF (tk (sF (tk (sF (tk v c t i j) v i j) (sF (tk v c t i j) c i j) (sT t i j) i j) (sF (tk v c t i j) v i j) i j) (sF (tk (sF (tk v c t i j) v i j) (sF (tk v c t i j) c i j) (sT t i j) i j) (sF (tk v c t i j) c i j) i j) (sT (sT t i j) i j) i j) (sF (tk (sF (tk v c t i j) v i j) (sF (tk v c t i j) c i j) (sT t i j) i j) (sF (tk v c t i j) v i j) i j) i j) (sF (tk (sF (tk (sF (tk v c t i j) v i j) (sF (tk v c t i j) c i j) (sT t i j) i j) (sF (tk v c t i j) v i j) i j) (sF (tk (sF (tk v c t i j) v i j) (sF (tk v c t i j) c i j) (sT t i j) i j) (sF (tk v c t i j) c i j) i j) (sT (sT t i j) i j) i j) (sF (tk (sF (tk v c t i j) v i j) (sF (tk v c t i j) c i j) (sT t i j) i j) (sF (tk v c t i j) c i j) i j) i j) (sT (sT (sT t i j) i j) i j) (sP (sT (sT t i j) i j) (sP (sT t i j) (sP t p i j) i j) i j)
      rw [q1, q2, q3, q4, q5]
      rw [q1, q2, q3, q4, q5] at G3
      exact ⟨_, rfl, rfl, rfl, rfl, rfl, rfl, (hbel.trans (hb.mono (by omega))).trans ((below5 w1 _ _ _ _ _).mono (by omega)), by omega, (G.below hb (by omega)).below (below5 w1 _ _ _ _ _) (by omega), (G1.below hb (by omega)).below (below5 w1 _ _ _ _ _) (by omega), (G2.below hb (by omega)).below (below5 w1 _ _ _ _ _) (by omega), G3⟩
  case rest =>
  clear hbel G G1 G2
  obtain ⟨g3, rfl, rfl, rfl, rfl, rfl, rfl, hbel, hg3, G, G1, G2, G3⟩ := hcut
  obtain ⟨m1, v1, c1, t1, p1, m2, v2, c2, t2, p2, TW, Q1, Q2, Q3⟩ : ∃ m1 v1 c1 t1 p1 m2 v2 c2 t2 p2, Two m v c t i j m1 v1 c1 t1 p1 m2 v2 c2 t2 p2 ∧ G5 wc g m1 v1 c1 t1 p1 ∧ G5 wc g2 m2 v2 c2 t2 p2 ∧ G5 wc g3 m2 v2 c2 t2 p2 := ⟨_, _, _, _, _, _, _, _, _, _, two_holds m v c t p i j, G1, G2, G3⟩
  clear G1 G2 G3
  have hiI : (i : Int) < 5 := by omega
  have hjI : (j : Int) < 5 := by omega
  have hi0 : (0 : Int) ≤ (i : Int) := by omega
  have hj0 : (0 : Int) ≤ (j : Int) := by omega
  have TW0 : Hid _ := TW
  clear TW
  obtain ⟨TW, hW⟩ : Hid (Two m v c t i j m1 v1 c1 t1 p1 m2 v2 c2 t2 p2) ∧ W3 w m v c t p m1 v1 c1 t1 p1 m2 v2 c2 t2 p2 g g2 g3 wc := ⟨TW0, hbel, G, Q1, Q2, Q3⟩
  clear TW0 hbel G Q1 Q2 Q3 hg hg2 hg3
  go_upto_region 6 with fail
  go_cut [35] from 102 to 108 (fun s35 wq => s35 = .int .u8 (mx (t i) (t j)) ∧ W3 w m v c t p m1 v1 c1 t1 p1 m2 v2 c2 t2 p2 g g2 g3 wq)
  case first => as_aux_lemma =>
    have hti := (hW.g0.t.cell _).trans (a5_at t i hi)
    have htj := (hW.g0.t.cell _).trans (a5_at t j hj)
    have HW : Hid _ := hW
    clear hW
    go_quiet ((go_at_call 10; exact Calls.quiet_of_same (max_any _ _ _)))
    go_wp2
    go_meet
    case rel => exact ⟨rfl, HW.out.drewN _⟩
  case rest =>
  clear hW
  obtain ⟨rfl, hW⟩ := hcut
  have xi := (hW.g1.t.cell _).trans (a5_at t1 i hi)
  have xj := (hW.g1.t.cell _).trans (a5_at t1 j hj)
  have zi := ne_of TW.out.ti
  have zj := ne_of TW.out.tj
  have HW : Hid _ := hW
  clear hW
  go_wp2
  go_loopw [36] (fun s36 wq => ∃ k : Nat, k ≤ 5 ∧ s36 = .int .i64 k ∧ W3 w m v c t p m1 v1 c1 t1 p1 m2 v2 c2 t2 p2 g g2 g3 wq) (fun i _ => 5 - (intOf i).toNat)
  case atStart => exact ⟨0, by omega, rfl, HW.out⟩
  case round =>
    clear HW xi xj zi zj
    obtain ⟨k, hk, rfl, hW⟩ := hrel
    by_cases hk5 : k < 5
    · have x1 := (hW.g1.t.cell _).trans (a5_at t1 k hk5)
      have x0 := (hW.g0.t.cell _).trans (a5_at t k hk5)
      have hup := TW.out.up k
      have hkI : (k : Int) < 5 := by omega
      have hk0 : (0 : Int) ≤ (k : Int) := by omega
      have HW : Hid _ := hW
      clear hW
      go_wp2
      go_quiet (fail)
      go_wp2
      exact ⟨⟨k + 1, by omega, by go_num, HW.out.drewN _⟩, by simp [intOf]; omega⟩
    · obtain rfl : k = 5 := by omega
      have hti := (hW.g0.t.cell _).trans (a5_at t i hi)
      have htj := (hW.g0.t.cell _).trans (a5_at t j hj)
      have HW : Hid _ := hW
      clear hW
      go_upto_region 14 with fail
      go_quiet (fail)
      go_upto_if 143 with fail
      go_cut [36] from 109 to 171 (fun _ wq => W3 w m v c t p m1 v1 c1 t1 p1 m2 v2 c2 t2 p2 g g2 g3 wq)
      case first => as_aux_lemma =>
        by_cases hc : t j ≤ t i
        · obtain ⟨rfl, rfl, rfl, rfl, rfl⟩ := TW.out.still hc
          have hW := HW.out
          have ym := hW.g1.m.cell
          have yv := hW.g1.v.cell
          have yc := hW.g1.c.cell
          have yt := hW.g1.t.cell
          have yp := hW.g1.p.cell
          have zm := hW.g2.m.cell
          have zv := hW.g2.v.cell
          have zc := hW.g2.c.cell
          have zt := hW.g2.t.cell
          have zp := hW.g2.p.cell
          simp at ym yv yc yt yp zm zv zc zt zp
          have r1 := eq5 m1
          have r2 := eq5 v1
          have r3 := eq5 c1
          have r4 := eq5 t1
          have r5 := eq5 p1
          clear hW
          go_wp2
          go_meet
          case rel => exact HW.out.drewN _
        · go_wp2
          go_meet
          case rel => exact HW.out.drewN _
      case rest =>
      clear HW hti htj
      have hW := hcut
      have HW : Hid _ := hcut
      clear hcut
      go_upto_region 17 with fail
      go_cut [199] from 172 to 199 (fun s199 wq => s199 = .bool false ∧ W3 w m v c t p m1 v1 c1 t1 p1 m2 v2 c2 t2 p2 g g2 g3 wq)
      case first => as_aux_lemma =>
        have ym := hW.g2.m.cell
        have yv := hW.g2.v.cell
        have yc := hW.g2.c.cell
        have yt := hW.g2.t.cell
        have yp := hW.g2.p.cell
        have zm := hW.g3.m.cell
        have zv := hW.g3.v.cell
        have zc := hW.g3.c.cell
        have zt := hW.g3.t.cell
        have zp := hW.g3.p.cell
        simp at ym yv yc yt yp zm zv zc zt zp
        have r1 := eq5 m2
        have r2 := eq5 v2
        have r3 := eq5 c2
        have r4 := eq5 t2
        have r5 := eq5 p2
        clear hW
        go_wp2
        go_meet
        case rel => exact ⟨rfl, HW.out⟩
      case rest =>
      clear HW hW
      obtain ⟨rfl, hW⟩ := hcut
      go_upto_region 19 with fail
      go_cut [224] from 200 to 224 (fun s224 wq => s224 = .bool false ∧ W3 w m v c t p m1 v1 c1 t1 p1 m2 v2 c2 t2 p2 g g2 g3 wq)
      case first => as_aux_lemma =>
        have y1 := (hW.g2.m.cell _).trans (a5_at m2 i hi)
        have y2 := (hW.g2.v.cell _).trans (a5_at v2 i hi)
        have y3 := (hW.g2.c.cell _).trans (a5_at c2 i hi)
        have y4 := (hW.g0.m.cell _).trans (a5_at m i hi)
        have y5 := (hW.g0.v.cell _).trans (a5_at v i hi)
        have y6 := (hW.g0.c.cell _).trans (a5_at c i hi)
        have z1 := ne_of TW.out.mi
        have z2 := ne_of TW.out.vi
        have z3 := ne_of TW.out.ci
        have HW : Hid _ := hW
        clear hW
        go_quiet (fail)
        go_wp2
        go_meet
        case rel => exact ⟨rfl, HW.out.drewN _⟩
      case rest =>
      clear hW
      obtain ⟨rfl, hW⟩ := hcut
      go_upto_region 21 with fail
      go_cut [37, 38, 39] from 225 to 233 (fun s37 s38 s39 wq => s37 = .int .u8 (m j) ∧ s38 = .int .u8 (v j) ∧ s39 = .int .u8 (c j) ∧ W3 w m v c t p m1 v1 c1 t1 p1 m2 v2 c2 t2 p2 g g2 g3 wq)
      case first => as_aux_lemma =>
        have y4 := (hW.g0.m.cell _).trans (a5_at m j hj)
        have y5 := (hW.g0.v.cell _).trans (a5_at v j hj)
        have y6 := (hW.g0.c.cell _).trans (a5_at c j hj)
        have HW : Hid _ := hW
        clear hW
        go_quiet (fail)
        go_wp2
        go_meet
        case rel => exact ⟨rfl, rfl, rfl, HW.out.drewN _⟩
      case rest =>
      clear hW
      obtain ⟨rfl, rfl, rfl, hW⟩ := hcut
      go_upto_region 22 with fail
      go_cut [248] from 234 to 248 (fun s248 wq => s248 = .bool (newB (v i) (c i) (v j) (c j)) ∧ W3 w m v c t p m1 v1 c1 t1 p1 m2 v2 c2 t2 p2 g g2 g3 wq)
      case first => as_aux_lemma =>
        have y2 := (hW.g0.v.cell _).trans (a5_at v i hi)
        have y3 := (hW.g0.c.cell _).trans (a5_at c i hi)
        have y5 := (hW.g0.v.cell _).trans (a5_at v j hj)
        have y6 := (hW.g0.c.cell _).trans (a5_at c j hj)
        have k1 := hcb i
        have k2 := hcb j
        have k3 := hvb i
        have k4 := hvb j
        have HK : Hid _ := key_lt (v i) (c i) (v j) (c j) k3.1 k3.2 k4.1 k4.2
        have HW : Hid _ := hW
        clear hW
        go_quiet ((go_at_call 11; exact Calls.quiet_of_same (key_any _ _ _ (by omega) (by omega) (by omega) (by omega))))
        go_wp2
        go_meet
        case rel => exact ⟨by rw [← HK.out], HW.out.drewN _⟩
      case rest =>
      clear hW
      obtain ⟨rfl, hW⟩ := hcut
      have y1 := (hW.g2.m.cell _).trans (a5_at m2 j hj)
      have y2 := (hW.g2.v.cell _).trans (a5_at v2 j hj)
      have y3 := (hW.g2.c.cell _).trans (a5_at c2 j hj)
      have x1 := (hW.g0.m.cell _).trans (a5_at m i hi)
      have x2 := (hW.g0.v.cell _).trans (a5_at v i hi)
      have x3 := (hW.g0.c.cell _).trans (a5_at c i hi)
      have z1 := TW.out.mj
      have z2 := TW.out.vj
      have z3 := TW.out.cj
      have HW : Hid _ := hW
      clear hW
      generalize newB (v i) (c i) (v j) (c j) = bt at z1 z2 z3 ⊢
      cases bt
      · have q1 := ne_of z1
        have q2 := ne_of z2
        have q3 := ne_of z3
        simp only [Bool.false_eq_true, if_false] at q1 q2 q3
        clear z1 z2 z3
        go_wp2
        go_ret
        exact ⟨rfl, HW.out.bel⟩
      · have q1 := ne_of z1
        have q2 := ne_of z2
        have q3 := ne_of z3
        simp only [if_true] at q1 q2 q3
        clear z1 z2 z3
        go_wp2
        go_quiet (fail)
        go_wp2
        go_ret
        exact ⟨rfl, (HW.out.drewN _).bel⟩
theorem law3_any (m v c t p : Nat → Int) (won i j : Int) (w : World) (hcb : ∀ k, 0 ≤ c k ∧ c k ≤ 255) (hvb : ∀ k, 0 ≤ v k ∧ v k ≤ 255) :
    Calls Try.prog 5 #[.agg #[.int .u8 (m 0), .int .u8 (m 1), .int .u8 (m 2), .int .u8 (m 3), .int .u8 (m 4)], .agg #[.int .u8 (v 0), .int .u8 (v 1), .int .u8 (v 2), .int .u8 (v 3), .int .u8 (v 4)], .agg #[.int .u8 (c 0), .int .u8 (c 1), .int .u8 (c 2), .int .u8 (c 3), .int .u8 (c 4)], .agg #[.int .u8 (t 0), .int .u8 (t 1), .int .u8 (t 2), .int .u8 (t 3), .int .u8 (t 4)], .agg #[.int .u8 (p 0), .int .u8 (p 1), .int .u8 (p 2), .int .u8 (p 3), .int .u8 (p 4)], .int .u16 won, .int .i64 i, .int .i64 j] w fun e w' => e = .returned (.bool true) ∧ Below w.heap.size w w' := by
  by_cases h : i < 0 ∨ 5 ≤ i ∨ j < 0 ∨ 5 ≤ j
  · exact law3_out m v c t p won i j h w
  · obtain ⟨a, rfl⟩ := Int.eq_ofNat_of_zero_le (show 0 ≤ i by omega)
    obtain ⟨b, rfl⟩ := Int.eq_ofNat_of_zero_le (show 0 ≤ j by omega)
    exact law3_in m v c t p won a b (by omega) (by omega) w hcb hvb
end Go.Proofs.Qxb6605433a
