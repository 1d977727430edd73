/- THE WALKS of zzLeastPow2AtLeast and of the law that grow keeps highestSince's answers: functions 19, 6. -/
import Derived.Test.Qxb6605451aZZGrow
import Derived.Test.Qxb6605451aZZSince
namespace Go.Proofs.Qxb6605451a
open Go.RowKit
theorem treeArg' {L len : Nat} {T : Nat → Int} (h : L = 0 ∨ TreeP L len T) : L = 0 ∨ ((∃ e, L = 2 ^ e) ∧ len = 2 * L) := by
  rcases h with h | h
  · exact Or.inl h
  · exact Or.inr ⟨h.1, h.2.1⟩
theorem grow_tree' {L : Nat} {n : Int} {x : Nat} {T T' : Nat → Int} (h : GrowSpec L n x T T') : TreeP x (2 * x) T' := ⟨h.len.pow, rfl, h.inner⟩
/-- The least power of two at or above m. -/
structure Least (m : Int) (p : Nat) : Prop where
  pow : ∃ e, p = 2 ^ e
  ge : m ≤ p
  half : (p : Int) / 2 < m
theorem least_one {m : Int} {p q : Nat} (hp : Least m p) (hq : Least m q) : p = q := by
  obtain ⟨e, rfl⟩ := hp.pow
  obtain ⟨f, rfl⟩ := hq.pow
  have key : ∀ a b : Nat, a < b → m ≤ ((2 ^ a : Nat) : Int) → ((2 ^ b : Nat) : Int) / 2 < m → False := fun a b hab h1 h2 => by
    obtain ⟨c, rfl⟩ : ∃ c, b = c + 1 := ⟨b - 1, by omega⟩
    have h3 : 2 ^ a ≤ 2 ^ c := Nat.pow_le_pow_right (by omega) (by omega)
    have h4 : 2 ^ (c + 1) = 2 * 2 ^ c := by rw [Nat.pow_succ]; omega
    omega
  have h1 := hp.ge
  have h2 := hp.half
  have h3 := hq.ge
  have h4 := hq.half
  by_cases he : e < f
  · exact (key e f he h1 h4).elim
  · by_cases hf : f < e
    · exact (key f e hf h3 h2).elim
    · have : e = f := by omega
      rw [this]
theorem least_grow {L : Nat} {n : Int} {x : Nat} {T T' : Nat → Int} (h : GrowSpec L n x T T') (m : Int) (h1 : 16 ≤ m) (h2 : (L : Int) ≤ m) (h3 : n ≤ m) (h4 : m ≤ x) : Least m x :=
  ⟨h.len.pow, h4, by have := h.len.half; omega⟩
set_option maxHeartbeats 400000 in
theorem least_any (m : Int) (w : World) (h1 : 2 ≤ m) (h2 : m ≤ 65536) : Calls Try.prog 19 #[.int .i64 m] w fun e w' => (∃ p : Nat, e = .returned (.int .i64 p) ∧ Hid (Least m p)) ∧ w = w' := by
  go_enter Try.func19, Try.ntmps19
  go_wp2
  go_loop [3] (fun s3 => ∃ p : Nat, s3 = .int .i64 p ∧ 1 ≤ p ∧ p < 131072 ∧ Hid ((∃ e, p = 2 ^ e) ∧ (p : Int) / 2 < m)) (fun s => 131072 - (intOf s).toNat)
  case atStart => exact ⟨1, rfl, by omega, by omega, ⟨0, rfl⟩, by omega⟩
  case round =>
    obtain ⟨p, rfl, hp1, hp2, HP⟩ := hrel
    by_cases hlt : (p : Int) < m
    · have HN : Hid ((∃ e, p * 2 = 2 ^ e) ∧ ((p * 2 : Nat) : Int) / 2 < m) := by
        obtain ⟨⟨e, he⟩, _⟩ := HP.out
        exact ⟨⟨e + 1, by rw [he, Nat.pow_succ]⟩, by omega⟩
      go_wp2
      go_round
      case rel => exact ⟨p * 2, by go_num, by omega, by omega, HN⟩
      case measure => simp [intOf]; omega
    · have HL : Hid (Least m p) := ⟨HP.out.1, by omega, HP.out.2⟩
      go_wp2
      go_ret
      exact ⟨⟨p, rfl, HL⟩, rfl⟩

/-! ### the plain law -/
theorem scan_same {L : Nat} {n : Int} {x : Nat} {T T' : Nat → Int} (h : GrowSpec L n x T T') (since : Int) : ∀ k, k ≤ L → scan T' x since k = scan T L since k
  | 0, _ => rfl
  | k + 1, hk => by
    have e := h.leaf k (by have := h.len.old; omega)
    rw [if_pos (by omega)] at e
    rw [scan, scan, e, scan_same h since k (by omega)]
theorem keeps_new {L : Nat} {n : Int} {x : Nat} {T T' : Nat → Int} (h : GrowSpec L n x T T') (since : Int) (k : Nat) (h1 : L < k) (h2 : k ≤ x) (hs : since ≤ 0) : scan T' x since k = (k : Int) - 1 := by
  obtain ⟨j, rfl⟩ : ∃ j, k = j + 1 := ⟨k - 1, by omega⟩
  have e := h.leaf j (by omega)
  rw [if_neg (by omega)] at e
  rw [scan_hit T' x since j (by rw [e]; exact hs)]
  omega
theorem keeps_old {L : Nat} {n : Int} {x : Nat} {T T' : Nat → Int} (h : GrowSpec L n x T T') (since : Int) (k : Nat) (h1 : L ≤ k) (h2 : k ≤ x) (hs : 0 < since) : scan T' x since k = scan T L since L := by
  rw [← scan_same h since L (Nat.le_refl _)]
  exact scan_skip T' x since L k h1 (fun l g1 g2 => by
    have e := h.leaf l (by omega)
    rw [if_neg (by omega)] at e
    omega)
theorem lev_le (below : Int) (x : Nat) : lev below x ≤ x := by unfold lev; omega
theorem keeps_a {L : Nat} {n : Int} {x : Nat} {T T' : Nat → Int} (h : GrowSpec L n x T T') (below since : Int) (hs : since ≤ 0) (hb : (L : Int) < min below (x : Int)) : scan T' x since (lev below x) = min below (x : Int) - 1 := by
  have hl : (lev below x : Int) = min below (x : Int) := by unfold lev; omega
  rw [keeps_new h since (lev below x) (by omega) (lev_le below x) hs]
  omega
theorem keeps_b {L : Nat} {n : Int} {x : Nat} {T T' : Nat → Int} (h : GrowSpec L n x T T') (below since : Int) (hs : ¬ (since ≤ 0 ∧ (L : Int) < min below (x : Int))) : scan T' x since (lev below x) = scan T L since (lev below L) := by
  have hx := h.len.old
  by_cases hb : (L : Int) < min below (x : Int)
  · have e : lev below L = L := by unfold lev; omega
    rw [e]
    exact keeps_old h since (lev below x) (by unfold lev; omega) (lev_le below x) (by omega)
  · have e : lev below x = lev below L := by unfold lev; omega
    rw [e]
    exact scan_same h since _ (lev_le below L)
set_option maxRecDepth 100000 in
set_option maxHeartbeats 2000000 in
theorem keeps_any (a0 : Int) (a : Option Addr) (len cap : Nat) (T : Nat → Int) (n below since : Int) (w : World) (hn1 : -9223372036854775808 ≤ n) (hb1 : -9223372036854775808 ≤ below) (hb2 : below ≤ 9223372036854775807) (hr : Row w a len T) (hn : a = none → len = 0) :
    Calls Try.prog 6 #[.int .i64 a0, .slice a len cap, .int .i64 n, .int .i64 below, .int .i64 since] w fun e w' => e = .returned (.bool true) ∧ Below w.heap.size w w' := by
  have HR : Hid (Row w a len T) := hr
  have HN : Hid _ := hn
  clear hr hn
  by_cases h1 : len ≤ 1048576
  · by_cases h2 : len ≤ 131072
    · by_cases h3 : a0 < 0
      · go_enter Try.func6, Try.ntmps6
        go_wp2_with fail
        refine (bytesK_yes _ a len cap _ _ _ _ h1).mono ?_
        rintro e w' ⟨rfl, rfl⟩
        go_wp2_with fail
        go_ret
        exact ⟨rfl, Below.refl _ _⟩
      · by_cases h4 : 65536 < a0
        · go_enter Try.func6, Try.ntmps6
          go_wp2_with fail
          refine (bytesK_yes _ a len cap _ _ _ _ h1).mono ?_
          rintro e w' ⟨rfl, rfl⟩
          go_wp2_with fail
          go_ret
          exact ⟨rfl, Below.refl _ _⟩
        · obtain ⟨L, rfl⟩ := Int.eq_ofNat_of_zero_le (show 0 ≤ a0 by omega)
          have hL : L ≤ 65536 := by omega
          by_cases h5 : 65536 < n
          · go_enter Try.func6, Try.ntmps6
            go_wp2_with fail
            refine (bytesK_yes _ a len cap _ _ _ _ h1).mono ?_
            rintro e w' ⟨rfl, rfl⟩
            go_wp2_with fail
            go_ret
            exact ⟨rfl, Below.refl _ _⟩
          · by_cases hT : L = 0 ∨ TreeP L len T
            · have HT : Hid _ := hT
              clear hT
              go_enter Try.func6, Try.ntmps6
              go_wp2_with fail
              refine (bytesK_yes _ a len cap _ _ _ _ h1).mono ?_
              rintro e w' ⟨rfl, rfl⟩
              go_wp2_with fail
              refine (tree_yes L a len cap T _ hL h1 HR.out HT.out).mono ?_
              rintro e w' ⟨rfl, rfl⟩
              go_wp2_with fail
              refine (copy_any a len cap T _ h1 HR.out HN.out).mono ?_
              rintro e w1 ⟨a', rfl, hb, hr1⟩
              have HR1 : Hid (Row w1 a' len T) := hr1
              have HB : Hid _ := hb
              clear hr1 hb
              go_wp2_with fail
              refine (zzGrow_any L a' len T n _ hL hn1 (by omega) HR1.out (treeArg' HT.out)).mono ?_
              rintro e w2 ⟨x, nb, T', rfl, hs, hr2, hb2'⟩
              have HS : Hid (GrowSpec L n x T T') := hs
              have HQ : Hid (Row w2 (some ⟨nb, 0, none⟩) (2 * x) T') := hr2
              have HR2 : Hid (Row w2 a' len T) := HR1.out.below hb2'
              have HB2 : Hid _ := HB.out.trans (hb2'.mono HB.out.size)
              have hx1 := hs.len.lo
              have hx2 := hs.len.top
              have hx3 := hs.len.old
              have hx4 := hs.room
              clear hs hr2 hb2' HR1 HB HR HN
              go_wp2_with fail
              refine (zzSince_any x (some ⟨nb, 0, none⟩) (2 * x) (2 * x) T' below since _ hx2 hb1 hb2 HQ.out (Or.inr (grow_tree' HS.out))).mono ?_
              rintro e w3 ⟨rfl, hb3⟩
              have HR3 : Hid (Row w3 a' len T) := HR2.out.below hb3
              have HB3 : Hid _ := HB2.out.trans (hb3.mono HB2.out.size)
              clear hb3 HR2 HB2 HQ
              go_upto_if 56 with fail
              go_cut [14] from 18 to 56 (fun s14 wq => w3 = wq ∧ ∃ m : Int, s14 = .int .i64 m ∧ 16 ≤ m ∧ (L : Int) ≤ m ∧ m ≤ x)
              case first =>
                by_cases h16 : (16 : Int) < L
                · go_wp2
                  go_meet
                  case rel => exact ⟨rfl, L, rfl, by omega, by omega, by omega⟩
                · go_wp2
                  go_meet
                  case rel => exact ⟨rfl, 16, rfl, by omega, by omega, by omega⟩
              case rest =>
              obtain ⟨rfl, m1, rfl, p1, p2, p3⟩ := hcut
              go_upto_if 60 with fail
              go_cut [14] from 57 to 61 (fun s14 wq => w3 = wq ∧ ∃ m : Int, s14 = .int .i64 m ∧ 16 ≤ m ∧ m ≤ x ∧ Hid (Least m x))
              case first =>
                by_cases hmn : m1 < n
                · go_wp2
                  go_meet
                  case rel => exact ⟨rfl, n, rfl, by omega, by omega, least_grow HS.out n (by omega) (by omega) (by omega) (by omega)⟩
                · go_wp2
                  go_meet
                  case rel => exact ⟨rfl, m1, rfl, by omega, by omega, least_grow HS.out m1 (by omega) (by omega) (by omega) (by omega)⟩
              case rest =>
              clear p1 p2 p3
              obtain ⟨rfl, m, rfl, p1, p3, HL⟩ := hcut
              go_wp2_with fail
              refine (least_any m _ (by omega) (by omega)).mono ?_
              rintro e w4 ⟨⟨p, rfl, HP⟩, rfl⟩
              obtain rfl := least_one HL.out HP.out
              clear HP
              have hlen : L = 0 ∨ len = 2 * L := by
                rcases HT.out with h | h
                · exact Or.inl h
                · exact Or.inr h.2.1
              have HLen : Hid _ := hlen
              clear hlen
              go_upto_if 67 with fail
              go_cut [16] from 62 to 68 (fun s16 wq => w3 = wq ∧ s16 = .int .i64 (min below (x : Int)))
              case first =>
                by_cases hbx : (x : Int) < below
                · have HM : Hid (min below (x : Int) = x) := by show min below (x : Int) = x; omega
                  go_wp2
                  go_meet
                  case rel => exact ⟨rfl, by rw [HM.out]⟩
                · have HM : Hid (min below (x : Int) = below) := by show min below (x : Int) = below; omega
                  go_wp2
                  go_meet
                  case rel => exact ⟨rfl, by rw [HM.out]⟩
              case rest =>
              obtain ⟨rfl, rfl⟩ := hcut
              go_wp2_with fail
              refine (scan_any L a' len len T below since _ hL HLen.out HR3.out).mono ?_
              rintro e w5 ⟨rfl, rfl⟩
              obtain ⟨mb, hmb, hmx⟩ : ∃ mb, min below (x : Int) = mb ∧ mb ≤ x := ⟨_, rfl, by omega⟩
              rw [hmb]
              by_cases hs0 : since ≤ 0
              · by_cases hbL : (L : Int) < mb
                · have HK := keeps_a HS.out below since hs0 (by omega)
                  rw [hmb] at HK
                  have zz : (scan T' x since (lev below x) == mb - 1) = true := by rw [beq_iff_eq]; exact HK
                  clear HK hmb
                  go_wp2_with fail
                  go_ret
                  exact ⟨rfl, HB3.out⟩
                · have zb : decide ((L : Int) < mb) = false := by simpa using hbL
                  have zz : (scan T' x since (lev below x) == scan T L since (lev below L)) = true := by rw [beq_iff_eq]; exact keeps_b HS.out below since (by omega)
                  clear hmb
                  go_wp2_with fail
                  go_ret
                  exact ⟨rfl, HB3.out⟩
              · have zs : decide (since ≤ 0) = false := by simpa using hs0
                have zz : (scan T' x since (lev below x) == scan T L since (lev below L)) = true := by rw [beq_iff_eq]; exact keeps_b HS.out below since (by omega)
                clear hmb
                go_wp2_with fail
                go_ret
                exact ⟨rfl, HB3.out⟩
            · have HT : Hid _ := hT
              clear hT
              go_enter Try.func6, Try.ntmps6
              go_wp2_with fail
              refine (bytesK_yes _ a len cap _ _ _ _ h1).mono ?_
              rintro e w' ⟨rfl, rfl⟩
              go_wp2_with fail
              refine (tree_no L a len cap T _ hL h1 HR.out HT.out).mono ?_
              rintro e w' ⟨rfl, rfl⟩
              go_wp2_with fail
              go_ret
              exact ⟨rfl, Below.refl _ _⟩
    · go_enter Try.func6, Try.ntmps6
      go_wp2_with fail
      refine (bytesK_yes _ a len cap _ _ _ _ h1).mono ?_
      rintro e w' ⟨rfl, rfl⟩
      go_wp2_with fail
      go_ret
      exact ⟨rfl, Below.refl _ _⟩
  · go_enter Try.func6, Try.ntmps6
    go_wp2_with fail
    refine (bytesK_no _ a len cap _ _ _ _ h1).mono ?_
    rintro e w' ⟨rfl, rfl⟩
    go_wp2_with fail
    go_ret
    exact ⟨rfl, Below.refl _ _⟩
end Go.Proofs.Qxb6605451a
