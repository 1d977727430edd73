/- THE WALK of the law of grow: function 5. -/
import Derived.Test.Qxb6605451aZZGrow
import Derived.Test.Qxb6605451aZZSince
namespace Go.Proofs.Qxb6605451a
open Go.RowKit
theorem treeArg {L len : Nat} {T : Nat → Int} (h : L = 0 ∨ TreeP L len T) : L = 0 ∨ ((∃ e, L = 2 ^ e) ∧ len = 2 * L) := by
  rcases h with h | h
  · exact Or.inl h
  · exact Or.inr ⟨h.1, h.2.1⟩
theorem grow_tree {L : Nat} {n : Int} {x : Nat} {T T' : Nat → Int} (h : GrowSpec L n x T T') : TreeP x (2 * x) T' := ⟨h.len.pow, rfl, h.inner⟩
theorem half_lt {L : Nat} {n : Int} {x : Nat} (h : GrowL L n x) (m : Int) (h1 : 16 ≤ m) (h2 : (L : Int) ≤ m) (h3 : n ≤ m) : (x : Int) / 2 < m := by
  have := h.half
  omega
set_option maxRecDepth 100000 in
set_option maxHeartbeats 2000000 in
theorem rounds_any (a0 : Int) (a : Option Addr) (len cap : Nat) (T : Nat → Int) (n : Int) (w : World) (hn1 : -9223372036854775808 ≤ n) (hr : Row w a len T) (hn : a = none → len = 0) :
    Calls Try.prog 5 #[.int .i64 a0, .slice a len cap, .int .i64 n] w fun e w' => e = .returned (.bool true) ∧ Below w.heap.size w w' := by
  have HR : Hid (Row w a len T) := hr
  have HN : Hid _ := hn
  clear hr hn
  by_cases h1 : len ≤ 1048576
  · by_cases h2 : len ≤ 131072
    · by_cases h3 : a0 < 0
      · go_enter Try.func5, Try.ntmps5
        go_wp2_with fail
        refine (bytesG_yes _ a len cap _ _ h1).mono ?_
        rintro e w' ⟨rfl, rfl⟩
        go_wp2_with fail
        go_ret
        exact ⟨rfl, Below.refl _ _⟩
      · by_cases h4 : 65536 < a0
        · go_enter Try.func5, Try.ntmps5
          go_wp2_with fail
          refine (bytesG_yes _ a len cap _ _ h1).mono ?_
          rintro e w' ⟨rfl, rfl⟩
          go_wp2_with fail
          go_ret
          exact ⟨rfl, Below.refl _ _⟩
        · obtain ⟨L, rfl⟩ := Int.eq_ofNat_of_zero_le (show 0 ≤ a0 by omega)
          have hL : L ≤ 65536 := by omega
          by_cases h5 : 65536 < n
          · go_enter Try.func5, Try.ntmps5
            go_wp2_with fail
            refine (bytesG_yes _ a len cap _ _ h1).mono ?_
            rintro e w' ⟨rfl, rfl⟩
            go_wp2_with fail
            go_ret
            exact ⟨rfl, Below.refl _ _⟩
          · by_cases hT : L = 0 ∨ TreeP L len T
            · have HT : Hid _ := hT
              clear hT
              go_enter Try.func5, Try.ntmps5
              go_wp2_with fail
              refine (bytesG_yes _ a len cap _ _ h1).mono ?_
              rintro e w' ⟨rfl, rfl⟩
              go_wp2_with fail
              refine (tree_yes L a len cap T _ hL h1 HR.out HT.out).mono ?_
              rintro e w' ⟨rfl, rfl⟩
              go_wp2_with fail
              refine (copy_any a len cap T _ h1 HR.out HN.out).mono ?_
              rintro e w1 ⟨a', rfl, hb, hr1⟩
              have HR1 : Hid (Row w1 a' len T) := hr1
              have HB : Hid _ := hb
              clear hr1 hb
              go_wp2_with fail
              refine (zzGrow_any L a' len T n _ hL hn1 (by omega) HR1.out (treeArg HT.out)).mono ?_
              rintro e w2 ⟨x, nb, T', rfl, hs, hr2, hb2⟩
              have HS : Hid (GrowSpec L n x T T') := hs
              have HQ : Hid (Row w2 (some ⟨nb, 0, none⟩) (2 * x) T') := hr2
              have HR2 : Hid (Row w2 a' len T) := HR1.out.below hb2
              have HB2 : Hid _ := HB.out.trans (hb2.mono HB.out.size)
              have hx1 := hs.len.lo
              have hx2 := hs.len.top
              have hx3 := hs.len.old
              have hx4 := hs.room
              clear hs hr2 hb2 HR1 HB HR HN
              go_upto_if 43 with fail
              go_cut [9] from 12 to 43 (fun s9 wq => w2 = wq ∧ ∃ m : Int, s9 = .int .i64 m ∧ 16 ≤ m ∧ (L : Int) ≤ m ∧ m ≤ x)
              case first =>
                by_cases h16 : (16 : Int) < L
                · go_wp2
                  go_meet
                  case rel => exact ⟨rfl, L, rfl, by omega, by omega, by omega⟩
                · go_wp2
                  go_meet
                  case rel => exact ⟨rfl, 16, rfl, by omega, by omega, by omega⟩
              case rest =>
              obtain ⟨rfl, m1, rfl, p1, p2, p3⟩ := hcut
              go_upto_if 47 with fail
              go_cut [9] from 44 to 48 (fun s9 wq => w2 = wq ∧ ∃ m : Int, s9 = .int .i64 m ∧ m ≤ x ∧ Hid ((x : Int) / 2 < m))
              case first =>
                by_cases hmn : m1 < n
                · go_wp2
                  go_meet
                  case rel => exact ⟨rfl, n, rfl, by omega, half_lt HS.out.len n (by omega) (by omega) (by omega)⟩
                · go_wp2
                  go_meet
                  case rel => exact ⟨rfl, m1, rfl, by omega, half_lt HS.out.len m1 (by omega) (by omega) (by omega)⟩
              case rest =>
              clear p1 p2 p3
              obtain ⟨rfl, m, rfl, p3, p4⟩ := hcut
              have z1 : decide ((x : Int) < m) = false := by simp; omega
              have z2 : decide (m ≤ (x : Int) / 2) = false := by have := p4.out; simp; omega
              have z3 : (((2 * x : Nat) : Int) != 2 * (x : Int)) = false := by rw [bne_eq_false_iff_eq]; omega
              have z4 : (T' 0 != 0) = false := by rw [bne_eq_false_iff_eq]; exact HS.out.zero
              have HP : Hid (pow2N x = true) := (pow2N_iff x (by omega)).2 HS.out.len.pow
              obtain ⟨b0, o0, e0, hc0⟩ := HQ.out 0 (by omega)
              obtain ⟨rfl, rfl⟩ : nb = b0 ∧ 0 = o0 := by simpa using e0
              have HC : Hid (∀ j, j < 2 * x → w2.cell? ⟨nb, 0 + j, none⟩ = some (.int .i64 (T' j))) := hc0
              have q0 : w2.cell? ⟨nb, 0, none⟩ = some (.int .i64 (T' 0)) := hc0 0 (by omega)
              clear hc0 e0 p4
              go_wp2_with fail
              refine (pow2_any x _ (by omega) (by omega)).mono ?_
              rintro e w3 ⟨rfl, rfl⟩
              rw [HP.out]
              go_wp2_with fail
              go_loop [10] (fun s10 => ∃ l : Nat, l ≤ x ∧ s10 = .int .i64 l) (fun s => x - (intOf s).toNat)
              case atStart => exact ⟨0, by omega, rfl⟩
              case round =>
                obtain ⟨l, hl, rfl⟩ := hrel
                by_cases hlt : l < x
                · have q1 : w2.cell? ⟨nb, x + l, none⟩ = some (.int .i64 (T' (x + l))) := by have := HC.out (x + l) (by omega); rwa [Nat.zero_add] at this
                  have HF : Hid _ := HS.out.leaf l hlt
                  by_cases hlL : l < L
                  · have hlen : len = 2 * L := by rcases HT.out with h | h; omega; exact h.2.1
                    subst hlen
                    obtain ⟨b, off, rfl, hc⟩ := HR2.out (L + l) (by omega)
                    have q2 := hc (L + l) (by omega)
                    clear hc
                    have zz : (T' (x + l) != T (L + l)) = false := by rw [bne_eq_false_iff_eq, HF.out, if_pos hlL]
                    go_wp2
                    go_round
                    case rel => exact ⟨l + 1, by omega, by go_num⟩
                    case measure => simp [intOf]; omega
                  · have zz : (T' (x + l) != 0) = false := by rw [bne_eq_false_iff_eq, HF.out, if_neg hlL]
                    go_wp2
                    go_round
                    case rel => exact ⟨l + 1, by omega, by go_num⟩
                    case measure => simp [intOf]; omega
                · obtain rfl : x = l := by omega
                  go_wp2_with fail
                  refine (tree_yes x (some ⟨nb, 0, none⟩) (2 * x) (2 * x) T' _ hx2 (by omega) HQ.out (Or.inr (grow_tree HS.out))).mono ?_
                  rintro e w4 ⟨rfl, rfl⟩
                  go_wp2_with fail
                  go_ret
                  exact ⟨rfl, HB2.out⟩
            · have HT : Hid _ := hT
              clear hT
              go_enter Try.func5, Try.ntmps5
              go_wp2_with fail
              refine (bytesG_yes _ a len cap _ _ h1).mono ?_
              rintro e w' ⟨rfl, rfl⟩
              go_wp2_with fail
              refine (tree_no L a len cap T _ hL h1 HR.out HT.out).mono ?_
              rintro e w' ⟨rfl, rfl⟩
              go_wp2_with fail
              go_ret
              exact ⟨rfl, Below.refl _ _⟩
    · go_enter Try.func5, Try.ntmps5
      go_wp2_with fail
      refine (bytesG_yes _ a len cap _ _ h1).mono ?_
      rintro e w' ⟨rfl, rfl⟩
      go_wp2_with fail
      go_ret
      exact ⟨rfl, Below.refl _ _⟩
  · go_enter Try.func5, Try.ntmps5
    go_wp2_with fail
    refine (bytesG_no _ a len cap _ _ h1).mono ?_
    rintro e w' ⟨rfl, rfl⟩
    go_wp2_with fail
    go_ret
    exact ⟨rfl, Below.refl _ _⟩
end Go.Proofs.Qxb6605451a
