/- THE WALK of FnGossipFromStartOnlySpreadsForcedConfig: function 6. -/
import Derived.Test.Qxb6605433aZZStart
import Derived.Test.Qxb6605433aTwo
import Derived.Test.Qxb6605433aZZOne
namespace Go.Proofs.Qxb6605433a
open Go.RowKit
/-- The messages' cells: x k and y k the two numbers of message k. -/
def Msgs (w : World) (a : Option Addr) (len : Nat) (x y : Nat → Int) : Prop :=
  ∀ k, k < len → ∃ b off, a = some ⟨b, off, none⟩ ∧ (∀ j, j < len → w.cell? ⟨b, off + j * 2, none⟩ = some (.int .i64 (x j)) ∧ w.cell? ⟨b, off + j * 2 + 1, none⟩ = some (.int .i64 (y j)))
theorem Msgs.below {w w' : World} {a : Option Addr} {len : Nat} {x y : Nat → Int} (h : Msgs w a len x y) (hb : Below w.heap.size w w') : Msgs w' a len x y := fun k hk => by
  obtain ⟨b, off, e, hc⟩ := h k hk
  exact ⟨b, off, e, fun j hj => ⟨(hb.cell (p := ⟨b, off + j * 2, none⟩) (World.block_lt_of_cell? w _ (hc j hj).1)).trans (hc j hj).1, (hb.cell (p := ⟨b, off + j * 2 + 1, none⟩) (World.block_lt_of_cell? w _ (hc j hj).2)).trans (hc j hj).2⟩⟩
/-- The messages' block lies below g. -/
def MsgsLt (a : Option Addr) (len g : Nat) : Prop := ∀ b off, a = some ⟨b, off, none⟩ → 0 < len → b < g
theorem MsgsLt.of {w : World} {a : Option Addr} {len g : Nat} {x y : Nat → Int} (h : Msgs w a len x y) (hg : w.heap.size ≤ g) : MsgsLt a len g := fun b off e hl => by
  obtain ⟨b', off', e', hc⟩ := h 0 hl
  rw [e] at e'
  obtain ⟨rfl, rfl⟩ : b = b' ∧ off = off' := by simpa using e'
  have := World.block_lt_of_cell? w _ (hc 0 hl).1
  exact Nat.lt_of_lt_of_le this hg
theorem G5.rows (w1 : World) (g : Nat) (m v c t p m' v' c' t' p' : Nat → Int) (Q : G5 w1 g m v c t p) :
    G5 (((((w1.setRow (g) #[.int .u8 (m' 0), .int .u8 (m' 1), .int .u8 (m' 2), .int .u8 (m' 3), .int .u8 (m' 4)]).setRow (g + 1) #[.int .u8 (v' 0), .int .u8 (v' 1), .int .u8 (v' 2), .int .u8 (v' 3), .int .u8 (v' 4)]).setRow (g + 1 + 1) #[.int .u8 (c' 0), .int .u8 (c' 1), .int .u8 (c' 2), .int .u8 (c' 3), .int .u8 (c' 4)]).setRow (g + 1 + 1 + 1) #[.int .u8 (t' 0), .int .u8 (t' 1), .int .u8 (t' 2), .int .u8 (t' 3), .int .u8 (t' 4)]).setRow (g + 1 + 1 + 1 + 1) #[.int .u8 (p' 0), .int .u8 (p' 1), .int .u8 (p' 2), .int .u8 (p' 3), .int .u8 (p' 4)]) g m' v' c' t' p' :=
  ⟨(Blk.rowFar (Blk.rowFar (Blk.rowFar (Blk.rowFar (Blk.row Q.m _) (g + 1) _ (by omega)) (g + 1 + 1) _ (by omega)) (g + 1 + 1 + 1) _ (by omega)) (g + 1 + 1 + 1 + 1) _ (by omega)), (Blk.rowFar (Blk.rowFar (Blk.rowFar (Blk.row (Blk.rowFar Q.v (g) _ (by omega)) _) (g + 1 + 1) _ (by omega)) (g + 1 + 1 + 1) _ (by omega)) (g + 1 + 1 + 1 + 1) _ (by omega)), (Blk.rowFar (Blk.rowFar (Blk.row (Blk.rowFar (Blk.rowFar Q.c (g) _ (by omega)) (g + 1) _ (by omega)) _) (g + 1 + 1 + 1) _ (by omega)) (g + 1 + 1 + 1 + 1) _ (by omega)), (Blk.rowFar (Blk.row (Blk.rowFar (Blk.rowFar (Blk.rowFar Q.t (g) _ (by omega)) (g + 1) _ (by omega)) (g + 1 + 1) _ (by omega)) _) (g + 1 + 1 + 1 + 1) _ (by omega)), (Blk.row (Blk.rowFar (Blk.rowFar (Blk.rowFar (Blk.rowFar Q.p (g) _ (by omega)) (g + 1) _ (by omega)) (g + 1 + 1) _ (by omega)) (g + 1 + 1 + 1) _ (by omega)) _)⟩
theorem G5.to {w : World} {g : Nat} {m v c t p m' v' c' t' p' : Nat → Int} (h : G5 w g m v c t p) (e1 : m = m') (e2 : v = v') (e3 : c = c') (e4 : t = t') (e5 : p = p') : G5 w g m' v' c' t' p' := by
  subst e1 e2 e3 e4 e5; exact h
theorem Msgs.row {w : World} {a : Option Addr} {len g : Nat} {x y : Nat → Int} (h : Msgs w a len x y) (g' : Nat) (cs : Array Value) (hl : MsgsLt a len g) (hg : g ≤ g') : Msgs (w.setRow g' cs) a len x y := fun k hk => by
  obtain ⟨b, off, e, hc⟩ := h k hk
  have hb := hl b off e (by omega)
  exact ⟨b, off, e, fun j hj => ⟨(cell_setRow_other w g' cs _ (show b ≠ g' by omega)).trans (hc j hj).1, (cell_setRow_other w g' cs _ (show b ≠ g' by omega)).trans (hc j hj).2⟩⟩
/-- One delivery among the states that gossip reaches. -/
theorem g_tk (r : Bool) (i j : Nat) (hi : i < 5) (hj : j < 5) : tk (gV r) gC gT i j = (!r && (decide (j = 4) && !decide (i = 4))) := by
  have : tk (gV r) gC gT i j = decide (gV r j < gV r i) := by simp [tk, gC, gT, newB]
  rw [this]
  obtain rfl | rfl | rfl | rfl | rfl : i = 0 ∨ i = 1 ∨ i = 2 ∨ i = 3 ∨ i = 4 := by omega
  all_goals (obtain rfl | rfl | rfl | rfl | rfl : j = 0 ∨ j = 1 ∨ j = 2 ∨ j = 3 ∨ j = 4 := by omega) <;> cases r <;> decide
theorem g_m (r : Bool) (i j : Nat) (hi : i < 5) (hj : j < 5) : sF (tk (gV r) gC gT i j) (gM r) i j = gM (r || (decide (j = 4) && !decide (i = 4))) := by
  rw [g_tk r i j hi hj]
  by_cases ej : j = 4
  · by_cases ei : i = 4
    · simp [ej, ei, sF]
    · cases r
      · funext k
        simp [ej, ei, sF, upd, gM]
      · simp [ej, ei, sF]
  · simp [ej, sF]
theorem g_v (r : Bool) (i j : Nat) (hi : i < 5) (hj : j < 5) : sF (tk (gV r) gC gT i j) (gV r) i j = gV (r || (decide (j = 4) && !decide (i = 4))) := by
  rw [g_tk r i j hi hj]
  by_cases ej : j = 4
  · by_cases ei : i = 4
    · simp [ej, ei, sF]
    · cases r
      · funext k
        simp [ej, ei, sF, upd, gV]
      · simp [ej, ei, sF]
  · simp [ej, sF]
theorem g_c (b : Bool) (i j : Nat) : sF b gC i j = gC := by
  cases b
  · rfl
  · funext k
    simp [sF, upd, gC]
theorem g_t (i j : Nat) : sT gT i j = gT := sT_eq gT i j rfl
theorem g_p (i j : Nat) : sP gT gP i j = gP := sP_eq gT gP i j rfl
theorem info33 : ∃ i, Try.prog.info? 33 = some i ∧ i.zero = some (.agg #[.int .i64 0, .int .i64 0]) ∧ i.size = 2 ∧ i.bytes = 16 := by
  have h : (Try.prog.info? 33).map (fun i => (i.zero, i.size, i.bytes)) = some (some (.agg #[.int .i64 0, .int .i64 0]), 2, 16) := by kernel_rfl
  cases hq : Try.prog.info? 33 with
  | none => simp [hq] at h
  | some i =>
    simp [hq] at h
    exact ⟨i, rfl, h.1, h.2.1, h.2.2⟩
theorem make33 (w : World) (len : Nat) (h : len ≤ 65536) : (Instr.makeSlice 31 (.int .i64 len) (.int .i64 len)).run Try.prog w = .ok (.slice (some ⟨w.heap.size, 0, none⟩) len len) (w.alloc (.cells (madeCells #[.int .i64 0, .int .i64 0] (len * 2)) 33)) := by
  obtain ⟨i, hi, hz, hs, hby⟩ := info33
  have hr := run_make (P := Try.prog) w 31 33 i _ Try.underlying31 hi hz .i64 .i64 len len (by omega) (by omega) (by rw [hby]; omega) (by omega)
  rw [hs] at hr
  simp only [Int.toNat_natCast] at hr
  exact hr
theorem put2 (cs : Array Value) (k len j : Nat) (u v : Value) (hsz : cs.size = len * 2) (hk : k < len) (hj : j < k + 1) (x y : Nat → Int)
    (h : ∀ j, j < k → cs[j * 2]? = some (.int .i64 (x j)) ∧ cs[j * 2 + 1]? = some (.int .i64 (y j))) (hu : u = .int .i64 (x k)) (hv : v = .int .i64 (y k)) :
    ((cs.setIfInBounds (k * 2) u).setIfInBounds (k * 2 + 1) v)[j * 2]? = some (.int .i64 (x j)) ∧ ((cs.setIfInBounds (k * 2) u).setIfInBounds (k * 2 + 1) v)[j * 2 + 1]? = some (.int .i64 (y j)) := by
  by_cases e : j = k
  · subst e
    refine ⟨?_, ?_⟩
    · rw [Array.getElem?_setIfInBounds_ne (by omega), Array.getElem?_setIfInBounds_self_of_lt (by omega), hu]
    · rw [Array.getElem?_setIfInBounds_self_of_lt (by simp; omega), hv]
  · have := h j (by omega)
    refine ⟨?_, ?_⟩
    · rw [Array.getElem?_setIfInBounds_ne (by omega), Array.getElem?_setIfInBounds_ne (by omega)]; exact this.1
    · rw [Array.getElem?_setIfInBounds_ne (by omega), Array.getElem?_setIfInBounds_ne (by omega)]; exact this.2
set_option maxRecDepth 100000 in
set_option maxHeartbeats 4000000 in
theorem law4_any (a : Option Addr) (len cap : Nat) (x y : Nat → Int) (w : World) (hm : Msgs w a len x y) :
    Calls Try.prog 6 #[.slice a len cap] w fun e w' => e = .returned (.bool true) ∧ Below w.heap.size w w' := by
  have HM : Hid _ := hm
  clear hm
  by_cases h1 : len ≤ 1048576
  · by_cases h2 : len ≤ 65536
    · go_enter Try.func6, Try.ntmps6
      go_wp2_with fail
      refine (bytes_yes a len cap _ h1).mono ?_
      rintro e w1 ⟨rfl, rfl⟩
      go_wp2_with fail
      go_loop [3] (fun s3 => ∃ k : Nat, k ≤ len ∧ s3 = .int .i64 k ∧ Hid (∀ j, j < k → 0 ≤ x j ∧ x j < 5 ∧ 0 ≤ y j ∧ y j < 5)) (fun i => len - (intOf i).toNat)
      case atStart => exact ⟨0, by omega, rfl, fun j h => by omega⟩
      case round =>
        obtain ⟨k, hk, rfl, HA⟩ := hrel
        by_cases hlt : k < len
        · obtain ⟨b, off, rfl, hc⟩ := HM.out k hlt
          obtain ⟨c1, c2⟩ := hc k hlt
          clear hc
          have hltI : (k : Int) < (len : Int) := by omega
          by_cases t1 : x k < 0
          · go_wp2
            go_ret
            exact ⟨rfl, Below.refl _ _⟩
          · by_cases t2 : 5 ≤ x k
            · go_wp2
              go_ret
              exact ⟨rfl, Below.refl _ _⟩
            · by_cases t3 : y k < 0
              · go_wp2
                go_ret
                exact ⟨rfl, Below.refl _ _⟩
              · by_cases t4 : 5 ≤ y k
                · go_wp2
                  go_ret
                  exact ⟨rfl, Below.refl _ _⟩
                · go_wp2
                  exact ⟨⟨k + 1, by omega, by go_num, fun j hj => by
                    by_cases e : j = k
                    · subst e; omega
                    · exact HA.out j (by omega)⟩, by simp [intOf]; omega⟩
        · obtain rfl : len = k := by omega
          have hnn : ∀ (W : World) (q : Option Addr) (n c : Nat), (binOp .neq 31 (.slice q n c) (.slice none 0 0)).run Try.prog W = .ok (.bool (!q.isNone)) W := fun W q n c => run_neq_slice_nil_any W 31 _ q n c 0 0 Try.underlying31
          go_upto_if 63 with fail
          go_cut [0] from 20 to 80 (fun s0 wq => ∃ a' cap', s0 = .slice a' len cap' ∧ Below w.heap.size w wq ∧ Hid (Msgs wq a' len x y))
          case first => as_aux_lemma =>
            rcases a with _ | ad
            · go_wp2
              go_meet
              case rel => exact ⟨none, cap, rfl, Below.refl _ _, HM⟩
            · have hmk := make33 w len (by omega)
              clear hnn
              go_wp2
              go_loopw [5] (fun s5 wr => ∃ k : Nat, k ≤ len ∧ s5 = .int .i64 k ∧ Below w.heap.size w wr ∧ ∃ cs, Blk wr w.heap.size cs 33 ∧ cs.size = len * 2 ∧ Hid (∀ j, j < k → cs[j * 2]? = some (.int .i64 (x j)) ∧ cs[j * 2 + 1]? = some (.int .i64 (y j)))) (fun i _ => len - (intOf i).toNat)
              case atStart => exact ⟨0, by omega, rfl, (Below.refl _ _).alloc (Nat.le_refl _) _, _, Blk.new _ _ _, size_madeCells _ _, fun j h => by omega⟩
              case round =>
                clear hmk
                obtain ⟨k, hk, rfl, hb, cs, bk, hsz, HC⟩ := hrel
                by_cases hlt : k < len
                · obtain ⟨b, off, hab, hc⟩ := HM.out k hlt
                  obtain rfl := Option.some.inj hab
                  clear hab
                  obtain ⟨c1, c2⟩ := hc k hlt
                  clear hc
                  have d1 := (hb.cell (p := ⟨b, off + k * 2, none⟩) (World.block_lt_of_cell? w _ c1)).trans c1
                  have d2 := (hb.cell (p := ⟨b, off + k * 2 + 1, none⟩) (World.block_lt_of_cell? w _ c2)).trans c2
                  obtain ⟨z1, e1⟩ : ∃ z, wr.cell? ⟨w.heap.size, k * 2, none⟩ = some z := ⟨_, (bk.cell (k * 2)).trans (Array.getElem?_eq_getElem (show k * 2 < cs.size by omega))⟩
                  obtain ⟨z2, e2⟩ : ∃ z, wr.cell? ⟨w.heap.size, k * 2 + 1, none⟩ = some z := ⟨_, (bk.cell (k * 2 + 1)).trans (Array.getElem?_eq_getElem (show k * 2 + 1 < cs.size by omega))⟩
                  have hf := bk.frozen
                  have hltI : (k : Int) < (len : Int) := by omega
                  have HB : Hid _ := And.intro hb (And.intro bk hsz)
                  clear c1 c2 hb bk hsz
                  go_wp2
                  go_roundw
                  case rel =>
                    obtain ⟨hb, bk, hsz⟩ := HB.out
                    exact ⟨k + 1, by omega, by go_num, (hb.setCell (p := ⟨w.heap.size, k * 2, none⟩) (Nat.le_refl _) _).setCell (p := ⟨w.heap.size, k * 2 + 1, none⟩) (Nat.le_refl _) _, _, (bk.set _ _).set _ _, by simp [hsz], fun j hj => put2 cs k len j _ _ hsz hlt hj x y HC.out rfl rfl⟩
                  case measure => simp [intOf]; omega
                · obtain rfl : len = k := by omega
                  go_wp2
                  go_meet
                  case rel =>
                    exact ⟨_, _, rfl, hb, fun j hj => ⟨w.heap.size, 0, rfl, fun i hi => ⟨by rw [Nat.zero_add]; exact (bk.cell _).trans (HC.out i hi).1, by rw [Nat.zero_add]; exact (bk.cell _).trans (HC.out i hi).2⟩⟩⟩
          case rest =>
            obtain ⟨a', cap', rfl, hbel, HM'⟩ := hcut
            clear HM
            go_upto_region 17 with fail
            go_cut [6, 7, 8, 9, 10, 11] from 81 to 88 (fun s6 s7 s8 s9 s10 s11 wq => ∃ g, s6 = .pointer (some ⟨g, 0, none⟩) ∧ s7 = .pointer (some ⟨g + 1, 0, none⟩) ∧ s8 = .pointer (some ⟨g + 1 + 1, 0, none⟩) ∧ s9 = .pointer (some ⟨g + 1 + 1 + 1, 0, none⟩) ∧ s10 = .pointer (some ⟨g + 1 + 1 + 1 + 1, 0, none⟩) ∧ s11 = .int .u16 1 ∧ Below w.heap.size w wq ∧ Hid (Msgs wq a' len x y) ∧ Hid (MsgsLt a' len g) ∧ w.heap.size ≤ g ∧ G5 wq g (gM false) (gV false) gC gT gP)
            case first => as_aux_lemma =>
              have HB : Hid _ := hbel
              clear hbel
              go_wp2_with fail
              refine (zzStart_any _).mono ?_
              rintro e w1 ⟨rfl, hb⟩
              go_wp2_with fail
              go_meet
              case rel =>
                have hs := hb.size
                have hs0 := HB.out.size
                exact ⟨_, rfl, rfl, rfl, rfl, rfl, rfl, (HB.out.trans (hb.mono (by omega))).trans ((below5 w1 _ _ _ _ _).mono (by omega)), (HM'.out.below hb).below (below5 w1 _ _ _ _ _), MsgsLt.of HM'.out hs, by omega, G5.made w1 _ _ _ _ _⟩
            case rest =>
            clear hbel HM'
            obtain ⟨g, rfl, rfl, rfl, rfl, rfl, rfl, hbel, HM, HLT, hgw, G⟩ := hcut
            go_wp2
            go_loopw [11, 12, 13] (fun s11 s12 s13 wr => ∃ (k : Nat) (r : Bool), k ≤ len ∧ s13 = .int .i64 k ∧ s12 = .bool r ∧ s11 = .int .u16 1 ∧ Below w.heap.size w wr ∧ Hid (Msgs wr a' len x y) ∧ G5 wr g (gM r) (gV r) gC gT gP) (fun _ _ i _ => len - (intOf i).toNat)
            case atStart => exact ⟨0, false, by omega, rfl, rfl, rfl, hbel, HM, G⟩
            case round =>
              clear hbel HM G
              obtain ⟨k, r, hk, rfl, rfl, rfl, hbel, HM, G⟩ := hrel
              by_cases hlt : k < len
              · obtain ⟨b, off, rfl, hc⟩ := HM.out k hlt
                have hbg := HLT.out b off rfl (by omega)
                obtain ⟨c1, c2⟩ := hc k hlt
                clear hc
                obtain ⟨i, j, hxi, hyj, hi, hj⟩ : ∃ i j : Nat, x k = i ∧ y k = j ∧ i < 5 ∧ j < 5 := by
                  obtain ⟨p1, p2, p3, p4⟩ := HA.out k hlt
                  exact ⟨(x k).toNat, (y k).toNat, by omega, by omega, by omega, by omega⟩
                rw [hxi] at c1
                rw [hyj] at c2
                clear hxi hyj
                have xm := G.m.cell
                have xv := G.v.cell
                have xc := G.c.cell
                have xt := G.t.cell
                have xp := G.p.cell
                simp only [List.getElem?_toArray] at xm xv xc xt xp
                have hltI : (k : Int) < (len : Int) := by omega
                have HB : Hid _ := And.intro hbel G
                clear hbel G
                go_upto_region 24 with fail
                go_cut [11] from 105 to 120 (fun s11 wq => s11 = .int .u16 1 ∧ Below w.heap.size w wq ∧ Hid (Msgs wq (some ⟨b, off, none⟩) len x y) ∧ G5 wq g (gM (r || (decide (j = 4) && !decide (i = 4)))) (gV (r || (decide (j = 4) && !decide (i = 4)))) gC gT gP)
                case first => as_aux_lemma =>
                  go_wp2_with fail
                  refine (zzSent_any (gM r) (gV r) gC gT gP 1 i j hi hj _).mono ?_
                  rintro e w1 ⟨rfl, hb⟩
                  obtain ⟨hbel, G⟩ := HB.out
                  have Q := G.below hb G.lt
                  have hs := hbel.size
                  have HQ : Hid _ := hbel.trans (hb.mono (by omega))
                  have HM2 : Hid _ := HM.out.below hb
                  clear HB hbel G hb c1 c2 xm xv xc xt xp HM hs
                  have n01 : g ≠ g + 1 := by omega
                  have n02 : g ≠ g + 1 + 1 := by omega
                  have n03 : g ≠ g + 1 + 1 + 1 := by omega
                  have n04 : g ≠ g + 1 + 1 + 1 + 1 := by omega
                  have n10 : g + 1 ≠ g := by omega
                  have n12 : g + 1 ≠ g + 1 + 1 := by omega
                  have n13 : g + 1 ≠ g + 1 + 1 + 1 := by omega
                  have n14 : g + 1 ≠ g + 1 + 1 + 1 + 1 := by omega
                  have n20 : g + 1 + 1 ≠ g := by omega
                  have n21 : g + 1 + 1 ≠ g + 1 := by omega
                  have n23 : g + 1 + 1 ≠ g + 1 + 1 + 1 := by omega
                  have n24 : g + 1 + 1 ≠ g + 1 + 1 + 1 + 1 := by omega
                  have n30 : g + 1 + 1 + 1 ≠ g := by omega
                  have n31 : g + 1 + 1 + 1 ≠ g + 1 := by omega
                  have n32 : g + 1 + 1 + 1 ≠ g + 1 + 1 := by omega
                  have n34 : g + 1 + 1 + 1 ≠ g + 1 + 1 + 1 + 1 := by omega
                  have n40 : g + 1 + 1 + 1 + 1 ≠ g := by omega
                  have n41 : g + 1 + 1 + 1 + 1 ≠ g + 1 := by omega
                  have n42 : g + 1 + 1 + 1 + 1 ≠ g + 1 + 1 := by omega
                  have n43 : g + 1 + 1 + 1 + 1 ≠ g + 1 + 1 + 1 := by omega
                  go_wp2_with (first | (refine wpList_store_row rfl 22 _ _ rfl (g) _ rfl rfl 22 #[.int .u8 (gM r 0), .int .u8 (gM r 1), .int .u8 (gM r 2), .int .u8 (gM r 3), .int .u8 (gM r 4)] ?hg (by kernel_rfl) rfl (by kernel_rfl) ?_; case hg => exact Q.m) | (refine wpList_store_row rfl 22 _ _ rfl (g + 1) _ rfl rfl 22 #[.int .u8 (gV r 0), .int .u8 (gV r 1), .int .u8 (gV r 2), .int .u8 (gV r 3), .int .u8 (gV r 4)] ?hg (by kernel_rfl) rfl (by kernel_rfl) ?_; case hg => exact (Blk.rowFar Q.v (g) _ n10)) | (refine wpList_store_row rfl 22 _ _ rfl (g + 1 + 1) _ rfl rfl 22 #[.int .u8 (gC 0), .int .u8 (gC 1), .int .u8 (gC 2), .int .u8 (gC 3), .int .u8 (gC 4)] ?hg (by kernel_rfl) rfl (by kernel_rfl) ?_; case hg => exact (Blk.rowFar (Blk.rowFar Q.c (g) _ n20) (g + 1) _ n21)) | (refine wpList_store_row rfl 22 _ _ rfl (g + 1 + 1 + 1) _ rfl rfl 22 #[.int .u8 (gT 0), .int .u8 (gT 1), .int .u8 (gT 2), .int .u8 (gT 3), .int .u8 (gT 4)] ?hg (by kernel_rfl) rfl (by kernel_rfl) ?_; case hg => exact (Blk.rowFar (Blk.rowFar (Blk.rowFar Q.t (g) _ n30) (g + 1) _ n31) (g + 1 + 1) _ n32)) | (refine wpList_store_row rfl 22 _ _ rfl (g + 1 + 1 + 1 + 1) _ rfl rfl 22 #[.int .u8 (gP 0), .int .u8 (gP 1), .int .u8 (gP 2), .int .u8 (gP 3), .int .u8 (gP 4)] ?hg (by kernel_rfl) rfl (by kernel_rfl) ?_; case hg => exact (Blk.rowFar (Blk.rowFar (Blk.rowFar (Blk.rowFar Q.p (g) _ n40) (g + 1) _ n41) (g + 1 + 1) _ n42) (g + 1 + 1 + 1) _ n43)))
                  go_meet
                  case rel =>
                    have G2 := G5.rows w1 g (gM r) (gV r) gC gT gP (sF (tk (gV r) gC gT i j) (gM r) i j) (sF (tk (gV r) gC gT i j) (gV r) i j) (sF (tk (gV r) gC gT i j) gC i j) (sT gT i j) (sP gT gP i j) Q
                    exact ⟨rfl, (below_setRow (below_setRow (below_setRow (below_setRow (below_setRow HQ.out (show w.heap.size ≤ g by omega) _) (show w.heap.size ≤ g + 1 by omega) _) (show w.heap.size ≤ g + 1 + 1 by omega) _) (show w.heap.size ≤ g + 1 + 1 + 1 by omega) _) (show w.heap.size ≤ g + 1 + 1 + 1 + 1 by omega) _), (Msgs.row (Msgs.row (Msgs.row (Msgs.row (Msgs.row HM2.out (g) _ HLT.out (show g ≤ g by omega)) (g + 1) _ HLT.out (show g ≤ g + 1 by omega)) (g + 1 + 1) _ HLT.out (show g ≤ g + 1 + 1 by omega)) (g + 1 + 1 + 1) _ HLT.out (show g ≤ g + 1 + 1 + 1 by omega)) (g + 1 + 1 + 1 + 1) _ HLT.out (show g ≤ g + 1 + 1 + 1 + 1 by omega)), G2.to (g_m r i j hi hj) (g_v r i j hi hj) (g_c _ i j) (g_t i j) (g_p i j)⟩
                case rest =>
                  clear HB HM c1 c2 xm xv xc xt xp
                  obtain ⟨rfl, hbel, HM, G⟩ := hcut
                  have HB : Hid _ := And.intro hbel G
                  clear hbel G
                  have hi0 : (0 : Int) ≤ (i : Int) := by omega
                  by_cases ej : j = 4
                  · have bj : ((j : Int) == 4) = true := by rw [beq_iff_eq]; omega
                    by_cases ei : i = 4
                    · have bi : ((i : Int) != 4) = false := by subst ei; simp
                      go_wp2
                      exact ⟨⟨k + 1, r, by omega, by go_num, rfl, rfl, HB.out.1, HM, by have q := HB.out.2; simpa [ej, ei] using q⟩, by simp [intOf]; omega⟩
                    · have bi : ((i : Int) != 4) = true := by rw [bne_iff_ne]; omega
                      go_wp2
                      exact ⟨⟨k + 1, true, by omega, by go_num, rfl, rfl, HB.out.1, HM, by have q := HB.out.2; simpa [ej, ei] using q⟩, by simp [intOf]; omega⟩
                  · have bj : ((j : Int) == 4) = false := by rw [beq_eq_false_iff_ne]; omega
                    go_wp2
                    exact ⟨⟨k + 1, r, by omega, by go_num, rfl, rfl, HB.out.1, HM, by have q := HB.out.2; simpa [ej] using q⟩, by simp [intOf]; omega⟩
              · obtain rfl : len = k := by omega
                cases r
                · have HB : Hid _ := And.intro hbel G
                  have xm := G.m.cell
                  have xv := G.v.cell
                  have xc := G.c.cell
                  have xt := G.t.cell
                  have xp := G.p.cell
                  simp only [List.getElem?_toArray] at xm xv xc xt xp
                  clear hbel G
                  go_wp2
                  go_loop [16] (fun s16 => ∃ n : Nat, n ≤ 5 ∧ s16 = .int .i64 n) (fun i => 5 - (intOf i).toNat)
                  case atStart => exact ⟨0, by omega, rfl⟩
                  case round =>
                    obtain ⟨n, hn, rfl⟩ := hrel
                    by_cases hn5 : n < 5
                    · obtain rfl | rfl | rfl | rfl | rfl : n = 0 ∨ n = 1 ∨ n = 2 ∨ n = 3 ∨ n = 4 := by omega
                      · have e1 : (gT 0 != 1) = false := by decide
                        have e2 : (gP 0 != 1) = false := by decide
                        have e3 : (gM false 0 != 15) = false := by decide
                        have e4 : (gV false 0 != 1) = false := by decide
                        have e5 : (gC 0 != 0) = false := by decide
                        go_wp2
                        exact ⟨⟨0 + 1, by omega, by go_num⟩, by simp [intOf]⟩
                      · have e1 : (gT 1 != 1) = false := by decide
                        have e2 : (gP 1 != 0) = false := by decide
                        have e3 : (gM false 1 != 15) = false := by decide
                        have e4 : (gV false 1 != 1) = false := by decide
                        have e5 : (gC 1 != 0) = false := by decide
                        go_wp2
                        exact ⟨⟨1 + 1, by omega, by go_num⟩, by simp [intOf]⟩
                      · have e1 : (gT 2 != 1) = false := by decide
                        have e2 : (gP 2 != 0) = false := by decide
                        have e3 : (gM false 2 != 15) = false := by decide
                        have e4 : (gV false 2 != 1) = false := by decide
                        have e5 : (gC 2 != 0) = false := by decide
                        go_wp2
                        exact ⟨⟨2 + 1, by omega, by go_num⟩, by simp [intOf]⟩
                      · have e1 : (gT 3 != 1) = false := by decide
                        have e2 : (gP 3 != 0) = false := by decide
                        have e3 : (gM false 3 != 15) = false := by decide
                        have e4 : (gV false 3 != 1) = false := by decide
                        have e5 : (gC 3 != 0) = false := by decide
                        go_wp2
                        exact ⟨⟨3 + 1, by omega, by go_num⟩, by simp [intOf]⟩
                      · have e1 : (gT 4 != 1) = false := by decide
                        have e2 : (gP 4 != 0) = false := by decide
                        have e3 : (gM false 4 != 0) = false := by decide
                        have e4 : (gV false 4 != 0) = false := by decide
                        have e5 : (gC 4 != 0) = false := by decide
                        go_wp2
                        exact ⟨⟨4 + 1, by omega, by go_num⟩, by simp [intOf]⟩
                    · obtain rfl : n = 5 := by omega
                      go_wp2_with fail
                      refine (zzOne_any (gM false) (gV false) gC gT gP 1 _).mono ?_
                      rintro e w1 ⟨rfl, hb⟩
                      rw [show oneB 1 = true from by decide]
                      go_wp2_with fail
                      go_ret
                      have hs := HB.out.1.size
                      exact ⟨rfl, HB.out.1.trans (hb.mono (by omega))⟩
                · have HB : Hid _ := And.intro hbel G
                  have xm := G.m.cell
                  have xv := G.v.cell
                  have xc := G.c.cell
                  have xt := G.t.cell
                  have xp := G.p.cell
                  simp only [List.getElem?_toArray] at xm xv xc xt xp
                  clear hbel G
                  go_wp2
                  go_loop [16] (fun s16 => ∃ n : Nat, n ≤ 5 ∧ s16 = .int .i64 n) (fun i => 5 - (intOf i).toNat)
                  case atStart => exact ⟨0, by omega, rfl⟩
                  case round =>
                    obtain ⟨n, hn, rfl⟩ := hrel
                    by_cases hn5 : n < 5
                    · obtain rfl | rfl | rfl | rfl | rfl : n = 0 ∨ n = 1 ∨ n = 2 ∨ n = 3 ∨ n = 4 := by omega
                      · have e1 : (gT 0 != 1) = false := by decide
                        have e2 : (gP 0 != 1) = false := by decide
                        have e3 : (gM true 0 != 15) = false := by decide
                        have e4 : (gV true 0 != 1) = false := by decide
                        have e5 : (gC 0 != 0) = false := by decide
                        go_wp2
                        exact ⟨⟨0 + 1, by omega, by go_num⟩, by simp [intOf]⟩
                      · have e1 : (gT 1 != 1) = false := by decide
                        have e2 : (gP 1 != 0) = false := by decide
                        have e3 : (gM true 1 != 15) = false := by decide
                        have e4 : (gV true 1 != 1) = false := by decide
                        have e5 : (gC 1 != 0) = false := by decide
                        go_wp2
                        exact ⟨⟨1 + 1, by omega, by go_num⟩, by simp [intOf]⟩
                      · have e1 : (gT 2 != 1) = false := by decide
                        have e2 : (gP 2 != 0) = false := by decide
                        have e3 : (gM true 2 != 15) = false := by decide
                        have e4 : (gV true 2 != 1) = false := by decide
                        have e5 : (gC 2 != 0) = false := by decide
                        go_wp2
                        exact ⟨⟨2 + 1, by omega, by go_num⟩, by simp [intOf]⟩
                      · have e1 : (gT 3 != 1) = false := by decide
                        have e2 : (gP 3 != 0) = false := by decide
                        have e3 : (gM true 3 != 15) = false := by decide
                        have e4 : (gV true 3 != 1) = false := by decide
                        have e5 : (gC 3 != 0) = false := by decide
                        go_wp2
                        exact ⟨⟨3 + 1, by omega, by go_num⟩, by simp [intOf]⟩
                      · have e1 : (gT 4 != 1) = false := by decide
                        have e2 : (gP 4 != 0) = false := by decide
                        have e3 : (gM true 4 != 15) = false := by decide
                        have e4 : (gV true 4 != 1) = false := by decide
                        have e5 : (gC 4 != 0) = false := by decide
                        go_wp2
                        exact ⟨⟨4 + 1, by omega, by go_num⟩, by simp [intOf]⟩
                    · obtain rfl : n = 5 := by omega
                      go_wp2_with fail
                      refine (zzOne_any (gM true) (gV true) gC gT gP 1 _).mono ?_
                      rintro e w1 ⟨rfl, hb⟩
                      rw [show oneB 1 = true from by decide]
                      go_wp2_with fail
                      go_ret
                      have hs := HB.out.1.size
                      exact ⟨rfl, HB.out.1.trans (hb.mono (by omega))⟩
    · go_enter Try.func6, Try.ntmps6
      go_wp2_with fail
      refine (bytes_yes a len cap _ h1).mono ?_
      rintro e w1 ⟨rfl, rfl⟩
      go_wp2_with fail
      go_ret
      exact ⟨rfl, Below.refl _ _⟩
  · go_enter Try.func6, Try.ntmps6
    go_wp2_with fail
    refine (bytes_no a len cap _ h1).mono ?_
    rintro e w1 ⟨rfl, rfl⟩
    go_wp2_with fail
    go_ret
    exact ⟨rfl, Below.refl _ _⟩
end Go.Proofs.Qxb6605433a
