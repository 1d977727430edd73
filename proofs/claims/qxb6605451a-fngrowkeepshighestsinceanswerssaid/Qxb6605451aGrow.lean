/- THE WALK of grow: function 23. -/
import Derived.Test.Qxb6605451aRow
import Derived.Deep.RegionHeld3
namespace Go.Proofs.Qxb6605451a
open Go.RowKit
/-- How many leaves grow(n) makes of L. -/
structure GrowL (L : Nat) (n : Int) (x : Nat) : Prop where
  pow : ∃ e, x = 2 ^ e
  lo : 16 ≤ x
  old : L ≤ x
  top : x ≤ 65536
  half : x / 2 < 16 ∨ x / 2 < L ∨ ((x / 2 : Nat) : Int) < n
/-- What grow makes of the record. -/
structure GrowSpec (L : Nat) (n : Int) (x : Nat) (T T' : Nat → Int) : Prop where
  len : GrowL L n x
  room : n ≤ x
  zero : T' 0 = 0
  leaf : ∀ l, l < x → T' (x + l) = if l < L then T (L + l) else 0
  inner : Inner x T'
theorem growL_start (L : Nat) (n : Int) (hL : L ≤ 65536) (hp : L = 0 ∨ ∃ e, L = 2 ^ e) : (L ≤ 16 → GrowL L n 16) ∧ (16 < L → GrowL L n L) :=
  ⟨fun h => ⟨⟨4, rfl⟩, by omega, by omega, by omega, by omega⟩, fun h => ⟨by rcases hp with e | e; omega; exact e, by omega, by omega, by omega, by omega⟩⟩
theorem growL_step (L : Nat) (n : Int) (x : Nat) (h : GrowL L n x) (hx : (x : Int) < n) (hn : n ≤ 65536) : GrowL L n (x * 2) := by
  obtain ⟨e, he⟩ := h.pow
  have h1 := h.lo
  have h2 := h.old
  refine ⟨⟨e + 1, by rw [he, Nat.pow_succ]⟩, by omega, by omega, ?_, by omega⟩
  have : e < 16 := by
    have : 2 ^ e < 2 ^ 16 := by omega
    exact (Nat.pow_lt_pow_iff_right (by omega)).1 this
  have : 2 ^ e ≤ 2 ^ 15 := Nat.pow_le_pow_right (by omega) (by omega)
  omega
theorem make3x (w : World) (x : Nat) (h : x ≤ 65536) : (Instr.makeSlice 22 (.int .i64 (2 * (x : Int))) (.int .i64 (2 * (x : Int)))).run Try.prog w = .ok (.slice (some ⟨w.heap.size, 0, none⟩) (2 * x) (2 * x)) (w.alloc (.cells (madeCells #[.int .i64 0] (2 * x)) 3)) := by
  have := make3 w (2 * x) (by omega)
  rw [show ((2 * x : Nat) : Int) = 2 * (x : Int) by omega] at this
  exact this
/-- The new row behind the copy. -/
def Half (L x : Nat) (T : Nat → Int) (cs : Array Value) : Prop := cs.size = 2 * x ∧ (∀ j, j < x → cs[j]? = some (.int .i64 0)) ∧ ∀ l, l < x → cs[x + l]? = some (.int .i64 (if l < L then T (L + l) else 0))
theorem half_zero (x : Nat) (T : Nat → Int) : Half 0 x T (madeCells #[.int .i64 0] (2 * x)) :=
  ⟨size_madeCells _ _, fun j h => made_at _ _ (by omega), fun l h => by rw [made_at _ _ (by omega)]; simp⟩
theorem half_copy (L x : Nat) (T : Nat → Int) (hL : L ≤ x) : Half L x T (splice (madeCells #[.int .i64 0] (2 * x)).toList x ((List.range L).map fun l => Value.int .i64 (T (L + l)))).toArray := by
  have hsz : (madeCells #[.int .i64 0] (2 * x)).toList.length = 2 * x := by rw [Array.length_toList]; exact size_madeCells _ _
  have hlen : (splice (madeCells #[.int .i64 0] (2 * x)).toList x ((List.range L).map fun l => Value.int .i64 (T (L + l)))).length = 2 * x := by
    rw [length_splice _ _ _ (by rw [hsz]; simp; omega), hsz]
  have hget : ∀ j, j < 2 * x → (madeCells #[.int .i64 0] (2 * x)).toList[j]? = some (.int .i64 0) := fun j h => by rw [Array.getElem?_toList]; exact made_at _ _ h
  refine ⟨by simpa using hlen, fun j h => ?_, fun l h => ?_⟩
  · rw [List.getElem?_toArray]
    unfold splice
    rw [List.getElem?_append_left (by rw [List.length_take, hsz]; omega), List.getElem?_take, if_pos h]
    exact hget j (by omega)
  · rw [List.getElem?_toArray]
    unfold splice
    have htl : ((madeCells #[.int .i64 0] (2 * x)).toList.take x).length = x := by rw [List.length_take, hsz]; omega
    rw [List.getElem?_append_right (by rw [htl]; omega), htl, show x + l - x = l by omega]
    by_cases hl : l < L
    · rw [List.getElem?_append_left (by simpa using hl), if_pos hl]
      simp [hl]
    · rw [List.getElem?_append_right (by simp; omega), if_neg hl, List.getElem?_drop]
      simp only [List.length_map, List.length_range]
      exact hget _ (by omega)
/-- The new row in the last loop: the inner nodes above i stand. -/
def Part (L x : Nat) (T : Nat → Int) (i : Nat) (cs : Array Value) (F : Nat → Int) : Prop :=
  cs.size = 2 * x ∧ (∀ j, j < 2 * x → cs[j]? = some (.int .i64 (F j))) ∧ F 0 = 0 ∧ (∀ l, l < x → F (x + l) = if l < L then T (L + l) else 0) ∧ ∀ j, i < j → j < x → F j = mxT (F (2 * j)) (F (2 * j + 1))
theorem part_start (L x : Nat) (T : Nat → Int) (cs : Array Value) (hx : 16 ≤ x) (h : Half L x T cs) : ∃ F, Part L x T (x - 1) cs F := by
  obtain ⟨h1, h2, h3⟩ := h
  refine ⟨fun j => if j < x then 0 else if j - x < L then T (L + (j - x)) else 0, h1, fun j hj => ?_, ?_, fun l hl => ?_, fun j hj1 hj2 => by omega⟩
  · by_cases e : j < x
    · rw [h2 j e]; simp [e]
    · obtain ⟨l, rfl⟩ : ∃ l, j = x + l := ⟨j - x, by omega⟩
      rw [h3 l (by omega)]
      simp [e]
  · have : 0 < x := by omega
    simp [this]
  · have : ¬ x + l < x := by omega
    simp [this]
theorem part_step (L x : Nat) (T : Nat → Int) (i : Nat) (cs : Array Value) (F : Nat → Int) (hi : 1 ≤ i) (hx : i < x) (h : Part L x T i cs F) :
    Part L x T (i - 1) (cs.setIfInBounds i (.int .i64 (mxT (F (2 * i)) (F (2 * i + 1))))) (fun j => if j = i then mxT (F (2 * i)) (F (2 * i + 1)) else F j) := by
  obtain ⟨h1, h2, h3, h4, h5⟩ := h
  refine ⟨by simpa using h1, fun j hj => ?_, ?_, fun l hl => ?_, fun j hj1 hj2 => ?_⟩
  · by_cases e : j = i
    · subst e
      rw [Array.getElem?_setIfInBounds_self_of_lt (by omega)]; simp
    · rw [Array.getElem?_setIfInBounds_ne (by omega), h2 j hj]; simp [e]
  · have : ¬ (0 : Nat) = i := by omega
    simp [this, h3]
  · have : ¬ x + l = i := by omega
    simp only [this, if_false]
    exact h4 l hl
  · by_cases e : j = i
    · subst e
      have e1 : ¬ 2 * j = j := by omega
      have e2 : ¬ 2 * j + 1 = j := by omega
      simp [e1, e2]
    · have e1 : ¬ 2 * j = i := by omega
      have e2 : ¬ 2 * j + 1 = i := by omega
      simp only [e, e1, e2, if_false]
      exact h5 j (by omega) hj2
theorem part_end (L : Nat) (n : Int) (x : Nat) (T : Nat → Int) (cs : Array Value) (F : Nat → Int) (hl : GrowL L n x) (hn : n ≤ x) (h : Part L x T 0 cs F) : GrowSpec L n x T F :=
  ⟨hl, hn, h.2.2.1, h.2.2.2.1, fun i h1 h2 => h.2.2.2.2 i (by omega) h2⟩
/-- What grow leaves behind. -/
def GrowEnd (g L : Nat) (n : Int) (T : Nat → Int) (w : World) (e : Ending) (w' : World) : Prop :=
  ∃ x nb T', e = .returned (.tuple #[]) ∧ GrowSpec L n x T T' ∧ Blk w' g #[.int .i64 x, .slice (some ⟨nb, 0, none⟩) (2 * x) (2 * x)] 37 ∧ Row w' (some ⟨nb, 0, none⟩) (2 * x) T' ∧ Below g w w'
set_option maxHeartbeats 1000000 in
theorem grow_any (g L : Nat) (a : Option Addr) (len : Nat) (T : Nat → Int) (n : Int) (w : World) (hL : L ≤ 65536) (hn1 : -9223372036854775808 ≤ n) (hn2 : n ≤ 65536)
    (hB : Blk w g #[.int .i64 L, .slice a len len] 37) (hr : Row w a len T) (hT : L = 0 ∨ ((∃ e, L = 2 ^ e) ∧ len = 2 * L)) :
    Calls Try.prog 23 #[.pointer (some ⟨g, 0, none⟩), .int .i64 n] w fun e w' => GrowEnd g L n T w e w' := by
  have HR : Hid (Row w a len T) := hr
  have HT : Hid _ := hT
  have HB : Hid (Blk w g #[.int .i64 L, .slice a len len] 37) := hB
  have c0 : w.cell? ⟨g, 0, none⟩ = some (.int .i64 L) := hB.cell 0
  have c1 : w.cell? ⟨g, 1, none⟩ = some (.slice a len len) := hB.cell 1
  have HS : Hid _ := growL_start L n hL (by rcases hT with h | h; exact Or.inl h; exact Or.inr h.1)
  clear hr hT hB
  go_enter Try.func23, Try.ntmps23
  go_upto_region 0 with fail
  go_cut [4] from 7 to 11 (fun s4 wq => w = wq ∧ ∃ x : Nat, s4 = .int .i64 x ∧ Hid (GrowL L n x))
  case first =>
    by_cases h16 : (16 : Int) < L
    · go_wp2
      go_meet
      case rel => exact ⟨rfl, L, rfl, HS.out.2 (by omega)⟩
    · go_wp2
      go_meet
      case rel => exact ⟨rfl, 16, rfl, HS.out.1 (by omega)⟩
  case rest =>
  clear HS
  obtain ⟨rfl, x0, rfl, HX0⟩ := hcut
  go_wp2
  go_loop [4] (fun s4 => ∃ x : Nat, s4 = .int .i64 x ∧ Hid (GrowL L n x)) (fun s => 131072 - (intOf s).toNat)
  case atStart => exact ⟨x0, rfl, HX0⟩
  case round =>
    clear HX0
    obtain ⟨x, rfl, HX⟩ := hrel
    have hx1 := HX.out.lo
    have hx2 := HX.out.top
    have hx3 := HX.out.old
    by_cases hlt : (x : Int) < n
    · have HN : Hid _ := growL_step L n x HX.out hlt hn2
      go_wp2
      go_round
      case rel => exact ⟨x * 2, by go_num, HN⟩
      case measure => simp [intOf]; omega
    · have hmk := make3x w x hx2
      go_upto_region 3 with fail
      go_cut [5] from 17 to 19 (fun s5 wq => s5 = .slice (some ⟨w.heap.size, 0, none⟩) (2 * x) (2 * x) ∧ Below w.heap.size w wq ∧ Blk wq w.heap.size (madeCells #[.int .i64 0] (2 * x)) 3)
      case first =>
        go_wp2
        go_meet
        case rel => exact ⟨rfl, (Below.refl _ _).alloc (Nat.le_refl _) _, Blk.new _ _ _⟩
      case rest =>
      clear hmk c0 c1
      obtain ⟨rfl, hb, bn⟩ := hcut
      have hg := HB.out.lt
      have bg := HB.out.below hb hg
      have c0 : wc.cell? ⟨g, 0, none⟩ = some (.int .i64 L) := bg.cell 0
      have c1 : wc.cell? ⟨g, 1, none⟩ = some (.slice a len len) := bg.cell 1
      have HQ : Hid _ := And.intro hb (And.intro bn bg)
      clear hb bn bg
      go_upto_if 24 with fail
      go_cut [5] from 20 to 37 (fun s5 wq => s5 = .slice (some ⟨w.heap.size, 0, none⟩) (2 * x) (2 * x) ∧ Below w.heap.size w wq ∧ Blk wq g #[.int .i64 L, .slice a len len] 37 ∧ ∃ cs, Blk wq w.heap.size cs 3 ∧ Hid (Half L x T cs))
      case first =>
        by_cases hL0 : L = 0
        · subst hL0
          go_wp2
          go_meet
          case rel => exact ⟨rfl, HQ.out.1, HQ.out.2.2, _, HQ.out.2.1, half_zero x T⟩
        · obtain ⟨hp, hl⟩ : (∃ e, L = 2 ^ e) ∧ len = 2 * L := by rcases HT.out with h | h; exact absurd h hL0; exact h
          subst hl
          obtain ⟨b, off, rfl, hc⟩ := HR.out 0 (by omega)
          have HC : Hid _ := hc
          clear hc HR hp
          have l1 : (x : Int) ≤ 2 * (x : Int) := by omega
          have l2 : (L : Int) ≤ 2 * (L : Int) := by omega
          have l3 : ¬ 2 * x = x := by omega
          have l4 : ¬ 2 * L = L := by omega
          obtain ⟨CS, hCS⟩ : ∃ CS, CS = (List.range L).map fun l => Value.int .i64 (T (L + l)) := ⟨_, rfl⟩
          have HE : Hid _ := hCS
          have HBW : Hid (Below w.heap.size w wc.drew) := HQ.out.1.drew
          have HG : Hid (wc.drew.heap[w.heap.size]? = some (.cells (madeCells #[.int .i64 0] (2 * x)).toList.toArray 3 (0, 0))) := by
            show wc.heap[w.heap.size]? = _
            rw [Array.toArray_toList]; exact HQ.out.2.1
          have HCN : Hid (CS.length = Nat.min (2 * L - L) (2 * x - x)) := by
            show CS.length = min (2 * L - L) (2 * x - x)
            rw [hCS, List.length_map, List.length_range]; omega
          have HCS : Hid (∀ j v, CS[j]? = some v → wc.drew.cell? ((⟨b, off + L, none⟩ : Addr).add j) = some v) := by
            intro j v hv
            rw [hCS] at hv
            have hj : j < L := by
              have := (List.getElem?_eq_some_iff.1 hv).1
              simpa using this
            have hv' : v = .int .i64 (T (L + j)) := by simpa [hj] using hv.symm
            rw [Go.WideShapes.add_plain, hv', Nat.add_assoc]
            have q := HC.out (L + j) (by omega)
            exact (HBW.out.cell (p := ⟨b, off + (L + j), none⟩) (World.block_lt_of_cell? w _ q)).trans q
          have HFIT : Hid (x + CS.length ≤ (madeCells #[.int .i64 0] (2 * x)).toList.length) := by
            show x + CS.length ≤ _
            rw [hCS, List.length_map, List.length_range, Array.length_toList, size_madeCells]; omega
          have HONE : Hid (∀ v ∈ CS, v.oneCell' = true) := by
            intro v hv
            rw [hCS] at hv
            obtain ⟨l, _, rfl⟩ := List.mem_map.1 hv
            rfl
          clear hCS
          go_wp2
          go_region_law (refine step_copy_splice rfl (.tmp 27) (.tmp 36) 22 22 rfl 3 Try.underlying22 (by kernel_rfl) (some ⟨w.heap.size, x, none⟩) (some ⟨b, off + L, none⟩) (2 * x - x) (2 * x - x) (2 * L - L) (2 * L - L) rfl rfl w.heap.size x (madeCells #[.int .i64 0] (2 * x)).toList 3 HG.out CS HCN.out (fun _ => ⟨rfl, _, rfl, HCS.out⟩) HFIT.out HONE.out w.heap.size w HBW.out (Nat.le_refl _) ?_; intro w4 hg4 hb4)
          all_goals
            go_wp2
            go_meet
            case rel => exact ⟨rfl, hb4, HB.out.below hb4 hg, _, hg4.out, by rw [HE.out]; exact half_copy L x T hx3⟩
      case rest =>
      clear HQ c0 c1
      obtain ⟨rfl, hb, bg, cs0, bn, HF⟩ := hcut
      go_wp2
      go_loopw [6] (fun s6 wr => ∃ i : Nat, i < x ∧ s6 = .int .i64 i ∧ Below w.heap.size w wr ∧ Blk wr g #[.int .i64 L, .slice a len len] 37 ∧ ∃ cs F, Blk wr w.heap.size cs 3 ∧ Hid (Part L x T i cs F)) (fun s _ => (intOf s).toNat)
      case atStart =>
        obtain ⟨F, hF⟩ := part_start L x T cs0 hx1 HF.out
        exact ⟨x - 1, by omega, by go_num, hb, bg, cs0, F, bn, hF⟩
      case round =>
        clear hb bg bn HF
        obtain ⟨i, hi, rfl, hb, bg, cs, F, bn, HF⟩ := hrel
        by_cases hi0 : 0 < i
        · have e1 := (bn.cell (2 * i)).trans (HF.out.2.1 (2 * i) (by omega))
          have e2 := (bn.cell (2 * i + 1)).trans (HF.out.2.1 (2 * i + 1) (by omega))
          have e0 := (bn.cell i).trans (HF.out.2.1 i (by omega))
          have hf := bn.frozen
          have HN : Hid _ := part_step L x T i cs F hi0 hi HF.out
          have HQ : Hid _ := And.intro hb (And.intro bg bn)
          have j1 : (2 : Int) * (i : Int) < 2 * (x : Int) := by omega
          have j2 : (2 : Int) * (i : Int) + 1 < 2 * (x : Int) := by omega
          have j3 : (i : Int) < 2 * (x : Int) := by omega
          clear hb bg bn
          go_wp2
          go_region
          all_goals
            go_wp2
            go_roundw
            case rel =>
              obtain ⟨hb, bg, bn⟩ := HQ.out
              exact ⟨i - 1, by omega, by go_num, (hb.setCell (p := ⟨w.heap.size, i, none⟩) (Nat.le_refl _) _).drew, (bg.far ⟨w.heap.size, i, none⟩ _ (by show g ≠ w.heap.size; omega)).drew, _, _, (bn.set _ _).drew, HN⟩
            case measure => simp [intOf]; omega
        · obtain rfl : i = 0 := by omega
          have c0 : wr.cell? ⟨g, 0, none⟩ = some (.int .i64 L) := bg.cell 0
          have c1 : wr.cell? ⟨g, 1, none⟩ = some (.slice a len len) := bg.cell 1
          have hfg := bg.frozen
          have HQ : Hid _ := And.intro hb (And.intro bg bn)
          have HE : Hid _ := part_end L n x T cs F HX.out (by omega) HF.out
          clear hb bg bn
          go_wp2
          go_end0
          obtain ⟨hb, bg, bn⟩ := HQ.out
          have bg2 := (bg.set 0 (.int .i64 x)).set 1 (.slice (some ⟨w.heap.size, 0, none⟩) (2 * x) (2 * x))
          have bn2 := (bn.far ⟨g, 0, none⟩ (.int .i64 x) (by show w.heap.size ≠ g; omega)).far ⟨g, 1, none⟩ (.slice (some ⟨w.heap.size, 0, none⟩) (2 * x) (2 * x)) (by show w.heap.size ≠ g; omega)
          exact ⟨x, w.heap.size, F, rfl, HE.out, bg2.eq (by simp), Row.blk bn2 HF.out.2.1, ((hb.mono (show g ≤ w.heap.size by omega)).setCell (p := ⟨g, 0, none⟩) (Nat.le_refl _) _).setCell (p := ⟨g, 1, none⟩) (Nat.le_refl _) _⟩
end Go.Proofs.Qxb6605451a
