/- The plain law of the tree: what climbing and descending find is what a scan of the leaves finds. -/
import Derived.Test.Qxb6605451aRow
namespace Go.Proofs.Qxb6605451a
/-- The highest level below n whose stamp is since or later, or -1. -/
def scan (T : Nat → Int) (L : Nat) (since : Int) : Nat → Int
  | 0 => -1
  | n + 1 => if since ≤ T (L + n) then (n : Int) else scan T L since n
theorem scan_skip (T : Nat → Int) (L : Nat) (since : Int) (m : Nat) : ∀ n, m ≤ n → (∀ l, m ≤ l → l < n → T (L + l) < since) → scan T L since n = scan T L since m
  | 0, h, _ => by have : m = 0 := by omega
                  rw [this]
  | n + 1, h, hq => by
    by_cases e : m = n + 1
    · rw [e]
    · rw [scan, if_neg (by have := hq n (by omega) (by omega); omega)]
      exact scan_skip T L since m n (by omega) (fun l h1 h2 => hq l h1 (by omega))
theorem scan_hit (T : Nat → Int) (L : Nat) (since : Int) (l : Nat) (h : since ≤ T (L + l)) : scan T L since (l + 1) = (l : Int) := by rw [scan, if_pos h]
theorem scan_ge (T : Nat → Int) (L : Nat) (since : Int) : ∀ n, -1 ≤ scan T L since n ∧ scan T L since n < n
  | 0 => by simp [scan]
  | n + 1 => by
    have := scan_ge T L since n
    rw [scan]
    split <;> omega

theorem pow_pos (e : Nat) : 0 < 2 ^ e := Nat.pow_pos (by omega)
theorem cover (T : Nat → Int) (L : Nat) (hI : Inner L T) : ∀ (s i : Nat), 1 ≤ i → (i + 1) * 2 ^ s ≤ 2 * L → ∀ q, i * 2 ^ s ≤ q → q < (i + 1) * 2 ^ s → T q ≤ T i
  | 0, i, _, _, q, h1, h2 => by
    have : q = i := by omega
    rw [this]; omega
  | s + 1, i, hi, hb, q, h1, h2 => by
    have e1 : (i + 1) * 2 ^ (s + 1) = (2 * i + 1 + 1) * 2 ^ s := by rw [Nat.pow_succ, Nat.mul_comm (2 ^ s) 2, ← Nat.mul_assoc]; congr 1; omega
    have e2 : i * 2 ^ (s + 1) = (2 * i) * 2 ^ s := by rw [Nat.pow_succ, Nat.mul_comm (2 ^ s) 2, ← Nat.mul_assoc]; congr 1; omega
    have hp := pow_pos s
    rw [e1] at hb h2
    rw [e2] at h1
    have hle : (2 * i + 1 + 1) * 1 ≤ (2 * i + 1 + 1) * 2 ^ s := Nat.mul_le_mul_left _ hp
    have hT := hI i hi (by omega)
    unfold mxT at hT
    have hmid : (2 * i + 1) * 2 ^ s ≤ (2 * i + 1 + 1) * 2 ^ s := Nat.mul_le_mul_right _ (by omega)
    by_cases hq : q < (2 * i + 1) * 2 ^ s
    · have := cover T L hI s (2 * i) (by omega) (by omega) q h1 hq
      split at hT <;> omega
    · have := cover T L hI s (2 * i + 1) (by omega) (by omega) q (by omega) h2
      split at hT <;> omega

/-- Node i stands D deep-counts from the root; below it lie P leaves. -/
structure At (L i D P : Nat) : Prop where
  eq : D * P = L
  lo : D ≤ i
  hi : i < 2 * D
  pd : ∃ d, D = 2 ^ d
  ps : ∃ s, P = 2 ^ s
theorem At.pos {L i D P : Nat} (h : At L i D P) : 0 < D ∧ 0 < P := by
  obtain ⟨d, hd⟩ := h.pd
  obtain ⟨s, hs⟩ := h.ps
  exact ⟨by rw [hd]; exact pow_pos d, by rw [hs]; exact pow_pos s⟩
theorem At.top {L i D P : Nat} (h : At L i D P) : (i + 1) * P ≤ 2 * L := by
  rw [← h.eq, ← Nat.mul_assoc]
  exact Nat.mul_le_mul_right _ (by have := h.hi; omega)
theorem At.cov {L i D P : Nat} {T : Nat → Int} (h : At L i D P) (hI : Inner L T) (q : Nat) (h1 : i * P ≤ q) (h2 : q < (i + 1) * P) : T q ≤ T i := by
  have hp := h.pos
  have ht := h.top
  have hl := h.lo
  obtain ⟨s, rfl⟩ := h.ps
  exact cover T L hI s i (by omega) ht q h1 h2
/-- At a round's head of the climb: all leaves from the end of i's on, below L + n, are older. -/
def Head (T : Nat → Int) (L n : Nat) (since : Int) (i : Nat) : Prop := ∃ D P, At L i D P ∧ (i + 1) * P ≤ L + n ∧ ∀ q, (i + 1) * P ≤ q → q < L + n → T q < since
/-- .. i's own leaves too. -/
def Mid (T : Nat → Int) (L n : Nat) (since : Int) (i : Nat) : Prop := ∃ D P, At L i D P ∧ i * P ≤ L + n ∧ ∀ q, i * P ≤ q → q < L + n → T q < since
theorem head_start (T : Nat → Int) (L n : Nat) (since : Int) (hL : ∃ e, L = 2 ^ e) (hn : 1 ≤ n) (hn2 : n ≤ L) : Head T L n since (L + n - 1) :=
  ⟨L, 1, ⟨Nat.mul_one L, by omega, by omega, hL, ⟨0, rfl⟩⟩, by omega, fun q h1 h2 => by omega⟩
theorem head_mid {T : Nat → Int} {L n : Nat} {since : Int} {i : Nat} (hI : Inner L T) (h : Head T L n since i) (ht : T i < since) : Mid T L n since i := by
  obtain ⟨D, P, hA, hb, hq⟩ := h
  have hle : i * P ≤ (i + 1) * P := Nat.mul_le_mul_right _ (by omega)
  refine ⟨D, P, hA, by omega, fun q h1 h2 => ?_⟩
  by_cases e : q < (i + 1) * P
  · have := hA.cov hI q h1 e
    omega
  · exact hq q (by omega) h2
theorem mid_up {T : Nat → Int} {L n : Nat} {since : Int} {j : Nat} (h : Mid T L n since (2 * j)) : Mid T L n since j := by
  obtain ⟨D, P, hA, hb, hq⟩ := h
  obtain ⟨d, hd⟩ := hA.pd
  have lo := hA.lo
  have hi := hA.hi
  cases d with
  | zero => simp at hd; omega
  | succ d =>
    have hd' : D = 2 * 2 ^ d := by rw [hd, Nat.pow_succ]; omega
    have e : 2 * j * P = j * (2 * P) := by rw [Nat.mul_comm 2 j, Nat.mul_assoc]
    rw [e] at hb hq
    obtain ⟨s, hs⟩ := hA.ps
    refine ⟨2 ^ d, 2 * P, ⟨?_, by omega, by omega, ⟨d, rfl⟩, ⟨s + 1, by rw [hs, Nat.pow_succ]; omega⟩⟩, hb, hq⟩
    rw [← hA.eq, hd', ← Nat.mul_assoc, Nat.mul_comm (2 ^ d) 2]
theorem mid_one {T : Nat → Int} {L n : Nat} {since : Int} (h : Mid T L n since 1) : scan T L since n = -1 := by
  obtain ⟨D, P, hA, hb, hq⟩ := h
  have hD : D = 1 := by have := hA.lo; have := hA.pos.1; omega
  have e := hA.eq
  rw [hD] at e
  rw [show (1 : Nat) * P = L from e] at hq
  rw [scan_skip T L since 0 n (by omega) (fun l _ h2 => hq (L + l) (by omega) (by omega))]
  rfl
theorem mid_down {T : Nat → Int} {L n : Nat} {since : Int} {j : Nat} (h : Mid T L n since (2 * j + 1)) (hj : 1 ≤ j) : Head T L n since (2 * j) := by
  obtain ⟨D, P, hA, hb, hq⟩ := h
  obtain ⟨d, hd⟩ := hA.pd
  have lo := hA.lo
  have hi := hA.hi
  cases d with
  | zero => simp at hd; omega
  | succ d =>
    have hd' : D = 2 * 2 ^ d := by rw [hd, Nat.pow_succ]; omega
    exact ⟨D, P, ⟨hA.eq, by omega, by omega, hA.pd, hA.ps⟩, hb, hq⟩
theorem mid_pos {T : Nat → Int} {L n : Nat} {since : Int} {i : Nat} (h : Mid T L n since i) : 1 ≤ i ∧ i < 2 * L := by
  obtain ⟨D, P, hA, _⟩ := h
  have h1 := hA.pos
  have h2 := hA.lo
  have h3 := hA.top
  have h4 : (i + 1) * 1 ≤ (i + 1) * P := Nat.mul_le_mul_left _ h1.2
  omega
theorem head_pos {T : Nat → Int} {L n : Nat} {since : Int} {i : Nat} (h : Head T L n since i) : 1 ≤ i ∧ i < 2 * L := by
  obtain ⟨D, P, hA, _⟩ := h
  have h1 := hA.pos
  have h2 := hA.lo
  have h3 := hA.top
  have h4 : (i + 1) * 1 ≤ (i + 1) * P := Nat.mul_le_mul_left _ h1.2
  omega
theorem at_half {L i D P : Nat} (h : At L i D P) (hi : i < L) : ∃ P', P = 2 * P' ∧ At L (2 * i + 1) (2 * D) P' ∧ At L (2 * i) (2 * D) P' := by
  obtain ⟨s, hs⟩ := h.ps
  have lo := h.lo
  have hh := h.hi
  have e := h.eq
  cases s with
  | zero =>
    rw [hs] at e
    simp at e
    omega
  | succ s =>
    have hs' : P = 2 * 2 ^ s := by rw [hs, Nat.pow_succ]; omega
    obtain ⟨d, hd⟩ := h.pd
    have e' : 2 * D * 2 ^ s = L := by rw [← e, hs', ← Nat.mul_assoc, Nat.mul_comm 2 D]
    exact ⟨2 ^ s, hs', ⟨e', by omega, by omega, ⟨d + 1, by rw [hd, Nat.pow_succ]; omega⟩, ⟨s, rfl⟩⟩, ⟨e', by omega, by omega, ⟨d + 1, by rw [hd, Nat.pow_succ]; omega⟩, ⟨s, rfl⟩⟩⟩
theorem desc_right {T : Nat → Int} {L n : Nat} {since : Int} {i : Nat} (h : Head T L n since i) (hi : i < L) : Head T L n since (2 * i + 1) := by
  obtain ⟨D, P, hA, hb, hq⟩ := h
  obtain ⟨P', rfl, h1, _⟩ := at_half hA hi
  have e : (2 * i + 1 + 1) * P' = (i + 1) * (2 * P') := by rw [← Nat.mul_assoc]; congr 1; omega
  exact ⟨2 * D, P', h1, by rw [e]; exact hb, fun q g1 g2 => hq q (by rw [← e]; exact g1) g2⟩
theorem desc_left {T : Nat → Int} {L n : Nat} {since : Int} {i : Nat} (hI : Inner L T) (h : Head T L n since i) (hi : i < L) (ht : T (2 * i + 1) < since) : Head T L n since (2 * i) := by
  obtain ⟨D, P, hA, hb, hq⟩ := h
  obtain ⟨P', rfl, h1, h2⟩ := at_half hA hi
  have e : (2 * i + 1 + 1) * P' = (i + 1) * (2 * P') := by rw [← Nat.mul_assoc]; congr 1; omega
  have hle : (2 * i + 1) * P' ≤ (2 * i + 1 + 1) * P' := Nat.mul_le_mul_right _ (by omega)
  refine ⟨2 * D, P', h2, by omega, fun q g1 g2 => ?_⟩
  by_cases c : q < (2 * i + 1 + 1) * P'
  · have := h1.cov hI q g1 c
    omega
  · exact hq q (by omega) g2
theorem desc_ge {T : Nat → Int} {L : Nat} {since : Int} {i : Nat} (hI : Inner L T) (h1 : 1 ≤ i) (hi : i < L) (hs : since ≤ T i) (ht : T (2 * i + 1) < since) : since ≤ T (2 * i) := by
  have := hI i h1 hi
  unfold mxT at this
  split at this <;> omega
theorem head_end {T : Nat → Int} {L n : Nat} {since : Int} {i : Nat} (h : Head T L n since i) (hi : ¬ i < L) (hs : since ≤ T i) : scan T L since n = (i : Int) - (L : Int) := by
  obtain ⟨D, P, hA, hb, hq⟩ := h
  obtain ⟨s, hs'⟩ := hA.ps
  have hh := hA.hi
  have e := hA.eq
  have hP : P = 1 := by
    cases s with
    | zero => simpa using hs'
    | succ s =>
      exfalso
      have : P = 2 * 2 ^ s := by rw [hs', Nat.pow_succ]; omega
      have hp := pow_pos s
      have h2 : D * 2 ≤ D * P := Nat.mul_le_mul_left _ (by omega)
      omega
  rw [hP] at hb hq
  obtain ⟨l, rfl⟩ : ∃ l, i = L + l := ⟨i - L, by omega⟩
  rw [scan_skip T L since (l + 1) n (by omega) (fun k h1 h2 => hq (L + k) (by omega) (by omega)), scan_hit T L since l hs]
  omega
end Go.Proofs.Qxb6605451a
