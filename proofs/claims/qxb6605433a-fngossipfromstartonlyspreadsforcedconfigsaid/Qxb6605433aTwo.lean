/- Five boxes in a row, each an array of five bytes; what two and three deliveries give, said plainly -/
import Derived.Test.Qxb6605433aZZSent
import Derived.ChangeKeysEq
namespace Go.Proofs.Qxb6605433a
open Go.RowKit
structure G5 (wq : World) (g : Nat) (m v c t p : Nat → Int) : Prop where
  m : Blk wq g #[.int .u8 (m 0), .int .u8 (m 1), .int .u8 (m 2), .int .u8 (m 3), .int .u8 (m 4)] 22
  v : Blk wq (g + 1) #[.int .u8 (v 0), .int .u8 (v 1), .int .u8 (v 2), .int .u8 (v 3), .int .u8 (v 4)] 22
  c : Blk wq (g + 1 + 1) #[.int .u8 (c 0), .int .u8 (c 1), .int .u8 (c 2), .int .u8 (c 3), .int .u8 (c 4)] 22
  t : Blk wq (g + 1 + 1 + 1) #[.int .u8 (t 0), .int .u8 (t 1), .int .u8 (t 2), .int .u8 (t 3), .int .u8 (t 4)] 22
  p : Blk wq (g + 1 + 1 + 1 + 1) #[.int .u8 (p 0), .int .u8 (p 1), .int .u8 (p 2), .int .u8 (p 3), .int .u8 (p 4)] 22
theorem G5.drewN {m v c t p : Nat → Int} {g : Nat} {wq : World} (h : G5 wq g m v c t p) (n : Nat) : G5 (wq.drewN n) g m v c t p := ⟨h.m, h.v, h.c, h.t, h.p⟩
theorem G5.lt {m v c t p : Nat → Int} {g : Nat} {wq : World} (h : G5 wq g m v c t p) : g + 4 < wq.heap.size := h.p.lt
theorem G5.below {m v c t p : Nat → Int} {g B : Nat} {wq w' : World} (h : G5 wq g m v c t p) (hb : Below B wq w') (hg : g + 4 < B) : G5 w' g m v c t p :=
  ⟨h.m.below hb (by omega), h.v.below hb (by omega), h.c.below hb (by omega), h.t.below hb (by omega), h.p.below hb (by omega)⟩
theorem G5.old {m v c t p : Nat → Int} {g : Nat} {wq : World} (h : G5 wq g m v c t p) (o : Obj) : G5 (wq.alloc o) g m v c t p := ⟨h.m.old _, h.v.old _, h.c.old _, h.t.old _, h.p.old _⟩
theorem G5.made (w : World) (m v c t p : Nat → Int) : G5 (((((w.alloc (.cells #[.int .u8 (m 0), .int .u8 (m 1), .int .u8 (m 2), .int .u8 (m 3), .int .u8 (m 4)] 22)).alloc (.cells #[.int .u8 (v 0), .int .u8 (v 1), .int .u8 (v 2), .int .u8 (v 3), .int .u8 (v 4)] 22)).alloc (.cells #[.int .u8 (c 0), .int .u8 (c 1), .int .u8 (c 2), .int .u8 (c 3), .int .u8 (c 4)] 22)).alloc (.cells #[.int .u8 (t 0), .int .u8 (t 1), .int .u8 (t 2), .int .u8 (t 3), .int .u8 (t 4)] 22)).alloc (.cells #[.int .u8 (p 0), .int .u8 (p 1), .int .u8 (p 2), .int .u8 (p 3), .int .u8 (p 4)] 22)) w.heap.size m v c t p :=
  ⟨((((Blk.newAt _ _ _ _ rfl).old _).old _).old _).old _, (((Blk.newAt _ _ _ _ (by simp)).old _).old _).old _, ((Blk.newAt _ _ _ _ (by simp)).old _).old _, (Blk.newAt _ _ _ _ (by simp)).old _, Blk.newAt _ _ _ _ (by simp)⟩
theorem below5 (w : World) (m v c t p : Array Value) : Below w.heap.size w (((((w.alloc (.cells m 22)).alloc (.cells v 22)).alloc (.cells c 22)).alloc (.cells t 22)).alloc (.cells p 22)) :=
  (((((Below.refl _ _).alloc (Nat.le_refl _) _).alloc (by simp) _).alloc (by simp <;> omega) _).alloc (by simp <;> omega) _).alloc (by simp <;> omega) _

theorem sT_i (t : Nat → Int) (i j : Nat) : sT t i j i = mx (t i) (t j) := by
  unfold sT mx
  by_cases h : t i < t j
  · have : ¬ t j < t i := by omega
    simp [h, this, upd]
  · by_cases h2 : t j < t i
    · simp [h, h2, upd]
    · have : t i = t j := by omega
      simp [this]
theorem sT_j (t : Nat → Int) (i j : Nat) : sT t i j j = mx (t i) (t j) := by
  unfold sT mx
  by_cases h : t i < t j
  · have : ¬ t j < t i := by omega
    simp [h, this, upd]
  · by_cases h2 : t j < t i
    · simp [h, h2, upd]
    · have : t i = t j := by omega
      simp [this]
theorem sT_ge (t : Nat → Int) (i j k : Nat) : t k ≤ sT t i j k := by
  unfold sT upd
  split
  · show t k ≤ if k = i then t j else t k
    split
    · rename_i e; subst e; omega
    · omega
  · split
    · show t k ≤ if k = j then t i else t k
      split
      · rename_i e; subst e; omega
      · omega
    · omega
theorem newB_self (a b : Int) : newB a b a b = false := by simp [newB]
theorem sF_i (b : Bool) (f : Nat → Int) (i j : Nat) : sF b f i j i = f i := by
  cases b
  · rfl
  · show upd f j (f i) i = f i
    unfold upd
    split
    · rfl
    · rfl
theorem sF_j (b : Bool) (f : Nat → Int) (i j : Nat) : sF b f i j j = if b then f i else f j := by
  cases b
  · rfl
  · simp [sF, upd]
/-- Behind a delivery between nodes of one term a second one finds nothing newer. -/
theorem newB_after (v c : Nat → Int) (i j : Nat) : newB (sF (newB (v i) (c i) (v j) (c j)) v i j i) (sF (newB (v i) (c i) (v j) (c j)) c i j i) (sF (newB (v i) (c i) (v j) (c j)) v i j j) (sF (newB (v i) (c i) (v j) (c j)) c i j j) = false := by
  rw [sF_i, sF_i, sF_j, sF_j]
  cases h : newB (v i) (c i) (v j) (c j)
  · simpa using h
  · simpa using newB_self (v i) (c i)
theorem tk_same (v c t : Nat → Int) (i j : Nat) (h : t i = t j) : tk v c t i j = newB (v i) (c i) (v j) (c j) := by simp [tk, h]
theorem tk_ge' (v c t : Nat → Int) (i j : Nat) (h : t j ≤ t i) : tk v c t i j = newB (v i) (c i) (v j) (c j) := by
  have : ¬ t i < t j := by omega
  simp [tk, this]
theorem tk_lt' (v c t : Nat → Int) (i j : Nat) (h : t i < t j) : tk v c t i j = false := by simp [tk, h]

/-- What is known of the states behind one delivery (1) and behind two (2). -/
structure Two (m v c t : Nat → Int) (i j : Nat) (m1 v1 c1 t1 p1 m2 v2 c2 t2 p2 : Nat → Int) : Prop where
  ti : t1 i = mx (t i) (t j)
  tj : t1 j = mx (t i) (t j)
  up : ∀ k, t k ≤ t1 k
  still : t j ≤ t i → m1 = m2 ∧ v1 = v2 ∧ c1 = c2 ∧ t1 = t2 ∧ p1 = p2
  mi : m2 i = m i
  vi : v2 i = v i
  ci : c2 i = c i
  mj : m2 j = if newB (v i) (c i) (v j) (c j) then m i else m j
  vj : v2 j = if newB (v i) (c i) (v j) (c j) then v i else v j
  cj : c2 j = if newB (v i) (c i) (v j) (c j) then c i else c j
theorem sF_false (f : Nat → Int) (i j : Nat) : sF false f i j = f := rfl
theorem two_holds (m v c t p : Nat → Int) (i j : Nat) :
    Two m v c t i j (sF (tk v c t i j) m i j) (sF (tk v c t i j) v i j) (sF (tk v c t i j) c i j) (sT t i j) (sP t p i j)
      (sF (tk (sF (tk v c t i j) v i j) (sF (tk v c t i j) c i j) (sT t i j) i j) (sF (tk v c t i j) m i j) i j)
      (sF (tk (sF (tk v c t i j) v i j) (sF (tk v c t i j) c i j) (sT t i j) i j) (sF (tk v c t i j) v i j) i j)
      (sF (tk (sF (tk v c t i j) v i j) (sF (tk v c t i j) c i j) (sT t i j) i j) (sF (tk v c t i j) c i j) i j)
      (sT (sT t i j) i j) (sP (sT t i j) (sP t p i j) i j) := by
  have e1 : sT t i j i = sT t i j j := by rw [sT_i, sT_j]
  have e2 := sT_eq (sT t i j) i j e1
  have e3 := sP_eq (sT t i j) (sP t p i j) i j e1
  have ek := tk_same (sF (tk v c t i j) v i j) (sF (tk v c t i j) c i j) (sT t i j) i j e1
  by_cases hc : t j ≤ t i
  · have h1 := tk_ge' v c t i j hc
    rw [h1] at ek ⊢
    rw [newB_after] at ek
    rw [ek]
    simp only [sF_false]
    exact ⟨sT_i t i j, sT_j t i j, sT_ge t i j, fun _ => ⟨rfl, rfl, rfl, e2.symm, e3.symm⟩, sF_i _ _ _ _, sF_i _ _ _ _, sF_i _ _ _ _, sF_j _ _ _ _, sF_j _ _ _ _, sF_j _ _ _ _⟩
  · have h1 := tk_lt' v c t i j (by omega)
    rw [h1] at ek ⊢
    simp only [sF_false] at ek ⊢
    rw [ek]
    exact ⟨sT_i t i j, sT_j t i j, sT_ge t i j, fun h => absurd h hc, sF_i _ _ _ _, sF_i _ _ _ _, sF_i _ _ _ _, sF_j _ _ _ _, sF_j _ _ _ _, sF_j _ _ _ _⟩
/-- The third delivery gives what the second gave. -/
theorem third (v c t : Nat → Int) (i j : Nat) (h : t i = t j) (M V C T P : Nat → Int)
    (hV : V = sF (tk v c t i j) v i j) (hC : C = sF (tk v c t i j) c i j) (hT : T = sT t i j) :
    sF (tk V C T i j) M i j = M ∧ sF (tk V C T i j) V i j = V ∧ sF (tk V C T i j) C i j = C ∧ sT T i j = T ∧ sP T P i j = P := by
  have e0 := sT_eq t i j h
  have e1 : T i = T j := by rw [hT, e0]; exact h
  have ek : tk V C T i j = false := by
    rw [tk_same V C T i j e1, hV, hC, tk_same v c t i j h]
    exact newB_after v c i j
  rw [ek]
  exact ⟨rfl, rfl, rfl, sT_eq T i j e1, sP_eq T P i j e1⟩
theorem info5 : ∃ i, Try.prog.info? 5 = some i := by
  have h : (Try.prog.info? 5).isSome = true := by kernel_rfl
  exact Option.isSome_iff_exists.1 h
/-- An array of five bytes is equal to itself. -/
theorem eq5 (m : Nat → Int) (w : World) : (Op.equalIn 10000 22 (.agg #[.int .u8 (m 0), .int .u8 (m 1), .int .u8 (m 2), .int .u8 (m 3), .int .u8 (m 4)]) (.agg #[.int .u8 (m 0), .int .u8 (m 1), .int .u8 (m 2), .int .u8 (m 3), .int .u8 (m 4)])).run Try.prog w = .ok true w := by
  obtain ⟨i, hi⟩ := info5
  rw [run_equalIn_array w 9999 _ _ Try.underlying22 hi]
  rw [show List.range 5 = [0, 1, 2, 3, 4] from rfl, show Try.prog.cellsOf 5 = 1 from by kernel_rfl]
  simp [Op.eqItems, go_sem]
theorem ne_of {a b : Int} (h : a = b) : (a != b) = false := by simp [h]
end Go.Proofs.Qxb6605433a
