/- THE WALK of sent: function 17. -/
import Derived.Test.Qxb6605433aSmall
import Derived.Test.Qxb6605433aState
import Derived.Test.Qxb6605433aFields
namespace Go.Proofs.Qxb6605433a
open Go.RowKit
def upd (f : Nat → Int) (i : Nat) (x : Int) : Nat → Int := fun k => if k = i then x else f k
def sT (t : Nat → Int) (i j : Nat) : Nat → Int := if t i < t j then upd t i (t j) else if t j < t i then upd t j (t i) else t
def sP (t p : Nat → Int) (i j : Nat) : Nat → Int := if t i < t j then upd p i 0 else if t j < t i then upd p j 0 else p
def tk (v c t : Nat → Int) (i j : Nat) : Bool := !decide (t i < t j) && newB (v i) (c i) (v j) (c j)
def sF (b : Bool) (f : Nat → Int) (i j : Nat) : Nat → Int := if b then upd f j (f i) else f
theorem sT_gt (t : Nat → Int) (i j : Nat) (h : t j < t i) : sT t i j = upd t j (t i) := by
  have : ¬ t i < t j := by omega
  simp [sT, this, h]
theorem sP_gt (t p : Nat → Int) (i j : Nat) (h : t j < t i) : sP t p i j = upd p j 0 := by
  have : ¬ t i < t j := by omega
  simp [sP, this, h]
theorem sT_eq (t : Nat → Int) (i j : Nat) (h : t i = t j) : sT t i j = t := by simp [sT, h]
theorem sP_eq (t p : Nat → Int) (i j : Nat) (h : t i = t j) : sP t p i j = p := by simp [sP, h]
theorem s26_t (m v c t p : Nat → Int) (won : Int) (k : Nat) (h : k < 5) : (#[.int .u8 (m 0), .int .u8 (v 0), .int .u8 (c 0), .int .u8 (m 1), .int .u8 (v 1), .int .u8 (c 1), .int .u8 (m 2), .int .u8 (v 2), .int .u8 (c 2), .int .u8 (m 3), .int .u8 (v 3), .int .u8 (c 3), .int .u8 (m 4), .int .u8 (v 4), .int .u8 (c 4), .int .u8 (t 0), .int .u8 (t 1), .int .u8 (t 2), .int .u8 (t 3), .int .u8 (t 4), .int .u8 (p 0), .int .u8 (p 1), .int .u8 (p 2), .int .u8 (p 3), .int .u8 (p 4), .int .u16 won] : Array Value)[15 + k]? = some (.int .u8 (t k)) := by
  obtain rfl | rfl | rfl | rfl | rfl : k = 0 ∨ k = 1 ∨ k = 2 ∨ k = 3 ∨ k = 4 := by omega
  all_goals rfl
theorem s26_p (m v c t p : Nat → Int) (won : Int) (k : Nat) (h : k < 5) : (#[.int .u8 (m 0), .int .u8 (v 0), .int .u8 (c 0), .int .u8 (m 1), .int .u8 (v 1), .int .u8 (c 1), .int .u8 (m 2), .int .u8 (v 2), .int .u8 (c 2), .int .u8 (m 3), .int .u8 (v 3), .int .u8 (c 3), .int .u8 (m 4), .int .u8 (v 4), .int .u8 (c 4), .int .u8 (t 0), .int .u8 (t 1), .int .u8 (t 2), .int .u8 (t 3), .int .u8 (t 4), .int .u8 (p 0), .int .u8 (p 1), .int .u8 (p 2), .int .u8 (p 3), .int .u8 (p 4), .int .u16 won] : Array Value)[20 + k]? = some (.int .u8 (p k)) := by
  obtain rfl | rfl | rfl | rfl | rfl : k = 0 ∨ k = 1 ∨ k = 2 ∨ k = 3 ∨ k = 4 := by omega
  all_goals rfl
theorem s26_setTP (m v c t p : Nat → Int) (won x y : Int) (k : Nat) (h : k < 5) : ((#[.int .u8 (m 0), .int .u8 (v 0), .int .u8 (c 0), .int .u8 (m 1), .int .u8 (v 1), .int .u8 (c 1), .int .u8 (m 2), .int .u8 (v 2), .int .u8 (c 2), .int .u8 (m 3), .int .u8 (v 3), .int .u8 (c 3), .int .u8 (m 4), .int .u8 (v 4), .int .u8 (c 4), .int .u8 (t 0), .int .u8 (t 1), .int .u8 (t 2), .int .u8 (t 3), .int .u8 (t 4), .int .u8 (p 0), .int .u8 (p 1), .int .u8 (p 2), .int .u8 (p 3), .int .u8 (p 4), .int .u16 won] : Array Value).setIfInBounds (15 + k) (.int .u8 x)).setIfInBounds (20 + k) (.int .u8 y) = #[.int .u8 (m 0), .int .u8 (v 0), .int .u8 (c 0), .int .u8 (m 1), .int .u8 (v 1), .int .u8 (c 1), .int .u8 (m 2), .int .u8 (v 2), .int .u8 (c 2), .int .u8 (m 3), .int .u8 (v 3), .int .u8 (c 3), .int .u8 (m 4), .int .u8 (v 4), .int .u8 (c 4), .int .u8 (upd t k x 0), .int .u8 (upd t k x 1), .int .u8 (upd t k x 2), .int .u8 (upd t k x 3), .int .u8 (upd t k x 4), .int .u8 (upd p k y 0), .int .u8 (upd p k y 1), .int .u8 (upd p k y 2), .int .u8 (upd p k y 3), .int .u8 (upd p k y 4), .int .u16 won] := by
  obtain rfl | rfl | rfl | rfl | rfl : k = 0 ∨ k = 1 ∨ k = 2 ∨ k = 3 ∨ k = 4 := by omega
  all_goals simp [upd]
theorem s26_setC (m v c t p : Nat → Int) (won x y z : Int) (k : Nat) (h : k < 5) : (((#[.int .u8 (m 0), .int .u8 (v 0), .int .u8 (c 0), .int .u8 (m 1), .int .u8 (v 1), .int .u8 (c 1), .int .u8 (m 2), .int .u8 (v 2), .int .u8 (c 2), .int .u8 (m 3), .int .u8 (v 3), .int .u8 (c 3), .int .u8 (m 4), .int .u8 (v 4), .int .u8 (c 4), .int .u8 (t 0), .int .u8 (t 1), .int .u8 (t 2), .int .u8 (t 3), .int .u8 (t 4), .int .u8 (p 0), .int .u8 (p 1), .int .u8 (p 2), .int .u8 (p 3), .int .u8 (p 4), .int .u16 won] : Array Value).setIfInBounds (k * 3) (.int .u8 x)).setIfInBounds (k * 3 + 1) (.int .u8 y)).setIfInBounds (k * 3 + 2) (.int .u8 z) = #[.int .u8 (upd m k x 0), .int .u8 (upd v k y 0), .int .u8 (upd c k z 0), .int .u8 (upd m k x 1), .int .u8 (upd v k y 1), .int .u8 (upd c k z 1), .int .u8 (upd m k x 2), .int .u8 (upd v k y 2), .int .u8 (upd c k z 2), .int .u8 (upd m k x 3), .int .u8 (upd v k y 3), .int .u8 (upd c k z 3), .int .u8 (upd m k x 4), .int .u8 (upd v k y 4), .int .u8 (upd c k z 4), .int .u8 (t 0), .int .u8 (t 1), .int .u8 (t 2), .int .u8 (t 3), .int .u8 (t 4), .int .u8 (p 0), .int .u8 (p 1), .int .u8 (p 2), .int .u8 (p 3), .int .u8 (p 4), .int .u16 won] := by
  obtain rfl | rfl | rfl | rfl | rfl : k = 0 ∨ k = 1 ∨ k = 2 ∨ k = 3 ∨ k = 4 := by omega
  all_goals simp [upd]
theorem res_A (m v c t p : Nat → Int) (won : Int) (i j : Nat) (h : t i < t j) : (#[.int .u8 (m 0), .int .u8 (v 0), .int .u8 (c 0), .int .u8 (m 1), .int .u8 (v 1), .int .u8 (c 1), .int .u8 (m 2), .int .u8 (v 2), .int .u8 (c 2), .int .u8 (m 3), .int .u8 (v 3), .int .u8 (c 3), .int .u8 (m 4), .int .u8 (v 4), .int .u8 (c 4), .int .u8 (upd t i (t j) 0), .int .u8 (upd t i (t j) 1), .int .u8 (upd t i (t j) 2), .int .u8 (upd t i (t j) 3), .int .u8 (upd t i (t j) 4), .int .u8 (upd p i 0 0), .int .u8 (upd p i 0 1), .int .u8 (upd p i 0 2), .int .u8 (upd p i 0 3), .int .u8 (upd p i 0 4), .int .u16 won] : Array Value) = #[.int .u8 (sF (tk v c t i j) m i j 0), .int .u8 (sF (tk v c t i j) v i j 0), .int .u8 (sF (tk v c t i j) c i j 0), .int .u8 (sF (tk v c t i j) m i j 1), .int .u8 (sF (tk v c t i j) v i j 1), .int .u8 (sF (tk v c t i j) c i j 1), .int .u8 (sF (tk v c t i j) m i j 2), .int .u8 (sF (tk v c t i j) v i j 2), .int .u8 (sF (tk v c t i j) c i j 2), .int .u8 (sF (tk v c t i j) m i j 3), .int .u8 (sF (tk v c t i j) v i j 3), .int .u8 (sF (tk v c t i j) c i j 3), .int .u8 (sF (tk v c t i j) m i j 4), .int .u8 (sF (tk v c t i j) v i j 4), .int .u8 (sF (tk v c t i j) c i j 4), .int .u8 (sT t i j 0), .int .u8 (sT t i j 1), .int .u8 (sT t i j 2), .int .u8 (sT t i j 3), .int .u8 (sT t i j 4), .int .u8 (sP t p i j 0), .int .u8 (sP t p i j 1), .int .u8 (sP t p i j 2), .int .u8 (sP t p i j 3), .int .u8 (sP t p i j 4), .int .u16 won] := by
  simp [tk, sF, sT, sP, h]
theorem res_B (m v c t p : Nat → Int) (won : Int) (i j : Nat) (h : ¬ t i < t j) (hn : newB (v i) (c i) (v j) (c j) = true) : (#[.int .u8 (upd m j (m i) 0), .int .u8 (upd v j (v i) 0), .int .u8 (upd c j (c i) 0), .int .u8 (upd m j (m i) 1), .int .u8 (upd v j (v i) 1), .int .u8 (upd c j (c i) 1), .int .u8 (upd m j (m i) 2), .int .u8 (upd v j (v i) 2), .int .u8 (upd c j (c i) 2), .int .u8 (upd m j (m i) 3), .int .u8 (upd v j (v i) 3), .int .u8 (upd c j (c i) 3), .int .u8 (upd m j (m i) 4), .int .u8 (upd v j (v i) 4), .int .u8 (upd c j (c i) 4), .int .u8 (sT t i j 0), .int .u8 (sT t i j 1), .int .u8 (sT t i j 2), .int .u8 (sT t i j 3), .int .u8 (sT t i j 4), .int .u8 (sP t p i j 0), .int .u8 (sP t p i j 1), .int .u8 (sP t p i j 2), .int .u8 (sP t p i j 3), .int .u8 (sP t p i j 4), .int .u16 won] : Array Value) = #[.int .u8 (sF (tk v c t i j) m i j 0), .int .u8 (sF (tk v c t i j) v i j 0), .int .u8 (sF (tk v c t i j) c i j 0), .int .u8 (sF (tk v c t i j) m i j 1), .int .u8 (sF (tk v c t i j) v i j 1), .int .u8 (sF (tk v c t i j) c i j 1), .int .u8 (sF (tk v c t i j) m i j 2), .int .u8 (sF (tk v c t i j) v i j 2), .int .u8 (sF (tk v c t i j) c i j 2), .int .u8 (sF (tk v c t i j) m i j 3), .int .u8 (sF (tk v c t i j) v i j 3), .int .u8 (sF (tk v c t i j) c i j 3), .int .u8 (sF (tk v c t i j) m i j 4), .int .u8 (sF (tk v c t i j) v i j 4), .int .u8 (sF (tk v c t i j) c i j 4), .int .u8 (sT t i j 0), .int .u8 (sT t i j 1), .int .u8 (sT t i j 2), .int .u8 (sT t i j 3), .int .u8 (sT t i j 4), .int .u8 (sP t p i j 0), .int .u8 (sP t p i j 1), .int .u8 (sP t p i j 2), .int .u8 (sP t p i j 3), .int .u8 (sP t p i j 4), .int .u16 won] := by
  simp [tk, sF, h, hn]
theorem res_C (m v c t p : Nat → Int) (won : Int) (i j : Nat) (hn : newB (v i) (c i) (v j) (c j) = false) : (#[.int .u8 (m 0), .int .u8 (v 0), .int .u8 (c 0), .int .u8 (m 1), .int .u8 (v 1), .int .u8 (c 1), .int .u8 (m 2), .int .u8 (v 2), .int .u8 (c 2), .int .u8 (m 3), .int .u8 (v 3), .int .u8 (c 3), .int .u8 (m 4), .int .u8 (v 4), .int .u8 (c 4), .int .u8 (sT t i j 0), .int .u8 (sT t i j 1), .int .u8 (sT t i j 2), .int .u8 (sT t i j 3), .int .u8 (sT t i j 4), .int .u8 (sP t p i j 0), .int .u8 (sP t p i j 1), .int .u8 (sP t p i j 2), .int .u8 (sP t p i j 3), .int .u8 (sP t p i j 4), .int .u16 won] : Array Value) = #[.int .u8 (sF (tk v c t i j) m i j 0), .int .u8 (sF (tk v c t i j) v i j 0), .int .u8 (sF (tk v c t i j) c i j 0), .int .u8 (sF (tk v c t i j) m i j 1), .int .u8 (sF (tk v c t i j) v i j 1), .int .u8 (sF (tk v c t i j) c i j 1), .int .u8 (sF (tk v c t i j) m i j 2), .int .u8 (sF (tk v c t i j) v i j 2), .int .u8 (sF (tk v c t i j) c i j 2), .int .u8 (sF (tk v c t i j) m i j 3), .int .u8 (sF (tk v c t i j) v i j 3), .int .u8 (sF (tk v c t i j) c i j 3), .int .u8 (sF (tk v c t i j) m i j 4), .int .u8 (sF (tk v c t i j) v i j 4), .int .u8 (sF (tk v c t i j) c i j 4), .int .u8 (sT t i j 0), .int .u8 (sT t i j 1), .int .u8 (sT t i j 2), .int .u8 (sT t i j 3), .int .u8 (sT t i j 4), .int .u8 (sP t p i j 0), .int .u8 (sP t p i j 1), .int .u8 (sP t p i j 2), .int .u8 (sP t p i j 3), .int .u8 (sP t p i j 4), .int .u16 won] := by
  simp [tk, sF, hn]
set_option maxHeartbeats 1000000 in
theorem sent_any (m v c t p : Nat → Int) (won : Int) (i j : Nat) (hi : i < 5) (hj : j < 5) (w : World) :
    Calls Try.prog 17 #[.agg #[.int .u8 (m 0), .int .u8 (v 0), .int .u8 (c 0), .int .u8 (m 1), .int .u8 (v 1), .int .u8 (c 1), .int .u8 (m 2), .int .u8 (v 2), .int .u8 (c 2), .int .u8 (m 3), .int .u8 (v 3), .int .u8 (c 3), .int .u8 (m 4), .int .u8 (v 4), .int .u8 (c 4), .int .u8 (t 0), .int .u8 (t 1), .int .u8 (t 2), .int .u8 (t 3), .int .u8 (t 4), .int .u8 (p 0), .int .u8 (p 1), .int .u8 (p 2), .int .u8 (p 3), .int .u8 (p 4), .int .u16 won], .int .i64 i, .int .i64 j] w fun e w' => e = .returned (.agg #[.int .u8 (sF (tk v c t i j) m i j 0), .int .u8 (sF (tk v c t i j) v i j 0), .int .u8 (sF (tk v c t i j) c i j 0), .int .u8 (sF (tk v c t i j) m i j 1), .int .u8 (sF (tk v c t i j) v i j 1), .int .u8 (sF (tk v c t i j) c i j 1), .int .u8 (sF (tk v c t i j) m i j 2), .int .u8 (sF (tk v c t i j) v i j 2), .int .u8 (sF (tk v c t i j) c i j 2), .int .u8 (sF (tk v c t i j) m i j 3), .int .u8 (sF (tk v c t i j) v i j 3), .int .u8 (sF (tk v c t i j) c i j 3), .int .u8 (sF (tk v c t i j) m i j 4), .int .u8 (sF (tk v c t i j) v i j 4), .int .u8 (sF (tk v c t i j) c i j 4), .int .u8 (sT t i j 0), .int .u8 (sT t i j 1), .int .u8 (sT t i j 2), .int .u8 (sT t i j 3), .int .u8 (sT t i j 4), .int .u8 (sP t p i j 0), .int .u8 (sP t p i j 1), .int .u8 (sP t p i j 2), .int .u8 (sP t p i j 3), .int .u8 (sP t p i j 4), .int .u16 won]) ∧ Below w.heap.size w w' := by
  go_enter Try.func17, Try.ntmps17
  go_upto_region 0 with fail
  go_cut [3, 6] from 7 to 62 (fun s3 s6 wq => s3 = .pointer (some ⟨w.heap.size, 0, none⟩) ∧ s6 = .pointer (some ⟨w.heap.size + 1, 0, none⟩) ∧ Below w.heap.size w wq ∧ Blk wq (w.heap.size) #[.int .u8 (m 0), .int .u8 (v 0), .int .u8 (c 0), .int .u8 (m 1), .int .u8 (v 1), .int .u8 (c 1), .int .u8 (m 2), .int .u8 (v 2), .int .u8 (c 2), .int .u8 (m 3), .int .u8 (v 3), .int .u8 (c 3), .int .u8 (m 4), .int .u8 (v 4), .int .u8 (c 4), .int .u8 (t 0), .int .u8 (t 1), .int .u8 (t 2), .int .u8 (t 3), .int .u8 (t 4), .int .u8 (p 0), .int .u8 (p 1), .int .u8 (p 2), .int .u8 (p 3), .int .u8 (p 4), .int .u16 won] 39 ∧ Blk wq (w.heap.size + 1) #[.int .u8 0, .int .u8 0, .int .u8 0, .int .u8 0, .int .u8 0, .int .u8 0, .int .u8 0, .int .u8 0, .int .u8 0, .int .u8 0, .int .u8 0, .int .u8 0, .int .u8 0, .int .u8 0, .int .u8 0, .int .u8 0, .int .u8 0, .int .u8 0, .int .u8 0, .int .u8 0, .int .u8 0, .int .u8 0, .int .u8 0, .int .u8 0, .int .u8 0, .int .u16 0] 39)
  case first =>
    go_wp2
    go_meet
    case rel => exact ⟨rfl, rfl, ((Below.refl _ _).alloc (Nat.le_refl _) _).alloc (by simp) _, (Blk.newAt _ _ _ _ rfl).old _, Blk.newAt _ _ _ _ (by simp)⟩
  case rest =>
    obtain ⟨rfl, rfl, hb, b0, b1⟩ := hcut
    have hti := (b0.cell _).trans (s26_t m v c t p won i hi)
    have htj := (b0.cell _).trans (s26_t m v c t p won j hj)
    have hpi := (b0.cell _).trans (s26_p m v c t p won i hi)
    have hpj := (b0.cell _).trans (s26_p m v c t p won j hj)
    have hf0 := b0.frozen
    have HB : Hid (Below w.heap.size w wc ∧ Blk wc (w.heap.size) #[.int .u8 (m 0), .int .u8 (v 0), .int .u8 (c 0), .int .u8 (m 1), .int .u8 (v 1), .int .u8 (c 1), .int .u8 (m 2), .int .u8 (v 2), .int .u8 (c 2), .int .u8 (m 3), .int .u8 (v 3), .int .u8 (c 3), .int .u8 (m 4), .int .u8 (v 4), .int .u8 (c 4), .int .u8 (t 0), .int .u8 (t 1), .int .u8 (t 2), .int .u8 (t 3), .int .u8 (t 4), .int .u8 (p 0), .int .u8 (p 1), .int .u8 (p 2), .int .u8 (p 3), .int .u8 (p 4), .int .u16 won] 39 ∧ Blk wc (w.heap.size + 1) #[.int .u8 0, .int .u8 0, .int .u8 0, .int .u8 0, .int .u8 0, .int .u8 0, .int .u8 0, .int .u8 0, .int .u8 0, .int .u8 0, .int .u8 0, .int .u8 0, .int .u8 0, .int .u8 0, .int .u8 0, .int .u8 0, .int .u8 0, .int .u8 0, .int .u8 0, .int .u8 0, .int .u8 0, .int .u8 0, .int .u8 0, .int .u8 0, .int .u8 0, .int .u16 0] 39) := ⟨hb, b0, b1⟩
    clear hb b0 b1
    by_cases h1 : t i < t j
    · go_wp2
      go_region
      go_upto_region 2 with fail
      go_cut [16] from 7 to 62 (fun _ wq => Below w.heap.size w wq ∧ Blk wq (w.heap.size) #[.int .u8 (sF (tk v c t i j) m i j 0), .int .u8 (sF (tk v c t i j) v i j 0), .int .u8 (sF (tk v c t i j) c i j 0), .int .u8 (sF (tk v c t i j) m i j 1), .int .u8 (sF (tk v c t i j) v i j 1), .int .u8 (sF (tk v c t i j) c i j 1), .int .u8 (sF (tk v c t i j) m i j 2), .int .u8 (sF (tk v c t i j) v i j 2), .int .u8 (sF (tk v c t i j) c i j 2), .int .u8 (sF (tk v c t i j) m i j 3), .int .u8 (sF (tk v c t i j) v i j 3), .int .u8 (sF (tk v c t i j) c i j 3), .int .u8 (sF (tk v c t i j) m i j 4), .int .u8 (sF (tk v c t i j) v i j 4), .int .u8 (sF (tk v c t i j) c i j 4), .int .u8 (sT t i j 0), .int .u8 (sT t i j 1), .int .u8 (sT t i j 2), .int .u8 (sT t i j 3), .int .u8 (sT t i j 4), .int .u8 (sP t p i j 0), .int .u8 (sP t p i j 1), .int .u8 (sP t p i j 2), .int .u8 (sP t p i j 3), .int .u8 (sP t p i j 4), .int .u16 won] 39 ∧ Blk wq (w.heap.size + 1) #[.int .u8 0, .int .u8 0, .int .u8 0, .int .u8 0, .int .u8 0, .int .u8 0, .int .u8 0, .int .u8 0, .int .u8 0, .int .u8 0, .int .u8 0, .int .u8 0, .int .u8 0, .int .u8 0, .int .u8 0, .int .u8 0, .int .u8 0, .int .u8 0, .int .u8 0, .int .u8 0, .int .u8 0, .int .u8 0, .int .u8 0, .int .u8 0, .int .u8 0, .int .u16 0] 39)
      case first =>
        go_wp2
        go_meet
        case rel =>
          obtain ⟨hb, b0, b1⟩ := HB.out
          exact ⟨((hb.setCell (p := ⟨w.heap.size, 15 + i, none⟩) (Nat.le_refl _) _).setCell (p := ⟨w.heap.size, 20 + i, none⟩) (Nat.le_refl _) _).drew, (((b0.set _ _).set _ _).eq ((s26_setTP m v c t p won _ _ i hi).trans (res_A m v c t p won i j h1))).drew, ((b1.far ⟨w.heap.size, 15 + i, none⟩ _ (by show w.heap.size + 1 ≠ w.heap.size; omega)).far ⟨w.heap.size, 20 + i, none⟩ _ (by show w.heap.size + 1 ≠ w.heap.size; omega)).drew⟩
      case rest =>
        obtain ⟨hbq, q0, q1⟩ := hcut
        go_wp2_with (first | (refine wpList_load_row rfl 39 _ rfl (w.heap.size) rfl 39 _ (0, 0) _ q0 Try.underlying39 rfl (by kernel_rfl) ?_) | (refine wpList_store_row rfl 39 _ _ rfl (w.heap.size + 1) _ rfl rfl 39 _ q1 (by kernel_rfl) rfl (by kernel_rfl) ?_))
        exact bodyPost_ret (v := .agg #[.int .u8 (sF (tk v c t i j) m i j 0), .int .u8 (sF (tk v c t i j) v i j 0), .int .u8 (sF (tk v c t i j) c i j 0), .int .u8 (sF (tk v c t i j) m i j 1), .int .u8 (sF (tk v c t i j) v i j 1), .int .u8 (sF (tk v c t i j) c i j 1), .int .u8 (sF (tk v c t i j) m i j 2), .int .u8 (sF (tk v c t i j) v i j 2), .int .u8 (sF (tk v c t i j) c i j 2), .int .u8 (sF (tk v c t i j) m i j 3), .int .u8 (sF (tk v c t i j) v i j 3), .int .u8 (sF (tk v c t i j) c i j 3), .int .u8 (sF (tk v c t i j) m i j 4), .int .u8 (sF (tk v c t i j) v i j 4), .int .u8 (sF (tk v c t i j) c i j 4), .int .u8 (sT t i j 0), .int .u8 (sT t i j 1), .int .u8 (sT t i j 2), .int .u8 (sT t i j 3), .int .u8 (sT t i j 4), .int .u8 (sP t p i j 0), .int .u8 (sP t p i j 1), .int .u8 (sP t p i j 2), .int .u8 (sP t p i j 3), .int .u8 (sP t p i j 4), .int .u16 won]) (results_cell_row Try.results17 _ _ (w.heap.size + 1) 39 _ (0, 0) _ rfl (q1.row _) Try.underlying39 rfl (by kernel_rfl)) rfl ⟨rfl, below_setRow hbq (by omega) _⟩
    · have HN : Hid (¬ t i < t j) := h1
      go_wp2
      go_region
      go_wp2
      go_region
      go_upto_if 35 with fail
      go_cut [36] from 7 to 62 (fun _ wq => Below w.heap.size w wq ∧ Blk wq (w.heap.size) #[.int .u8 (m 0), .int .u8 (v 0), .int .u8 (c 0), .int .u8 (m 1), .int .u8 (v 1), .int .u8 (c 1), .int .u8 (m 2), .int .u8 (v 2), .int .u8 (c 2), .int .u8 (m 3), .int .u8 (v 3), .int .u8 (c 3), .int .u8 (m 4), .int .u8 (v 4), .int .u8 (c 4), .int .u8 (sT t i j 0), .int .u8 (sT t i j 1), .int .u8 (sT t i j 2), .int .u8 (sT t i j 3), .int .u8 (sT t i j 4), .int .u8 (sP t p i j 0), .int .u8 (sP t p i j 1), .int .u8 (sP t p i j 2), .int .u8 (sP t p i j 3), .int .u8 (sP t p i j 4), .int .u16 won] 39 ∧ Blk wq (w.heap.size + 1) #[.int .u8 0, .int .u8 0, .int .u8 0, .int .u8 0, .int .u8 0, .int .u8 0, .int .u8 0, .int .u8 0, .int .u8 0, .int .u8 0, .int .u8 0, .int .u8 0, .int .u8 0, .int .u8 0, .int .u8 0, .int .u8 0, .int .u8 0, .int .u8 0, .int .u8 0, .int .u8 0, .int .u8 0, .int .u8 0, .int .u8 0, .int .u8 0, .int .u8 0, .int .u16 0] 39)
      case first =>
        by_cases h2 : t j < t i
        · go_wp2
          go_meet
          case rel =>
            obtain ⟨hb, b0, b1⟩ := HB.out
            have eT := sT_gt t i j (by omega)
            have eP := sP_gt t p i j (by omega)
            rw [eT, eP]
            exact ⟨((hb.setCell (p := ⟨w.heap.size, 15 + j, none⟩) (Nat.le_refl _) _).setCell (p := ⟨w.heap.size, 20 + j, none⟩) (Nat.le_refl _) _).drew.drew, (((b0.set _ _).set _ _).eq (s26_setTP m v c t p won _ _ j hj)).drew.drew, ((b1.far ⟨w.heap.size, 15 + j, none⟩ _ (by show w.heap.size + 1 ≠ w.heap.size; omega)).far ⟨w.heap.size, 20 + j, none⟩ _ (by show w.heap.size + 1 ≠ w.heap.size; omega)).drew.drew⟩
        · go_wp2
          go_meet
          case rel =>
            obtain ⟨hb, b0, b1⟩ := HB.out
            have eT := sT_eq t i j (by omega)
            have eP := sP_eq t p i j (by omega)
            rw [eT, eP]
            exact ⟨hb.drew.drew, b0.drew.drew, b1.drew.drew⟩
      case rest =>
        clear hti htj hpi hpj hf0 HB
        obtain ⟨hb, b0, b1⟩ := hcut
        have hmi := (b0.cell _).trans (s26_m m v c _ _ won i hi)
        have hvi := (b0.cell _).trans (s26_v m v c _ _ won i hi)
        have hci := (b0.cell _).trans (s26_c m v c _ _ won i hi)
        have hmj := (b0.cell _).trans (s26_m m v c _ _ won j hj)
        have hvj := (b0.cell _).trans (s26_v m v c _ _ won j hj)
        have hcj := (b0.cell _).trans (s26_c m v c _ _ won j hj)
        have HB : Hid (Below w.heap.size w wc ∧ Blk wc (w.heap.size) #[.int .u8 (m 0), .int .u8 (v 0), .int .u8 (c 0), .int .u8 (m 1), .int .u8 (v 1), .int .u8 (c 1), .int .u8 (m 2), .int .u8 (v 2), .int .u8 (c 2), .int .u8 (m 3), .int .u8 (v 3), .int .u8 (c 3), .int .u8 (m 4), .int .u8 (v 4), .int .u8 (c 4), .int .u8 (sT t i j 0), .int .u8 (sT t i j 1), .int .u8 (sT t i j 2), .int .u8 (sT t i j 3), .int .u8 (sT t i j 4), .int .u8 (sP t p i j 0), .int .u8 (sP t p i j 1), .int .u8 (sP t p i j 2), .int .u8 (sP t p i j 3), .int .u8 (sP t p i j 4), .int .u16 won] 39 ∧ Blk wc (w.heap.size + 1) #[.int .u8 0, .int .u8 0, .int .u8 0, .int .u8 0, .int .u8 0, .int .u8 0, .int .u8 0, .int .u8 0, .int .u8 0, .int .u8 0, .int .u8 0, .int .u8 0, .int .u8 0, .int .u8 0, .int .u8 0, .int .u8 0, .int .u8 0, .int .u8 0, .int .u8 0, .int .u8 0, .int .u8 0, .int .u8 0, .int .u8 0, .int .u8 0, .int .u8 0, .int .u16 0] 39) := ⟨hb, b0, b1⟩
        have hiI : (i : Int) < 5 := by omega
        have hjI : (j : Int) < 5 := by omega
        have hi0 : (0 : Int) ≤ (i : Int) := by omega
        have hj0 : (0 : Int) ≤ (j : Int) := by omega
        clear hb b0 b1 h1
        go_upto_region 6 with fail
        go_cut [54] from 7 to 62 (fun s54 wq => s54 = .bool (newB (v i) (c i) (v j) (c j)) ∧ Below w.heap.size w wq ∧ Blk wq (w.heap.size) #[.int .u8 (m 0), .int .u8 (v 0), .int .u8 (c 0), .int .u8 (m 1), .int .u8 (v 1), .int .u8 (c 1), .int .u8 (m 2), .int .u8 (v 2), .int .u8 (c 2), .int .u8 (m 3), .int .u8 (v 3), .int .u8 (c 3), .int .u8 (m 4), .int .u8 (v 4), .int .u8 (c 4), .int .u8 (sT t i j 0), .int .u8 (sT t i j 1), .int .u8 (sT t i j 2), .int .u8 (sT t i j 3), .int .u8 (sT t i j 4), .int .u8 (sP t p i j 0), .int .u8 (sP t p i j 1), .int .u8 (sP t p i j 2), .int .u8 (sP t p i j 3), .int .u8 (sP t p i j 4), .int .u16 won] 39 ∧ Blk wq (w.heap.size + 1) #[.int .u8 0, .int .u8 0, .int .u8 0, .int .u8 0, .int .u8 0, .int .u8 0, .int .u8 0, .int .u8 0, .int .u8 0, .int .u8 0, .int .u8 0, .int .u8 0, .int .u8 0, .int .u8 0, .int .u8 0, .int .u8 0, .int .u8 0, .int .u8 0, .int .u8 0, .int .u8 0, .int .u8 0, .int .u8 0, .int .u8 0, .int .u8 0, .int .u8 0, .int .u16 0] 39)
        case first =>
          go_region_held3 (fun w' => w'.cell? ⟨w.heap.size, i * 3, none⟩ = some (.int .u8 (m i)) ∧ w'.cell? ⟨w.heap.size, i * 3 + 1, none⟩ = some (.int .u8 (v i)) ∧ w'.cell? ⟨w.heap.size, i * 3 + 2, none⟩ = some (.int .u8 (c i)) ∧ w'.cell? ⟨w.heap.size, j * 3, none⟩ = some (.int .u8 (m j)) ∧ w'.cell? ⟨w.heap.size, j * 3 + 1, none⟩ = some (.int .u8 (v j)) ∧ w'.cell? ⟨w.heap.size, j * 3 + 2, none⟩ = some (.int .u8 (c j))) (go_keep) (first | (go_at_call 20; refine (newer_any _ _ _ _ _ _ _).mono ?_; rintro e w' ⟨rfl, rfl⟩))
          all_goals
            go_wp2
            go_meet
            case rel =>
              obtain ⟨hb, b0, b1⟩ := HB.out
              have h7 := hb.size
              exact ⟨rfl, ((hb.drew.alloc (by simp; exact h7) _).alloc (by simp; omega) _), (b0.drew.old _).old _, (b1.drew.old _).old _⟩
        case rest =>
          obtain ⟨rfl, hb, b0, b1⟩ := hcut
          clear hmi hvi hci hmj hvj hcj HB
          have hmi := (b0.cell _).trans (s26_m m v c _ _ won i hi)
          have hvi := (b0.cell _).trans (s26_v m v c _ _ won i hi)
          have hci := (b0.cell _).trans (s26_c m v c _ _ won i hi)
          have hmj := (b0.cell _).trans (s26_m m v c _ _ won j hj)
          have hvj := (b0.cell _).trans (s26_v m v c _ _ won j hj)
          have hcj := (b0.cell _).trans (s26_c m v c _ _ won j hj)
          have hf0 := b0.frozen
          have HB : Hid (Below w.heap.size w wc ∧ Blk wc (w.heap.size) #[.int .u8 (m 0), .int .u8 (v 0), .int .u8 (c 0), .int .u8 (m 1), .int .u8 (v 1), .int .u8 (c 1), .int .u8 (m 2), .int .u8 (v 2), .int .u8 (c 2), .int .u8 (m 3), .int .u8 (v 3), .int .u8 (c 3), .int .u8 (m 4), .int .u8 (v 4), .int .u8 (c 4), .int .u8 (sT t i j 0), .int .u8 (sT t i j 1), .int .u8 (sT t i j 2), .int .u8 (sT t i j 3), .int .u8 (sT t i j 4), .int .u8 (sP t p i j 0), .int .u8 (sP t p i j 1), .int .u8 (sP t p i j 2), .int .u8 (sP t p i j 3), .int .u8 (sP t p i j 4), .int .u16 won] 39 ∧ Blk wc (w.heap.size + 1) #[.int .u8 0, .int .u8 0, .int .u8 0, .int .u8 0, .int .u8 0, .int .u8 0, .int .u8 0, .int .u8 0, .int .u8 0, .int .u8 0, .int .u8 0, .int .u8 0, .int .u8 0, .int .u8 0, .int .u8 0, .int .u8 0, .int .u8 0, .int .u8 0, .int .u8 0, .int .u8 0, .int .u8 0, .int .u8 0, .int .u8 0, .int .u8 0, .int .u8 0, .int .u16 0] 39) := ⟨hb, b0, b1⟩
          clear hb b0 b1
          go_upto_if 54 with fail
          go_cut [55] from 7 to 62 (fun _ wq => Below w.heap.size w wq ∧ Blk wq (w.heap.size) #[.int .u8 (sF (tk v c t i j) m i j 0), .int .u8 (sF (tk v c t i j) v i j 0), .int .u8 (sF (tk v c t i j) c i j 0), .int .u8 (sF (tk v c t i j) m i j 1), .int .u8 (sF (tk v c t i j) v i j 1), .int .u8 (sF (tk v c t i j) c i j 1), .int .u8 (sF (tk v c t i j) m i j 2), .int .u8 (sF (tk v c t i j) v i j 2), .int .u8 (sF (tk v c t i j) c i j 2), .int .u8 (sF (tk v c t i j) m i j 3), .int .u8 (sF (tk v c t i j) v i j 3), .int .u8 (sF (tk v c t i j) c i j 3), .int .u8 (sF (tk v c t i j) m i j 4), .int .u8 (sF (tk v c t i j) v i j 4), .int .u8 (sF (tk v c t i j) c i j 4), .int .u8 (sT t i j 0), .int .u8 (sT t i j 1), .int .u8 (sT t i j 2), .int .u8 (sT t i j 3), .int .u8 (sT t i j 4), .int .u8 (sP t p i j 0), .int .u8 (sP t p i j 1), .int .u8 (sP t p i j 2), .int .u8 (sP t p i j 3), .int .u8 (sP t p i j 4), .int .u16 won] 39 ∧ Blk wq (w.heap.size + 1) #[.int .u8 0, .int .u8 0, .int .u8 0, .int .u8 0, .int .u8 0, .int .u8 0, .int .u8 0, .int .u8 0, .int .u8 0, .int .u8 0, .int .u8 0, .int .u8 0, .int .u8 0, .int .u8 0, .int .u8 0, .int .u8 0, .int .u8 0, .int .u8 0, .int .u8 0, .int .u8 0, .int .u8 0, .int .u8 0, .int .u8 0, .int .u8 0, .int .u8 0, .int .u16 0] 39)
          case first =>
            cases hn : newB (v i) (c i) (v j) (c j)
            · go_wp2
              go_meet
              case rel =>
                obtain ⟨hb, b0, b1⟩ := HB.out
                exact ⟨hb, b0.eq (res_C m v c t p won i j hn), b1⟩
            · go_wp2
              go_meet
              case rel =>
                obtain ⟨hb, b0, b1⟩ := HB.out
                exact ⟨((hb.setCell (p := ⟨w.heap.size, j * 3, none⟩) (Nat.le_refl _) _).setCell (p := ⟨w.heap.size, j * 3 + 1, none⟩) (Nat.le_refl _) _).setCell (p := ⟨w.heap.size, j * 3 + 2, none⟩) (Nat.le_refl _) _, (((b0.set _ _).set _ _).set _ _).eq ((s26_setC m v c _ _ won _ _ _ j hj).trans (res_B m v c t p won i j (by have := HN.out; omega) hn)), ((b1.far ⟨w.heap.size, j * 3, none⟩ _ (by show w.heap.size + 1 ≠ w.heap.size; omega)).far ⟨w.heap.size, j * 3 + 1, none⟩ _ (by show w.heap.size + 1 ≠ w.heap.size; omega)).far ⟨w.heap.size, j * 3 + 2, none⟩ _ (by show w.heap.size + 1 ≠ w.heap.size; omega)⟩
          case rest =>
            obtain ⟨hbq, q0, q1⟩ := hcut
            go_wp2_with (first | (refine wpList_load_row rfl 39 _ rfl (w.heap.size) rfl 39 _ (0, 0) _ q0 Try.underlying39 rfl (by kernel_rfl) ?_) | (refine wpList_store_row rfl 39 _ _ rfl (w.heap.size + 1) _ rfl rfl 39 _ q1 (by kernel_rfl) rfl (by kernel_rfl) ?_))
            exact bodyPost_ret (v := .agg #[.int .u8 (sF (tk v c t i j) m i j 0), .int .u8 (sF (tk v c t i j) v i j 0), .int .u8 (sF (tk v c t i j) c i j 0), .int .u8 (sF (tk v c t i j) m i j 1), .int .u8 (sF (tk v c t i j) v i j 1), .int .u8 (sF (tk v c t i j) c i j 1), .int .u8 (sF (tk v c t i j) m i j 2), .int .u8 (sF (tk v c t i j) v i j 2), .int .u8 (sF (tk v c t i j) c i j 2), .int .u8 (sF (tk v c t i j) m i j 3), .int .u8 (sF (tk v c t i j) v i j 3), .int .u8 (sF (tk v c t i j) c i j 3), .int .u8 (sF (tk v c t i j) m i j 4), .int .u8 (sF (tk v c t i j) v i j 4), .int .u8 (sF (tk v c t i j) c i j 4), .int .u8 (sT t i j 0), .int .u8 (sT t i j 1), .int .u8 (sT t i j 2), .int .u8 (sT t i j 3), .int .u8 (sT t i j 4), .int .u8 (sP t p i j 0), .int .u8 (sP t p i j 1), .int .u8 (sP t p i j 2), .int .u8 (sP t p i j 3), .int .u8 (sP t p i j 4), .int .u16 won]) (results_cell_row Try.results17 _ _ (w.heap.size + 1) 39 _ (0, 0) _ rfl (q1.row _) Try.underlying39 rfl (by kernel_rfl)) rfl ⟨rfl, below_setRow hbq (by omega) _⟩
end Go.Proofs.Qxb6605433a
