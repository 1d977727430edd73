/- THE WALK of ZZGrow: function 16. -/
import Derived.Test.Qxb6605451aGrow
namespace Go.Proofs.Qxb6605451a
open Go.RowKit
/-- What ZZGrow hands back. -/
def GrowRet (L : Nat) (n : Int) (T : Nat → Int) (w : World) (e : Ending) (w' : World) : Prop :=
  ∃ x nb T', e = .returned (.tuple #[.int .i64 (x : Nat), .slice (some ⟨nb, 0, none⟩) (2 * x) (2 * x)]) ∧ GrowSpec L n x T T' ∧ Row w' (some ⟨nb, 0, none⟩) (2 * x) T' ∧ Below w.heap.size w w'
set_option maxHeartbeats 400000 in
theorem zzGrow_any (L : Nat) (a : Option Addr) (len : Nat) (T : Nat → Int) (n : Int) (w : World) (hL : L ≤ 65536) (hn1 : -9223372036854775808 ≤ n) (hn2 : n ≤ 65536)
    (hr : Row w a len T) (hT : L = 0 ∨ ((∃ e, L = 2 ^ e) ∧ len = 2 * L)) :
    Calls Try.prog 16 #[.int .i64 L, .slice a len len, .int .i64 n] w fun e w' => GrowRet L n T w e w' := by
  have HR : Hid (Row w a len T) := hr
  have HT : Hid _ := hT
  clear hr hT
  go_enter Try.func16, Try.ntmps16
  go_wp2_with fail
  refine (grow_any w.heap.size L a len T n _ hL hn1 hn2 (Blk.new _ _ _) (HR.out.below ((Below.refl _ _).alloc (Nat.le_refl _) _)) HT.out).mono ?_
  rintro e w1 ⟨x, nb, T', rfl, hs, hB, hr, hb⟩
  have c0 : w1.cell? ⟨w.heap.size, 0, none⟩ = some (.int .i64 x) := hB.cell 0
  have c1 : w1.cell? ⟨w.heap.size, 1, none⟩ = some (.slice (some ⟨nb, 0, none⟩) (2 * x) (2 * x)) := hB.cell 1
  have HS : Hid _ := hs
  have HQ : Hid (Row w1 (some ⟨nb, 0, none⟩) (2 * x) T') := hr
  have HB : Hid _ := hb
  clear hs hr hb hB
  go_wp2_with fail
  go_quiet (fail)
  go_wp2
  go_ret2
  exact ⟨x, nb, T', rfl, HS.out, HQ.out.drewN _, below_drewN (((Below.refl _ _).alloc (Nat.le_refl _) _).trans HB.out) _⟩
end Go.Proofs.Qxb6605451a
