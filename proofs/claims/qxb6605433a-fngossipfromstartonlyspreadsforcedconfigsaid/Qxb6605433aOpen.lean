import Derived.Test.Qxb6605433aRows
import Derived.WalkKit
import Derived.ProofKit
import Derived.OpenShut
import Derived.ShutString
import Derived.ChangeOld
import Derived.Below
/- An array of five bytes, by value, opened. -/
namespace Go.Proofs.Qxb6605433a
open Go.ChangeShapes Go.WideShapes Go.ChangeAt Go.RowKit

theorem own : ownKnob Try.prog.godebug = none := by kernel_rfl
theorem laidOut : laidOutB Try.prog = true := by kernel_rfl
theorem cells5 : Try.prog.cellsOf 5 = 1 := by kernel_rfl
theorem cells22 : Try.prog.cellsOf 22 = 5 := by kernel_rfl
theorem list5 {α : Type} (l : List α) (h : (⟨l⟩ : Array α).size = 5) : ∃ a b c d e, l = [a, b, c, d, e] := by
  match l, h with
  | [a, b, c, d, e], _ => exact ⟨a, b, c, d, e, rfl⟩
theorem cell_u8 {H : Type} {enc : TypeId × Value → H} {W : World} {m : Nat} {c : Value} {y : Option (DataW H × List MemPlace)}
    (h : DataW.trod enc Try.prog W 0 (fun _ => true) true m 5 [c] = y) (hy : y.isSome = true) : ∃ n : Int, c = .int .u8 n ∧ 0 ≤ n ∧ n ≤ 255 := by
  obtain ⟨x, rfl⟩ := Option.isSome_iff_exists.1 hy
  obtain ⟨a, e, _, wa⟩ := DataW.trod_int Try.underlying5 h
  have hb := bounds_u8 wa
  simp at e
  exact ⟨a, e, hb⟩
theorem open_arr5 {H : Type} {enc : TypeId × Value → H} {W : World} {base : Nat} {v : Value} {d : DataW H} {p : List MemPlace}
    (hv : Value.okWide Try.prog W .any base 22 v) (h : DataW.Trod enc Try.prog W 0 (fun _ => true) true 22 v d p) :
    ∃ m : Nat → Int, v = .agg #[.int .u8 (m 0), .int .u8 (m 1), .int .u8 (m 2), .int .u8 (m 3), .int .u8 (m 4)] ∧ ∀ i, 0 ≤ m i ∧ m i ≤ 255 := by
  obtain ⟨cs, rfl, hsz, _⟩ : ∃ cs, v = .agg cs ∧ cs.size = Try.prog.cellsOf 22 ∧ Row.okWide Try.prog W .any base 22 cs := by
    simpa [Value.okWide, Try.underlying22] using hv
  rw [cells22] at hsz
  obtain ⟨l⟩ := cs
  obtain ⟨c0, c1, c2, c3, c4, rfl⟩ := list5 l hsz
  obtain ⟨fuel, hf⟩ := h
  obtain ⟨xs, m, _, _, _, hl, hall⟩ := DataW.trod_array Try.underlying22 hf
  simp only [cells5, Nat.mul_one] at hall
  have hsome : ∀ i, i < 5 → xs[i]?.isSome = true := fun i hi => by rw [List.getElem?_eq_getElem (by omega)]; rfl
  obtain ⟨n0, e0, b0⟩ := cell_u8 (c := c0) (hall 0 (by omega)) (hsome 0 (by omega))
  obtain ⟨n1, e1, b1⟩ := cell_u8 (c := c1) (hall 1 (by omega)) (hsome 1 (by omega))
  obtain ⟨n2, e2, b2⟩ := cell_u8 (c := c2) (hall 2 (by omega)) (hsome 2 (by omega))
  obtain ⟨n3, e3, b3⟩ := cell_u8 (c := c3) (hall 3 (by omega)) (hsome 3 (by omega))
  obtain ⟨n4, e4, b4⟩ := cell_u8 (c := c4) (hall 4 (by omega)) (hsome 4 (by omega))
  subst e0 e1 e2 e3 e4
  refine ⟨fun i => match i with | 0 => n0 | 1 => n1 | 2 => n2 | 3 => n3 | 4 => n4 | _ => 0, rfl, ?_⟩
  intro i
  match i with
  | 0 => exact b0
  | 1 => exact b1
  | 2 => exact b2
  | 3 => exact b3
  | 4 => exact b4
  | _ + 5 => exact ⟨by simp, by simp⟩
end Go.Proofs.Qxb6605433a
