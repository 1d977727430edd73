/- The row's step of the gossip law out of its walk: a slice of pairs of ints, opened. -/
import Derived.Test.Qxb6605433aOpen
import Derived.Test.Qxb6605433aLaw4
import Derived.Deep.Slices
namespace Go.Proofs.Qxb6605433a
open Go.ChangeShapes Go.WideShapes Go.ChangeAt Go.RowKit
theorem cells3 : Try.prog.cellsOf 3 = 1 := by kernel_rfl
theorem cells33 : Try.prog.cellsOf 33 = 2 := by kernel_rfl
theorem cell_i64 {H : Type} {enc : TypeId × Value → H} {W : World} {m : Nat} {c : Value} {y : Option (DataW H × List MemPlace)}
    (h : DataW.trod enc Try.prog W 0 (fun _ => true) true m 3 [c] = y) (hy : y.isSome = true) : ∃ n : Int, c = .int .i64 n := by
  obtain ⟨x, rfl⟩ := Option.isSome_iff_exists.1 hy
  obtain ⟨a, e, _, _⟩ := DataW.trod_int Try.underlying3 h
  simp at e
  exact ⟨a, e⟩
/-- One pair: its two cells. -/
theorem pair_cells {H : Type} {enc : TypeId × Value → H} {W : World} {fuel : Nat} {p : Addr} {cs : List Value} {d : DataW H × List MemPlace}
    (h1 : W.cells? 0 p 2 = some cs) (h2 : DataW.trod enc Try.prog W 0 (fun _ => true) true fuel 33 cs = some d) :
    ∃ x y : Int, W.cell? p = some (.int .i64 x) ∧ W.cell? (p.add 1) = some (.int .i64 y) := by
  unfold World.cells? at h1
  rw [if_pos (Nat.zero_le _), show List.range 2 = [0, 1] from rfl] at h1
  simp only [List.mapM_cons, List.mapM_nil, bind, pure, Option.bind_eq_some_iff, Option.some.injEq] at h1
  obtain ⟨c0, q0, r1, ⟨c1, q1, r2, hr2, rfl⟩, rfl⟩ := h1
  subst hr2
  obtain ⟨xs, m, _, _, _, hl, hall⟩ := DataW.trod_array Try.underlying33 h2
  simp only [cells3, Nat.mul_one] at hall
  have hsome : ∀ i, i < 2 → xs[i]?.isSome = true := fun i hi => by rw [List.getElem?_eq_getElem (by omega)]; rfl
  obtain ⟨x, e0⟩ := cell_i64 (c := c0) (hall 0 (by omega)) (hsome 0 (by omega))
  obtain ⟨y, e1⟩ := cell_i64 (c := c1) (hall 1 (by omega)) (hsome 1 (by omega))
  exact ⟨x, y, by rw [← e0]; simpa [Addr.add] using q0, by rw [← e1]; exact q1⟩
theorem open_msgs {H : Type} {enc : TypeId × Value → H} {W : World} {a : Option Addr} {len cap : Nat} {d : DataW H} {p : List MemPlace}
    (h : DataW.Trod enc Try.prog W 0 (fun _ => true) true 31 (.slice a len cap) d p) : ∃ x y : Nat → Int, Msgs W a len x y := by
  obtain ⟨fuel, hf⟩ := h
  rcases Go.Deep.open_slice Try.underlying31 hf with ⟨hcs, _⟩ | ⟨ad, l, c, m, n, D, Pl, hcs, _, hl, _, hm, _, hall⟩
  · simp [Value.cells] at hcs
    obtain ⟨rfl, rfl, rfl⟩ := hcs
    exact ⟨fun _ => 0, fun _ => 0, fun k hk => by omega⟩
  · simp [Value.cells] at hcs
    obtain ⟨rfl, rfl, rfl⟩ := hcs
    simp only [if_true] at hm
    subst hm
    rw [cells33] at hall
    have hp : ∀ i, i < len → ∃ x y : Int, W.cell? (ad.add (i * 2)) = some (.int .i64 x) ∧ W.cell? ((ad.add (i * 2)).add 1) = some (.int .i64 y) := fun i hi => by
      obtain ⟨cs', e1, e2⟩ := hall i (by omega)
      exact pair_cells e1 e2
    obtain ⟨x, hx⟩ := Go.Deep.choose_lt hp
    obtain ⟨y, hy⟩ := Go.Deep.choose_lt hx
    refine ⟨x, y, fun k hk => ?_⟩
    obtain ⟨b, off, spot⟩ := ad
    have h0 := (hy 0 (by omega)).1
    have hspot : spot = none := by simpa [Addr.add] using World.cell?_spot h0
    subst hspot
    refine ⟨b, off, rfl, fun j hj => ⟨?_, ?_⟩⟩
    · have := (hy j hj).1
      rwa [Go.WideShapes.add_plain] at this
    · have := (hy j hj).2
      rwa [Go.WideShapes.add_plain, Go.WideShapes.add_plain] at this
end Go.Proofs.Qxb6605433a
namespace Go.Proofs.Qxb6605433a.fnGossipFromStartOnlySpreadsForcedConfig
open Go.ChangeShapes Go.WideShapes Go.ChangeAt Go.RowKit
set_option linter.unusedVariables false
set_option maxRecDepth 100000 in
theorem lifted (os : Os) (started : os.Started) (H : Type) (enc : TypeId × Value → H) :
    ReturnsInHanded {} Try.checked os 6 .any (Rows.fnGossipFromStartOnlySpreadsForcedConfigSpec.pre6 enc Try.prog Try.f6 Rows.fnGossipFromStartOnlySpreadsForcedConfigRow.domain false) (Rows.fnGossipFromStartOnlySpreadsForcedConfigSpec.post enc Try.prog Try.f6 false true false false) := by
  refine returnsInHanded_of_change (C := Try.checked) own started (by kernel_rfl) Try.func6
    (ChangeSpec.witness6 (enc := enc) (C := Try.checked) false ⟨#[], #[.slice none 0 0], []⟩ 8 (by kernel_rfl) (by kernel_rfl) (by kernel_rfl) (by kernel_rfl)) ?_
  intro W base args ds gs before hval0 hW hcnd _
  have hval : ∀ (j : Nat) t v, Try.f6.params[j]? = some t → args[j]? = some v → Value.okWide Try.prog W .any base t v := hval0
  have hW' := hW
  obtain ⟨p, q, hA0, hV, rfl, hfz, hnd⟩ := hW
  have hA : DataW.TrodAll enc Try.prog W 0 (fun _ => true) true Try.f6.params.toList args.toList ds p := hA0
  rw [Try.params6] at hA hval
  obtain ⟨v0, vs0, d0, ds0, p0, q0, hargs, rfl, rfl, h0, r0⟩ := trodAll_cons hA
  obtain ⟨rfl, rfl, rfl⟩ := trodAll_nil r0
  obtain rfl : args = #[v0] := by cases args; simp_all
  obtain ⟨rfl, rfl⟩ := trodVars_none hV
  have k0 := h0
  have lt0 : ∀ x ∈ p0, x.block < W.heap.size := by obtain ⟨m, hm⟩ := k0; exact DataW.trod_lt m _ _ _ hm
  obtain ⟨a0, len0, cap0, rfl⟩ := okWide_slice Try.underlying31 (hval 0 31 v0 rfl rfl)
  obtain ⟨x0, y0, w0⟩ := open_msgs h0
  clear hA0 hval0
  refine (law4_any a0 len0 cap0 x0 y0 W w0).mono fun e W' ⟨he, bel⟩ => ?_
  subst he
  exact ⟨_, rfl, _, _, _, [], _, [], hW', trodAll_mk1 (shut_bool Try.underlying4 _), (trodAll_cons_mk (Below.trod laidOut (by kernel_rfl) (of_decide_eq_true (by kernel_rfl)) k0 bel lt0) trodAll_mk0), rfl, bel.frame _, fun h => by cases h⟩

theorem over : Rows.fnGossipFromStartOnlySpreadsForcedConfigRow.holds Try.pinned (OpenSpec.ofChange Rows.fnGossipFromStartOnlySpreadsForcedConfigSpec) :=
  OpenClaim.holds_of_wide 6 Try.f6 rfl rfl rfl rfl rfl rfl rfl ⟨rfl, rfl, rfl, rfl, rfl⟩ rfl rfl rfl rfl rfl (by kernel_rfl) Try.func6 (by kernel_rfl)
    (of_decide_eq_true (by kernel_rfl)) (by unfold Func.isWrapper; first | (rw [if_pos (by decide +kernel)]; kernel_rfl) | (rw [if_neg (by decide +kernel)]; exact ⟨rfl, rfl⟩))
    (fun os started H enc _ => lifted os started H enc)

theorem proved : Rows.FnGossipFromStartOnlySpreadsForcedConfigSaid := over
end Go.Proofs.Qxb6605433a.fnGossipFromStartOnlySpreadsForcedConfig
