/-
  No cell of these rows narrows 'for every input' (looked for: loops, veiled, ifaces, maps, wideKeys, modest, calm, conditions, laid).
  DERIVED. THE GIVEN ROWS OF THIS SEAT. 4 by the template 'for every input the law returns true; each argument reads behind the call as it read before'; 0 by the template 'total and deterministic' (their statements: Qxb6605433aTotals.lean).
  GIVEN WITH THE SEED: the statements are not yours to turn. If you find one false, say at which input.
  Laid BY PROGRAM, IN A SANDBOX (cutbox-rows.mjs): the forced cells as the released guide's own fill.sh prints them over the translation 9282fc5c00e8a1ca… (all of the seat's roots in one cut). By AI agents, Wed Nov 11 2026. No macro, syntax, notation, axiom, sorry.
-/
import Derived.Test.Qxb6605433aChecked
import GoSem.Claim
import GoSem.ClaimJoined
import GoSem.ClaimMapViews
import Derived.JoinedTies
import Derived.KernelRfl
namespace Go.Proofs.Qxb6605433a
/- THE CELL 'sum', in the pinned program and in every row, IS THE sha256 OF THE DUMP (.gsa) THAT Qxb6605433aProg.lean LOADS. Nothing in Lean hashes anything: it is a label: what it is worth is what the hold of that sum in a sandbox is worth. -/
noncomputable def Try.pinned : Pinned := { name := "qxb6605433a", sum := "9282fc5c00e8a1ca9e6628ed875d8974745bde07a60b3a58d9b92521fa405e77", checked := Try.checked }
namespace Rows
def none {H : Type} : Left H := { results := [], args := [] }

/-- 'zzlaws_beasts_forcedreconfigsplit_b1.FnOnePrimaryPerTermExact': WHATEVER THE INPUT: true; the input reads as it did. -/
def fnOnePrimaryPerTermExactSpec : ChangeSpec := { name := "fnOnePrimaryPerTermExact", fn := fun _ => fun
  | [d1, d2, d3, d4, d5, d6] => { results := [.lit (.bool true)], args := [d1, d2, d3, d4, d5, d6] }
  | _ => none }
def fnOnePrimaryPerTermExactRow : OpenClaim := { program := "qxb6605433a", sum := "9282fc5c00e8a1ca9e6628ed875d8974745bde07a60b3a58d9b92521fa405e77", func := "example.com/quorum-bestiary/quorum-bestiary/zzlaws_beasts_forcedreconfigsplit_b1.FnOnePrimaryPerTermExact", spec := "fnOnePrimaryPerTermExact", apart := false }
def FnOnePrimaryPerTermExactSaid : Prop := fnOnePrimaryPerTermExactRow.holds Try.pinned (OpenSpec.ofChange fnOnePrimaryPerTermExactSpec)

/-- ITS FALSE NEIGHBOUR: 'it returns false'. Refute it at one input. -/
def fnOnePrimaryPerTermExactWrong : ChangeSpec := { name := "fnOnePrimaryPerTermExact", fn := fun _ => fun
  | [d1, d2, d3, d4, d5, d6] => { results := [.lit (.bool false)], args := [d1, d2, d3, d4, d5, d6] }
  | _ => none }
def FnOnePrimaryPerTermExactWrongFalsely : Prop := fnOnePrimaryPerTermExactRow.holds Try.pinned (OpenSpec.ofChange fnOnePrimaryPerTermExactWrong)

/-- 'zzlaws_beasts_forcedreconfigsplit_b1.FnSentMatchesClosedForm': WHATEVER THE INPUT: true; the input reads as it did. -/
def fnSentMatchesClosedFormSpec : ChangeSpec := { name := "fnSentMatchesClosedForm", fn := fun _ => fun
  | [d1, d2, d3, d4, d5, d6, d7, d8] => { results := [.lit (.bool true)], args := [d1, d2, d3, d4, d5, d6, d7, d8] }
  | _ => none }
def fnSentMatchesClosedFormRow : OpenClaim := { program := "qxb6605433a", sum := "9282fc5c00e8a1ca9e6628ed875d8974745bde07a60b3a58d9b92521fa405e77", func := "example.com/quorum-bestiary/quorum-bestiary/zzlaws_beasts_forcedreconfigsplit_b1.FnSentMatchesClosedForm", spec := "fnSentMatchesClosedForm", apart := false }
def FnSentMatchesClosedFormSaid : Prop := fnSentMatchesClosedFormRow.holds Try.pinned (OpenSpec.ofChange fnSentMatchesClosedFormSpec)

/-- ITS FALSE NEIGHBOUR: 'it returns false'. Refute it at one input. -/
def fnSentMatchesClosedFormWrong : ChangeSpec := { name := "fnSentMatchesClosedForm", fn := fun _ => fun
  | [d1, d2, d3, d4, d5, d6, d7, d8] => { results := [.lit (.bool false)], args := [d1, d2, d3, d4, d5, d6, d7, d8] }
  | _ => none }
def FnSentMatchesClosedFormWrongFalsely : Prop := fnSentMatchesClosedFormRow.holds Try.pinned (OpenSpec.ofChange fnSentMatchesClosedFormWrong)

/-- 'zzlaws_beasts_forcedreconfigsplit_b1.FnSentSettlesAfterTwoDeliveries': WHATEVER THE INPUT: true; the input reads as it did. -/
def fnSentSettlesAfterTwoDeliveriesSpec : ChangeSpec := { name := "fnSentSettlesAfterTwoDeliveries", fn := fun _ => fun
  | [d1, d2, d3, d4, d5, d6, d7, d8] => { results := [.lit (.bool true)], args := [d1, d2, d3, d4, d5, d6, d7, d8] }
  | _ => none }
def fnSentSettlesAfterTwoDeliveriesRow : OpenClaim := { program := "qxb6605433a", sum := "9282fc5c00e8a1ca9e6628ed875d8974745bde07a60b3a58d9b92521fa405e77", func := "example.com/quorum-bestiary/quorum-bestiary/zzlaws_beasts_forcedreconfigsplit_b1.FnSentSettlesAfterTwoDeliveries", spec := "fnSentSettlesAfterTwoDeliveries", apart := false }
def FnSentSettlesAfterTwoDeliveriesSaid : Prop := fnSentSettlesAfterTwoDeliveriesRow.holds Try.pinned (OpenSpec.ofChange fnSentSettlesAfterTwoDeliveriesSpec)

/-- ITS FALSE NEIGHBOUR: 'it returns false'. Refute it at one input. -/
def fnSentSettlesAfterTwoDeliveriesWrong : ChangeSpec := { name := "fnSentSettlesAfterTwoDeliveries", fn := fun _ => fun
  | [d1, d2, d3, d4, d5, d6, d7, d8] => { results := [.lit (.bool false)], args := [d1, d2, d3, d4, d5, d6, d7, d8] }
  | _ => none }
def FnSentSettlesAfterTwoDeliveriesWrongFalsely : Prop := fnSentSettlesAfterTwoDeliveriesRow.holds Try.pinned (OpenSpec.ofChange fnSentSettlesAfterTwoDeliveriesWrong)

/-- 'zzlaws_beasts_forcedreconfigsplit_b1.FnGossipFromStartOnlySpreadsForcedConfig': WHATEVER THE INPUT: true; the input reads as it did. -/
def fnGossipFromStartOnlySpreadsForcedConfigSpec : ChangeSpec := { name := "fnGossipFromStartOnlySpreadsForcedConfig", fn := fun _ => fun
  | [d] => { results := [.lit (.bool true)], args := [d] }
  | _ => none }
def fnGossipFromStartOnlySpreadsForcedConfigRow : OpenClaim := { program := "qxb6605433a", sum := "9282fc5c00e8a1ca9e6628ed875d8974745bde07a60b3a58d9b92521fa405e77", func := "example.com/quorum-bestiary/quorum-bestiary/zzlaws_beasts_forcedreconfigsplit_b1.FnGossipFromStartOnlySpreadsForcedConfig", spec := "fnGossipFromStartOnlySpreadsForcedConfig", apart := false }
def FnGossipFromStartOnlySpreadsForcedConfigSaid : Prop := fnGossipFromStartOnlySpreadsForcedConfigRow.holds Try.pinned (OpenSpec.ofChange fnGossipFromStartOnlySpreadsForcedConfigSpec)

/-- ITS FALSE NEIGHBOUR: 'it returns false'. Refute it at one input. -/
def fnGossipFromStartOnlySpreadsForcedConfigWrong : ChangeSpec := { name := "fnGossipFromStartOnlySpreadsForcedConfig", fn := fun _ => fun
  | [d] => { results := [.lit (.bool false)], args := [d] }
  | _ => none }
def FnGossipFromStartOnlySpreadsForcedConfigWrongFalsely : Prop := fnGossipFromStartOnlySpreadsForcedConfigRow.holds Try.pinned (OpenSpec.ofChange fnGossipFromStartOnlySpreadsForcedConfigWrong)

end Rows
end Go.Proofs.Qxb6605433a
