/-
  No cell of these rows narrows 'for every input' (looked for: loops, veiled, ifaces, maps, wideKeys, modest, calm, conditions, laid).
  DERIVED. THE GIVEN ROWS OF THIS SEAT. 4 by the template 'for every input the law returns true; each argument reads behind the call as it read before'; 0 by the template 'total and deterministic' (their statements: Qxb6605451aTotals.lean).
  GIVEN WITH THE SEED: the statements are not yours to turn. If you find one false, say at which input.
  Laid BY PROGRAM, IN A SANDBOX (cutbox-rows.mjs): the forced cells as the released guide's own fill.sh prints them over the translation e02bacc450e3cafd… (all of the seat's roots in one cut). By AI agents, Wed Nov 11 2026. No macro, syntax, notation, axiom, sorry.
-/
import Derived.Test.Qxb6605451aChecked
import GoSem.Claim
import GoSem.ClaimJoined
import GoSem.ClaimMapViews
import Derived.JoinedTies
import Derived.KernelRfl
namespace Go.Proofs.Qxb6605451a
/- THE CELL 'sum', in the pinned program and in every row, IS THE sha256 OF THE DUMP (.gsa) THAT Qxb6605451aProg.lean LOADS. Nothing in Lean hashes anything: it is a label: what it is worth is what the hold of that sum in a sandbox is worth. -/
noncomputable def Try.pinned : Pinned := { name := "qxb6605451a", sum := "e02bacc450e3cafdf52b3463a80c744cbdd725ecc21043821f55160d194635aa", checked := Try.checked }
namespace Rows
def none {H : Type} : Left H := { results := [], args := [] }

/-- 'zzlaws_pkg_classad_b1.FnHighestSinceIsHighestRecentLevelBelow': WHATEVER THE INPUT: true; the input reads as it did. -/
def fnHighestSinceIsHighestRecentLevelBelowSpec : ChangeSpec := { name := "fnHighestSinceIsHighestRecentLevelBelow", fn := fun _ => fun
  | [d1, d2, d3, d4] => { results := [.lit (.bool true)], args := [d1, d2, d3, d4] }
  | _ => none }
def fnHighestSinceIsHighestRecentLevelBelowRow : OpenClaim := { program := "qxb6605451a", sum := "e02bacc450e3cafdf52b3463a80c744cbdd725ecc21043821f55160d194635aa", func := "example.com/slotwarden/slotwarden/zzlaws_pkg_classad_b1.FnHighestSinceIsHighestRecentLevelBelow", spec := "fnHighestSinceIsHighestRecentLevelBelow", apart := false }
def FnHighestSinceIsHighestRecentLevelBelowSaid : Prop := fnHighestSinceIsHighestRecentLevelBelowRow.holds Try.pinned (OpenSpec.ofChange fnHighestSinceIsHighestRecentLevelBelowSpec)

/-- ITS FALSE NEIGHBOUR: 'it returns false'. Refute it at one input. -/
def fnHighestSinceIsHighestRecentLevelBelowWrong : ChangeSpec := { name := "fnHighestSinceIsHighestRecentLevelBelow", fn := fun _ => fun
  | [d1, d2, d3, d4] => { results := [.lit (.bool false)], args := [d1, d2, d3, d4] }
  | _ => none }
def FnHighestSinceIsHighestRecentLevelBelowWrongFalsely : Prop := fnHighestSinceIsHighestRecentLevelBelowRow.holds Try.pinned (OpenSpec.ofChange fnHighestSinceIsHighestRecentLevelBelowWrong)

/-- 'zzlaws_pkg_classad_b1.FnIsNamePrefixSplitsAtAnyCut': WHATEVER THE INPUT: true; the input reads as it did. -/
def fnIsNamePrefixSplitsAtAnyCutSpec : ChangeSpec := { name := "fnIsNamePrefixSplitsAtAnyCut", fn := fun _ => fun
  | [d1, d2] => { results := [.lit (.bool true)], args := [d1, d2] }
  | _ => none }
def fnIsNamePrefixSplitsAtAnyCutRow : OpenClaim := { program := "qxb6605451a", sum := "e02bacc450e3cafdf52b3463a80c744cbdd725ecc21043821f55160d194635aa", func := "example.com/slotwarden/slotwarden/zzlaws_pkg_classad_b1.FnIsNamePrefixSplitsAtAnyCut", spec := "fnIsNamePrefixSplitsAtAnyCut", apart := false }
def FnIsNamePrefixSplitsAtAnyCutSaid : Prop := fnIsNamePrefixSplitsAtAnyCutRow.holds Try.pinned (OpenSpec.ofChange fnIsNamePrefixSplitsAtAnyCutSpec)

/-- ITS FALSE NEIGHBOUR: 'it returns false'. Refute it at one input. -/
def fnIsNamePrefixSplitsAtAnyCutWrong : ChangeSpec := { name := "fnIsNamePrefixSplitsAtAnyCut", fn := fun _ => fun
  | [d1, d2] => { results := [.lit (.bool false)], args := [d1, d2] }
  | _ => none }
def FnIsNamePrefixSplitsAtAnyCutWrongFalsely : Prop := fnIsNamePrefixSplitsAtAnyCutRow.holds Try.pinned (OpenSpec.ofChange fnIsNamePrefixSplitsAtAnyCutWrong)

/-- 'zzlaws_pkg_classad_b1.FnGrowRoundsUpAndKeepsStamps': WHATEVER THE INPUT: true; the input reads as it did. -/
def fnGrowRoundsUpAndKeepsStampsSpec : ChangeSpec := { name := "fnGrowRoundsUpAndKeepsStamps", fn := fun _ => fun
  | [d1, d2, d3] => { results := [.lit (.bool true)], args := [d1, d2, d3] }
  | _ => none }
def fnGrowRoundsUpAndKeepsStampsRow : OpenClaim := { program := "qxb6605451a", sum := "e02bacc450e3cafdf52b3463a80c744cbdd725ecc21043821f55160d194635aa", func := "example.com/slotwarden/slotwarden/zzlaws_pkg_classad_b1.FnGrowRoundsUpAndKeepsStamps", spec := "fnGrowRoundsUpAndKeepsStamps", apart := false }
def FnGrowRoundsUpAndKeepsStampsSaid : Prop := fnGrowRoundsUpAndKeepsStampsRow.holds Try.pinned (OpenSpec.ofChange fnGrowRoundsUpAndKeepsStampsSpec)

/-- ITS FALSE NEIGHBOUR: 'it returns false'. Refute it at one input. -/
def fnGrowRoundsUpAndKeepsStampsWrong : ChangeSpec := { name := "fnGrowRoundsUpAndKeepsStamps", fn := fun _ => fun
  | [d1, d2, d3] => { results := [.lit (.bool false)], args := [d1, d2, d3] }
  | _ => none }
def FnGrowRoundsUpAndKeepsStampsWrongFalsely : Prop := fnGrowRoundsUpAndKeepsStampsRow.holds Try.pinned (OpenSpec.ofChange fnGrowRoundsUpAndKeepsStampsWrong)

/-- 'zzlaws_pkg_classad_b1.FnGrowKeepsHighestSinceAnswers': WHATEVER THE INPUT: true; the input reads as it did. -/
def fnGrowKeepsHighestSinceAnswersSpec : ChangeSpec := { name := "fnGrowKeepsHighestSinceAnswers", fn := fun _ => fun
  | [d1, d2, d3, d4, d5] => { results := [.lit (.bool true)], args := [d1, d2, d3, d4, d5] }
  | _ => none }
def fnGrowKeepsHighestSinceAnswersRow : OpenClaim := { program := "qxb6605451a", sum := "e02bacc450e3cafdf52b3463a80c744cbdd725ecc21043821f55160d194635aa", func := "example.com/slotwarden/slotwarden/zzlaws_pkg_classad_b1.FnGrowKeepsHighestSinceAnswers", spec := "fnGrowKeepsHighestSinceAnswers", apart := false }
def FnGrowKeepsHighestSinceAnswersSaid : Prop := fnGrowKeepsHighestSinceAnswersRow.holds Try.pinned (OpenSpec.ofChange fnGrowKeepsHighestSinceAnswersSpec)

/-- ITS FALSE NEIGHBOUR: 'it returns false'. Refute it at one input. -/
def fnGrowKeepsHighestSinceAnswersWrong : ChangeSpec := { name := "fnGrowKeepsHighestSinceAnswers", fn := fun _ => fun
  | [d1, d2, d3, d4, d5] => { results := [.lit (.bool false)], args := [d1, d2, d3, d4, d5] }
  | _ => none }
def FnGrowKeepsHighestSinceAnswersWrongFalsely : Prop := fnGrowKeepsHighestSinceAnswersRow.holds Try.pinned (OpenSpec.ofChange fnGrowKeepsHighestSinceAnswersWrong)

end Rows
end Go.Proofs.Qxb6605451a
