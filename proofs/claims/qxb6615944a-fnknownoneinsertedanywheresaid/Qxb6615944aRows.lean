/-
  No cell of these rows narrows 'for every input' (looked for: loops, veiled, ifaces, maps, wideKeys, modest, calm, conditions, laid).
  DERIVED. THE GIVEN ROWS OF THIS SEAT. 4 by the template 'for every input the law returns true; each argument reads behind the call as it read before'; 0 by the template 'total and deterministic' (their statements: Qxb6615944aTotals.lean).
  GIVEN WITH THE SEED: the statements are not yours to turn. If you find one false, say at which input.
  Laid BY PROGRAM, IN A SANDBOX (cutbox-rows.mjs): the forced cells as the released guide's own fill.sh prints them over the translation 894bb6e093609c17… (all of the seat's roots in one cut). By AI agents, Wed Nov 11 2026. No macro, syntax, notation, axiom, sorry.
-/
import Derived.Test.Qxb6615944aChecked
import GoSem.Claim
import GoSem.ClaimJoined
import GoSem.ClaimMapViews
import Derived.JoinedTies
import Derived.KernelRfl
namespace Go.Proofs.Qxb6615944a
/- THE CELL 'sum', in the pinned program and in every row, IS THE sha256 OF THE DUMP (.gsa) THAT Qxb6615944aProg.lean LOADS. Nothing in Lean hashes anything: it is a label: what it is worth is what the hold of that sum in a sandbox is worth. -/
noncomputable def Try.pinned : Pinned := { name := "qxb6615944a", sum := "894bb6e093609c1771c47a32640e603e08f6166ed5c82ab9000376311a25357f", checked := Try.checked }
namespace Rows
def none {H : Type} : Left H := { results := [], args := [] }

/-- 'zzlaws_internal_variation_b1.FnBetterRanksByPairsThenDistanceWithTiesExact': WHATEVER THE INPUT: true; the input reads as it did. -/
def fnBetterRanksByPairsThenDistanceWithTiesExactSpec : ChangeSpec := { name := "fnBetterRanksByPairsThenDistanceWithTiesExact", fn := fun _ => fun
  | [d1, d2, d3, d4, d5, d6] => { results := [.lit (.bool true)], args := [d1, d2, d3, d4, d5, d6] }
  | _ => none }
def fnBetterRanksByPairsThenDistanceWithTiesExactRow : OpenClaim := { program := "qxb6615944a", sum := "894bb6e093609c1771c47a32640e603e08f6166ed5c82ab9000376311a25357f", func := "example.com/audition/audition/zzlaws_internal_variation_b1.FnBetterRanksByPairsThenDistanceWithTiesExact", spec := "fnBetterRanksByPairsThenDistanceWithTiesExact", apart := false }
def FnBetterRanksByPairsThenDistanceWithTiesExactSaid : Prop := fnBetterRanksByPairsThenDistanceWithTiesExactRow.holds Try.pinned (OpenSpec.ofChange fnBetterRanksByPairsThenDistanceWithTiesExactSpec)

/-- ITS FALSE NEIGHBOUR: 'it returns false'. Refute it at one input. -/
def fnBetterRanksByPairsThenDistanceWithTiesExactWrong : ChangeSpec := { name := "fnBetterRanksByPairsThenDistanceWithTiesExact", fn := fun _ => fun
  | [d1, d2, d3, d4, d5, d6] => { results := [.lit (.bool false)], args := [d1, d2, d3, d4, d5, d6] }
  | _ => none }
def FnBetterRanksByPairsThenDistanceWithTiesExactWrongFalsely : Prop := fnBetterRanksByPairsThenDistanceWithTiesExactRow.holds Try.pinned (OpenSpec.ofChange fnBetterRanksByPairsThenDistanceWithTiesExactWrong)

/-- 'zzlaws_internal_variation_b1.FnBetterMorePairsOrLessDistanceWins': WHATEVER THE INPUT: true; the input reads as it did. -/
def fnBetterMorePairsOrLessDistanceWinsSpec : ChangeSpec := { name := "fnBetterMorePairsOrLessDistanceWins", fn := fun _ => fun
  | [d1, d2, d3, d4, d5, d6, d7, d8, d9] => { results := [.lit (.bool true)], args := [d1, d2, d3, d4, d5, d6, d7, d8, d9] }
  | _ => none }
def fnBetterMorePairsOrLessDistanceWinsRow : OpenClaim := { program := "qxb6615944a", sum := "894bb6e093609c1771c47a32640e603e08f6166ed5c82ab9000376311a25357f", func := "example.com/audition/audition/zzlaws_internal_variation_b1.FnBetterMorePairsOrLessDistanceWins", spec := "fnBetterMorePairsOrLessDistanceWins", apart := false }
def FnBetterMorePairsOrLessDistanceWinsSaid : Prop := fnBetterMorePairsOrLessDistanceWinsRow.holds Try.pinned (OpenSpec.ofChange fnBetterMorePairsOrLessDistanceWinsSpec)

/-- ITS FALSE NEIGHBOUR: 'it returns false'. Refute it at one input. -/
def fnBetterMorePairsOrLessDistanceWinsWrong : ChangeSpec := { name := "fnBetterMorePairsOrLessDistanceWins", fn := fun _ => fun
  | [d1, d2, d3, d4, d5, d6, d7, d8, d9] => { results := [.lit (.bool false)], args := [d1, d2, d3, d4, d5, d6, d7, d8, d9] }
  | _ => none }
def FnBetterMorePairsOrLessDistanceWinsWrongFalsely : Prop := fnBetterMorePairsOrLessDistanceWinsRow.holds Try.pinned (OpenSpec.ofChange fnBetterMorePairsOrLessDistanceWinsWrong)

/-- 'zzlaws_internal_variation_b1.FnKnownJoinAtAnyCut': WHATEVER THE INPUT: true; the input reads as it did. -/
def fnKnownJoinAtAnyCutSpec : ChangeSpec := { name := "fnKnownJoinAtAnyCut", fn := fun _ => fun
  | [d1, d2, d3, d4] => { results := [.lit (.bool true)], args := [d1, d2, d3, d4] }
  | _ => none }
def fnKnownJoinAtAnyCutRow : OpenClaim := { program := "qxb6615944a", sum := "894bb6e093609c1771c47a32640e603e08f6166ed5c82ab9000376311a25357f", func := "example.com/audition/audition/zzlaws_internal_variation_b1.FnKnownJoinAtAnyCut", spec := "fnKnownJoinAtAnyCut", apart := false }
def FnKnownJoinAtAnyCutSaid : Prop := fnKnownJoinAtAnyCutRow.holds Try.pinned (OpenSpec.ofChange fnKnownJoinAtAnyCutSpec)

/-- ITS FALSE NEIGHBOUR: 'it returns false'. Refute it at one input. -/
def fnKnownJoinAtAnyCutWrong : ChangeSpec := { name := "fnKnownJoinAtAnyCut", fn := fun _ => fun
  | [d1, d2, d3, d4] => { results := [.lit (.bool false)], args := [d1, d2, d3, d4] }
  | _ => none }
def FnKnownJoinAtAnyCutWrongFalsely : Prop := fnKnownJoinAtAnyCutRow.holds Try.pinned (OpenSpec.ofChange fnKnownJoinAtAnyCutWrong)

/-- 'zzlaws_internal_variation_b1.FnKnownOneInsertedAnywhere': WHATEVER THE INPUT: true; the input reads as it did. -/
def fnKnownOneInsertedAnywhereSpec : ChangeSpec := { name := "fnKnownOneInsertedAnywhere", fn := fun _ => fun
  | [d1, d2, d3, d4, d5] => { results := [.lit (.bool true)], args := [d1, d2, d3, d4, d5] }
  | _ => none }
def fnKnownOneInsertedAnywhereRow : OpenClaim := { program := "qxb6615944a", sum := "894bb6e093609c1771c47a32640e603e08f6166ed5c82ab9000376311a25357f", func := "example.com/audition/audition/zzlaws_internal_variation_b1.FnKnownOneInsertedAnywhere", spec := "fnKnownOneInsertedAnywhere", apart := false }
def FnKnownOneInsertedAnywhereSaid : Prop := fnKnownOneInsertedAnywhereRow.holds Try.pinned (OpenSpec.ofChange fnKnownOneInsertedAnywhereSpec)

/-- ITS FALSE NEIGHBOUR: 'it returns false'. Refute it at one input. -/
def fnKnownOneInsertedAnywhereWrong : ChangeSpec := { name := "fnKnownOneInsertedAnywhere", fn := fun _ => fun
  | [d1, d2, d3, d4, d5] => { results := [.lit (.bool false)], args := [d1, d2, d3, d4, d5] }
  | _ => none }
def FnKnownOneInsertedAnywhereWrongFalsely : Prop := fnKnownOneInsertedAnywhereRow.holds Try.pinned (OpenSpec.ofChange fnKnownOneInsertedAnywhereWrong)

end Rows
end Go.Proofs.Qxb6615944a
