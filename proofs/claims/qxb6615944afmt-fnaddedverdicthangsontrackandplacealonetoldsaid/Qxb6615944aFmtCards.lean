/-
  DERIVED. GIVEN WITH THE SEED: THE CARDS: each row of Qxb6615944aFmtRows.lean that lists a variable, with what it lists TIED to the program's text (the seventh form; the later family's looks); each row that meets fmt, with fmt's text TOLD by the authors' own Lean function (tested against real Go, not proved from fmt's source: count such statements apart). THE CARD IS WHAT COUNTS. Prove the row's statement (the work); the ties are given (Qxb6615944aFmtTie.lean); close each card by the builder's one call (the guide's Derived/Test/ToyasCard.lean, 'card_holds'). Laid BY PROGRAM, IN A SANDBOX (cutbox-door.mjs). By AI agents, Wed Nov 11 2026. No macro, syntax, notation, axiom, sorry.
-/
import Derived.Test.Qxb6615944aFmtRows
import GoSem.ClaimSeven
namespace Go.Proofs.Qxb6615944aFmt
namespace Rows

/-- THE TOLD CARD OF 'zzlaws_internal_variation_b1.FnAddedGivesItsRegionAndTakesItBack'. -/
def fnAddedGivesItsRegionAndTakesItBackCard : Claim7 := { stood := { row := fnAddedGivesItsRegionAndTakesItBackRow, standIns := [], harness := (true, "6d06dea3d27ae1f3d62ed10fd0fb343df1c284dd2612cb669497bccdb455b7ac"), looks := false }, told := true, goes := false }
def FnAddedGivesItsRegionAndTakesItBackToldSaid : Prop := Claim7.holds Tryf.pinned (.plain (OpenSpec.ofChange fnAddedGivesItsRegionAndTakesItBackSpec)) fnAddedGivesItsRegionAndTakesItBackCard
/-- ITS FALSE NEIGHBOUR. Refute it at one input. -/
def FnAddedGivesItsRegionAndTakesItBackToldWrongFalsely : Prop := Claim7.holds Tryf.pinned (.plain (OpenSpec.ofChange fnAddedGivesItsRegionAndTakesItBackWrong)) fnAddedGivesItsRegionAndTakesItBackCard

/-- THE TOLD CARD OF 'zzlaws_internal_variation_b1.FnAddedVerdictHangsOnTrackAndPlaceAlone'. -/
def fnAddedVerdictHangsOnTrackAndPlaceAloneCard : Claim7 := { stood := { row := fnAddedVerdictHangsOnTrackAndPlaceAloneRow, standIns := [], harness := (true, "6d06dea3d27ae1f3d62ed10fd0fb343df1c284dd2612cb669497bccdb455b7ac"), looks := false }, told := true, goes := false }
def FnAddedVerdictHangsOnTrackAndPlaceAloneToldSaid : Prop := Claim7.holds Tryf.pinned (.plain (OpenSpec.ofChange fnAddedVerdictHangsOnTrackAndPlaceAloneSpec)) fnAddedVerdictHangsOnTrackAndPlaceAloneCard
/-- ITS FALSE NEIGHBOUR. Refute it at one input. -/
def FnAddedVerdictHangsOnTrackAndPlaceAloneToldWrongFalsely : Prop := Claim7.holds Tryf.pinned (.plain (OpenSpec.ofChange fnAddedVerdictHangsOnTrackAndPlaceAloneWrong)) fnAddedVerdictHangsOnTrackAndPlaceAloneCard
end Rows
end Go.Proofs.Qxb6615944aFmt
