/-
  No cell of these rows narrows 'for every input' (looked for: loops, veiled, ifaces, maps, wideKeys, modest, calm, conditions, laid).
  DERIVED. THE GIVEN ROWS OF THIS SEAT. 2 by the template 'for every input the law returns true; each argument reads behind the call as it read before'; 0 by the template 'total and deterministic' (their statements: Qxb6615944aFmtTotals.lean).
  GIVEN WITH THE SEED: the statements are not yours to turn. If you find one false, say at which input.
  Laid BY PROGRAM, IN A SANDBOX (cutbox-rows.mjs): the forced cells as the released guide's own fill.sh prints them over the translation e6b58f7155c349b0… (all of the seat's roots in one cut). By AI agents, Wed Nov 11 2026. No macro, syntax, notation, axiom, sorry.
-/
import Derived.Test.Qxb6615944aFmtChecked
import GoSem.Claim
import GoSem.ClaimJoined
import GoSem.ClaimMapViews
import Derived.JoinedTies
import Derived.KernelRfl
namespace Go.Proofs.Qxb6615944aFmt
/- THE CELL 'sum', in the pinned program and in every row, IS THE sha256 OF THE DUMP (.gsa) THAT Qxb6615944aFmtProg.lean LOADS. Nothing in Lean hashes anything: it is a label: what it is worth is what the hold of that sum in a sandbox is worth. -/
noncomputable def Tryf.pinned : Pinned := { name := "qxb6615944afmt", sum := "e6b58f7155c349b074e3027c7614ebee0a459f622ce5f50c55ad9c675e9b298c", checked := Tryf.checked }
namespace Rows
def none {H : Type} : Left H := { results := [], args := [] }

/-- 'zzlaws_internal_variation_b1.FnAddedGivesItsRegionAndTakesItBack': WHATEVER THE INPUT: true; the input reads as it did. -/
def fnAddedGivesItsRegionAndTakesItBackSpec : ChangeSpec := { name := "fnAddedGivesItsRegionAndTakesItBack", fn := fun _ => fun
  | [d1, d2, d3, d4, d5, d6, d7] => { results := [.lit (.bool true)], args := [d1, d2, d3, d4, d5, d6, d7] }
  | _ => none }
def fnAddedGivesItsRegionAndTakesItBackRow : OpenClaim := { program := "qxb6615944afmt", sum := "e6b58f7155c349b074e3027c7614ebee0a459f622ce5f50c55ad9c675e9b298c", func := "example.com/audition/audition/zzlaws_internal_variation_b1.FnAddedGivesItsRegionAndTakesItBack", spec := "fnAddedGivesItsRegionAndTakesItBack", stops := ["fmt.errorf"], inPlace := ["fmt.errorf"], unfollowed := true, recurses := true, apart := false }
/-- NO THEOREM (fmt's text is open here; it may be false): for the released tool's asking of the row's closed facts alone. THE STATEMENT IS 'FnAddedGivesItsRegionAndTakesItBackToldSaid' (Qxb6615944aFmtCards.lean). -/
def FnAddedGivesItsRegionAndTakesItBackFormAsk : Prop := fnAddedGivesItsRegionAndTakesItBackRow.holds Tryf.pinned (OpenSpec.ofChange fnAddedGivesItsRegionAndTakesItBackSpec)

/-- ITS FALSE NEIGHBOUR: 'it returns false'. Refute it at one input. -/
def fnAddedGivesItsRegionAndTakesItBackWrong : ChangeSpec := { name := "fnAddedGivesItsRegionAndTakesItBack", fn := fun _ => fun
  | [d1, d2, d3, d4, d5, d6, d7] => { results := [.lit (.bool false)], args := [d1, d2, d3, d4, d5, d6, d7] }
  | _ => none }
def FnAddedGivesItsRegionAndTakesItBackWrongFormAsk : Prop := fnAddedGivesItsRegionAndTakesItBackRow.holds Tryf.pinned (OpenSpec.ofChange fnAddedGivesItsRegionAndTakesItBackWrong)

/-- 'zzlaws_internal_variation_b1.FnAddedVerdictHangsOnTrackAndPlaceAlone': WHATEVER THE INPUT: true; the input reads as it did. -/
def fnAddedVerdictHangsOnTrackAndPlaceAloneSpec : ChangeSpec := { name := "fnAddedVerdictHangsOnTrackAndPlaceAlone", fn := fun _ => fun
  | [d1, d2, d3, d4, d5, d6, d7, d8, d9, d10] => { results := [.lit (.bool true)], args := [d1, d2, d3, d4, d5, d6, d7, d8, d9, d10] }
  | _ => none }
def fnAddedVerdictHangsOnTrackAndPlaceAloneRow : OpenClaim := { program := "qxb6615944afmt", sum := "e6b58f7155c349b074e3027c7614ebee0a459f622ce5f50c55ad9c675e9b298c", func := "example.com/audition/audition/zzlaws_internal_variation_b1.FnAddedVerdictHangsOnTrackAndPlaceAlone", spec := "fnAddedVerdictHangsOnTrackAndPlaceAlone", stops := ["fmt.errorf"], inPlace := ["fmt.errorf"], unfollowed := true, recurses := true, apart := false }
/-- NO THEOREM (fmt's text is open here; it may be false): for the released tool's asking of the row's closed facts alone. THE STATEMENT IS 'FnAddedVerdictHangsOnTrackAndPlaceAloneToldSaid' (Qxb6615944aFmtCards.lean). -/
def FnAddedVerdictHangsOnTrackAndPlaceAloneFormAsk : Prop := fnAddedVerdictHangsOnTrackAndPlaceAloneRow.holds Tryf.pinned (OpenSpec.ofChange fnAddedVerdictHangsOnTrackAndPlaceAloneSpec)

/-- ITS FALSE NEIGHBOUR: 'it returns false'. Refute it at one input. -/
def fnAddedVerdictHangsOnTrackAndPlaceAloneWrong : ChangeSpec := { name := "fnAddedVerdictHangsOnTrackAndPlaceAlone", fn := fun _ => fun
  | [d1, d2, d3, d4, d5, d6, d7, d8, d9, d10] => { results := [.lit (.bool false)], args := [d1, d2, d3, d4, d5, d6, d7, d8, d9, d10] }
  | _ => none }
def FnAddedVerdictHangsOnTrackAndPlaceAloneWrongFormAsk : Prop := fnAddedVerdictHangsOnTrackAndPlaceAloneRow.holds Tryf.pinned (OpenSpec.ofChange fnAddedVerdictHangsOnTrackAndPlaceAloneWrong)

end Rows
end Go.Proofs.Qxb6615944aFmt
