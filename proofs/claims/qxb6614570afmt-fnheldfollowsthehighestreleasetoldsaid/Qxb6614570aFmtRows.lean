/-
  NARROWER THAN 'FOR EVERY INPUT', by the rows' own cells (each row's printed sentence says how): FnHeldCountsCopiesUntilStable: laid · FnHeldFollowsTheHighestRelease: laid.
  DERIVED. THE GIVEN ROWS OF THIS SEAT. 2 by the template 'for every input the law returns true; each argument reads behind the call as it read before'; 0 by the template 'total and deterministic' (their statements: Qxb6614570aFmtTotals.lean).
  GIVEN WITH THE SEED: the statements are not yours to turn. If you find one false, say at which input.
  Laid BY PROGRAM, IN A SANDBOX (cutbox-rows.mjs): the forced cells as the released guide's own fill.sh prints them over the translation b9b0d171db3b6444… (all of the seat's roots in one cut). By AI agents, Wed Nov 11 2026. No macro, syntax, notation, axiom, sorry.
-/
import Derived.Test.Qxb6614570aFmtChecked
import GoSem.Claim
import GoSem.ClaimJoined
import GoSem.ClaimMapViews
import Derived.JoinedTies
import Derived.KernelRfl
namespace Go.Proofs.Qxb6614570aFmt
/- THE CELL 'sum', in the pinned program and in every row, IS THE sha256 OF THE DUMP (.gsa) THAT Qxb6614570aFmtProg.lean LOADS. Nothing in Lean hashes anything: it is a label: what it is worth is what the hold of that sum in a sandbox is worth. -/
noncomputable def Tryf.pinned : Pinned := { name := "qxb6614570afmt", sum := "b9b0d171db3b6444f30cca25c762676bcd927b0e7fcd835d900eb638ca8fd5bf", checked := Tryf.checked }
namespace Rows
def none {H : Type} : Left H := { results := [], args := [] }

/- WHAT THE LISTED PACKAGE-LEVEL VARIABLES READ AS WHEN THE CALL BEGINS. Each datum BY PROGRAM (the guide's laid-datum.mjs) off the statement by which the dump's own 'gosem.cut.vars' lays the variable. In a bare row this is a premise. The card (Qxb6614570aFmtCards.lean) ties it to the program's text. -/
def laid_math_bits_deBruijn64tab {H : Type} : DataW H := .agg [.lit (.int .u8 0), .lit (.int .u8 1), .lit (.int .u8 56), .lit (.int .u8 2), .lit (.int .u8 57), .lit (.int .u8 49), .lit (.int .u8 28), .lit (.int .u8 3), .lit (.int .u8 61), .lit (.int .u8 58), .lit (.int .u8 42), .lit (.int .u8 50), .lit (.int .u8 38), .lit (.int .u8 29), .lit (.int .u8 17), .lit (.int .u8 4), .lit (.int .u8 62), .lit (.int .u8 47), .lit (.int .u8 59), .lit (.int .u8 36), .lit (.int .u8 45), .lit (.int .u8 43), .lit (.int .u8 51), .lit (.int .u8 22), .lit (.int .u8 53), .lit (.int .u8 39), .lit (.int .u8 33), .lit (.int .u8 30), .lit (.int .u8 24), .lit (.int .u8 18), .lit (.int .u8 12), .lit (.int .u8 5), .lit (.int .u8 63), .lit (.int .u8 55), .lit (.int .u8 48), .lit (.int .u8 27), .lit (.int .u8 60), .lit (.int .u8 41), .lit (.int .u8 37), .lit (.int .u8 16), .lit (.int .u8 46), .lit (.int .u8 35), .lit (.int .u8 44), .lit (.int .u8 21), .lit (.int .u8 52), .lit (.int .u8 32), .lit (.int .u8 23), .lit (.int .u8 11), .lit (.int .u8 54), .lit (.int .u8 26), .lit (.int .u8 40), .lit (.int .u8 15), .lit (.int .u8 34), .lit (.int .u8 20), .lit (.int .u8 31), .lit (.int .u8 10), .lit (.int .u8 25), .lit (.int .u8 14), .lit (.int .u8 19), .lit (.int .u8 9), .lit (.int .u8 13), .lit (.int .u8 8), .lit (.int .u8 7), .lit (.int .u8 6)]

/-- 'zzlaws_root_b1.FnHeldCountsCopiesUntilStable': WHATEVER THE INPUT: true; the input reads as it did. -/
def fnHeldCountsCopiesUntilStableSpec : ChangeSpec := { name := "fnHeldCountsCopiesUntilStable", fn := fun _ => fun
  | [d1, d2, d3, d4, d5] => { results := [.lit (.bool true)], args := [d1, d2, d3, d4, d5] }
  | _ => none }
def fnHeldCountsCopiesUntilStableRow : OpenClaim := { program := "qxb6614570afmt", sum := "b9b0d171db3b6444f30cca25c762676bcd927b0e7fcd835d900eb638ca8fd5bf", func := "example.com/hypergossip/hypergossip/zzlaws_root_b1.FnHeldCountsCopiesUntilStable", spec := "fnHeldCountsCopiesUntilStable", stops := ["fmt.errorf"], inPlace := ["fmt.errorf"], unfollowed := true, recurses := true, named := ["math/bits.deBruijn64tab"], apart := false, laid := [("math/bits.deBruijn64tab", laid_math_bits_deBruijn64tab)] }
/-- NO THEOREM (fmt's text is open here; it may be false): for the released tool's asking of the row's closed facts alone. THE STATEMENT IS 'FnHeldCountsCopiesUntilStableToldSaid' (Qxb6614570aFmtCards.lean). -/
def FnHeldCountsCopiesUntilStableFormAsk : Prop := fnHeldCountsCopiesUntilStableRow.holds Tryf.pinned (OpenSpec.ofChange fnHeldCountsCopiesUntilStableSpec)

/-- ITS FALSE NEIGHBOUR: 'it returns false'. Refute it at one input. -/
def fnHeldCountsCopiesUntilStableWrong : ChangeSpec := { name := "fnHeldCountsCopiesUntilStable", fn := fun _ => fun
  | [d1, d2, d3, d4, d5] => { results := [.lit (.bool false)], args := [d1, d2, d3, d4, d5] }
  | _ => none }
def FnHeldCountsCopiesUntilStableWrongFormAsk : Prop := fnHeldCountsCopiesUntilStableRow.holds Tryf.pinned (OpenSpec.ofChange fnHeldCountsCopiesUntilStableWrong)

/-- 'zzlaws_root_b1.FnHeldFollowsTheHighestRelease': WHATEVER THE INPUT: true; the input reads as it did. -/
def fnHeldFollowsTheHighestReleaseSpec : ChangeSpec := { name := "fnHeldFollowsTheHighestRelease", fn := fun _ => fun
  | [d1, d2, d3, d4, d5, d6, d7] => { results := [.lit (.bool true)], args := [d1, d2, d3, d4, d5, d6, d7] }
  | _ => none }
def fnHeldFollowsTheHighestReleaseRow : OpenClaim := { program := "qxb6614570afmt", sum := "b9b0d171db3b6444f30cca25c762676bcd927b0e7fcd835d900eb638ca8fd5bf", func := "example.com/hypergossip/hypergossip/zzlaws_root_b1.FnHeldFollowsTheHighestRelease", spec := "fnHeldFollowsTheHighestRelease", stops := ["fmt.errorf"], inPlace := ["fmt.errorf"], unfollowed := true, recurses := true, named := ["math/bits.deBruijn64tab"], apart := false, laid := [("math/bits.deBruijn64tab", laid_math_bits_deBruijn64tab)] }
/-- NO THEOREM (fmt's text is open here; it may be false): for the released tool's asking of the row's closed facts alone. THE STATEMENT IS 'FnHeldFollowsTheHighestReleaseToldSaid' (Qxb6614570aFmtCards.lean). -/
def FnHeldFollowsTheHighestReleaseFormAsk : Prop := fnHeldFollowsTheHighestReleaseRow.holds Tryf.pinned (OpenSpec.ofChange fnHeldFollowsTheHighestReleaseSpec)

/-- ITS FALSE NEIGHBOUR: 'it returns false'. Refute it at one input. -/
def fnHeldFollowsTheHighestReleaseWrong : ChangeSpec := { name := "fnHeldFollowsTheHighestRelease", fn := fun _ => fun
  | [d1, d2, d3, d4, d5, d6, d7] => { results := [.lit (.bool false)], args := [d1, d2, d3, d4, d5, d6, d7] }
  | _ => none }
def FnHeldFollowsTheHighestReleaseWrongFormAsk : Prop := fnHeldFollowsTheHighestReleaseRow.holds Tryf.pinned (OpenSpec.ofChange fnHeldFollowsTheHighestReleaseWrong)

end Rows
end Go.Proofs.Qxb6614570aFmt
