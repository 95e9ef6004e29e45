/-
  DERIVED. GIVEN WITH THE SEED: THE CARDS: each row of Qxb6614570aFmtRows.lean that lists a variable, with what it lists TIED to the program's text (the seventh form; the later family's looks); each row that meets fmt, with fmt's text TOLD by the authors' own Lean function (tested against real Go, not proved from fmt's source: count such statements apart). THE CARD IS WHAT COUNTS. Prove the row's statement (the work); the ties are given (Qxb6614570aFmtTie.lean); close each card by the builder's one call (the guide's Derived/Test/ToyasCard.lean, 'card_holds'). Laid BY PROGRAM, IN A SANDBOX (cutbox-door.mjs). By AI agents, Wed Nov 11 2026. No macro, syntax, notation, axiom, sorry.
-/
import Derived.Test.Qxb6614570aFmtRows
import GoSem.ClaimSeven
namespace Go.Proofs.Qxb6614570aFmt
namespace Rows

/-- THE TOLD AND TIED CARD OF 'zzlaws_root_b1.FnHeldCountsCopiesUntilStable'. -/
def fnHeldCountsCopiesUntilStableCard : Claim7 := { stood := { row := fnHeldCountsCopiesUntilStableRow, standIns := [], harness := (true, "8dd2cccfed0c929c42c0cb6e39d2095b9965cc7d92b90a844e4e0d7e434784a7"), looks := false }, told := true, laidByText := true, laidKinds := [.data], laidTests := true, laidLooks := .later, goes := false }
def FnHeldCountsCopiesUntilStableToldSaid : Prop := Claim7.holds Tryf.pinned (.plain (OpenSpec.ofChange fnHeldCountsCopiesUntilStableSpec)) fnHeldCountsCopiesUntilStableCard
/-- ITS FALSE NEIGHBOUR. Refute it at one input. -/
def FnHeldCountsCopiesUntilStableToldWrongFalsely : Prop := Claim7.holds Tryf.pinned (.plain (OpenSpec.ofChange fnHeldCountsCopiesUntilStableWrong)) fnHeldCountsCopiesUntilStableCard

/-- THE TOLD AND TIED CARD OF 'zzlaws_root_b1.FnHeldFollowsTheHighestRelease'. -/
def fnHeldFollowsTheHighestReleaseCard : Claim7 := { stood := { row := fnHeldFollowsTheHighestReleaseRow, standIns := [], harness := (true, "8dd2cccfed0c929c42c0cb6e39d2095b9965cc7d92b90a844e4e0d7e434784a7"), looks := false }, told := true, laidByText := true, laidKinds := [.data], laidTests := true, laidLooks := .later, goes := false }
def FnHeldFollowsTheHighestReleaseToldSaid : Prop := Claim7.holds Tryf.pinned (.plain (OpenSpec.ofChange fnHeldFollowsTheHighestReleaseSpec)) fnHeldFollowsTheHighestReleaseCard
/-- ITS FALSE NEIGHBOUR. Refute it at one input. -/
def FnHeldFollowsTheHighestReleaseToldWrongFalsely : Prop := Claim7.holds Tryf.pinned (.plain (OpenSpec.ofChange fnHeldFollowsTheHighestReleaseWrong)) fnHeldFollowsTheHighestReleaseCard
end Rows
end Go.Proofs.Qxb6614570aFmt
