/-
  DERIVED. GIVEN WITH THE SEED: THE CARDS: each row of YtdjfagknffknjaaFmtRows.lean that lists a variable, with what it lists TIED to the program's text (the seventh form; the later family's looks); each row that meets fmt, with fmt's text TOLD by the authors' own Lean function (tested against real Go, not proved from fmt's source: count such statements apart). THE CARD IS WHAT COUNTS. Prove the row's statement (the work); the ties are given (YtdjfagknffknjaaFmtTie.lean); close each card by the builder's one call (the guide's Derived/Test/ToyasCard.lean, 'card_holds'). Laid BY PROGRAM, IN A SANDBOX (cutbox-door.mjs). By AI agents, Wed Nov 11 2026. No macro, syntax, notation, axiom, sorry.
-/
import Derived.Test.YtdjfagknffknjaaFmtRows
import GoSem.ClaimSeven
namespace Go.Proofs.YtdjfagknffknjaaFmt
namespace Rows

/-- THE TOLD AND TIED CARD OF 'laws.FnProofs'. -/
def fnProofsCard : Claim7 := { stood := { row := fnProofsRow, standIns := [], harness := (true, "47e3ad190256e264ea7fbdf300e3e2711a07b68072195a01775a497aa79a0844"), looks := true }, told := true, laidByText := true, laidKinds := [.data, .handle], laidTests := true, laidLooks := .later, goes := false }
def FnProofsToldSaid : Prop := Claim7.holds Tryf.pinned (.plain (OpenSpec.ofChange fnProofsSpec)) fnProofsCard
/-- ITS FALSE NEIGHBOUR. Refute it at one input. -/
def FnProofsToldWrongFalsely : Prop := Claim7.holds Tryf.pinned (.plain (OpenSpec.ofChange fnProofsWrong)) fnProofsCard
end Rows
end Go.Proofs.YtdjfagknffknjaaFmt
