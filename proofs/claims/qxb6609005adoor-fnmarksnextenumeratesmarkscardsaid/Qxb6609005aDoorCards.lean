/-
  DERIVED. GIVEN WITH THE SEED: THE CARDS: each row of Qxb6609005aDoorRows.lean that lists a variable, with what it lists TIED to the program's text (the seventh form; the later family's looks); each row that meets fmt, with fmt's text TOLD by the authors' own Lean function (tested against real Go, not proved from fmt's source: count such statements apart). THE CARD IS WHAT COUNTS. Prove the row's statement (the work); the ties are given (Qxb6609005aDoorTie.lean); close each card by the builder's one call (the guide's Derived/Test/ToyasCard.lean, 'card_holds'). Laid BY PROGRAM, IN A SANDBOX (cutbox-door.mjs). By AI agents, Wed Nov 11 2026. No macro, syntax, notation, axiom, sorry.
-/
import Derived.Test.Qxb6609005aDoorRows
import GoSem.ClaimSeven
namespace Go.Proofs.Qxb6609005aDoor
namespace Rows

/-- THE TIED CARD OF 'zzlaws_execlog_b1.FnMarksNextIsFirstMarkAtOrAfterPos'. -/
def fnMarksNextIsFirstMarkAtOrAfterPosCard : Claim7 := { stood := { row := fnMarksNextIsFirstMarkAtOrAfterPosRow, standIns := [], harness := (true, "802bfcfbf9092eb38c7edb0a88ee45c9818cdf8639d0ceb7bf3a9bd6fd523e53"), looks := false }, kinds := [], alts := [], laidByText := true, laidKinds := [.data], laidTests := true, laidLooks := .later }
def FnMarksNextIsFirstMarkAtOrAfterPosCardSaid : Prop := Claim7.holds Tryd.pinned (.plain (OpenSpec.ofChange fnMarksNextIsFirstMarkAtOrAfterPosSpec)) fnMarksNextIsFirstMarkAtOrAfterPosCard

/-- THE TIED CARD OF 'zzlaws_execlog_b1.FnMarksNextEnumeratesMarks'. -/
def fnMarksNextEnumeratesMarksCard : Claim7 := { stood := { row := fnMarksNextEnumeratesMarksRow, standIns := [], harness := (true, "802bfcfbf9092eb38c7edb0a88ee45c9818cdf8639d0ceb7bf3a9bd6fd523e53"), looks := false }, kinds := [], alts := [], laidByText := true, laidKinds := [.data], laidTests := true, laidLooks := .later }
def FnMarksNextEnumeratesMarksCardSaid : Prop := Claim7.holds Tryd.pinned (.plain (OpenSpec.ofChange fnMarksNextEnumeratesMarksSpec)) fnMarksNextEnumeratesMarksCard
end Rows
end Go.Proofs.Qxb6609005aDoor
