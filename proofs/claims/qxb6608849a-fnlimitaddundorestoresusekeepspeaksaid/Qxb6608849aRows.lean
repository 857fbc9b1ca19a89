/-
  No cell of these rows narrows 'for every input' (looked for: loops, veiled, ifaces, maps, wideKeys, modest, calm, conditions, laid).
  DERIVED. THE GIVEN ROWS OF THIS SEAT. 1 by the template 'for every input the law returns true; each argument reads behind the call as it read before'; 0 by the template 'total and deterministic' (their statements: Qxb6608849aTotals.lean).
  GIVEN WITH THE SEED: the statements are not yours to turn. If you find one false, say at which input.
  Laid BY PROGRAM, IN A SANDBOX (cutbox-rows.mjs): the forced cells as the released guide's own fill.sh prints them over the translation c5f2c0d4bd9bdf73… (all of the seat's roots in one cut). By AI agents, Wed Nov 11 2026. No macro, syntax, notation, axiom, sorry.
-/
import Derived.Test.Qxb6608849aChecked
import GoSem.Claim
import GoSem.ClaimJoined
import GoSem.ClaimMapViews
import Derived.JoinedTies
import Derived.KernelRfl
namespace Go.Proofs.Qxb6608849a
/- THE CELL 'sum', in the pinned program and in every row, IS THE sha256 OF THE DUMP (.gsa) THAT Qxb6608849aProg.lean LOADS. Nothing in Lean hashes anything: it is a label: what it is worth is what the hold of that sum in a sandbox is worth. -/
noncomputable def Try.pinned : Pinned := { name := "qxb6608849a", sum := "c5f2c0d4bd9bdf730423b7c5f6a39cb115abdf9b01def7f0aaacd49992696f8e", checked := Try.checked }
namespace Rows
def none {H : Type} : Left H := { results := [], args := [] }

/-- 'zzlaws_engine_b1.FnLimitAddUndoRestoresUseKeepsPeak': WHATEVER THE INPUT: true; the input reads as it did. -/
def fnLimitAddUndoRestoresUseKeepsPeakSpec : ChangeSpec := { name := "fnLimitAddUndoRestoresUseKeepsPeak", fn := fun _ => fun
  | [d1, d2, d3, d4] => { results := [.lit (.bool true)], args := [d1, d2, d3, d4] }
  | _ => none }
def fnLimitAddUndoRestoresUseKeepsPeakRow : OpenClaim := { program := "qxb6608849a", sum := "c5f2c0d4bd9bdf730423b7c5f6a39cb115abdf9b01def7f0aaacd49992696f8e", func := "example.com/allotment/allotment/zzlaws_engine_b1.FnLimitAddUndoRestoresUseKeepsPeak", spec := "fnLimitAddUndoRestoresUseKeepsPeak", apart := false }
def FnLimitAddUndoRestoresUseKeepsPeakSaid : Prop := fnLimitAddUndoRestoresUseKeepsPeakRow.holds Try.pinned (OpenSpec.ofChange fnLimitAddUndoRestoresUseKeepsPeakSpec)

/-- ITS FALSE NEIGHBOUR: 'it returns false'. Refute it at one input. -/
def fnLimitAddUndoRestoresUseKeepsPeakWrong : ChangeSpec := { name := "fnLimitAddUndoRestoresUseKeepsPeak", fn := fun _ => fun
  | [d1, d2, d3, d4] => { results := [.lit (.bool false)], args := [d1, d2, d3, d4] }
  | _ => none }
def FnLimitAddUndoRestoresUseKeepsPeakWrongFalsely : Prop := fnLimitAddUndoRestoresUseKeepsPeakRow.holds Try.pinned (OpenSpec.ofChange fnLimitAddUndoRestoresUseKeepsPeakWrong)

end Rows
end Go.Proofs.Qxb6608849a
