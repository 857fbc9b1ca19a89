/-
  No cell of these rows narrows 'for every input' (looked for: loops, veiled, ifaces, maps, wideKeys, modest, calm, conditions, laid).
  DERIVED. THE GIVEN ROWS OF THIS SEAT. 5 by the template 'for every input the law returns true; each argument reads behind the call as it read before'; 0 by the template 'total and deterministic' (their statements: Qxb6609020aTotals.lean).
  GIVEN WITH THE SEED: the statements are not yours to turn. If you find one false, say at which input.
  Laid BY PROGRAM, IN A SANDBOX (cutbox-rows.mjs): the forced cells as the released guide's own fill.sh prints them over the translation a0eb1d459e8cfbd2… (all of the seat's roots in one cut). By AI agents, Wed Nov 11 2026. No macro, syntax, notation, axiom, sorry.
-/
import Derived.Test.Qxb6609020aChecked
import GoSem.Claim
import GoSem.ClaimJoined
import GoSem.ClaimMapViews
import Derived.JoinedTies
import Derived.KernelRfl
namespace Go.Proofs.Qxb6609020a
/- THE CELL 'sum', in the pinned program and in every row, IS THE sha256 OF THE DUMP (.gsa) THAT Qxb6609020aProg.lean LOADS. Nothing in Lean hashes anything: it is a label: what it is worth is what the hold of that sum in a sandbox is worth. -/
noncomputable def Try.pinned : Pinned := { name := "qxb6609020a", sum := "a0eb1d459e8cfbd29e8373c21ee71c3fe6cf17f6192d271c8bedf1bdae000e73", checked := Try.checked }
namespace Rows
def none {H : Type} : Left H := { results := [], args := [] }

/-- 'zzlaws_pkg_layout_b1.FnFrequentExactlyFromCountThreshold': WHATEVER THE INPUT: true; the input reads as it did. -/
def fnFrequentExactlyFromCountThresholdSpec : ChangeSpec := { name := "fnFrequentExactlyFromCountThreshold", fn := fun _ => fun
  | [d1, d2, d3] => { results := [.lit (.bool true)], args := [d1, d2, d3] }
  | _ => none }
def fnFrequentExactlyFromCountThresholdRow : OpenClaim := { program := "qxb6609020a", sum := "a0eb1d459e8cfbd29e8373c21ee71c3fe6cf17f6192d271c8bedf1bdae000e73", func := "example.com/rafu/rafu/zzlaws_pkg_layout_b1.FnFrequentExactlyFromCountThreshold", spec := "fnFrequentExactlyFromCountThreshold", apart := false }
def FnFrequentExactlyFromCountThresholdSaid : Prop := fnFrequentExactlyFromCountThresholdRow.holds Try.pinned (OpenSpec.ofChange fnFrequentExactlyFromCountThresholdSpec)

/-- ITS FALSE NEIGHBOUR: 'it returns false'. Refute it at one input. -/
def fnFrequentExactlyFromCountThresholdWrong : ChangeSpec := { name := "fnFrequentExactlyFromCountThreshold", fn := fun _ => fun
  | [d1, d2, d3] => { results := [.lit (.bool false)], args := [d1, d2, d3] }
  | _ => none }
def FnFrequentExactlyFromCountThresholdWrongFalsely : Prop := fnFrequentExactlyFromCountThresholdRow.holds Try.pinned (OpenSpec.ofChange fnFrequentExactlyFromCountThresholdWrong)

/-- 'zzlaws_pkg_layout_b1.FnFrequentExactlyBelowFilesBound': WHATEVER THE INPUT: true; the input reads as it did. -/
def fnFrequentExactlyBelowFilesBoundSpec : ChangeSpec := { name := "fnFrequentExactlyBelowFilesBound", fn := fun _ => fun
  | [d1, d2, d3] => { results := [.lit (.bool true)], args := [d1, d2, d3] }
  | _ => none }
def fnFrequentExactlyBelowFilesBoundRow : OpenClaim := { program := "qxb6609020a", sum := "a0eb1d459e8cfbd29e8373c21ee71c3fe6cf17f6192d271c8bedf1bdae000e73", func := "example.com/rafu/rafu/zzlaws_pkg_layout_b1.FnFrequentExactlyBelowFilesBound", spec := "fnFrequentExactlyBelowFilesBound", apart := false }
def FnFrequentExactlyBelowFilesBoundSaid : Prop := fnFrequentExactlyBelowFilesBoundRow.holds Try.pinned (OpenSpec.ofChange fnFrequentExactlyBelowFilesBoundSpec)

/-- ITS FALSE NEIGHBOUR: 'it returns false'. Refute it at one input. -/
def fnFrequentExactlyBelowFilesBoundWrong : ChangeSpec := { name := "fnFrequentExactlyBelowFilesBound", fn := fun _ => fun
  | [d1, d2, d3] => { results := [.lit (.bool false)], args := [d1, d2, d3] }
  | _ => none }
def FnFrequentExactlyBelowFilesBoundWrongFalsely : Prop := fnFrequentExactlyBelowFilesBoundRow.holds Try.pinned (OpenSpec.ofChange fnFrequentExactlyBelowFilesBoundWrong)

/-- 'zzlaws_pkg_layout_b1.FnCensusOfSumsEveryServerAtAnyCut': WHATEVER THE INPUT: true; the input reads as it did. -/
def fnCensusOfSumsEveryServerAtAnyCutSpec : ChangeSpec := { name := "fnCensusOfSumsEveryServerAtAnyCut", fn := fun _ => fun
  | [d1, d2, d3, d4, d5] => { results := [.lit (.bool true)], args := [d1, d2, d3, d4, d5] }
  | _ => none }
def fnCensusOfSumsEveryServerAtAnyCutRow : OpenClaim := { program := "qxb6609020a", sum := "a0eb1d459e8cfbd29e8373c21ee71c3fe6cf17f6192d271c8bedf1bdae000e73", func := "example.com/rafu/rafu/zzlaws_pkg_layout_b1.FnCensusOfSumsEveryServerAtAnyCut", spec := "fnCensusOfSumsEveryServerAtAnyCut", apart := false }
def FnCensusOfSumsEveryServerAtAnyCutSaid : Prop := fnCensusOfSumsEveryServerAtAnyCutRow.holds Try.pinned (OpenSpec.ofChange fnCensusOfSumsEveryServerAtAnyCutSpec)

/-- ITS FALSE NEIGHBOUR: 'it returns false'. Refute it at one input. -/
def fnCensusOfSumsEveryServerAtAnyCutWrong : ChangeSpec := { name := "fnCensusOfSumsEveryServerAtAnyCut", fn := fun _ => fun
  | [d1, d2, d3, d4, d5] => { results := [.lit (.bool false)], args := [d1, d2, d3, d4, d5] }
  | _ => none }
def FnCensusOfSumsEveryServerAtAnyCutWrongFalsely : Prop := fnCensusOfSumsEveryServerAtAnyCutRow.holds Try.pinned (OpenSpec.ofChange fnCensusOfSumsEveryServerAtAnyCutWrong)

/-- 'zzlaws_pkg_layout_b1.FnCensusOfGrowsByAnInsertedServer': WHATEVER THE INPUT: true; the input reads as it did. -/
def fnCensusOfGrowsByAnInsertedServerSpec : ChangeSpec := { name := "fnCensusOfGrowsByAnInsertedServer", fn := fun _ => fun
  | [d1, d2, d3, d4, d5, d6, d7, d8, d9] => { results := [.lit (.bool true)], args := [d1, d2, d3, d4, d5, d6, d7, d8, d9] }
  | _ => none }
def fnCensusOfGrowsByAnInsertedServerRow : OpenClaim := { program := "qxb6609020a", sum := "a0eb1d459e8cfbd29e8373c21ee71c3fe6cf17f6192d271c8bedf1bdae000e73", func := "example.com/rafu/rafu/zzlaws_pkg_layout_b1.FnCensusOfGrowsByAnInsertedServer", spec := "fnCensusOfGrowsByAnInsertedServer", apart := false }
def FnCensusOfGrowsByAnInsertedServerSaid : Prop := fnCensusOfGrowsByAnInsertedServerRow.holds Try.pinned (OpenSpec.ofChange fnCensusOfGrowsByAnInsertedServerSpec)

/-- ITS FALSE NEIGHBOUR: 'it returns false'. Refute it at one input. -/
def fnCensusOfGrowsByAnInsertedServerWrong : ChangeSpec := { name := "fnCensusOfGrowsByAnInsertedServer", fn := fun _ => fun
  | [d1, d2, d3, d4, d5, d6, d7, d8, d9] => { results := [.lit (.bool false)], args := [d1, d2, d3, d4, d5, d6, d7, d8, d9] }
  | _ => none }
def FnCensusOfGrowsByAnInsertedServerWrongFalsely : Prop := fnCensusOfGrowsByAnInsertedServerRow.holds Try.pinned (OpenSpec.ofChange fnCensusOfGrowsByAnInsertedServerWrong)

/-- 'zzlaws_pkg_layout_b1.FnOwnerReadsTheShardOfItsName': WHATEVER THE INPUT: true; the input reads as it did. -/
def fnOwnerReadsTheShardOfItsNameSpec : ChangeSpec := { name := "fnOwnerReadsTheShardOfItsName", fn := fun _ => fun
  | [d1, d2, d3, d4, d5, d6, d7, d8, d9] => { results := [.lit (.bool true)], args := [d1, d2, d3, d4, d5, d6, d7, d8, d9] }
  | _ => none }
def fnOwnerReadsTheShardOfItsNameRow : OpenClaim := { program := "qxb6609020a", sum := "a0eb1d459e8cfbd29e8373c21ee71c3fe6cf17f6192d271c8bedf1bdae000e73", func := "example.com/rafu/rafu/zzlaws_pkg_layout_b1.FnOwnerReadsTheShardOfItsName", spec := "fnOwnerReadsTheShardOfItsName", unfollowed := true, recurses := true, apart := false }
def FnOwnerReadsTheShardOfItsNameSaid : Prop := fnOwnerReadsTheShardOfItsNameRow.holds Try.pinned (OpenSpec.ofChange fnOwnerReadsTheShardOfItsNameSpec)

/-- ITS FALSE NEIGHBOUR: 'it returns false'. Refute it at one input. -/
def fnOwnerReadsTheShardOfItsNameWrong : ChangeSpec := { name := "fnOwnerReadsTheShardOfItsName", fn := fun _ => fun
  | [d1, d2, d3, d4, d5, d6, d7, d8, d9] => { results := [.lit (.bool false)], args := [d1, d2, d3, d4, d5, d6, d7, d8, d9] }
  | _ => none }
def FnOwnerReadsTheShardOfItsNameWrongFalsely : Prop := fnOwnerReadsTheShardOfItsNameRow.holds Try.pinned (OpenSpec.ofChange fnOwnerReadsTheShardOfItsNameWrong)

end Rows
end Go.Proofs.Qxb6609020a
