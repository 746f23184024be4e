/-
  No cell of these rows narrows 'for every input' (looked for: loops, veiled, ifaces, maps, wideKeys, modest, calm, conditions, laid).
  DERIVED. THE GIVEN ROWS OF THIS SEAT. 2 by the template 'for every input the law returns true; each argument reads behind the call as it read before'; 0 by the template 'total and deterministic' (their statements: Qxb6600408aTotals.lean).
  GIVEN WITH THE SEED: the statements are not yours to turn. If you find one false, say at which input.
  Laid BY PROGRAM, IN A SANDBOX (cutbox-rows.mjs): the forced cells as the released guide's own fill.sh prints them over the translation 643ed81fae016f68… (all of the seat's roots in one cut). By AI agents, Wed Nov 11 2026. No macro, syntax, notation, axiom, sorry.
-/
import Derived.Test.Qxb6600408aChecked
import GoSem.Claim
import GoSem.ClaimJoined
import GoSem.ClaimMapViews
import Derived.JoinedTies
import Derived.KernelRfl
namespace Go.Proofs.Qxb6600408a
/- THE CELL 'sum', in the pinned program and in every row, IS THE sha256 OF THE DUMP (.gsa) THAT Qxb6600408aProg.lean LOADS. Nothing in Lean hashes anything: it is a label: what it is worth is what the hold of that sum in a sandbox is worth. -/
noncomputable def Try.pinned : Pinned := { name := "qxb6600408a", sum := "643ed81fae016f685c42b91ccb2cdeab6636b41cfdda92aa4d6d8ae069745659", checked := Try.checked }
namespace Rows
def none {H : Type} : Left H := { results := [], args := [] }

/-- 'zzlaws_report_b1.FnColumnNameIsBijectiveBase26': WHATEVER THE INPUT: true; the input reads as it did. -/
def fnColumnNameIsBijectiveBase26Spec : ChangeSpec := { name := "fnColumnNameIsBijectiveBase26", fn := fun _ => fun
  | [d] => { results := [.lit (.bool true)], args := [d] }
  | _ => none }
def fnColumnNameIsBijectiveBase26Row : OpenClaim := { program := "qxb6600408a", sum := "643ed81fae016f685c42b91ccb2cdeab6636b41cfdda92aa4d6d8ae069745659", func := "example.com/palier/palier/zzlaws_report_b1.FnColumnNameIsBijectiveBase26", spec := "fnColumnNameIsBijectiveBase26", apart := false }
def FnColumnNameIsBijectiveBase26Said : Prop := fnColumnNameIsBijectiveBase26Row.holds Try.pinned (OpenSpec.ofChange fnColumnNameIsBijectiveBase26Spec)

/-- ITS FALSE NEIGHBOUR: 'it returns false'. Refute it at one input. -/
def fnColumnNameIsBijectiveBase26Wrong : ChangeSpec := { name := "fnColumnNameIsBijectiveBase26", fn := fun _ => fun
  | [d] => { results := [.lit (.bool false)], args := [d] }
  | _ => none }
def FnColumnNameIsBijectiveBase26WrongFalsely : Prop := fnColumnNameIsBijectiveBase26Row.holds Try.pinned (OpenSpec.ofChange fnColumnNameIsBijectiveBase26Wrong)

/-- 'zzlaws_report_b1.FnColumnNameShortlexIncreasing': WHATEVER THE INPUT: true; the input reads as it did. -/
def fnColumnNameShortlexIncreasingSpec : ChangeSpec := { name := "fnColumnNameShortlexIncreasing", fn := fun _ => fun
  | [d1, d2] => { results := [.lit (.bool true)], args := [d1, d2] }
  | _ => none }
def fnColumnNameShortlexIncreasingRow : OpenClaim := { program := "qxb6600408a", sum := "643ed81fae016f685c42b91ccb2cdeab6636b41cfdda92aa4d6d8ae069745659", func := "example.com/palier/palier/zzlaws_report_b1.FnColumnNameShortlexIncreasing", spec := "fnColumnNameShortlexIncreasing", apart := false }
def FnColumnNameShortlexIncreasingSaid : Prop := fnColumnNameShortlexIncreasingRow.holds Try.pinned (OpenSpec.ofChange fnColumnNameShortlexIncreasingSpec)

/-- ITS FALSE NEIGHBOUR: 'it returns false'. Refute it at one input. -/
def fnColumnNameShortlexIncreasingWrong : ChangeSpec := { name := "fnColumnNameShortlexIncreasing", fn := fun _ => fun
  | [d1, d2] => { results := [.lit (.bool false)], args := [d1, d2] }
  | _ => none }
def FnColumnNameShortlexIncreasingWrongFalsely : Prop := fnColumnNameShortlexIncreasingRow.holds Try.pinned (OpenSpec.ofChange fnColumnNameShortlexIncreasingWrong)

end Rows
end Go.Proofs.Qxb6600408a
