/-
  No cell of these rows narrows 'for every input' (looked for: loops, veiled, ifaces, maps, wideKeys, modest, calm, conditions, laid).
  DERIVED. THE GIVEN ROWS OF THIS SEAT. 2 by the template 'for every input the law returns true; each argument reads behind the call as it read before'; 0 by the template 'total and deterministic' (their statements: Qxb6613726aTotals.lean).
  GIVEN WITH THE SEED: the statements are not yours to turn. If you find one false, say at which input.
  Laid BY PROGRAM, IN A SANDBOX (cutbox-rows.mjs): the forced cells as the released guide's own fill.sh prints them over the translation 27df9a1525c6cc39… (all of the seat's roots in one cut). By AI agents, Wed Nov 11 2026. No macro, syntax, notation, axiom, sorry.
-/
import Derived.Test.Qxb6613726aChecked
import GoSem.Claim
import GoSem.ClaimJoined
import GoSem.ClaimMapViews
import Derived.JoinedTies
import Derived.KernelRfl
namespace Go.Proofs.Qxb6613726a
/- THE CELL 'sum', in the pinned program and in every row, IS THE sha256 OF THE DUMP (.gsa) THAT Qxb6613726aProg.lean LOADS. Nothing in Lean hashes anything: it is a label: what it is worth is what the hold of that sum in a sandbox is worth. -/
noncomputable def Try.pinned : Pinned := { name := "qxb6613726a", sum := "27df9a1525c6cc39ff1170f2a1dceb0b2f7c561479e2b3bff6f12b0ea7872794", checked := Try.checked }
namespace Rows
def none {H : Type} : Left H := { results := [], args := [] }

/-- 'zzlaws_internal_sched_b1.FnHandOutMatchesPerJobPicking': WHATEVER THE INPUT: true; the input reads as it did. -/
def fnHandOutMatchesPerJobPickingSpec : ChangeSpec := { name := "fnHandOutMatchesPerJobPicking", fn := fun _ => fun
  | [d1, d2, d3] => { results := [.lit (.bool true)], args := [d1, d2, d3] }
  | _ => none }
def fnHandOutMatchesPerJobPickingRow : OpenClaim := { program := "qxb6613726a", sum := "27df9a1525c6cc39ff1170f2a1dceb0b2f7c561479e2b3bff6f12b0ea7872794", func := "example.com/bidqueue/bidqueue/zzlaws_internal_sched_b1.FnHandOutMatchesPerJobPicking", spec := "fnHandOutMatchesPerJobPicking", unfollowed := true, recurses := true, apart := false }
def FnHandOutMatchesPerJobPickingSaid : Prop := fnHandOutMatchesPerJobPickingRow.holds Try.pinned (OpenSpec.ofChange fnHandOutMatchesPerJobPickingSpec)

/-- ITS FALSE NEIGHBOUR: 'it returns false'. Refute it at one input. -/
def fnHandOutMatchesPerJobPickingWrong : ChangeSpec := { name := "fnHandOutMatchesPerJobPicking", fn := fun _ => fun
  | [d1, d2, d3] => { results := [.lit (.bool false)], args := [d1, d2, d3] }
  | _ => none }
def FnHandOutMatchesPerJobPickingWrongFalsely : Prop := fnHandOutMatchesPerJobPickingRow.holds Try.pinned (OpenSpec.ofChange fnHandOutMatchesPerJobPickingWrong)

/-- 'zzlaws_internal_sched_b1.FnHandOutSplitsAtAnyCut': WHATEVER THE INPUT: true; the input reads as it did. -/
def fnHandOutSplitsAtAnyCutSpec : ChangeSpec := { name := "fnHandOutSplitsAtAnyCut", fn := fun _ => fun
  | [d1, d2, d3, d4] => { results := [.lit (.bool true)], args := [d1, d2, d3, d4] }
  | _ => none }
def fnHandOutSplitsAtAnyCutRow : OpenClaim := { program := "qxb6613726a", sum := "27df9a1525c6cc39ff1170f2a1dceb0b2f7c561479e2b3bff6f12b0ea7872794", func := "example.com/bidqueue/bidqueue/zzlaws_internal_sched_b1.FnHandOutSplitsAtAnyCut", spec := "fnHandOutSplitsAtAnyCut", unfollowed := true, recurses := true, apart := false }
def FnHandOutSplitsAtAnyCutSaid : Prop := fnHandOutSplitsAtAnyCutRow.holds Try.pinned (OpenSpec.ofChange fnHandOutSplitsAtAnyCutSpec)

/-- ITS FALSE NEIGHBOUR: 'it returns false'. Refute it at one input. -/
def fnHandOutSplitsAtAnyCutWrong : ChangeSpec := { name := "fnHandOutSplitsAtAnyCut", fn := fun _ => fun
  | [d1, d2, d3, d4] => { results := [.lit (.bool false)], args := [d1, d2, d3, d4] }
  | _ => none }
def FnHandOutSplitsAtAnyCutWrongFalsely : Prop := fnHandOutSplitsAtAnyCutRow.holds Try.pinned (OpenSpec.ofChange fnHandOutSplitsAtAnyCutWrong)

end Rows
end Go.Proofs.Qxb6613726a
