/-
  No cell of these rows narrows 'for every input' (looked for: loops, veiled, ifaces, maps, wideKeys, modest, calm, conditions, laid).
  DERIVED. THE GIVEN ROWS OF THIS SEAT. 2 by the template 'for every input the law returns true; each argument reads behind the call as it read before'; 0 by the template 'total and deterministic' (their statements: Qxb6613689aTotals.lean).
  GIVEN WITH THE SEED: the statements are not yours to turn. If you find one false, say at which input.
  Laid BY PROGRAM, IN A SANDBOX (cutbox-rows.mjs): the forced cells as the released guide's own fill.sh prints them over the translation 8ec15e1ab28bca41… (all of the seat's roots in one cut). By AI agents, Wed Nov 11 2026. No macro, syntax, notation, axiom, sorry.
-/
import Derived.Test.Qxb6613689aChecked
import GoSem.Claim
import GoSem.ClaimJoined
import GoSem.ClaimMapViews
import Derived.JoinedTies
import Derived.KernelRfl
namespace Go.Proofs.Qxb6613689a
/- THE CELL 'sum', in the pinned program and in every row, IS THE sha256 OF THE DUMP (.gsa) THAT Qxb6613689aProg.lean LOADS. Nothing in Lean hashes anything: it is a label: what it is worth is what the hold of that sum in a sandbox is worth. -/
noncomputable def Try.pinned : Pinned := { name := "qxb6613689a", sum := "8ec15e1ab28bca417221efe8a87f52ae7815f25fc95ed9c13af3c61c13556e10", checked := Try.checked }
namespace Rows
def none {H : Type} : Left H := { results := [], args := [] }

/-- 'zzlaws_root_b1.FnUnrecordedSplitsByList': WHATEVER THE INPUT: true; the input reads as it did. -/
def fnUnrecordedSplitsByListSpec : ChangeSpec := { name := "fnUnrecordedSplitsByList", fn := fun _ => fun
  | [d1, d2, d3] => { results := [.lit (.bool true)], args := [d1, d2, d3] }
  | _ => none }
def fnUnrecordedSplitsByListRow : OpenClaim := { program := "qxb6613689a", sum := "8ec15e1ab28bca417221efe8a87f52ae7815f25fc95ed9c13af3c61c13556e10", func := "example.com/announce/announce/zzlaws_root_b1.FnUnrecordedSplitsByList", spec := "fnUnrecordedSplitsByList", apart := false }
def FnUnrecordedSplitsByListSaid : Prop := fnUnrecordedSplitsByListRow.holds Try.pinned (OpenSpec.ofChange fnUnrecordedSplitsByListSpec)

/-- ITS FALSE NEIGHBOUR: 'it returns false'. Refute it at one input. -/
def fnUnrecordedSplitsByListWrong : ChangeSpec := { name := "fnUnrecordedSplitsByList", fn := fun _ => fun
  | [d1, d2, d3] => { results := [.lit (.bool false)], args := [d1, d2, d3] }
  | _ => none }
def FnUnrecordedSplitsByListWrongFalsely : Prop := fnUnrecordedSplitsByListRow.holds Try.pinned (OpenSpec.ofChange fnUnrecordedSplitsByListWrong)

/-- 'zzlaws_root_b1.FnUnrecordedOneMore': WHATEVER THE INPUT: true; the input reads as it did. -/
def fnUnrecordedOneMoreSpec : ChangeSpec := { name := "fnUnrecordedOneMore", fn := fun _ => fun
  | [d1, d2, d3, d4] => { results := [.lit (.bool true)], args := [d1, d2, d3, d4] }
  | _ => none }
def fnUnrecordedOneMoreRow : OpenClaim := { program := "qxb6613689a", sum := "8ec15e1ab28bca417221efe8a87f52ae7815f25fc95ed9c13af3c61c13556e10", func := "example.com/announce/announce/zzlaws_root_b1.FnUnrecordedOneMore", spec := "fnUnrecordedOneMore", apart := false }
def FnUnrecordedOneMoreSaid : Prop := fnUnrecordedOneMoreRow.holds Try.pinned (OpenSpec.ofChange fnUnrecordedOneMoreSpec)

/-- ITS FALSE NEIGHBOUR: 'it returns false'. Refute it at one input. -/
def fnUnrecordedOneMoreWrong : ChangeSpec := { name := "fnUnrecordedOneMore", fn := fun _ => fun
  | [d1, d2, d3, d4] => { results := [.lit (.bool false)], args := [d1, d2, d3, d4] }
  | _ => none }
def FnUnrecordedOneMoreWrongFalsely : Prop := fnUnrecordedOneMoreRow.holds Try.pinned (OpenSpec.ofChange fnUnrecordedOneMoreWrong)

end Rows
end Go.Proofs.Qxb6613689a
