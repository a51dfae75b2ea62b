/-
  No cell of these rows narrows 'for every input' (looked for: loops, veiled, ifaces, maps, wideKeys, modest, calm, conditions, laid).
  DERIVED. THE GIVEN ROWS OF THIS SEAT. 1 by the template 'for every input the law returns true; each argument reads behind the call as it read before'; 0 by the template 'total and deterministic' (their statements: Qxb6613599aTotals.lean).
  GIVEN WITH THE SEED: the statements are not yours to turn. If you find one false, say at which input.
  Laid BY PROGRAM, IN A SANDBOX (cutbox-rows.mjs): the forced cells as the released guide's own fill.sh prints them over the translation 235d09bde1a00165… (all of the seat's roots in one cut). By AI agents, Wed Nov 11 2026. No macro, syntax, notation, axiom, sorry.
-/
import Derived.Test.Qxb6613599aChecked
import GoSem.Claim
import GoSem.ClaimJoined
import GoSem.ClaimMapViews
import Derived.JoinedTies
import Derived.KernelRfl
namespace Go.Proofs.Qxb6613599a
/- THE CELL 'sum', in the pinned program and in every row, IS THE sha256 OF THE DUMP (.gsa) THAT Qxb6613599aProg.lean LOADS. Nothing in Lean hashes anything: it is a label: what it is worth is what the hold of that sum in a sandbox is worth. -/
noncomputable def Try.pinned : Pinned := { name := "qxb6613599a", sum := "235d09bde1a001652933b23b70273e903801c224c63aaed455cd3886c332a09c", checked := Try.checked }
namespace Rows
def none {H : Type} : Left H := { results := [], args := [] }

/-- 'zzlaws_root_b1.FnExcerptedShiftsWithASCIIAndCountsASCII': WHATEVER THE INPUT: true; the input reads as it did. -/
def fnExcerptedShiftsWithASCIIAndCountsASCIISpec : ChangeSpec := { name := "fnExcerptedShiftsWithASCIIAndCountsASCII", fn := fun _ => fun
  | [d1, d2, d3, d4] => { results := [.lit (.bool true)], args := [d1, d2, d3, d4] }
  | _ => none }
def fnExcerptedShiftsWithASCIIAndCountsASCIIRow : OpenClaim := { program := "qxb6613599a", sum := "235d09bde1a001652933b23b70273e903801c224c63aaed455cd3886c332a09c", func := "example.com/siftline/siftline/zzlaws_root_b1.FnExcerptedShiftsWithASCIIAndCountsASCII", spec := "fnExcerptedShiftsWithASCIIAndCountsASCII", apart := false }
def FnExcerptedShiftsWithASCIIAndCountsASCIISaid : Prop := fnExcerptedShiftsWithASCIIAndCountsASCIIRow.holds Try.pinned (OpenSpec.ofChange fnExcerptedShiftsWithASCIIAndCountsASCIISpec)

/-- ITS FALSE NEIGHBOUR: 'it returns false'. Refute it at one input. -/
def fnExcerptedShiftsWithASCIIAndCountsASCIIWrong : ChangeSpec := { name := "fnExcerptedShiftsWithASCIIAndCountsASCII", fn := fun _ => fun
  | [d1, d2, d3, d4] => { results := [.lit (.bool false)], args := [d1, d2, d3, d4] }
  | _ => none }
def FnExcerptedShiftsWithASCIIAndCountsASCIIWrongFalsely : Prop := fnExcerptedShiftsWithASCIIAndCountsASCIIRow.holds Try.pinned (OpenSpec.ofChange fnExcerptedShiftsWithASCIIAndCountsASCIIWrong)

end Rows
end Go.Proofs.Qxb6613599a
