/-
  No cell of these rows narrows 'for every input' (looked for: loops, veiled, ifaces, maps, wideKeys, modest, calm, conditions, laid).
  DERIVED. THE GIVEN ROWS OF THIS SEAT. 1 by the template 'for every input the law returns true; each argument reads behind the call as it read before'; 0 by the template 'total and deterministic' (their statements: Qxb6613641aTotals.lean).
  GIVEN WITH THE SEED: the statements are not yours to turn. If you find one false, say at which input.
  Laid BY PROGRAM, IN A SANDBOX (cutbox-rows.mjs): the forced cells as the released guide's own fill.sh prints them over the translation b2e9df0a58b624ea… (all of the seat's roots in one cut). By AI agents, Wed Nov 11 2026. No macro, syntax, notation, axiom, sorry.
-/
import Derived.Test.Qxb6613641aChecked
import GoSem.Claim
import GoSem.ClaimJoined
import GoSem.ClaimMapViews
import Derived.JoinedTies
import Derived.KernelRfl
namespace Go.Proofs.Qxb6613641a
/- THE CELL 'sum', in the pinned program and in every row, IS THE sha256 OF THE DUMP (.gsa) THAT Qxb6613641aProg.lean LOADS. Nothing in Lean hashes anything: it is a label: what it is worth is what the hold of that sum in a sandbox is worth. -/
noncomputable def Try.pinned : Pinned := { name := "qxb6613641a", sum := "b2e9df0a58b624eaca2c2f11362a98f18e368a39464deaf24d6dbe96fdb6fee5", checked := Try.checked }
namespace Rows
def none {H : Type} : Left H := { results := [], args := [] }

/-- 'zzlaws_internal_jsontext_b1.FnSameValueObjectsOrderFree': WHATEVER THE INPUT: true; the input reads as it did. -/
def fnSameValueObjectsOrderFreeSpec : ChangeSpec := { name := "fnSameValueObjectsOrderFree", fn := fun _ => fun
  | [d1, d2, d3, d4] => { results := [.lit (.bool true)], args := [d1, d2, d3, d4] }
  | _ => none }
def fnSameValueObjectsOrderFreeRow : OpenClaim := { program := "qxb6613641a", sum := "b2e9df0a58b624eaca2c2f11362a98f18e368a39464deaf24d6dbe96fdb6fee5", func := "example.com/toolcharter/toolcharter/zzlaws_internal_jsontext_b1.FnSameValueObjectsOrderFree", spec := "fnSameValueObjectsOrderFree", unfollowed := true, recurses := true, apart := false }
def FnSameValueObjectsOrderFreeSaid : Prop := fnSameValueObjectsOrderFreeRow.holds Try.pinned (OpenSpec.ofChange fnSameValueObjectsOrderFreeSpec)

/-- ITS FALSE NEIGHBOUR: 'it returns false'. Refute it at one input. -/
def fnSameValueObjectsOrderFreeWrong : ChangeSpec := { name := "fnSameValueObjectsOrderFree", fn := fun _ => fun
  | [d1, d2, d3, d4] => { results := [.lit (.bool false)], args := [d1, d2, d3, d4] }
  | _ => none }
def FnSameValueObjectsOrderFreeWrongFalsely : Prop := fnSameValueObjectsOrderFreeRow.holds Try.pinned (OpenSpec.ofChange fnSameValueObjectsOrderFreeWrong)

end Rows
end Go.Proofs.Qxb6613641a
