/-
  No cell of these rows narrows 'for every input' (looked for: loops, veiled, ifaces, maps, wideKeys, modest, calm, conditions, laid).
  DERIVED. THE GIVEN ROWS OF THIS SEAT. 2 by the template 'for every input the law returns true; each argument reads behind the call as it read before'; 0 by the template 'total and deterministic' (their statements: Qxb6604449aTotals.lean).
  GIVEN WITH THE SEED: the statements are not yours to turn. If you find one false, say at which input.
  Laid BY PROGRAM, IN A SANDBOX (cutbox-rows.mjs): the forced cells as the released guide's own fill.sh prints them over the translation 6385a6312fad9186… (all of the seat's roots in one cut). By AI agents, Wed Nov 11 2026. No macro, syntax, notation, axiom, sorry.
-/
import Derived.Test.Qxb6604449aChecked
import GoSem.Claim
import GoSem.ClaimJoined
import GoSem.ClaimMapViews
import Derived.JoinedTies
import Derived.KernelRfl
namespace Go.Proofs.Qxb6604449a
/- THE CELL 'sum', in the pinned program and in every row, IS THE sha256 OF THE DUMP (.gsa) THAT Qxb6604449aProg.lean LOADS. Nothing in Lean hashes anything: it is a label: what it is worth is what the hold of that sum in a sandbox is worth. -/
noncomputable def Try.pinned : Pinned := { name := "qxb6604449a", sum := "6385a6312fad9186964f23b0c6e2a92ae119c46bccefc8b6bb84b750cf2c6071", checked := Try.checked }
namespace Rows
def none {H : Type} : Left H := { results := [], args := [] }

/-- 'zzlaws_internal_manifest_b1.FnItemsKeyLengthSpec': WHATEVER THE INPUT: true; the input reads as it did. -/
def fnItemsKeyLengthSpecSpec : ChangeSpec := { name := "fnItemsKeyLengthSpec", fn := fun _ => fun
  | [d] => { results := [.lit (.bool true)], args := [d] }
  | _ => none }
def fnItemsKeyLengthSpecRow : OpenClaim := { program := "qxb6604449a", sum := "6385a6312fad9186964f23b0c6e2a92ae119c46bccefc8b6bb84b750cf2c6071", func := "example.com/hermit-crab/hermit-crab/zzlaws_internal_manifest_b1.FnItemsKeyLengthSpec", spec := "fnItemsKeyLengthSpec", apart := false }
def FnItemsKeyLengthSpecSaid : Prop := fnItemsKeyLengthSpecRow.holds Try.pinned (OpenSpec.ofChange fnItemsKeyLengthSpecSpec)

/-- ITS FALSE NEIGHBOUR: 'it returns false'. Refute it at one input. -/
def fnItemsKeyLengthSpecWrong : ChangeSpec := { name := "fnItemsKeyLengthSpec", fn := fun _ => fun
  | [d] => { results := [.lit (.bool false)], args := [d] }
  | _ => none }
def FnItemsKeyLengthSpecWrongFalsely : Prop := fnItemsKeyLengthSpecRow.holds Try.pinned (OpenSpec.ofChange fnItemsKeyLengthSpecWrong)

/-- 'zzlaws_internal_manifest_b1.FnItemsKeyLengthBuilt': WHATEVER THE INPUT: true; the input reads as it did. -/
def fnItemsKeyLengthBuiltSpec : ChangeSpec := { name := "fnItemsKeyLengthBuilt", fn := fun _ => fun
  | [d1, d2, d3] => { results := [.lit (.bool true)], args := [d1, d2, d3] }
  | _ => none }
def fnItemsKeyLengthBuiltRow : OpenClaim := { program := "qxb6604449a", sum := "6385a6312fad9186964f23b0c6e2a92ae119c46bccefc8b6bb84b750cf2c6071", func := "example.com/hermit-crab/hermit-crab/zzlaws_internal_manifest_b1.FnItemsKeyLengthBuilt", spec := "fnItemsKeyLengthBuilt", apart := false }
def FnItemsKeyLengthBuiltSaid : Prop := fnItemsKeyLengthBuiltRow.holds Try.pinned (OpenSpec.ofChange fnItemsKeyLengthBuiltSpec)

/-- ITS FALSE NEIGHBOUR: 'it returns false'. Refute it at one input. -/
def fnItemsKeyLengthBuiltWrong : ChangeSpec := { name := "fnItemsKeyLengthBuilt", fn := fun _ => fun
  | [d1, d2, d3] => { results := [.lit (.bool false)], args := [d1, d2, d3] }
  | _ => none }
def FnItemsKeyLengthBuiltWrongFalsely : Prop := fnItemsKeyLengthBuiltRow.holds Try.pinned (OpenSpec.ofChange fnItemsKeyLengthBuiltWrong)

end Rows
end Go.Proofs.Qxb6604449a
