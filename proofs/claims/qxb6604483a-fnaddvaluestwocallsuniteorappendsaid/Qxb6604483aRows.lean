/-
  No cell of these rows narrows 'for every input' (looked for: loops, veiled, ifaces, maps, wideKeys, modest, calm, conditions, laid).
  DERIVED. THE GIVEN ROWS OF THIS SEAT. 2 by the template 'for every input the law returns true; each argument reads behind the call as it read before'; 0 by the template 'total and deterministic' (their statements: Qxb6604483aTotals.lean).
  GIVEN WITH THE SEED: the statements are not yours to turn. If you find one false, say at which input.
  Laid BY PROGRAM, IN A SANDBOX (cutbox-rows.mjs): the forced cells as the released guide's own fill.sh prints them over the translation 2b891f3b94308841… (all of the seat's roots in one cut). By AI agents, Wed Nov 11 2026. No macro, syntax, notation, axiom, sorry.
-/
import Derived.Test.Qxb6604483aChecked
import GoSem.Claim
import GoSem.ClaimJoined
import GoSem.ClaimMapViews
import Derived.JoinedTies
import Derived.KernelRfl
namespace Go.Proofs.Qxb6604483a
/- THE CELL 'sum', in the pinned program and in every row, IS THE sha256 OF THE DUMP (.gsa) THAT Qxb6604483aProg.lean LOADS. Nothing in Lean hashes anything: it is a label: what it is worth is what the hold of that sum in a sandbox is worth. -/
noncomputable def Try.pinned : Pinned := { name := "qxb6604483a", sum := "2b891f3b9430884113b61244b96b823f68189f0ac057eade98d931d5e20ae991", checked := Try.checked }
namespace Rows
def none {H : Type} : Left H := { results := [], args := [] }

/-- 'zzlaws_root_b1.FnAddValuesFromEmptyHoldsTheCappedSets': WHATEVER THE INPUT: true; the input reads as it did. -/
def fnAddValuesFromEmptyHoldsTheCappedSetsSpec : ChangeSpec := { name := "fnAddValuesFromEmptyHoldsTheCappedSets", fn := fun _ => fun
  | [d1, d2] => { results := [.lit (.bool true)], args := [d1, d2] }
  | _ => none }
def fnAddValuesFromEmptyHoldsTheCappedSetsRow : OpenClaim := { program := "qxb6604483a", sum := "2b891f3b9430884113b61244b96b823f68189f0ac057eade98d931d5e20ae991", func := "example.com/libbarter/libbarter/zzlaws_root_b1.FnAddValuesFromEmptyHoldsTheCappedSets", spec := "fnAddValuesFromEmptyHoldsTheCappedSets", plainKeys := false, apart := false }
def FnAddValuesFromEmptyHoldsTheCappedSetsSaid : Prop := fnAddValuesFromEmptyHoldsTheCappedSetsRow.holds Try.pinned (OpenSpec.ofChange fnAddValuesFromEmptyHoldsTheCappedSetsSpec)

/-- ITS FALSE NEIGHBOUR: 'it returns false'. Refute it at one input. -/
def fnAddValuesFromEmptyHoldsTheCappedSetsWrong : ChangeSpec := { name := "fnAddValuesFromEmptyHoldsTheCappedSets", fn := fun _ => fun
  | [d1, d2] => { results := [.lit (.bool false)], args := [d1, d2] }
  | _ => none }
def FnAddValuesFromEmptyHoldsTheCappedSetsWrongFalsely : Prop := fnAddValuesFromEmptyHoldsTheCappedSetsRow.holds Try.pinned (OpenSpec.ofChange fnAddValuesFromEmptyHoldsTheCappedSetsWrong)

/-- 'zzlaws_root_b1.FnAddValuesTwoCallsUniteOrAppend': WHATEVER THE INPUT: true; the input reads as it did. -/
def fnAddValuesTwoCallsUniteOrAppendSpec : ChangeSpec := { name := "fnAddValuesTwoCallsUniteOrAppend", fn := fun _ => fun
  | [d1, d2, d3, d4] => { results := [.lit (.bool true)], args := [d1, d2, d3, d4] }
  | _ => none }
def fnAddValuesTwoCallsUniteOrAppendRow : OpenClaim := { program := "qxb6604483a", sum := "2b891f3b9430884113b61244b96b823f68189f0ac057eade98d931d5e20ae991", func := "example.com/libbarter/libbarter/zzlaws_root_b1.FnAddValuesTwoCallsUniteOrAppend", spec := "fnAddValuesTwoCallsUniteOrAppend", plainKeys := false, apart := false }
def FnAddValuesTwoCallsUniteOrAppendSaid : Prop := fnAddValuesTwoCallsUniteOrAppendRow.holds Try.pinned (OpenSpec.ofChange fnAddValuesTwoCallsUniteOrAppendSpec)

/-- ITS FALSE NEIGHBOUR: 'it returns false'. Refute it at one input. -/
def fnAddValuesTwoCallsUniteOrAppendWrong : ChangeSpec := { name := "fnAddValuesTwoCallsUniteOrAppend", fn := fun _ => fun
  | [d1, d2, d3, d4] => { results := [.lit (.bool false)], args := [d1, d2, d3, d4] }
  | _ => none }
def FnAddValuesTwoCallsUniteOrAppendWrongFalsely : Prop := fnAddValuesTwoCallsUniteOrAppendRow.holds Try.pinned (OpenSpec.ofChange fnAddValuesTwoCallsUniteOrAppendWrong)

end Rows
end Go.Proofs.Qxb6604483a
