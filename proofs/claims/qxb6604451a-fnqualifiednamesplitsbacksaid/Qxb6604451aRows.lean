/-
  No cell of these rows narrows 'for every input' (looked for: loops, veiled, ifaces, maps, wideKeys, modest, calm, conditions, laid).
  DERIVED. THE GIVEN ROWS OF THIS SEAT. 3 by the template 'for every input the law returns true; each argument reads behind the call as it read before'; 0 by the template 'total and deterministic' (their statements: Qxb6604451aTotals.lean).
  GIVEN WITH THE SEED: the statements are not yours to turn. If you find one false, say at which input.
  Laid BY PROGRAM, IN A SANDBOX (cutbox-rows.mjs): the forced cells as the released guide's own fill.sh prints them over the translation 78181dccd3b5f26e… (all of the seat's roots in one cut). By AI agents, Wed Nov 11 2026. No macro, syntax, notation, axiom, sorry.
-/
import Derived.Test.Qxb6604451aChecked
import GoSem.Claim
import GoSem.ClaimJoined
import GoSem.ClaimMapViews
import Derived.JoinedTies
import Derived.KernelRfl
namespace Go.Proofs.Qxb6604451a
/- THE CELL 'sum', in the pinned program and in every row, IS THE sha256 OF THE DUMP (.gsa) THAT Qxb6604451aProg.lean LOADS. Nothing in Lean hashes anything: it is a label: what it is worth is what the hold of that sum in a sandbox is worth. -/
noncomputable def Try.pinned : Pinned := { name := "qxb6604451a", sum := "78181dccd3b5f26e74093c8e635308d02af9a1bfcd6be7fcd790a0103c92925d", checked := Try.checked }
namespace Rows
def none {H : Type} : Left H := { results := [], args := [] }

/-- 'zzlaws_internal_xmlrpc_b1.FnIsBase64TextAlphabet': WHATEVER THE INPUT: true; the input reads as it did. -/
def fnIsBase64TextAlphabetSpec : ChangeSpec := { name := "fnIsBase64TextAlphabet", fn := fun _ => fun
  | [d] => { results := [.lit (.bool true)], args := [d] }
  | _ => none }
def fnIsBase64TextAlphabetRow : OpenClaim := { program := "qxb6604451a", sum := "78181dccd3b5f26e74093c8e635308d02af9a1bfcd6be7fcd790a0103c92925d", func := "example.com/cormorant-relay/cormorant-relay/zzlaws_internal_xmlrpc_b1.FnIsBase64TextAlphabet", spec := "fnIsBase64TextAlphabet", apart := false }
def FnIsBase64TextAlphabetSaid : Prop := fnIsBase64TextAlphabetRow.holds Try.pinned (OpenSpec.ofChange fnIsBase64TextAlphabetSpec)

/-- ITS FALSE NEIGHBOUR: 'it returns false'. Refute it at one input. -/
def fnIsBase64TextAlphabetWrong : ChangeSpec := { name := "fnIsBase64TextAlphabet", fn := fun _ => fun
  | [d] => { results := [.lit (.bool false)], args := [d] }
  | _ => none }
def FnIsBase64TextAlphabetWrongFalsely : Prop := fnIsBase64TextAlphabetRow.holds Try.pinned (OpenSpec.ofChange fnIsBase64TextAlphabetWrong)

/-- 'zzlaws_internal_xmlrpc_b1.FnIsBase64TextAcceptsSixtyNine': WHATEVER THE INPUT: true; the input reads as it did. -/
def fnIsBase64TextAcceptsSixtyNineSpec : ChangeSpec := { name := "fnIsBase64TextAcceptsSixtyNine", fn := fun _ => fun
  | [] => { results := [.lit (.bool true)], args := [] }
  | _ => none }
def fnIsBase64TextAcceptsSixtyNineRow : OpenClaim := { program := "qxb6604451a", sum := "78181dccd3b5f26e74093c8e635308d02af9a1bfcd6be7fcd790a0103c92925d", func := "example.com/cormorant-relay/cormorant-relay/zzlaws_internal_xmlrpc_b1.FnIsBase64TextAcceptsSixtyNine", spec := "fnIsBase64TextAcceptsSixtyNine", apart := false }
def FnIsBase64TextAcceptsSixtyNineSaid : Prop := fnIsBase64TextAcceptsSixtyNineRow.holds Try.pinned (OpenSpec.ofChange fnIsBase64TextAcceptsSixtyNineSpec)

/-- ITS FALSE NEIGHBOUR: 'it returns false'. Refute it at one input. -/
def fnIsBase64TextAcceptsSixtyNineWrong : ChangeSpec := { name := "fnIsBase64TextAcceptsSixtyNine", fn := fun _ => fun
  | [] => { results := [.lit (.bool false)], args := [] }
  | _ => none }
def FnIsBase64TextAcceptsSixtyNineWrongFalsely : Prop := fnIsBase64TextAcceptsSixtyNineRow.holds Try.pinned (OpenSpec.ofChange fnIsBase64TextAcceptsSixtyNineWrong)

/-- 'zzlaws_internal_xmlrpc_b1.FnQualifiedNameSplitsBack': WHATEVER THE INPUT: true; the input reads as it did. -/
def fnQualifiedNameSplitsBackSpec : ChangeSpec := { name := "fnQualifiedNameSplitsBack", fn := fun _ => fun
  | [d1, d2] => { results := [.lit (.bool true)], args := [d1, d2] }
  | _ => none }
def fnQualifiedNameSplitsBackRow : OpenClaim := { program := "qxb6604451a", sum := "78181dccd3b5f26e74093c8e635308d02af9a1bfcd6be7fcd790a0103c92925d", func := "example.com/cormorant-relay/cormorant-relay/zzlaws_internal_xmlrpc_b1.FnQualifiedNameSplitsBack", spec := "fnQualifiedNameSplitsBack", apart := false }
def FnQualifiedNameSplitsBackSaid : Prop := fnQualifiedNameSplitsBackRow.holds Try.pinned (OpenSpec.ofChange fnQualifiedNameSplitsBackSpec)

/-- ITS FALSE NEIGHBOUR: 'it returns false'. Refute it at one input. -/
def fnQualifiedNameSplitsBackWrong : ChangeSpec := { name := "fnQualifiedNameSplitsBack", fn := fun _ => fun
  | [d1, d2] => { results := [.lit (.bool false)], args := [d1, d2] }
  | _ => none }
def FnQualifiedNameSplitsBackWrongFalsely : Prop := fnQualifiedNameSplitsBackRow.holds Try.pinned (OpenSpec.ofChange fnQualifiedNameSplitsBackWrong)

end Rows
end Go.Proofs.Qxb6604451a
