/-
  No cell of these rows narrows 'for every input' (looked for: loops, veiled, ifaces, maps, wideKeys, modest, calm, conditions, laid).
  DERIVED. THE GIVEN ROWS OF THIS SEAT. 3 by the template 'for every input the law returns true; each argument reads behind the call as it read before'; 0 by the template 'total and deterministic' (their statements: Qxb6603645aTotals.lean).
  GIVEN WITH THE SEED: the statements are not yours to turn. If you find one false, say at which input.
  Laid BY PROGRAM, IN A SANDBOX (cutbox-rows.mjs): the forced cells as the released guide's own fill.sh prints them over the translation a53b21e0748dbdfb… (all of the seat's roots in one cut). By AI agents, Wed Nov 11 2026. No macro, syntax, notation, axiom, sorry.
-/
import Derived.Test.Qxb6603645aChecked
import GoSem.Claim
import GoSem.ClaimJoined
import GoSem.ClaimMapViews
import Derived.JoinedTies
import Derived.KernelRfl
namespace Go.Proofs.Qxb6603645a
/- THE CELL 'sum', in the pinned program and in every row, IS THE sha256 OF THE DUMP (.gsa) THAT Qxb6603645aProg.lean LOADS. Nothing in Lean hashes anything: it is a label: what it is worth is what the hold of that sum in a sandbox is worth. -/
noncomputable def Try.pinned : Pinned := { name := "qxb6603645a", sum := "a53b21e0748dbdfb8caa8a0dc6e028c3b08c937ea977cce2da94808fcb3421b2", checked := Try.checked }
namespace Rows
def none {H : Type} : Left H := { results := [], args := [] }

/-- 'zzlaws_pkg_token_b1.FnUnknownClaimRoundTrip': WHATEVER THE INPUT: true; the input reads as it did. -/
def fnUnknownClaimRoundTripSpec : ChangeSpec := { name := "fnUnknownClaimRoundTrip", fn := fun _ => fun
  | [d] => { results := [.lit (.bool true)], args := [d] }
  | _ => none }
def fnUnknownClaimRoundTripRow : OpenClaim := { program := "qxb6603645a", sum := "a53b21e0748dbdfb8caa8a0dc6e028c3b08c937ea977cce2da94808fcb3421b2", func := "example.com/wardstone/wardstone/zzlaws_pkg_token_b1.FnUnknownClaimRoundTrip", spec := "fnUnknownClaimRoundTrip", apart := false }
def FnUnknownClaimRoundTripSaid : Prop := fnUnknownClaimRoundTripRow.holds Try.pinned (OpenSpec.ofChange fnUnknownClaimRoundTripSpec)

/-- ITS FALSE NEIGHBOUR: 'it returns false'. Refute it at one input. -/
def fnUnknownClaimRoundTripWrong : ChangeSpec := { name := "fnUnknownClaimRoundTrip", fn := fun _ => fun
  | [d] => { results := [.lit (.bool false)], args := [d] }
  | _ => none }
def FnUnknownClaimRoundTripWrongFalsely : Prop := fnUnknownClaimRoundTripRow.holds Try.pinned (OpenSpec.ofChange fnUnknownClaimRoundTripWrong)

/-- 'zzlaws_pkg_token_b1.FnUnknownClaimDistinct': WHATEVER THE INPUT: true; the input reads as it did. -/
def fnUnknownClaimDistinctSpec : ChangeSpec := { name := "fnUnknownClaimDistinct", fn := fun _ => fun
  | [d1, d2] => { results := [.lit (.bool true)], args := [d1, d2] }
  | _ => none }
def fnUnknownClaimDistinctRow : OpenClaim := { program := "qxb6603645a", sum := "a53b21e0748dbdfb8caa8a0dc6e028c3b08c937ea977cce2da94808fcb3421b2", func := "example.com/wardstone/wardstone/zzlaws_pkg_token_b1.FnUnknownClaimDistinct", spec := "fnUnknownClaimDistinct", apart := false }
def FnUnknownClaimDistinctSaid : Prop := fnUnknownClaimDistinctRow.holds Try.pinned (OpenSpec.ofChange fnUnknownClaimDistinctSpec)

/-- ITS FALSE NEIGHBOUR: 'it returns false'. Refute it at one input. -/
def fnUnknownClaimDistinctWrong : ChangeSpec := { name := "fnUnknownClaimDistinct", fn := fun _ => fun
  | [d1, d2] => { results := [.lit (.bool false)], args := [d1, d2] }
  | _ => none }
def FnUnknownClaimDistinctWrongFalsely : Prop := fnUnknownClaimDistinctRow.holds Try.pinned (OpenSpec.ofChange fnUnknownClaimDistinctWrong)

/-- 'zzlaws_pkg_token_b1.FnUnknownFirstUndefinedClaim': WHATEVER THE INPUT: true; the input reads as it did. -/
def fnUnknownFirstUndefinedClaimSpec : ChangeSpec := { name := "fnUnknownFirstUndefinedClaim", fn := fun _ => fun
  | [d1, d2] => { results := [.lit (.bool true)], args := [d1, d2] }
  | _ => none }
def fnUnknownFirstUndefinedClaimRow : OpenClaim := { program := "qxb6603645a", sum := "a53b21e0748dbdfb8caa8a0dc6e028c3b08c937ea977cce2da94808fcb3421b2", func := "example.com/wardstone/wardstone/zzlaws_pkg_token_b1.FnUnknownFirstUndefinedClaim", spec := "fnUnknownFirstUndefinedClaim", inPlace := ["internal/bytealg.abigen_runtime_cmpstring"], unfollowed := true, recurses := true, apart := false }
def FnUnknownFirstUndefinedClaimSaid : Prop := fnUnknownFirstUndefinedClaimRow.holds Try.pinned (OpenSpec.ofChange fnUnknownFirstUndefinedClaimSpec)

/-- ITS FALSE NEIGHBOUR: 'it returns false'. Refute it at one input. -/
def fnUnknownFirstUndefinedClaimWrong : ChangeSpec := { name := "fnUnknownFirstUndefinedClaim", fn := fun _ => fun
  | [d1, d2] => { results := [.lit (.bool false)], args := [d1, d2] }
  | _ => none }
def FnUnknownFirstUndefinedClaimWrongFalsely : Prop := fnUnknownFirstUndefinedClaimRow.holds Try.pinned (OpenSpec.ofChange fnUnknownFirstUndefinedClaimWrong)

end Rows
end Go.Proofs.Qxb6603645a
