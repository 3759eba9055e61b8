import Derived.Test.Qxb6603645aRows
import Derived.Test.Qxb6603645aLaw5
import Derived.Test.Qxb6603645aOpen
import Derived.WalkKit
import Derived.ProofKit
import Derived.OpenShut
import Derived.ShutString
import Derived.ChangeOld
import Derived.Below
namespace Go.Proofs.Qxb6603645a.fnUnknownFirstUndefinedClaim
open Go.ChangeShapes Go.WideShapes Go.ChangeAt Go.RowKit
set_option linter.unusedVariables false

theorem own : ownKnob Try.prog.godebug = none := by kernel_rfl
theorem laidOut : laidOutB Try.prog = true := by kernel_rfl

set_option maxRecDepth 100000 in
theorem lifted (os : Os) (started : os.Started) (H : Type) (enc : TypeId × Value → H) :
    ReturnsInHanded {} Try.checked os 5 .any (Rows.fnUnknownFirstUndefinedClaimSpec.pre6 enc Try.prog Try.f5 Rows.fnUnknownFirstUndefinedClaimRow.domain false) (Rows.fnUnknownFirstUndefinedClaimSpec.post enc Try.prog Try.f5 false true false false) := by
  refine returnsInHanded_of_change (C := Try.checked) own started (by kernel_rfl) Try.func5
    (ChangeSpec.witness6 (enc := enc) (C := Try.checked) false ⟨#[], #[.agg #[.string ⟨#[]⟩, .string ⟨#[]⟩, .slice none 0 0, .pointer none, .pointer none, .pointer none, .string ⟨#[]⟩, .string ⟨#[]⟩, .slice none 0 0, .string ⟨#[]⟩, .string ⟨#[]⟩, .slice none 0 0], .slice none 0 0], []⟩ 8 (by kernel_rfl) (by kernel_rfl) (by kernel_rfl) (by kernel_rfl)) ?_
  intro W base args ds gs before hval0 hW hcnd _
  have hval : ∀ (j : Nat) t v, Try.f5.params[j]? = some t → args[j]? = some v → Value.okWide Try.prog W .any base t v := hval0
  have hW' := hW
  obtain ⟨p, q, hA0, hV, rfl, hfz, hnd⟩ := hW
  have hA : DataW.TrodAll enc Try.prog W 0 (fun _ => true) true Try.f5.params.toList args.toList ds p := hA0
  rw [Try.params5] at hA hval
  obtain ⟨v0, vs0, d0, ds0, p0, q0, hargs, rfl, rfl, h0, r0⟩ := trodAll_cons hA
  obtain ⟨v1, vs1, d1, ds1, p1, q1, rfl, rfl, rfl, h1, r1⟩ := trodAll_cons r0
  obtain ⟨rfl, rfl, rfl⟩ := trodAll_nil r1
  obtain rfl : args = #[v0, v1] := by cases args; simp_all
  obtain ⟨rfl, rfl⟩ := trodVars_none hV
  obtain ⟨cs, rfl, hcs⟩ := okWide_struct Try.underlying33 (hval 0 33 v0 rfl rfl)
  obtain ⟨a1, len1, cap1, rfl⟩ := okWide_slice Try.underlying29 (hval 1 29 v1 rfl rfl)
  have k0 := h0
  have lt0 : ∀ x ∈ p0, x.block < W.heap.size := by obtain ⟨m, hm⟩ := k0; exact DataW.trod_lt m _ _ _ hm
  obtain ⟨c, A, G, ms, rfl, hC⟩ : ∃ c A G ms, cs = Cl.cs c ∧ ClIn W c A G ms := by
    obtain ⟨fuel, hf⟩ := h0
    exact open_cl hf
  have k1 := h1
  have lt1 : ∀ x ∈ p1, x.block < W.heap.size := by obtain ⟨m, hm⟩ := k1; exact DataW.trod_lt m _ _ _ hm
  obtain ⟨D, hD, hl1, hq1⟩ : ∃ ss, StrsIn W a1 len1 ss ∧ len1 ≤ 9223372036854775807 ∧ (a1 = none → len1 = 0 ∧ cap1 = 0) := by
    obtain ⟨fuel, hf⟩ := h1
    obtain ⟨a, len, cap, ss, e, g1, g2, g3⟩ := open_ss hf
    cases e
    exact ⟨ss, g1, g2, g3⟩
  clear hA0 hval0
  refine (law_any c A G D ms a1 len1 cap1 W hC hD hl1 hq1).mono fun e W' ⟨he, bel⟩ => ?_
  subst he
  exact ⟨_, rfl, _, _, _, [], _, [], hW', trodAll_mk1 (shut_bool Try.underlying4 _), (trodAll_cons_mk (Below.trod laidOut (by kernel_rfl) (of_decide_eq_true (by kernel_rfl)) k0 bel lt0) (trodAll_cons_mk (Below.trod laidOut (by kernel_rfl) (of_decide_eq_true (by kernel_rfl)) k1 bel lt1) trodAll_mk0)), rfl, bel.frame _, fun h => by cases h⟩

theorem over : Rows.fnUnknownFirstUndefinedClaimRow.holds Try.pinned (OpenSpec.ofChange Rows.fnUnknownFirstUndefinedClaimSpec) :=
  OpenClaim.holds_of_wide 5 Try.f5 rfl rfl rfl rfl rfl rfl rfl ⟨rfl, rfl, rfl, rfl, rfl⟩ rfl rfl rfl rfl rfl (by kernel_rfl) Try.func5 (by kernel_rfl)
    (of_decide_eq_true (by kernel_rfl)) (by unfold Func.isWrapper; first | (rw [if_pos (by decide +kernel)]; kernel_rfl) | (rw [if_neg (by decide +kernel)]; exact ⟨rfl, rfl⟩))
    (fun os started H enc _ => lifted os started H enc)

/-- THE STATEMENT. -/
theorem proved : Rows.FnUnknownFirstUndefinedClaimSaid := over
end Go.Proofs.Qxb6603645a.fnUnknownFirstUndefinedClaim
