import Derived.Test.Qxb6604451aRows
import Derived.WalkKit
import Derived.WalkSpells
import Derived.WalkLawsBesides
namespace Go.Proofs.Qxb6604451a
open Go.RowKit
set_option linter.unusedSimpArgs false
set_option linter.unusedVariables false

/-- What 'isBase64Text' computes. -/
def b64 (c : Int) : Bool := decide ((65 ≤ c ∧ c ≤ 90) ∨ (97 ≤ c ∧ c ≤ 122) ∨ (48 ≤ c ∧ c ≤ 57) ∨ c = 43 ∨ c = 47 ∨ c = 61 ∨ c = 32 ∨ c = 9 ∨ c = 10 ∨ c = 13)

theorem ret_t {c : Int} (h : (65 ≤ c ∧ c ≤ 90) ∨ (97 ≤ c ∧ c ≤ 122) ∨ (48 ≤ c ∧ c ≤ 57) ∨ c = 43 ∨ c = 47 ∨ c = 61 ∨ c = 32 ∨ c = 9 ∨ c = 10 ∨ c = 13) : Ending.returned (.bool true) = .returned (.bool (b64 c)) := by
  unfold b64
  rw [decide_eq_true h]
theorem ret_f {c : Int} (h : ¬ ((65 ≤ c ∧ c ≤ 90) ∨ (97 ≤ c ∧ c ≤ 122) ∨ (48 ≤ c ∧ c ≤ 57) ∨ c = 43 ∨ c = 47 ∨ c = 61 ∨ c = 32 ∨ c = 9 ∨ c = 10 ∨ c = 13)) : Ending.returned (.bool false) = .returned (.bool (b64 c)) := by
  unfold b64
  rw [decide_eq_false h]

set_option maxHeartbeats 400000 in
theorem b64_any (c : Int) (w : World) : Calls Try.prog 10 #[.int .u8 c] w fun e w' => e = .returned (.bool (b64 c)) ∧ w' = w := by
  go_enter Try.func10, Try.ntmps10
  go_wp2
  all_goals (go_ret; refine ⟨?_, rfl⟩; simp only [beq_iff_eq, beq_eq_false_iff_ne] at *)
  all_goals first | exact ret_t (by omega) | exact ret_f (by omega)

set_option maxHeartbeats 400000 in
theorem zzb64_any (c : Int) (w : World) : Calls Try.prog 6 #[.int .u8 c] w fun e w' => e = .returned (.bool (b64 c)) ∧ w' = w := by
  go_enter Try.func6, Try.ntmps6
  go_wp2_with (go_at_call 10; refine (b64_any _ _).mono ?_; rintro e w' ⟨rfl, hw⟩; subst w')
  go_ret
  exact ⟨rfl, rfl⟩
end Go.Proofs.Qxb6604451a
