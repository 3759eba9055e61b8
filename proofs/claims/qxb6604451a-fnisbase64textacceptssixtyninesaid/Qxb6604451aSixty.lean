import Derived.Test.Qxb6604451aB64
namespace Go.Proofs.Qxb6604451a
open Go.RowKit
set_option linter.unusedSimpArgs false
set_option linter.unusedVariables false

/-- How many of the first k bytes are accepted. -/
def cnt : Nat → Nat
  | 0 => 0
  | k + 1 => cnt k + (if b64 (k : Int) = true then 1 else 0)
theorem cnt_le : ∀ k, cnt k ≤ k
  | 0 => Nat.le_refl _
  | k + 1 => by
    have := cnt_le k
    unfold cnt
    split <;> omega
theorem cnt_all : cnt 256 = 69 := by decide +kernel
theorem b64_low (k : Int) (h : b64 k = true) : k < 128 := by
  unfold b64 at h
  rw [decide_eq_true_iff] at h
  omega

set_option maxRecDepth 100000 in
set_option maxHeartbeats 400000 in
theorem sixty_walk (w : World) : Calls Try.prog 4 #[] w fun e w' => e = .returned (.bool true) ∧ w' = w := by
  go_enter Try.func4, Try.ntmps4
  go_wp2_with fail
  go_loop [1, 2] (fun v i => ∃ k : Nat, k ≤ 256 ∧ i = .int .i64 (k : Int) ∧ v = .int .i64 (cnt k : Int)) (fun _ i => 256 - (intOf i).toNat)
  case atStart => exact ⟨0, Nat.zero_le _, rfl, rfl⟩
  case round =>
    obtain ⟨k, hk, rfl, rfl⟩ := hrel
    have hcl := cnt_le k
    by_cases hlt : k < 256
    · go_wp2_with fail
      refine (zzb64_any _ _).mono ?_
      rintro e w' ⟨rfl, hw⟩
      subst w'
      by_cases hb : b64 (k : Int) = true
      · have hl := b64_low _ hb
        have HE : Hid (cnt (k + 1) = cnt k + 1) := by
          show cnt (k + 1) = _
          rw [cnt, if_pos hb]
        rw [hb]
        clear hb
        go_wp2_with fail
        go_round
        case rel => exact ⟨k + 1, by omega, by go_num, by rw [HE.out]; go_num⟩
        case measure => simp [intOf]; omega
      · have HE : Hid (cnt (k + 1) = cnt k) := by
          show cnt (k + 1) = _
          rw [cnt, if_neg hb]
          rfl
        rw [show b64 (k : Int) = false from by simpa using hb]
        clear hb
        go_wp2_with fail
        go_round
        case rel => exact ⟨k + 1, by omega, by go_num, by rw [HE.out]⟩
        case measure => simp [intOf]; omega
    · have hk' : k = 256 := by omega
      subst hk'
      have t1 : ((cnt 256 : Int) == 69) = true := by rw [cnt_all]; rfl
      generalize cnt 256 = m at *
      go_wp2_with fail
      go_ret
      exact ⟨rfl, rfl⟩
end Go.Proofs.Qxb6604451a
