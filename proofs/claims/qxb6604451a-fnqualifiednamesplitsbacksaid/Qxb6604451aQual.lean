import Derived.Test.Qxb6604451aRows
import Derived.WalkKit
import Derived.WalkSpells
import Derived.WalkLawsBesides
import Derived.Deep.QuietTactic
import Derived.BigQuiet
namespace Go.Proofs.Qxb6604451a
open Go.RowKit
set_option linter.unusedSimpArgs false
set_option linter.unusedVariables false

set_option maxHeartbeats 400000 in
theorem qual_full (a b : ByteArray) (w : World) (h : a.size + b.size ≤ 1048576) (h0 : a.toList.isEmpty = false) :
    Calls Try.prog 11 #[.agg #[.string a, .string b]] w fun e w' => e = .returned (.string (a ++ ⟨#[58]⟩ ++ b)) ∧ Grown w w' := by
  go_enter Try.func11, Try.ntmps11
  go_wp2_with fail
  go_ret
  exact ⟨rfl, by repeat (first | exact Grown.refl _ | apply Grown.drew | apply Grown.alloc)⟩

set_option maxHeartbeats 400000 in
theorem qual_empty (a b : ByteArray) (w : World) (h : a.size + b.size ≤ 1048576) (h0 : a.toList.isEmpty = true) :
    Calls Try.prog 11 #[.agg #[.string a, .string b]] w fun e w' => e = .returned (.string b) ∧ Grown w w' := by
  go_enter Try.func11, Try.ntmps11
  go_wp2_with fail
  go_ret
  exact ⟨rfl, by repeat (first | exact Grown.refl _ | apply Grown.drew | apply Grown.alloc)⟩

set_option maxHeartbeats 400000 in
theorem zzqual_full (a b : ByteArray) (w : World) (h : a.size + b.size ≤ 1048576) (h0 : a.toList.isEmpty = false) :
    Calls Try.prog 8 #[.string a, .string b] w fun e w' => e = .returned (.string (a ++ ⟨#[58]⟩ ++ b)) ∧ Grown w w' := by
  go_enter Try.func8, Try.ntmps8
  go_wp2_with (go_at_call 11; refine (qual_full _ _ _ h h0).mono ?_; rintro e w' ⟨rfl, hg⟩)
  go_ret
  exact ⟨rfl, hg⟩

set_option maxHeartbeats 400000 in
theorem zzqual_empty (a b : ByteArray) (w : World) (h : a.size + b.size ≤ 1048576) (h0 : a.toList.isEmpty = true) :
    Calls Try.prog 8 #[.string a, .string b] w fun e w' => e = .returned (.string b) ∧ Grown w w' := by
  go_enter Try.func8, Try.ntmps8
  go_wp2_with (go_at_call 11; refine (qual_empty _ _ _ h h0).mono ?_; rintro e w' ⟨rfl, hg⟩)
  go_ret
  exact ⟨rfl, hg⟩

set_option maxHeartbeats 400000 in
theorem bytes_ok (a b : ByteArray) (w : World) (h : a.size + b.size ≤ 1048576) :
    Calls Try.prog 7 #[.string a, .string b] w fun e w' => e = .returned (.bool true) ∧ w' = w := by
  go_enter Try.func7, Try.ntmps7
  go_wp2
  go_ret
  exact ⟨rfl, rfl⟩

set_option maxHeartbeats 400000 in
theorem bytes_no (a b : ByteArray) (w : World) (h : ¬ a.size + b.size ≤ 1048576) (m1 : a.size ≤ 9223372036854775807) (m2 : b.size ≤ 9223372036854775807) :
    Calls Try.prog 7 #[.string a, .string b] w fun e w' => e = .returned (.bool false) ∧ w' = w := by
  by_cases h1 : a.size ≤ 1048576
  · by_cases h2 : b.size ≤ 1048576
    · go_enter Try.func7, Try.ntmps7
      go_wp2
      go_ret
      exact ⟨rfl, rfl⟩
    · go_enter Try.func7, Try.ntmps7
      go_wp2
      go_ret
      exact ⟨rfl, rfl⟩
  · go_enter Try.func7, Try.ntmps7
    go_wp2
    go_ret
    exact ⟨rfl, rfl⟩

/-- No ':' in s from place p on. -/
def NoColon (s : ByteArray) (p : Nat) : Prop := ∀ k (h : k < s.size), p ≤ k → (((s[k].toNat : Nat) : Int) == 58) = false

set_option maxHeartbeats 400000 in
theorem split_none (s : ByteArray) (w : World) (hs : s.size ≤ 2000000) (hn : NoColon s 0) :
    Calls Try.prog 9 #[.string s] w fun e w' => e = .returned (.tuple #[.string ⟨#[]⟩, .string s]) ∧ w' = w := by
  go_enter Try.func9, Try.ntmps9
  go_wp2_with fail
  go_loop [4, 5] (fun v i => v = .int .i64 (-1) ∧ ∃ k : Nat, k ≤ s.size ∧ i = .int .i64 (k : Int)) (fun _ i => s.size - (intOf i).toNat)
  case atStart => exact ⟨rfl, 0, Nat.zero_le _, rfl⟩
  case round =>
    obtain ⟨rfl, k, hk, rfl⟩ := hrel
    by_cases hlt : k < s.size
    · have t1 := hn k hlt (Nat.zero_le _)
      go_wp2_with fail
      go_round
      case rel => exact ⟨rfl, k + 1, by omega, by go_num⟩
      case measure => simp [intOf]; omega
    · go_wp2_with fail
      go_ret2
      exact ⟨rfl, rfl⟩

set_option maxHeartbeats 400000 in
theorem split_at (s : ByteArray) (p : Nat) (w : World) (hs : s.size ≤ 2000000) (hp : p < s.size) (h58 : (((s[p].toNat : Nat) : Int) == 58) = true) (hn : NoColon s (p + 1)) :
    Calls Try.prog 9 #[.string s] w fun e w' => e = .returned (.tuple #[.string (s.extract 0 p), .string (s.extract (p + 1) s.size)]) ∧ ∃ q, w' = w.drewN q := by
  go_enter Try.func9, Try.ntmps9
  go_wp2_with fail
  go_loop [4, 5] (fun v i => ∃ k : Nat, k ≤ s.size ∧ i = .int .i64 (k : Int) ∧ (p < k → v = .int .i64 (p : Int))) (fun _ i => s.size - (intOf i).toNat)
  case atStart => exact ⟨0, Nat.zero_le _, rfl, fun h => absurd h (Nat.not_lt_zero _)⟩
  case round =>
    obtain ⟨k, hk, rfl, hv⟩ := hrel
    have HV : Hid (p < k → u4 = .int .i64 (p : Int)) := hv
    clear hv
    by_cases hlt : k < s.size
    · rcases Nat.lt_trichotomy k p with hkp | hkp | hkp
      · go_wp2_with fail
        all_goals
          go_round
          case rel => exact ⟨k + 1, by omega, by go_num, fun h => by omega⟩
          case measure => simp [intOf]; omega
      · subst hkp
        go_wp2_with fail
        go_round
        case rel => exact ⟨k + 1, by omega, by go_num, fun h => rfl⟩
        case measure => simp [intOf]; omega
      · have t1 := hn k hlt hkp
        obtain rfl := HV.out hkp
        go_wp2_with fail
        go_round
        case rel => exact ⟨k + 1, by omega, by go_num, fun h => rfl⟩
        case measure => simp [intOf]; omega
    · obtain rfl := HV.out (by omega)
      go_wp2_with fail
      go_quiet (fail)
      go_wp2_with fail
      go_ret2
      exact ⟨rfl, _, rfl⟩
end Go.Proofs.Qxb6604451a
