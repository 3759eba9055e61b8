import Derived.Test.Qxb6604449aBuilt
import Derived.Test.Qxb6604449aModel2
namespace Go.Proofs.Qxb6604449a
open Go.RowKit
set_option linter.unusedSimpArgs false
set_option linter.unusedVariables false

set_option maxHeartbeats 400000 in
theorem bytes1_ok (a1 : Option Addr) (len1 cap1 : Nat) (w : World) (h : len1 ≤ 1048576) :
    Calls Try.prog 5 #[.slice a1 len1 cap1] w fun e w' => e = .returned (.bool true) ∧ w' = w := by
  go_enter Try.func5, Try.ntmps5
  go_wp2
  go_ret
  exact ⟨rfl, rfl⟩

set_option maxHeartbeats 400000 in
theorem bytes1_no (a1 : Option Addr) (len1 cap1 : Nat) (w : World) (h : ¬ len1 ≤ 1048576) (m1 : len1 ≤ 9223372036854775807) :
    Calls Try.prog 5 #[.slice a1 len1 cap1] w fun e w' => e = .returned (.bool false) ∧ w' = w := by
  go_enter Try.func5, Try.ntmps5
  go_wp2
  go_ret
  exact ⟨rfl, rfl⟩

set_option maxHeartbeats 400000 in
theorem spec_walk (a1 : Option Addr) (len1 cap1 : Nat) (xs : List Int) (w : World) (A1 : ArgB w a1 len1 cap1 xs) (m1 : len1 ≤ 9223372036854775807) :
    Calls Try.prog 3 #[.slice a1 len1 cap1] w fun e w' => e = .returned (.bool true) ∧ Below w.heap.size w w' := by
  obtain ⟨i0, hi, hz0, hz1, hz2⟩ := info_parts Try.info5
  have hsz := info5_size
  by_cases h : len1 ≤ 1048576
  case neg =>
    go_enter Try.func3, Try.ntmps3
    go_wp2_with (go_at_call 5; refine (bytes1_no _ _ _ _ h m1).mono ?_; rintro e w' ⟨rfl, hw⟩; subst w')
    go_ret
    exact ⟨rfl, Below.refl _ _⟩
  have HX : Hid (xs.length = len1) := A1.size
  cases a1 with
  | none =>
    obtain ⟨rfl, rfl⟩ := A1.isNil rfl
    go_enter Try.func3, Try.ntmps3
    go_wp2_with (go_at_call 5; refine (bytes1_ok _ _ _ _ h).mono ?_; rintro e w' ⟨rfl, hw⟩; subst w')
    refine (zzikl_nil _).mono ?_
    rintro e w1 ⟨rfl, hb1⟩
    go_wp2_with fail
    refine (mdl_nil _).mono ?_
    rintro e w2 ⟨rfl, hw⟩
    subst w2
    go_wp2_with fail
    go_ret
    exact ⟨rfl, hb1⟩
  | some x =>
    go_enter Try.func3, Try.ntmps3
    go_wp2_with (first
      | (go_at_call 5; refine (bytes1_ok _ _ _ _ h).mono ?_; rintro e w' ⟨rfl, hw⟩; subst w')
      | (at_make; refine wpList_make_row _ rfl (.tmp 13) (.tmp 13) 22 rfl 5 i0 (.int .u8 0) 1 Try.underlying22 hi hz0 hz1 .i64 .i64 _ _ len1 len1 rfl rfl rfl rfl (Nat.le_refl _) (by rw [hz2]; omega) (by omega) ?_; intro w1 hr1 hs1 hb1; simp only [Nat.mul_one] at hr1)
      | (refine wpList_copy_row _ rfl (.tmp 15) (.tmp 16) 22 22 rfl 5 Try.underlying22 hsz w.heap.size len1 len1 (some x) cap1 rfl rfl _ (xs.map (.int .u8)) 5 hr1 (by simp [A1.size]) (A1.src hb1) (ints_oneCell _ _) ?_; intro w2 hr2 ht2))
    have b2 : Below w.heap.size w w2 := hb1.trans (ht2.below (Nat.le_refl _))
    have hg := hr2.lt
    refine (zzikl_row w.heap.size 0 _ _ xs _ HX.out (Nat.le_refl _) (by omega) (hr2.ints HX.out) A1.range).mono ?_
    rintro e w3 ⟨rfl, hb3⟩
    have hr3 := hr2.below hb3 hg
    rw [ikl_mdl]
    go_wp2_with fail
    refine (mdl_row w.heap.size 0 _ _ xs _ HX.out (Nat.le_refl _) (by omega) (hr3.ints HX.out)).mono ?_
    rintro e w4 ⟨rfl, q, hw⟩
    have b4 : Below w.heap.size w w4 := by
      rw [hw]
      exact below_drewN (b2.trans (hb3.mono b2.size)) q
    clear hw
    have t1 : (mdl xs == mdl xs) = true := by simp
    go_wp2_with fail
    go_ret
    exact ⟨by first | rfl | simp, b4⟩
end Go.Proofs.Qxb6604449a
