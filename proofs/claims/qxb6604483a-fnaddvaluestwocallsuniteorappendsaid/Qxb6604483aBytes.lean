import Derived.Test.Qxb6604483aVals
import Derived.Deep.DeepCutAuto
namespace Go.Proofs.Qxb6604483a
open Go.RowKit
set_option linter.unusedSimpArgs false
set_option linter.unusedVariables false

set_option maxHeartbeats 1000000 in
theorem termsBytes_any (lo hi : Nat) (a : Option Addr) (len cap : Nat) (ts : List Tm) (w : World) (h : TsIn lo hi w a len ts) (hm : len ≤ 9223372036854775807) :
    Calls Try.prog 28 #[.slice a len cap] w fun e w' => (∃ r : Int, 0 ≤ r ∧ r ≤ 8388608 ∧ e = .returned (.int .i64 r)) ∧ w' = w := by
  by_cases hl : len ≤ 1048576
  case neg =>
    go_enter Try.func28, Try.ntmps28
    go_wp2
    go_ret
    exact ⟨⟨1048577, by omega, by omega, rfl⟩, rfl⟩
  go_enter Try.func28, Try.ntmps28
  go_wp2
  go_loop [3, 4] (fun n v => ∃ (k : Nat) (m : Int), k ≤ len ∧ v = .int .i64 (k : Int) ∧ n = .int .i64 m ∧ 0 ≤ m ∧ m ≤ 8388608) (fun _ v => len - (intOf v).toNat)
  case atStart => exact ⟨0, _, Nat.zero_le _, rfl, rfl, by omega, by omega⟩
  case round =>
    obtain ⟨k, m, hk, rfl, rfl, hm1, hm2⟩ := hrel
    by_cases hlt : k < len
    · obtain ⟨b, o, rfl, h1, h2, hc⟩ := h.isAt (by omega)
      obtain ⟨u, hu⟩ : ∃ u, ts[k]? = some u := ⟨_, List.getElem?_eq_getElem (by rw [h.len_eq]; exact hlt)⟩
      obtain ⟨_, _, c2⟩ := hc k u hu
      obtain ⟨uk, un, us⟩ := u
      clear hc hu
      by_cases hs : us.size ≤ 1048576
      · by_cases ht : m + us.size ≤ 1048576
        · go_wp2_with fail
          go_round
          case rel => exact ⟨k + 1, m + us.size, by omega, by go_num, rfl, by omega, by omega⟩
          case measure => simp [intOf]; omega
        · go_wp2_with fail
          go_ret
          exact ⟨⟨1048577, by omega, by omega, rfl⟩, rfl⟩
      · go_wp2_with fail
        go_ret
        exact ⟨⟨1048577, by omega, by omega, rfl⟩, rfl⟩
    · go_wp2_with fail
      go_ret
      exact ⟨⟨m, by omega, by omega, rfl⟩, rfl⟩

set_option maxHeartbeats 1000000 in
theorem valsBytes_any (lo hi : Nat) (a : Option Addr) (len cap : Nat) (vs : List Vr) (w : World) (h : VsIn lo hi w a len vs) (hm : len ≤ 9223372036854775807) (hm2 : ∀ (i : Nat) (x : Vr), vs[i]? = some x → x.2.2.2.length ≤ 9223372036854775807) :
    Calls Try.prog 8 #[.slice a len cap] w fun e w' => (∃ r : Int, 0 ≤ r ∧ r ≤ 8388608 ∧ e = .returned (.int .i64 r)) ∧ w' = w := by
  by_cases hl : len ≤ 1048576
  case neg =>
    go_enter Try.func8, Try.ntmps8
    go_wp2
    go_ret
    exact ⟨⟨1048577, by omega, by omega, rfl⟩, rfl⟩
  go_enter Try.func8, Try.ntmps8
  go_wp2_with fail
  go_loop [3, 4] (fun n v => ∃ (k : Nat) (m : Int), k ≤ len ∧ v = .int .i64 (k : Int) ∧ n = .int .i64 m ∧ 0 ≤ m ∧ m ≤ 8388608) (fun _ v => len - (intOf v).toNat)
  case atStart => exact ⟨0, _, Nat.zero_le _, rfl, rfl, by omega, by omega⟩
  case round =>
    obtain ⟨k, m, hk, rfl, rfl, hm1, hm2'⟩ := hrel
    by_cases hlt : k < len
    · obtain ⟨b, o, rfl, h1, h2, hc⟩ := h.isAt (by omega)
      obtain ⟨u, hu⟩ : ∃ u, vs[k]? = some u := ⟨_, List.getElem?_eq_getElem (by rw [h.len_eq]; exact hlt)⟩
      obtain ⟨_, c2⟩ := hc k u hu
      have hT := h.terms k u hu
      have hul := hm2 k u hu
      obtain ⟨ua, uaddr, ucap, us⟩ := u
      clear hc hu
      go_wp2_with fail
      refine (termsBytes_any lo hi uaddr us.length ucap us _ hT hul).mono ?_
      rintro e w' ⟨⟨r, r1, r2, rfl⟩, hw⟩
      subst w'
      by_cases ht : m + r ≤ 1048576
      · go_wp2_with fail
        go_round
        case rel => exact ⟨k + 1, m + r, by omega, by go_num, rfl, by omega, by omega⟩
        case measure => simp [intOf]; omega
      · go_wp2_with fail
        go_ret
        exact ⟨⟨1048577, by omega, by omega, rfl⟩, rfl⟩
    · go_wp2_with fail
      go_ret
      exact ⟨⟨m, by omega, by omega, rfl⟩, rfl⟩
end Go.Proofs.Qxb6604483a
