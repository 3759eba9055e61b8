import Derived.Test.Qxb6604451aQual
namespace Go.Proofs.Qxb6604451a
open Go.RowKit
set_option linter.unusedSimpArgs false
set_option linter.unusedVariables false

theorem dot_size : (⟨#[58]⟩ : ByteArray).size = 1 := rfl
theorem joined_size (a b : ByteArray) : (a ++ ⟨#[58]⟩ ++ b).size = a.size + 1 + b.size := by
  rw [ByteArray.size_append, ByteArray.size_append, dot_size]
theorem joined_left (a b : ByteArray) : (a ++ ⟨#[58]⟩ ++ b).extract 0 a.size = a := by
  rw [ByteArray.append_assoc]
  exact ByteArray.extract_append_eq_left rfl
theorem joined_right (a b : ByteArray) : (a ++ ⟨#[58]⟩ ++ b).extract (a.size + 1) (a ++ ⟨#[58]⟩ ++ b).size = b := by
  refine ByteArray.extract_append_eq_right ?_ ByteArray.size_append
  rw [ByteArray.size_append, dot_size]
theorem joined_dot (a b : ByteArray) (h : a.size < (a ++ ⟨#[58]⟩ ++ b).size) : ((((a ++ ⟨#[58]⟩ ++ b)[a.size].toNat : Nat) : Int) == 58) = true := by
  rw [ByteArray.getElem_append_left (by rw [ByteArray.size_append, dot_size]; omega), ByteArray.getElem_append_right (Nat.le_refl _)]
  simp
  rfl
theorem joined_rest (a b : ByteArray) (hn : NoColon b 0) : NoColon (a ++ ⟨#[58]⟩ ++ b) (a.size + 1) := by
  intro k h hk
  have hs := joined_size a b
  have e : (a ++ ⟨#[58]⟩ : ByteArray).size = a.size + 1 := by rw [ByteArray.size_append, dot_size]
  rw [ByteArray.getElem_append_right (by omega)]
  exact hn _ _ (Nat.zero_le _)
theorem grown_drewN {W w : World} (h : Grown W w) (n : Nat) : Grown W (w.drewN n) := h
set_option maxRecDepth 100000 in
set_option maxHeartbeats 1000000 in
theorem splits_walk (a b : ByteArray) (w : World) (m1 : a.size ≤ 9223372036854775807) (m2 : b.size ≤ 9223372036854775807) :
    Calls Try.prog 5 #[.string a, .string b] w fun e w' => e = .returned (.bool true) ∧ Grown w w' := by
  by_cases h : a.size + b.size ≤ 1048576
  case neg =>
    go_enter Try.func5, Try.ntmps5
    go_wp2_with (go_at_call 7; refine (bytes_no _ _ _ h m1 m2).mono ?_; rintro e w' ⟨rfl, hw⟩; subst w')
    go_ret
    exact ⟨rfl, Grown.refl _⟩
  go_enter Try.func5, Try.ntmps5
  go_wp2_with (go_at_call 7; refine (bytes_ok _ _ _ h).mono ?_; rintro e w' ⟨rfl, hw⟩; subst w')
  go_loop [5] (fun v => ∃ k : Nat, k ≤ b.size ∧ v = .int .i64 (k : Int) ∧ ∀ j (hj : j < b.size), j < k → (((b[j].toNat : Nat) : Int) == 58) = false) (fun v => b.size - (intOf v).toNat)
  case atStart => exact ⟨0, Nat.zero_le _, rfl, fun j _ h => absurd h (Nat.not_lt_zero _)⟩
  case round =>
    obtain ⟨k, hk, rfl, hc⟩ := hrel
    have HC : Hid (∀ j (hj : j < b.size), j < k → (((b[j].toNat : Nat) : Int) == 58) = false) := hc
    clear hc
    by_cases hlt : k < b.size
    · by_cases h58 : (((b[k].toNat : Nat) : Int) == 58) = true
      · go_wp2_with fail
        go_ret
        exact ⟨rfl, Grown.refl _⟩
      · have t1 : (((b[k].toNat : Nat) : Int) == 58) = false := by simpa using h58
        clear h58
        go_wp2_with fail
        go_round
        case rel => exact ⟨k + 1, by omega, by go_num, fun j hj hjk => by
          by_cases e : j = k
          · subst e; exact t1
          · exact HC.out j hj (by omega)⟩
        case measure => simp [intOf]; omega
    · have hn : NoColon b 0 := fun j hj _ => HC.out j hj (by omega)
      clear HC
      by_cases h0 : a.toList.isEmpty = true
      · go_wp2_with fail
        refine (zzqual_empty _ _ _ h h0).mono ?_
        rintro e w1 ⟨rfl, hg⟩
        go_wp2_with fail
        refine (split_none b _ (by omega) hn).mono ?_
        rintro e w2 ⟨rfl, hw⟩
        subst w2
        go_wp2_with fail
        go_ret
        exact ⟨rfl, hg⟩
      · have h0' : a.toList.isEmpty = false := by simpa using h0
        have hjs := joined_size a b
        have L : Hid ((a ++ ⟨#[58]⟩ ++ b).extract 0 a.size = a ∧ (a ++ ⟨#[58]⟩ ++ b).extract (a.size + 1) (a ++ ⟨#[58]⟩ ++ b).size = b) := ⟨joined_left a b, joined_right a b⟩
        have HJ : Hid ((a ++ ⟨#[58]⟩ ++ b).size = a.size + 1 + b.size) := hjs
        clear hjs
        go_wp2_with fail
        refine (zzqual_full _ _ _ h h0').mono ?_
        rintro e w1 ⟨rfl, hg⟩
        go_wp2_with fail
        refine (split_at _ a.size _ (by rw [HJ.out]; omega) (by rw [HJ.out]; omega) (joined_dot a b _) (joined_rest a b hn)).mono ?_
        rintro e w2 ⟨rfl, q, hw⟩
        subst w2
        rw [L.out.1, L.out.2]
        go_wp2_with fail
        go_ret
        exact ⟨rfl, grown_drewN hg q⟩
end Go.Proofs.Qxb6604451a
