import Derived.Test.Qxb6604451aB64
namespace Go.Proofs.Qxb6604451a
open Go.RowKit
set_option linter.unusedSimpArgs false
set_option linter.unusedVariables false

/-- The bytes of the alphabet's text, in its order. -/
def alphaL : List Int := [65, 66, 67, 68, 69, 70, 71, 72, 73, 74, 75, 76, 77, 78, 79, 80, 81, 82, 83, 84, 85, 86, 87, 88, 89, 90, 97, 98, 99, 100, 101, 102, 103, 104, 105, 106, 107, 108, 109, 110, 111, 112, 113, 114, 115, 116, 117, 118, 119, 120, 121, 122, 48, 49, 50, 51, 52, 53, 54, 55, 56, 57, 43, 47, 61, 32, 9, 10, 13]

/-- Is c among the first k of them? -/
def seen (c : Int) (k : Nat) : Bool := decide (c ∈ alphaL.take k)

theorem at_of (s : ByteArray) (hs : s.data.toList.map (fun b => (b.toNat : Int)) = alphaL) (k : Nat) (hk : k < s.size) : alphaL[k]? = some ((s[k].toNat : Nat) : Int) := by
  rw [← hs, List.getElem?_map, List.getElem?_eq_getElem (by simpa using hk)]
  rfl
theorem seen_hit {s : ByteArray} {k : Nat} {hk : k < s.size} {c : Int} (h : (((s[k].toNat : Nat) : Int) == c) = true) (hs : s.data.toList.map (fun b => (b.toNat : Int)) = alphaL) : seen c (k + 1) = true := by
  have e := at_of s hs k hk
  rw [beq_iff_eq] at h
  unfold seen
  rw [decide_eq_true_iff, List.take_add_one, e, h]
  simp
theorem seen_miss {s : ByteArray} {k : Nat} {hk : k < s.size} {c : Int} (h : (((s[k].toNat : Nat) : Int) == c) = false) (hs : s.data.toList.map (fun b => (b.toNat : Int)) = alphaL) : seen c (k + 1) = seen c k := by
  have e := at_of s hs k hk
  rw [beq_eq_false_iff_ne] at h
  unfold seen
  rw [List.take_add_one, e]
  have h' : ¬ c = ((s[k].toNat : Nat) : Int) := fun x => h x.symm
  simp [h']
theorem seen_all (c : Int) : b64 c = seen c 69 := by
  unfold b64 seen
  rw [decide_eq_decide]
  rw [List.take_of_length_le (by decide)]
  simp only [alphaL, List.mem_cons, List.not_mem_nil, or_false]
  constructor
  · intro h; omega
  · intro h; omega

set_option maxRecDepth 100000 in
set_option maxHeartbeats 1000000 in
theorem alpha_walk (c : Int) (w : World) : Calls Try.prog 3 #[.int .u8 c] w fun e w' => e = .returned (.bool true) ∧ w' = w := by
  go_enter Try.func3, Try.ntmps3
  go_wp2_with fail
  go_loop [3, 4] (fun v i => ∃ k : Nat, k ≤ 69 ∧ i = .int .i64 (k : Int) ∧ v = .bool (seen c k)) (fun _ i => 69 - (intOf i).toNat)
  case atStart => exact ⟨0, Nat.zero_le _, rfl, rfl⟩
  case round =>
    obtain ⟨k, hk, rfl, rfl⟩ := hrel
    by_cases hlt : k < 69
    · go_wp2_with fail
      · rename_i hq
        have E := seen_hit hq rfl
        clear hq
        go_round
        case rel => exact ⟨k + 1, by omega, by go_num, by rw [E]⟩
        case measure => simp [intOf]; omega
      · rename_i hq
        have E := seen_miss hq rfl
        clear hq
        go_round
        case rel => exact ⟨k + 1, by omega, by go_num, by rw [E]⟩
        case measure => simp [intOf]; omega
    · have hk' : k = 69 := by omega
      subst hk'
      go_wp2_with fail
      refine (zzb64_any _ _).mono ?_
      rintro e w' ⟨rfl, hw⟩
      subst w'
      rw [seen_all]
      have t : (seen c 69 == seen c 69) = true := by simp
      go_wp2_with fail
      go_ret
      exact ⟨by first | rfl | simp, rfl⟩
end Go.Proofs.Qxb6604451a
