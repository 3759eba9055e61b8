import Derived.Test.Qxb6604449aIklAll
import Derived.Deep.QuietTactic
import Derived.BigQuiet
import Derived.Deep.DeepCutAuto
namespace Go.Proofs.Qxb6604449a
open Go.RowKit
set_option linter.unusedSimpArgs false
set_option linter.unusedVariables false

theorem key_at (s : ByteArray) (key : List Int) (hk : s.data.toList.map (fun b => (b.toNat : Int)) = key) (k : Nat) (h : k < s.size) : key[k]? = some ((s[k].toNat : Nat) : Int) := by
  subst hk
  rw [List.getElem?_map, List.getElem?_eq_getElem (by simpa using h)]
  rfl
theorem key_len (s : ByteArray) (key : List Int) (hk : s.data.toList.map (fun b => (b.toNat : Int)) = key) : key.length = s.size := by
  subst hk
  simp
theorem text_ne (xs key : List Int) (s : ByteArray) (hk : s.data.toList.map (fun b => (b.toNat : Int)) = key) (k : Nat) (h : k < s.size) (hx : k < xs.length) (hne : (xs[k] != ((s[k].toNat : Nat) : Int)) = true) : decide (xs = key) = false := by
  rw [decide_eq_false_iff_not]
  intro e
  have h1 := key_at s key hk k h
  rw [← e, List.getElem?_eq_getElem hx] at h1
  simp only [Option.some.injEq] at h1
  simp [h1] at hne
theorem text_eq (xs key : List Int) (s : ByteArray) (hk : s.data.toList.map (fun b => (b.toNat : Int)) = key) (k : Nat) (h : k < s.size) (hx : k < xs.length) (he : (xs[k] != ((s[k].toNat : Nat) : Int)) = false) (ht : xs.take k = key.take k) : xs.take (k + 1) = key.take (k + 1) := by
  have h1 := key_at s key hk k h
  have h2 : xs[k]? = key[k]? := by
    rw [h1, List.getElem?_eq_getElem hx]
    simpa using he
  rw [List.take_add_one, List.take_add_one, ht, h2]

set_option maxHeartbeats 400000 in
theorem same_text (b o n c : Nat) (xs : List Int) (s : ByteArray) (key : List Int) (w : World) (hx : xs.length = n) (hs : s.size ≤ 7) (hk : s.data.toList.map (fun b => (b.toNat : Int)) = key)
    (hc1 : ∀ i, i < n → w.cell? ⟨b, o + i, none⟩ = some (.int .u8 (xs.getD i 0))) (hn : n ≤ 1100000) :
    Calls Try.prog 10 #[.slice (some ⟨b, o, none⟩) n c, .string s] w fun e w' => e = .returned (.bool (decide (xs = key))) ∧ ∃ q, w' = w.drewN q := by
  by_cases hl : n = s.size
  · subst hl
    go_enter Try.func10, Try.ntmps10
    go_wp2_with fail
    go_loopw [5] (fun v wr => ∃ k q : Nat, k ≤ s.size ∧ v = .int .i64 (k : Int) ∧ xs.take k = key.take k ∧ wr = w.drewN q) (fun v _ => s.size - (intOf v).toNat)
    case atStart => exact ⟨0, 0, Nat.zero_le _, rfl, rfl, rfl⟩
    case round =>
      obtain ⟨k, q, hk1, rfl, ht, hw⟩ := hrel
      have HT : Hid (xs.take k = key.take k) := ht
      clear ht
      subst hw
      by_cases hlt : k < s.size
      · have hcell := hc1 k hlt
        go_wp2_with fail
        go_quiet (fail)
        go_wp2_with fail
        · have hne : (xs[k] != ((s[k].toNat : Nat) : Int)) = true := by assumption
          go_ret
          exact ⟨by rw [text_ne xs key s hk k hlt _ hne]; rfl, q + nq, by simp⟩
        · have hne : (xs[k] != ((s[k].toNat : Nat) : Int)) = false := by assumption
          go_roundw
          case rel => exact ⟨k + 1, q + nq, by omega, by go_num, text_eq xs key s hk k hlt _ hne HT.out, rfl⟩
          case measure => simp [intOf]; omega
      · have e : decide (xs = key) = true := by
          rw [decide_eq_true_iff]
          have h1 := HT.out
          rw [List.take_of_length_le (by omega), List.take_of_length_le (by rw [key_len s key hk]; omega)] at h1
          exact h1
        have HE : Hid (decide (xs = key) = true) := e
        clear e
        go_wp2_with fail
        go_ret
        exact ⟨by rw [HE.out]; rfl, q, rfl⟩
  · have e : decide (xs = key) = false := by
      rw [decide_eq_false_iff_not]
      intro e
      have := key_len s key hk
      rw [← e] at this
      omega
    have HE : Hid (decide (xs = key) = false) := e
    clear e
    have t1 : ((n : Int) != (s.size : Int)) = true := by rw [bne_iff_ne]; omega
    go_enter Try.func10, Try.ntmps10
    go_wp2_with fail
    go_ret
    exact ⟨by rw [HE.out]; rfl, 0, rfl⟩
end Go.Proofs.Qxb6604449a
