import Derived.Test.Qxb6603645aCmp
namespace Go.Proofs.Qxb6603645a
open Go.RowKit
set_option linter.unusedSimpArgs false
set_option linter.unusedVariables false

/-- The state of 'rotate': what is left to be rotated lies around m, i to its left and j to its right. -/
def RotIs (P U V R : List Mb) (N m i j : Nat) (xs : List Mb) : Prop :=
  ∃ D U' V' E, xs = P ++ D ++ U' ++ V' ++ E ++ R ∧ D ++ V' ++ U' ++ E = V ++ U ∧ U'.length = i ∧ V'.length = j ∧ P.length + D.length + i = m ∧ xs.length = N ∧ 0 < i ∧ 0 < j

theorem rot_gt {g cap N m i j : Nat} {P U V R : List Mb} {F : Value} {w : World} (h : ∃ xs, RotIs P U V R N m i j xs ∧ Held w g xs) (hN : N ≤ 4096) (hij : j < i) {a b : Int} (ha : a = ((m - i : Nat) : Int)) (hb : b = (m : Int)) :
    Calls Try.prog 43 #[.slice (some ⟨g, 0, none⟩) N cap, .int .i64 a, .int .i64 b, .int .i64 (j : Int), F] w fun e w' => e = .returned (.tuple #[]) ∧ (∃ xs, RotIs P U V R N m (i - j) j xs ∧ Held w' g xs) ∧ Fr g w w' := by
  subst ha hb
  obtain ⟨xs, ⟨D, U', V', E, rfl, e2, lU, lV, lm, lN, hi, hj⟩, hH⟩ := h
  have e : P ++ D ++ U' ++ V' ++ E ++ R = (P ++ D) ++ U'.take j ++ U'.drop j ++ V' ++ (E ++ R) := by
    conv => lhs; rw [← List.take_append_drop j U']
    simp only [List.append_assoc]
  rw [e] at hH lN
  have l1 : (U'.take j).length = j := by simp; omega
  have l2 : (U'.drop j).length = i - j := by simp; omega
  refine (swapRange_any g cap (P ++ D) (U'.take j) (U'.drop j) V' (E ++ R) N F w hH lN hN (m - i) m j (by simp; omega) (by simp only [List.length_append, l1, l2]; omega) l1 lV).mono ?_
  rintro r w' ⟨rfl, h1, h2⟩
  refine ⟨rfl, ⟨_, ⟨D ++ V', U'.drop j, U'.take j, E, ?_, ?_, l2, l1, ?_, ?_, by omega, hj⟩, h1⟩, h2⟩
  · simp
  · rw [← e2]
    conv => rhs; rw [← List.take_append_drop j U']
    simp only [List.append_assoc]
  · simp only [List.length_append]; omega
  · simp only [List.length_append] at lN ⊢; omega
theorem rot_lt {g cap N m i j : Nat} {P U V R : List Mb} {F : Value} {w : World} (h : ∃ xs, RotIs P U V R N m i j xs ∧ Held w g xs) (hN : N ≤ 4096) (hij : i < j) {a b : Int} (ha : a = ((m - i : Nat) : Int)) (hb : b = ((m + j - i : Nat) : Int)) :
    Calls Try.prog 43 #[.slice (some ⟨g, 0, none⟩) N cap, .int .i64 a, .int .i64 b, .int .i64 (i : Int), F] w fun e w' => e = .returned (.tuple #[]) ∧ (∃ xs, RotIs P U V R N m i (j - i) xs ∧ Held w' g xs) ∧ Fr g w w' := by
  subst ha hb
  obtain ⟨xs, ⟨D, U', V', E, rfl, e2, lU, lV, lm, lN, hi, hj⟩, hH⟩ := h
  have e : P ++ D ++ U' ++ V' ++ E ++ R = (P ++ D) ++ U' ++ V'.take (j - i) ++ V'.drop (j - i) ++ (E ++ R) := by
    conv => lhs; rw [← List.take_append_drop (j - i) V']
    simp only [List.append_assoc]
  rw [e] at hH lN
  have l1 : (V'.take (j - i)).length = j - i := by simp; omega
  have l2 : (V'.drop (j - i)).length = i := by simp; omega
  refine (swapRange_any g cap (P ++ D) U' (V'.take (j - i)) (V'.drop (j - i)) (E ++ R) N F w hH lN hN (m - i) (m + j - i) i (by simp; omega) (by simp only [List.length_append, l1]; omega) lU l2).mono ?_
  rintro r w' ⟨rfl, h1, h2⟩
  refine ⟨rfl, ⟨_, ⟨D, V'.drop (j - i), V'.take (j - i), U' ++ E, ?_, ?_, l2, l1, lm, ?_, hi, by omega⟩, h1⟩, h2⟩
  · simp
  · rw [← e2]
    conv => rhs; rw [← List.take_append_drop (j - i) V']
    simp only [List.append_assoc]
  · simp only [List.length_append] at lN ⊢; omega
theorem rot_eq {g cap N m i : Nat} {P U V R : List Mb} {F : Value} {w : World} (h : ∃ xs, RotIs P U V R N m i i xs ∧ Held w g xs) (hN : N ≤ 4096) {a b : Int} (ha : a = ((m - i : Nat) : Int)) (hb : b = (m : Int)) :
    Calls Try.prog 43 #[.slice (some ⟨g, 0, none⟩) N cap, .int .i64 a, .int .i64 b, .int .i64 (i : Int), F] w fun e w' => e = .returned (.tuple #[]) ∧ Held w' g (P ++ V ++ U ++ R) ∧ Fr g w w' := by
  subst ha hb
  obtain ⟨xs, ⟨D, U', V', E, rfl, e2, lU, lV, lm, lN, hi, hj⟩, hH⟩ := h
  have e : P ++ D ++ U' ++ V' ++ E ++ R = (P ++ D) ++ U' ++ [] ++ V' ++ (E ++ R) := by simp
  rw [e] at hH lN
  refine (swapRange_any g cap (P ++ D) U' [] V' (E ++ R) N F w hH lN hN (m - i) m i (by simp; omega) (by simp only [List.length_append, List.length_nil]; omega) lU lV).mono ?_
  rintro r w' ⟨rfl, h1, h2⟩
  refine ⟨rfl, ?_, h2⟩
  have : (P ++ D) ++ V' ++ [] ++ U' ++ (E ++ R) = P ++ (D ++ V' ++ U' ++ E) ++ R := by simp
  rw [this, e2] at h1
  rw [List.append_assoc P V U]
  exact h1

set_option maxRecDepth 100000 in
set_option maxHeartbeats 2000000 in
/-- 'rotate(data, a, m, b)'. -/
theorem rotate_any (g cap : Nat) (P U V R : List Mb) (N : Nat) (F : Value) (w : World) (hH : Held w g (P ++ U ++ V ++ R)) (hN : (P ++ U ++ V ++ R).length = N) (hN2 : N ≤ 4096) (a m b : Nat) (ha : P.length = a) (hm : a + U.length = m) (hb : m + V.length = b) (hU : 0 < U.length) (hV : 0 < V.length) :
    Calls Try.prog 42 #[.slice (some ⟨g, 0, none⟩) N cap, .int .i64 (a : Int), .int .i64 (m : Int), .int .i64 (b : Int), F] w fun e w' => e = .returned (.tuple #[]) ∧ Held w' g (P ++ V ++ U ++ R) ∧ Fr g w w' := by
  have o1 : a < m := by omega
  have o2 : m < b := by omega
  have o3 : b ≤ N := by simp only [List.length_append] at hN; omega
  have S0 : Hid (∃ xs, RotIs P U V R N m (m - a) (b - m) xs ∧ Held w g xs) := ⟨_, ⟨[], U, V, [], by simp, by simp, by omega, by omega, by simp; omega, hN, by omega, by omega⟩, hH⟩
  clear hN ha hm hb hU hV hH
  go_enter Try.func42, Try.ntmps42
  go_wp2_with fail
  go_loopw [10, 11] (fun iv jv wr => ∃ i j : Nat, iv = .int .i64 (i : Int) ∧ jv = .int .i64 (j : Int) ∧ 0 < i ∧ 0 < j ∧ i ≤ m ∧ m + j ≤ N ∧ (∃ xs, RotIs P U V R N m i j xs ∧ Held wr g xs) ∧ Fr g w wr) (fun iv jv _ => (intOf iv).toNat + (intOf jv).toNat)
  case atStart => exact ⟨m - a, b - m, by go_num, by go_num, by omega, by omega, by omega, by omega, S0.out, Fr.refl _ _⟩
  case round =>
    clear S0
    obtain ⟨i, j, rfl, rfl, hi, hj, him, hjn, hx, hf⟩ := hrel
    rcases Nat.lt_trichotomy i j with hij | hij | hij
    · have HX : Hid _ := hx
      clear hx
      have t1 : ((i : Int) != (j : Int)) = true := by simp; omega
      have t2 : ¬ (j : Int) < (i : Int) := by omega
      go_wp2_with (go_at_call 43; refine (rot_lt HX.out hN2 hij (by omega) (by omega)).mono ?_; rintro e w2 ⟨rfl, hx2, hf2⟩)
      go_roundw
      case rel => exact ⟨i, j - i, by go_num, by go_num, hi, by omega, him, by omega, hx2, hf.trans hf2⟩
      case measure => simp [intOf]; omega
    · subst hij
      have HX : Hid _ := hx
      clear hx
      have t1 : ((i : Int) != (i : Int)) = false := by simp
      go_wp2_with (go_at_call 43; refine (rot_eq HX.out hN2 (by omega) rfl).mono ?_; rintro e w2 ⟨rfl, hx2, hf2⟩)
      go_end0
      exact ⟨rfl, hx2, hf.trans hf2⟩
    · have HX : Hid _ := hx
      clear hx
      have t1 : ((i : Int) != (j : Int)) = true := by simp; omega
      have t2 : (j : Int) < (i : Int) := by omega
      go_wp2_with (go_at_call 43; refine (rot_gt HX.out hN2 hij (by omega) rfl).mono ?_; rintro e w2 ⟨rfl, hx2, hf2⟩)
      go_roundw
      case rel => exact ⟨i - j, j, by go_num, by go_num, by omega, hj, by omega, hjn, hx2, hf.trans hf2⟩
      case measure => simp [intOf]; omega
end Go.Proofs.Qxb6603645a
