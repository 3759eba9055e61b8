import Derived.Test.Qxb6604449aIkl
namespace Go.Proofs.Qxb6604449a
open Go.RowKit
set_option linter.unusedSimpArgs false
set_option linter.unusedVariables false

theorem bytesOf_inj : ∀ (xs ys : List Int), (∀ x ∈ xs, 0 ≤ x ∧ x ≤ 255) → (∀ y ∈ ys, 0 ≤ y ∧ y ≤ 255) → Lib.bytesOf xs = Lib.bytesOf ys → xs = ys
  | [], [], _, _, _ => rfl
  | [], y :: ys, _, _, h => by simp [Lib.bytesOf] at h
  | x :: xs, [], _, _, h => by simp [Lib.bytesOf] at h
  | x :: xs, y :: ys, hx, hy, h => by
    have bx := hx x (by simp)
    have by' := hy y (by simp)
    simp only [Lib.bytesOf, List.map_cons, List.cons.injEq] at h
    have e1 : x = y := by
      have := congrArg UInt8.toNat h.1
      simp at this
      omega
    rw [e1, bytesOf_inj xs ys (fun a ha => hx a (by simp [ha])) (fun a ha => hy a (by simp [ha])) h.2]

theorem preB_eq (xs k : List Int) (hx : ∀ x ∈ xs, 0 ≤ x ∧ x ≤ 255) (hk : ∀ x ∈ k, 0 ≤ x ∧ x ≤ 255) : preB xs k = decide (xs.take k.length = k) := by
  unfold preB
  rw [← Lib.bytes_hasPrefix]
  by_cases h : xs.take k.length = k
  · have hl : k.length ≤ xs.length := by
      have := congrArg List.length h
      simp at this
      omega
    rw [h]
    simp [hl]
  · rw [decide_eq_false h, Bool.and_eq_false_iff]
    right
    rw [beq_eq_false_iff_ne]
    intro h2
    exact h (bytesOf_inj _ _ (fun a ha => hx a (List.mem_of_mem_take ha)) hk h2)

/-- THE CONTRACT of 'itemsKeyLength' at a row. -/
theorem ikl_row (b o n c : Nat) (xs : List Int) (w : World) (hx : xs.length = n) (hnc : n ≤ c) (hn : n ≤ 1100000)
    (hc1 : ∀ i, i < n → w.cell? ⟨b, o + i, none⟩ = some (.int .u8 (xs.getD i 0))) (hr : ∀ x ∈ xs, 0 ≤ x ∧ x ≤ 255) :
    Calls Try.prog 9 #[.slice (some ⟨b, o, none⟩) n c] w fun e w' => e = .returned (.int .i64 (ikl xs)) ∧ Below w.heap.size w w' := by
  have hA := preB_eq xs keyA hr (by decide)
  have hB := preB_eq xs keyB hr (by decide)
  have eA : keyA.length = 5 := rfl
  have eB : keyB.length = 7 := rfl
  rw [eA] at hA
  rw [eB] at hB
  unfold ikl
  by_cases h1 : xs.take 5 = keyA
  · have h2 : ¬ xs.take 7 = keyB := by
      intro h2
      have := congrArg (fun l => l.take 5) h2
      rw [List.take_take] at this
      simp only [show min 5 7 = 5 from rfl] at this
      rw [h1] at this
      simp [keyA, keyB] at this
    rw [decide_eq_true h1] at hA
    rw [decide_eq_false h2] at hB
    rw [if_pos h1]
    exact ikl_A b o n c xs w hx hnc hn (by have := congrArg List.length h1; simp [keyA] at this; omega) hc1 hA hB
  · rw [decide_eq_false h1] at hA
    rw [if_neg h1]
    by_cases h2 : xs.take 7 = keyB
    · rw [decide_eq_true h2] at hB
      rw [if_pos h2]
      exact ikl_B b o n c xs w hx hnc hn (by have := congrArg List.length h2; simp [keyB] at this; omega) hc1 hA hB
    · rw [decide_eq_false h2] at hB
      rw [if_neg h2]
      exact ikl_none b o n c xs w hx hnc hn hc1 hA hB

set_option maxHeartbeats 400000 in
/-- .. and at the nil slice. -/
theorem ikl_nil (w : World) : Calls Try.prog 9 #[.slice none 0 0] w fun e w' => e = .returned (.int .i64 0) ∧ Below w.heap.size w w' := by
  have hcv := fun w s => run_bytes_of_string (P := Try.prog) w 9 22 5 s Try.underlying9 Try.underlying22 Try.underlying5
  go_enter Try.func9, Try.ntmps9
  go_wp2_with fail
  refine wp_loop_rounds 3 ?_
  rw [rounds_succ]
  go_wp2_with fail
  refine (hasPrefix_nil _ _ _ _ _ (by omega)).mono ?_
  rintro e w1 ⟨rfl, hw⟩
  have hm : Mid w w1 0 0 0 [] := hw ▸ ((mid_start (fun i hi => absurd hi (Nat.not_lt_zero _))).alloc _).drew
  clear hw
  have m0 := hm.c0
  have m1 := hm.c1
  have m2 := hm.size
  go_wp2_with fail
  rw [rounds_succ]
  go_wp2_with fail
  refine (hasPrefix_nil _ _ _ _ _ (by omega)).mono ?_
  rintro e w2 ⟨rfl, hw⟩
  have hm2 : Mid w w2 0 0 0 [] := hw ▸ (hm.alloc _).drew
  clear hw m0 m1 m2
  have m2 := hm2.size
  go_wp2_with fail
  rw [rounds_succ]
  go_wp2_with fail
  go_ret
  exact ⟨rfl, hm2.below⟩

set_option maxHeartbeats 400000 in
theorem zzikl_row (b o n c : Nat) (xs : List Int) (w : World) (hx : xs.length = n) (hnc : n ≤ c) (hn : n ≤ 1100000)
    (hc1 : ∀ i, i < n → w.cell? ⟨b, o + i, none⟩ = some (.int .u8 (xs.getD i 0))) (hr : ∀ x ∈ xs, 0 ≤ x ∧ x ≤ 255) :
    Calls Try.prog 6 #[.slice (some ⟨b, o, none⟩) n c] w fun e w' => e = .returned (.int .i64 (ikl xs)) ∧ Below w.heap.size w w' := by
  go_enter Try.func6, Try.ntmps6
  go_wp2_with (go_at_call 9; refine (ikl_row b o n c xs _ hx hnc hn hc1 hr).mono ?_; rintro e w1 ⟨rfl, hb⟩)
  go_ret
  exact ⟨rfl, hb⟩

set_option maxHeartbeats 400000 in
theorem zzikl_nil (w : World) : Calls Try.prog 6 #[.slice none 0 0] w fun e w' => e = .returned (.int .i64 0) ∧ Below w.heap.size w w' := by
  go_enter Try.func6, Try.ntmps6
  go_wp2_with (go_at_call 9; refine (ikl_nil _).mono ?_; rintro e w1 ⟨rfl, hb⟩)
  go_ret
  exact ⟨rfl, hb⟩
end Go.Proofs.Qxb6604449a
