import Derived.Test.Qxb6604449aPrefix
import Derived.Test.Qxb6604449aPlain
import Derived.Laws.IdiomStrings
namespace Go.Proofs.Qxb6604449a
open Go.RowKit
set_option linter.unusedSimpArgs false
set_option linter.unusedVariables false

/-- Does the text open with the key? as 'bytes.HasPrefix' has it. -/
def preB (xs k : List Int) : Bool := Lib.hasPrefix (Lib.bytesOf xs) (Lib.bytesOf k)

theorem bytesRow_cell (w : World) (s : ByteArray) (k : Nat) (fr : Nat × Nat) (ys : List Int) (h : s.data.toList.map (fun b => (b.toNat : Int)) = ys) :
    ∀ i, i < ys.length → (w.alloc (.cells (bytesRow s k) 5 fr)).cell? ⟨w.heap.size, 0 + i, none⟩ = some (.int .u8 (ys.getD i 0)) := by
  intro i hi
  subst h
  rw [World.cell?_alloc_mark]
  simp at hi
  unfold bytesRow
  rw [Array.getElem?_append_left (by simpa using hi)]
  simp [List.getD, hi]

/-- What the walk knows of the world at each round. -/
structure Mid (w w1 : World) (b o n : Nat) (xs : List Int) : Prop where
  below : Below w.heap.size w w1
  size : w.heap.size < w1.heap.size
  c0 : w1.cell? ⟨w.heap.size, 0, none⟩ = some (.string ⟨#[105, 116, 101, 109, 115]⟩)
  c1 : w1.cell? ⟨w.heap.size, 1, none⟩ = some (.string ⟨#[34, 105, 116, 101, 109, 115, 34]⟩)
  row : ∀ i, i < n → w1.cell? ⟨b, o + i, none⟩ = some (.int .u8 (xs.getD i 0))

theorem Mid.alloc {w w1 : World} {b o n : Nat} {xs : List Int} (h : Mid w w1 b o n xs) (ob : Obj) : Mid w (w1.alloc ob) b o n xs where
  below := h.below.alloc (Nat.le_of_lt h.size) ob
  size := by have := h.size; simp; omega
  c0 := by rw [World.cell?_alloc_lt _ _ _ (by simpa using h.size)]; exact h.c0
  c1 := by rw [World.cell?_alloc_lt _ _ _ (by simpa using h.size)]; exact h.c1
  row := fun i hi => by rw [World.cell?_alloc_lt _ _ _ (block_lt_of_cell (h.row i hi))]; exact h.row i hi

theorem Mid.drew {w w1 : World} {b o n : Nat} {xs : List Int} (h : Mid w w1 b o n xs) : Mid w w1.drew b o n xs where
  below := h.below.drew
  size := h.size
  c0 := h.c0
  c1 := h.c1
  row := h.row

/-- The call of 'bytes.HasPrefix' at '[]byte(key)'. -/
theorem pre_mid {w w1 : World} {b o n : Nat} {xs : List Int} (hm : Mid w w1 b o n xs) (hx : xs.length = n) (c : Nat) (hnc : n ≤ c) (s : ByteArray) (key : List Int)
    (hs : s.data.toList.map (fun b => (b.toNat : Int)) = key) (g m k k' : Nat) (fr : Nat × Nat) (hg : g = w1.heap.size) (hk : key.length = m) :
    Calls Try.prog 11 #[.slice (some ⟨b, o, none⟩) n c, .slice (some ⟨g, 0, none⟩) m k'] (w1.alloc (.cells (bytesRow s k) 5 fr)).drew
      fun e w' => e = .returned (.bool (preB xs key)) ∧ Mid w w' b o n xs := by
  subst hg
  refine (hasPrefix_any b o n c w1.heap.size 0 m k' xs key _ hx hk hnc ?_ ?_).mono ?_
  · exact ((hm.alloc _).drew).row
  · intro i hi
    exact bytesRow_cell w1 s k fr key hs i (by omega)
  · rintro e w' ⟨rfl, rfl⟩
    exact ⟨rfl, (hm.alloc _).drew⟩

theorem mid_start {b o n : Nat} {xs : List Int} {w : World} (hc1 : ∀ i, i < n → w.cell? ⟨b, o + i, none⟩ = some (.int .u8 (xs.getD i 0))) :
    Mid w (w.alloc (.cells #[.string ⟨#[105, 116, 101, 109, 115]⟩, .string ⟨#[34, 105, 116, 101, 109, 115, 34]⟩] 9)) b o n xs where
  below := (Below.refl _ _).alloc (Nat.le_refl _) _
  size := by simp
  c0 := by rw [World.cell?_alloc_at (w := w) _ _ _ _ rfl]; rfl
  c1 := by rw [World.cell?_alloc_at (w := w) _ _ _ _ rfl]; rfl
  row := fun i hi => by rw [World.cell?_alloc_lt _ _ _ (block_lt_of_cell (hc1 i hi))]; exact hc1 i hi

set_option maxHeartbeats 400000 in
theorem ikl_none (b o n c : Nat) (xs : List Int) (w : World) (hx : xs.length = n) (hnc : n ≤ c) (hn : n ≤ 1100000)
    (hc1 : ∀ i, i < n → w.cell? ⟨b, o + i, none⟩ = some (.int .u8 (xs.getD i 0))) (hA : preB xs keyA = false) (hB : preB xs keyB = false) :
    Calls Try.prog 9 #[.slice (some ⟨b, o, none⟩) n c] w fun e w' => e = .returned (.int .i64 0) ∧ Below w.heap.size w w' := by
  have hcv := fun w s => run_bytes_of_string (P := Try.prog) w 9 22 5 s Try.underlying9 Try.underlying22 Try.underlying5
  go_enter Try.func9, Try.ntmps9
  go_wp2_with fail
  refine wp_loop_rounds 3 ?_
  rw [rounds_succ]
  go_wp2_with fail
  refine (pre_mid (mid_start hc1) hx c hnc _ keyA rfl _ _ _ _ _ (by simp) rfl).mono ?_
  rintro e w1 ⟨rfl, hm⟩
  have m0 := hm.c0
  have m1 := hm.c1
  have m2 := hm.size
  rw [hA]
  go_wp2_with fail
  rw [rounds_succ]
  go_wp2_with fail
  refine (pre_mid hm hx c hnc _ keyB rfl _ _ _ _ _ rfl rfl).mono ?_
  clear m0 m1 m2
  rintro e w2 ⟨rfl, hm2⟩
  have m0 := hm2.c0
  have m1 := hm2.c1
  have m2 := hm2.size
  rw [hB]
  go_wp2_with fail
  rw [rounds_succ]
  go_wp2_with fail
  go_ret
  exact ⟨rfl, hm2.below⟩

theorem tail_yes (xs : List Int) (k j : Nat) (hj : j ≤ wsFrom xs k) (hl : k + j < xs.length) (z : Int) (hz : z = xs.getD (k + j) 0) (h58 : z = 58) : tailAt xs k = ((k + j : Nat) : Int) + 1 := by
  have e := wsFrom_stop xs k j hj (fun _ => by rw [← hz, h58]; rfl)
  unfold tailAt
  rw [← e, if_pos]
  subst hz
  simp [List.getD, hl] at h58 ⊢
  exact h58

theorem tail_no (xs : List Int) (k j : Nat) (hj : j ≤ wsFrom xs k) (z : Int) (hz : z = xs.getD (k + j) 0) (h32 : z ≠ 32) (h9 : z ≠ 9) (h58 : z ≠ 58) : tailAt xs k = 0 := by
  have e := wsFrom_stop xs k j hj (fun _ => by rw [← hz]; simp [isWs, h32, h9])
  unfold tailAt
  rw [← e, if_neg]
  intro h
  apply h58
  rw [hz, List.getD, h]
  rfl

theorem tail_end (xs : List Int) (k j : Nat) (hj : j ≤ wsFrom xs k) (hl : xs.length ≤ k + j) : tailAt xs k = 0 := by
  have e := wsFrom_stop xs k j hj (fun h => by omega)
  unfold tailAt
  rw [← e, if_neg]
  intro h
  rw [List.getElem?_eq_none hl] at h
  cases h

set_option maxHeartbeats 1000000 in
theorem ikl_A (b o n c : Nat) (xs : List Int) (w : World) (hx : xs.length = n) (hnc : n ≤ c) (hn : n ≤ 1100000) (h5 : 5 ≤ n)
    (hc1 : ∀ i, i < n → w.cell? ⟨b, o + i, none⟩ = some (.int .u8 (xs.getD i 0))) (hA : preB xs keyA = true) (hB : preB xs keyB = false) :
    Calls Try.prog 9 #[.slice (some ⟨b, o, none⟩) n c] w fun e w' => e = .returned (.int .i64 (tailAt xs 5)) ∧ Below w.heap.size w w' := by
  have hcv := fun w s => run_bytes_of_string (P := Try.prog) w 9 22 5 s Try.underlying9 Try.underlying22 Try.underlying5
  go_enter Try.func9, Try.ntmps9
  go_wp2_with fail
  refine wp_loop_rounds 3 ?_
  rw [rounds_succ]
  go_wp2_with fail
  refine (pre_mid (mid_start hc1) hx c hnc _ keyA rfl _ _ _ _ _ (by simp) rfl).mono ?_
  rintro e w1 ⟨rfl, hm⟩
  have m0 := hm.c0
  have m1 := hm.c1
  have m2 := hm.size
  rw [hA]
  go_wp2_with fail
  have hwl := wsFrom_le xs 5 (by omega)
  go_loop [5] (fun v => ∃ j : Nat, j ≤ wsFrom xs 5 ∧ v = .int .i64 ((5 + j : Nat) : Int)) (fun v => n - (intOf v).toNat)
  case atStart => exact ⟨0, Nat.zero_le _, rfl⟩
  case round =>
    obtain ⟨j, hj, rfl⟩ := hrel
    by_cases hlt : 5 + j < n
    · obtain ⟨z, hz⟩ : ∃ z, z = xs.getD (5 + j) 0 := ⟨_, rfl⟩
      have hcell : w1.cell? ⟨b, o + (5 + j), none⟩ = some (.int .u8 z) := by rw [hz]; exact hm.row _ hlt
      have HZ : Hid (z = xs.getD (5 + j) 0) := hz
      clear hz
      by_cases h32 : z = 32
      · have h := wsFrom_step xs 5 j hj (by omega) (by rw [← HZ.out, h32]; rfl)
        have t1 : (z == 32) = true := by simp [h32]
        clear h32
        go_wp2_with fail
        go_round
        case rel => exact ⟨j + 1, h, by go_num⟩
        case measure => simp [intOf]; omega
      · by_cases h9 : z = 9
        · have h := wsFrom_step xs 5 j hj (by omega) (by rw [← HZ.out, h9]; rfl)
          have t1 : (z == 32) = false := by simp [h32]
          have t2 : (z == 9) = true := by simp [h9]
          clear h9 h32
          go_wp2_with fail
          go_round
          case rel => exact ⟨j + 1, h, by go_num⟩
          case measure => simp [intOf]; omega
        · have t1 : (z == 32) = false := by simp [h32]
          have t2 : (z == 9) = false := by simp [h9]
          by_cases h58 : z = 58
          · have t3 : (z == 58) = true := by simp [h58]
            have E := tail_yes xs 5 j hj (by omega) z HZ.out h58
            have HE : Hid (tailAt xs 5 = ((5 + j : Nat) : Int) + 1) := E
            clear h9 h32 h58 E
            go_wp2_with fail
            go_ret
            exact ⟨by rw [HE.out]; simp, hm.below⟩
          · have t3 : (z == 58) = false := by simp [h58]
            have HE : Hid (tailAt xs 5 = 0) := tail_no xs 5 j hj z HZ.out h32 h9 h58
            clear h9 h32 h58
            go_wp2_with fail
            rw [rounds_succ]
            go_wp2_with fail
            refine (pre_mid hm hx c hnc _ keyB rfl _ _ _ _ _ rfl rfl).mono ?_
            clear m0 m1 m2
            rintro e w2 ⟨rfl, hm2⟩
            have m0 := hm2.c0
            have m1 := hm2.c1
            have m2 := hm2.size
            rw [hB]
            go_wp2_with fail
            rw [rounds_succ]
            go_wp2_with fail
            go_ret
            exact ⟨by rw [HE.out]; rfl, hm2.below⟩
    · have HE : Hid (tailAt xs 5 = 0) := tail_end xs 5 j hj (by omega)
      go_wp2_with fail
      rw [rounds_succ]
      go_wp2_with fail
      refine (pre_mid hm hx c hnc _ keyB rfl _ _ _ _ _ rfl rfl).mono ?_
      clear m0 m1 m2
      rintro e w2 ⟨rfl, hm2⟩
      have m0 := hm2.c0
      have m1 := hm2.c1
      have m2 := hm2.size
      rw [hB]
      go_wp2_with fail
      rw [rounds_succ]
      go_wp2_with fail
      go_ret
      exact ⟨by rw [HE.out]; rfl, hm2.below⟩

set_option maxHeartbeats 1000000 in
theorem ikl_B (b o n c : Nat) (xs : List Int) (w : World) (hx : xs.length = n) (hnc : n ≤ c) (hn : n ≤ 1100000) (h5 : 7 ≤ n)
    (hc1 : ∀ i, i < n → w.cell? ⟨b, o + i, none⟩ = some (.int .u8 (xs.getD i 0))) (hA : preB xs keyA = false) (hB : preB xs keyB = true) :
    Calls Try.prog 9 #[.slice (some ⟨b, o, none⟩) n c] w fun e w' => e = .returned (.int .i64 (tailAt xs 7)) ∧ Below w.heap.size w w' := by
  have hcv := fun w s => run_bytes_of_string (P := Try.prog) w 9 22 5 s Try.underlying9 Try.underlying22 Try.underlying5
  go_enter Try.func9, Try.ntmps9
  go_wp2_with fail
  refine wp_loop_rounds 3 ?_
  rw [rounds_succ]
  go_wp2_with fail
  refine (pre_mid (mid_start hc1) hx c hnc _ keyA rfl _ _ _ _ _ (by simp) rfl).mono ?_
  rintro e w1 ⟨rfl, hm⟩
  have m0 := hm.c0
  have m1 := hm.c1
  have m2 := hm.size
  rw [hA]
  go_wp2_with fail
  rw [rounds_succ]
  go_wp2_with fail
  refine (pre_mid hm hx c hnc _ keyB rfl _ _ _ _ _ rfl rfl).mono ?_
  clear m0 m1 m2
  rintro e w2 ⟨rfl, hm2⟩
  have m0 := hm2.c0
  have m1 := hm2.c1
  have m2 := hm2.size
  rw [hB]
  go_wp2_with fail
  have hwl := wsFrom_le xs 7 (by omega)
  go_loop [5] (fun v => ∃ j : Nat, j ≤ wsFrom xs 7 ∧ v = .int .i64 ((7 + j : Nat) : Int)) (fun v => n - (intOf v).toNat)
  case atStart => exact ⟨0, Nat.zero_le _, rfl⟩
  case round =>
    obtain ⟨j, hj, rfl⟩ := hrel
    by_cases hlt : 7 + j < n
    · obtain ⟨z, hz⟩ : ∃ z, z = xs.getD (7 + j) 0 := ⟨_, rfl⟩
      have hcell : w2.cell? ⟨b, o + (7 + j), none⟩ = some (.int .u8 z) := by rw [hz]; exact hm2.row _ hlt
      have HZ : Hid (z = xs.getD (7 + j) 0) := hz
      clear hz
      by_cases h32 : z = 32
      · have h := wsFrom_step xs 7 j hj (by omega) (by rw [← HZ.out, h32]; rfl)
        have t1 : (z == 32) = true := by simp [h32]
        clear h32
        go_wp2_with fail
        go_round
        case rel => exact ⟨j + 1, h, by go_num⟩
        case measure => simp [intOf]; omega
      · by_cases h9 : z = 9
        · have h := wsFrom_step xs 7 j hj (by omega) (by rw [← HZ.out, h9]; rfl)
          have t1 : (z == 32) = false := by simp [h32]
          have t2 : (z == 9) = true := by simp [h9]
          clear h9 h32
          go_wp2_with fail
          go_round
          case rel => exact ⟨j + 1, h, by go_num⟩
          case measure => simp [intOf]; omega
        · have t1 : (z == 32) = false := by simp [h32]
          have t2 : (z == 9) = false := by simp [h9]
          by_cases h58 : z = 58
          · have t3 : (z == 58) = true := by simp [h58]
            have E := tail_yes xs 7 j hj (by omega) z HZ.out h58
            have HE : Hid (tailAt xs 7 = ((7 + j : Nat) : Int) + 1) := E
            clear h9 h32 h58 E
            go_wp2_with fail
            go_ret
            exact ⟨by rw [HE.out]; simp, hm2.below⟩
          · have t3 : (z == 58) = false := by simp [h58]
            have HE : Hid (tailAt xs 7 = 0) := tail_no xs 7 j hj z HZ.out h32 h9 h58
            clear h9 h32 h58
            go_wp2_with fail
            rw [rounds_succ]
            go_wp2_with fail
            go_ret
            exact ⟨by rw [HE.out]; rfl, hm2.below⟩
    · have HE : Hid (tailAt xs 7 = 0) := tail_end xs 7 j hj (by omega)
      go_wp2_with fail
      rw [rounds_succ]
      go_wp2_with fail
      go_ret
      exact ⟨by rw [HE.out]; rfl, hm2.below⟩

end Go.Proofs.Qxb6604449a
