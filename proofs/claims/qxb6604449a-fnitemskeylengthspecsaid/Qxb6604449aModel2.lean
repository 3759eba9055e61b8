import Derived.Test.Qxb6604449aModel
import Derived.Test.Qxb6604449aPlain2
namespace Go.Proofs.Qxb6604449a
open Go.RowKit
set_option linter.unusedSimpArgs false
set_option linter.unusedVariables false

set_option maxHeartbeats 400000 in
theorem mdl_nocolon (b o n c : Nat) (xs : List Int) (w : World) (hx : xs.length = n) (hnc : n ≤ c) (hn : n ≤ 1100000)
    (hc1 : ∀ i, i < n → w.cell? ⟨b, o + i, none⟩ = some (.int .u8 (xs.getD i 0))) (hcol : ¬ colon xs < n) :
    Calls Try.prog 7 #[.slice (some ⟨b, o, none⟩) n c] w fun e w' => e = .returned (.int .i64 0) ∧ ∃ q, w' = w.drewN q := by
  have HC1 : Hid (∀ i, i < n → w.cell? ⟨b, o + i, none⟩ = some (.int .u8 (xs.getD i 0))) := hc1
  clear hc1
  go_enter Try.func7, Try.ntmps7
  go_wp2_with fail
  go_loop [3, 4] (fun u v => u = .int .i64 (-1) ∧ ∃ k : Nat, k ≤ n ∧ v = .int .i64 (k : Int)) (fun _ v => n - (intOf v).toNat)
  case atStart => exact ⟨rfl, 0, Nat.zero_le _, rfl⟩
  case round =>
    obtain ⟨rfl, k, hk, rfl⟩ := hrel
    by_cases hlt : k < n
    · obtain ⟨z, hz⟩ : ∃ z, z = xs.getD k 0 := ⟨_, rfl⟩
      have hcell : w.cell? ⟨b, o + k, none⟩ = some (.int .u8 z) := by rw [hz]; exact HC1.out _ hlt
      have t1 : (z == 58) = false := by rw [hz, beq_eq_false_iff_ne]; exact colon_ne xs k (by omega)
      clear hz
      go_wp2_with fail
      go_round
      case rel => exact ⟨rfl, k + 1, by omega, by go_num⟩
      case measure => simp [intOf]; omega
    · go_wp2_with fail
      go_ret
      exact ⟨rfl, 0, rfl⟩

theorem rowTake {w : World} {b o n e : Nat} {xs : List Int} (h : ∀ i, i < n → w.cell? ⟨b, o + i, none⟩ = some (.int .u8 (xs.getD i 0))) (he : e ≤ n) :
    ∀ i, i < e → w.cell? ⟨b, o + i, none⟩ = some (.int .u8 ((xs.take e).getD i 0)) := by
  intro i hi
  rw [h i (by omega)]
  simp [List.getD, hi]

set_option maxHeartbeats 1000000 in
theorem mdl_colon (b o n c : Nat) (xs : List Int) (w : World) (hx : xs.length = n) (hnc : n ≤ c) (hn : n ≤ 1100000)
    (hc1 : ∀ i, i < n → w.cell? ⟨b, o + i, none⟩ = some (.int .u8 (xs.getD i 0))) (hcol : colon xs < n) :
    Calls Try.prog 7 #[.slice (some ⟨b, o, none⟩) n c] w fun e w' => e = .returned (.int .i64 (if xs.take (stripEnd xs (colon xs)) = keyA ∨ xs.take (stripEnd xs (colon xs)) = keyB then (colon xs : Int) + 1 else 0)) ∧ ∃ q, w' = w.drewN q := by
  obtain ⟨cl, hcl⟩ : ∃ cl, cl = colon xs := ⟨_, rfl⟩
  obtain ⟨st, hst⟩ : ∃ st, st = stripEnd xs cl := ⟨_, rfl⟩
  rw [← hcl, ← hst]
  rw [← hcl] at hcol
  have hsl : st ≤ cl := by rw [hst]; exact strip_le xs cl
  have HC : Hid (cl = colon xs ∧ st = stripEnd xs cl) := ⟨hcl, hst⟩
  clear hcl hst
  obtain ⟨r, hr⟩ : ∃ r : Int, r = if xs.take st = keyA ∨ xs.take st = keyB then (cl : Int) + 1 else 0 := ⟨_, rfl⟩
  rw [← hr]
  have HR : Hid (r = if xs.take st = keyA ∨ xs.take st = keyB then (cl : Int) + 1 else 0) := hr
  clear hr
  have HC1 : Hid (∀ i, i < n → w.cell? ⟨b, o + i, none⟩ = some (.int .u8 (xs.getD i 0))) := hc1
  clear hc1
  go_enter Try.func7, Try.ntmps7
  go_wp2_with fail
  go_loop [4] (fun v => ∃ k : Nat, k ≤ cl ∧ v = .int .i64 (k : Int)) (fun v => n - (intOf v).toNat)
  case atStart => exact ⟨0, Nat.zero_le _, rfl⟩
  case round =>
    obtain ⟨k, hk, rfl⟩ := hrel
    obtain ⟨z, hz⟩ : ∃ z, z = xs.getD k 0 := ⟨_, rfl⟩
    have hcell : w.cell? ⟨b, o + k, none⟩ = some (.int .u8 z) := by rw [hz]; exact HC1.out _ (by omega)
    by_cases hlt : k < cl
    · have t1 : (z == 58) = false := by rw [hz, beq_eq_false_iff_ne]; exact colon_ne xs k (by rw [← HC.out.1]; exact hlt)
      clear hz
      go_wp2_with fail
      go_round
      case rel => exact ⟨k + 1, by omega, by go_num⟩
      case measure => simp [intOf]; omega
    · have hk' : cl = k := by omega
      subst hk'
      have t1 : (z == 58) = true := by
        rw [hz, beq_iff_eq, HC.out.1]
        exact colon_at xs (by rw [← HC.out.1]; omega)
      clear hz
      go_wp2_with fail
      clear hcell
      go_loop [5] (fun v => ∃ e : Nat, e ≤ cl ∧ v = .int .i64 (e : Int) ∧ stripEnd xs e = st) (fun v => (intOf v).toNat)
      case atStart => exact ⟨cl, Nat.le_refl _, rfl, HC.out.2.symm⟩
      case round =>
        obtain ⟨e, he, rfl, hse⟩ := hrel
        have HS : Hid (stripEnd xs e = st) := hse
        clear hse
        by_cases h0 : 0 < e
        · obtain ⟨e', rfl⟩ : ∃ e', e = e' + 1 := ⟨e - 1, by omega⟩
          obtain ⟨y, hy⟩ : ∃ y, y = xs.getD e' 0 := ⟨_, rfl⟩
          have hcell : w.cell? ⟨b, o + e', none⟩ = some (.int .u8 y) := by rw [hy]; exact HC1.out _ (by omega)
          by_cases h32 : y = 32
          · have HS' : Hid (stripEnd xs e' = st) := by
              have := HS.out
              rw [stripEnd, if_pos (by rw [← hy, h32]; rfl)] at this
              exact this
            have t2 : (y == 32) = true := by simp [h32]
            clear h32 hy
            go_wp2_with fail
            go_round
            case rel => exact ⟨e', by omega, by go_num, HS'.out⟩
            case measure => simp [intOf]
          · by_cases h9 : y = 9
            · have HS' : Hid (stripEnd xs e' = st) := by
                have := HS.out
                rw [stripEnd, if_pos (by rw [← hy, h9]; rfl)] at this
                exact this
              have t2 : (y == 32) = false := by simp [h32]
              have t3 : (y == 9) = true := by simp [h9]
              clear h32 h9 hy
              go_wp2_with fail
              go_round
              case rel => exact ⟨e', by omega, by go_num, HS'.out⟩
              case measure => simp [intOf]
            · have hst : st = e' + 1 := by
                have := HS.out
                rw [stripEnd, if_neg (by rw [← hy]; simp [isWs, h32, h9])] at this
                exact this.symm
              have t2 : (y == 32) = false := by simp [h32]
              have t3 : (y == 9) = false := by simp [h9]
              clear h32 h9 hy
              subst hst
              go_wp2_with fail
              by_cases kA : xs.take (e' + 1) = keyA
              · refine (same_text b o _ c (xs.take (e' + 1)) ⟨#[105, 116, 101, 109, 115]⟩ keyA w (by first | (simp; done) | (simp; omega)) (by decide) rfl (rowTake HC1.out (by omega)) (by omega)).mono ?_
                rintro e1 w1 ⟨rfl, q, hw⟩
                subst hw
                rw [decide_eq_true kA]
                go_wp2_with fail
                go_ret
                exact ⟨by (rw [HR.out, if_pos (.inl kA)]; rfl), q, rfl⟩
              · refine (same_text b o _ c (xs.take (e' + 1)) ⟨#[105, 116, 101, 109, 115]⟩ keyA w (by first | (simp; done) | (simp; omega)) (by decide) rfl (rowTake HC1.out (by omega)) (by omega)).mono ?_
                rintro e1 w1 ⟨rfl, q, hw⟩
                subst hw
                rw [decide_eq_false kA]
                by_cases kB : xs.take (e' + 1) = keyB
                · go_wp2_with fail
                  refine (same_text b o _ c (xs.take (e' + 1)) ⟨#[34, 105, 116, 101, 109, 115, 34]⟩ keyB (w.drewN q) (by first | (simp; done) | (simp; omega)) (by decide) rfl (rowTake HC1.out (by omega)) (by omega)).mono ?_
                  rintro e1 w1 ⟨rfl, q2, hw⟩
                  subst hw
                  rw [decide_eq_true kB]
                  go_wp2_with fail
                  go_ret
                  exact ⟨by (rw [HR.out, if_pos (.inr kB)]; rfl), q + q2, by first | rfl | simp⟩
                · go_wp2_with fail
                  refine (same_text b o _ c (xs.take (e' + 1)) ⟨#[34, 105, 116, 101, 109, 115, 34]⟩ keyB (w.drewN q) (by first | (simp; done) | (simp; omega)) (by decide) rfl (rowTake HC1.out (by omega)) (by omega)).mono ?_
                  rintro e1 w1 ⟨rfl, q2, hw⟩
                  subst hw
                  rw [decide_eq_false kB]
                  go_wp2_with fail
                  go_ret
                  exact ⟨by (rw [HR.out, if_neg (fun h => h.elim kA kB)]; rfl), q + q2, by first | rfl | simp⟩
        · have hst : st = 0 := by
            have := HS.out
            rw [show e = 0 by omega] at this
            exact this.symm
          obtain rfl : e = 0 := by omega
          subst hst
          go_wp2_with fail
          by_cases kA : xs.take (0) = keyA
          · refine (same_text b o _ c (xs.take (0)) ⟨#[105, 116, 101, 109, 115]⟩ keyA w (by first | (simp; done) | (simp; omega)) (by decide) rfl (rowTake HC1.out (by omega)) (by omega)).mono ?_
            rintro e1 w1 ⟨rfl, q, hw⟩
            subst hw
            rw [decide_eq_true kA]
            go_wp2_with fail
            go_ret
            exact ⟨by (rw [HR.out, if_pos (.inl kA)]; rfl), q, rfl⟩
          · refine (same_text b o _ c (xs.take (0)) ⟨#[105, 116, 101, 109, 115]⟩ keyA w (by first | (simp; done) | (simp; omega)) (by decide) rfl (rowTake HC1.out (by omega)) (by omega)).mono ?_
            rintro e1 w1 ⟨rfl, q, hw⟩
            subst hw
            rw [decide_eq_false kA]
            by_cases kB : xs.take (0) = keyB
            · go_wp2_with fail
              refine (same_text b o _ c (xs.take (0)) ⟨#[34, 105, 116, 101, 109, 115, 34]⟩ keyB (w.drewN q) (by first | (simp; done) | (simp; omega)) (by decide) rfl (rowTake HC1.out (by omega)) (by omega)).mono ?_
              rintro e1 w1 ⟨rfl, q2, hw⟩
              subst hw
              rw [decide_eq_true kB]
              go_wp2_with fail
              go_ret
              exact ⟨by (rw [HR.out, if_pos (.inr kB)]; rfl), q + q2, by first | rfl | simp⟩
            · go_wp2_with fail
              refine (same_text b o _ c (xs.take (0)) ⟨#[34, 105, 116, 101, 109, 115, 34]⟩ keyB (w.drewN q) (by first | (simp; done) | (simp; omega)) (by decide) rfl (rowTake HC1.out (by omega)) (by omega)).mono ?_
              rintro e1 w1 ⟨rfl, q2, hw⟩
              subst hw
              rw [decide_eq_false kB]
              go_wp2_with fail
              go_ret
              exact ⟨by (rw [HR.out, if_neg (fun h => h.elim kA kB)]; rfl), q + q2, by first | rfl | simp⟩

/-- THE CONTRACT of 'zzItemsKeyModel' at a row. -/
theorem mdl_row (b o n c : Nat) (xs : List Int) (w : World) (hx : xs.length = n) (hnc : n ≤ c) (hn : n ≤ 1100000)
    (hc1 : ∀ i, i < n → w.cell? ⟨b, o + i, none⟩ = some (.int .u8 (xs.getD i 0))) :
    Calls Try.prog 7 #[.slice (some ⟨b, o, none⟩) n c] w fun e w' => e = .returned (.int .i64 (mdl xs)) ∧ ∃ q, w' = w.drewN q := by
  unfold mdl
  by_cases h : colon xs < n
  · rw [if_pos (by omega)]
    exact mdl_colon b o n c xs w hx hnc hn hc1 h
  · rw [if_neg (by omega)]
    exact mdl_nocolon b o n c xs w hx hnc hn hc1 h

set_option maxHeartbeats 400000 in
theorem mdl_nil (w : World) : Calls Try.prog 7 #[.slice none 0 0] w fun e w' => e = .returned (.int .i64 0) ∧ w' = w := by
  go_enter Try.func7, Try.ntmps7
  go_wp2_with fail
  refine wp_loop_rounds 1 ?_
  rw [rounds_succ]
  go_wp2_with fail
  go_ret
  exact ⟨rfl, rfl⟩
end Go.Proofs.Qxb6604449a
