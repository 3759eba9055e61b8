import Derived.Test.Qxb6603645aSymD
namespace Go.Proofs.Qxb6603645a
open Go.RowKit
set_option linter.unusedSimpArgs false
set_option linter.unusedVariables false

set_option maxRecDepth 100000 in
set_option maxHeartbeats 400000 in
/-- 'stable'. -/
theorem stable_any (g cap : Nat) (L : List Mb) (N : Nat) (w : World) (hH : Held w g L) (hN : L.length = N) (hN2 : N ≤ 4096) :
    Calls Try.prog 36 #[.slice (some ⟨g, 0, none⟩) N cap, .int .i64 (N : Int), cmpF] w fun e w' => e = .returned (.tuple #[]) ∧ (∃ M, Held w' g M ∧ Srt M ∧ Same L M) ∧ Fr g w w' := by
  have H0 : Hid (Stage (Part 0) L g N w) := stage_start hH hN
  clear hH hN
  unfold cmpF
  go_enter Try.func36, Try.ntmps36
  go_wp2_with fail
  go_loopw [7, 8] (fun av bv wr => ∃ a b : Nat, av = .int .i64 (a : Int) ∧ bv = .int .i64 (b : Int) ∧ a ≤ N ∧ (b ≤ a + 20 ∧ a + 20 ≤ b) ∧ Stage (Part a) L g N wr ∧ Fr g w wr) (fun _ bv _ => N + 1 - (intOf bv).toNat)
  case atStart => exact ⟨0, 20, rfl, rfl, Nat.zero_le _, ⟨by omega, by omega⟩, H0.out, Fr.refl _ _⟩
  case round =>
    clear H0
    obtain ⟨a, b, rfl, rfl, h1, h2, h3, hf⟩ := hrel
    by_cases hb : b ≤ N
    · have t : (b : Int) ≤ (N : Int) := by omega
      have D : Hid _ := stage_block (cap := cap) h3 hN2 (by omega) hb
      unfold cmpF at D
      clear h3
      go_wp2_with fail
      refine Calls.mono D.out ?_
      rintro e w1 ⟨rfl, q1, q2⟩
      go_wp2_with fail
      go_roundw
      case rel => exact ⟨b, b + 20, rfl, by go_num, hb, ⟨Nat.le_refl _, Nat.le_refl _⟩, q1, hf.trans q2⟩
      case measure => simp [intOf]; omega
    · have t : ¬ (b : Int) ≤ (N : Int) := by omega
      have D : Hid _ := stage_rest (cap := cap) h3 hN2 h1 (by omega)
      unfold cmpF at D
      clear h3
      go_wp2_with fail
      refine Calls.mono D.out ?_
      rintro e w1 ⟨rfl, q1, q2⟩
      have HS : Hid (Stage (Laid 20) L g N w1) := q1
      have hf1 : Fr g w w1 := hf.trans q2
      clear q1 q2 D hf t hb h1 h2
      go_wp2_with fail
      go_loopw [6, 7, 8, 9] (fun sv _ _ _ wr => ∃ bs : Nat, sv = .int .i64 (bs : Int) ∧ 0 < bs ∧ bs ≤ 16384 ∧ Stage (Laid bs) L g N wr ∧ Fr g w wr) (fun sv _ _ _ _ => N + 1 - (intOf sv).toNat)
      case atStart => exact ⟨20, rfl, by omega, by omega, HS.out, hf1⟩
      case round =>
        clear HS hf1
        obtain ⟨bs, rfl, k1, k2, k3, kf⟩ := hrel
        by_cases hbs : bs < N
        · have t : (bs : Int) < (N : Int) := by omega
          have HS : Hid (Stage (Half bs 0) L g N wr) := by
            obtain ⟨M, m1, m2, m3, m4⟩ := k3
            exact ⟨M, laid_half m1, m2, m3, m4⟩
          clear k3
          go_wp2_with fail
          go_loopw [7, 8] (fun av bv wr => ∃ a b : Nat, av = .int .i64 (a : Int) ∧ bv = .int .i64 (b : Int) ∧ a ≤ N ∧ (b ≤ a + 2 * bs ∧ a + 2 * bs ≤ b) ∧ Stage (Half bs a) L g N wr ∧ Fr g w wr) (fun _ bv _ => N + 1 - (intOf bv).toNat)
          case atStart => exact ⟨0, 2 * bs, rfl, by go_num, Nat.zero_le _, ⟨by omega, by omega⟩, HS.out, kf⟩
          case round =>
            clear HS kf
            obtain ⟨a, b, rfl, rfl, h1, ⟨h2, h2'⟩, h3, hf⟩ := hrel
            by_cases hb : b ≤ N
            · have t2 : (b : Int) ≤ (N : Int) := by omega
              obtain ⟨m, hm⟩ : ∃ m : Nat, (a : Int) + (bs : Int) = (m : Int) := ⟨a + bs, by omega⟩
              have D : Hid _ := stage_merge (cap := cap) (m := m) h3 hN2 k1 (by omega) (by omega) hb
              unfold cmpF at D
              have hw : IntKind.i64.wrap (m : Int) = (m : Int) := wrap_small (by omega) (by omega)
              clear h3
              go_wp2_with fail
              refine Calls.mono D.out ?_
              rintro e w1 ⟨rfl, q1, q2⟩
              go_wp2_with fail
              go_roundw
              case rel => exact ⟨b, b + 2 * bs, rfl, by go_num, hb, ⟨Nat.le_refl _, Nat.le_refl _⟩, q1, hf.trans q2⟩
              case measure => simp [intOf]; omega
            · have t2 : ¬ (b : Int) ≤ (N : Int) := by omega
              obtain ⟨m, hm⟩ : ∃ m : Nat, (a : Int) + (bs : Int) = (m : Int) := ⟨a + bs, by omega⟩
              have hw : IntKind.i64.wrap (m : Int) = (m : Int) := wrap_small (by omega) (by omega)
              by_cases hmN : m < N
              · have t3 : (m : Int) < (N : Int) := by omega
                have D : Hid _ := stage_tail (cap := cap) (m := m) h3 hN2 k1 (by omega) (by omega) hmN
                unfold cmpF at D
                clear h3
                go_wp2_with fail
                refine Calls.mono D.out ?_
                rintro e w1 ⟨rfl, q1, q2⟩
                go_wp2_with fail
                go_roundw
                case rel => exact ⟨2 * bs, by go_num, by omega, by omega, q1, hf.trans q2⟩
                case measure => simp [intOf]; omega
              · have t3 : ¬ (m : Int) < (N : Int) := by omega
                have HS : Hid (Stage (Laid (2 * bs)) L g N wr) := by
                  obtain ⟨M, m1, m2, m3, m4⟩ := h3
                  exact ⟨M, half_laid m1 (by omega), m2, m3, m4⟩
                clear h3
                go_wp2_with fail
                go_roundw
                case rel => exact ⟨2 * bs, by go_num, by omega, by omega, HS.out, hf⟩
                case measure => simp [intOf]; omega
        · have t : ¬ (bs : Int) < (N : Int) := by omega
          have HS : Hid (∃ M, Held wr g M ∧ Srt M ∧ Same L M) := by
            obtain ⟨M, m1, m2, m3, m4⟩ := k3
            exact ⟨M, m2, laid_srt m1 (by omega), m3⟩
          clear k3
          go_wp2_with fail
          go_end0
          exact ⟨rfl, HS.out, kf⟩
end Go.Proofs.Qxb6603645a
