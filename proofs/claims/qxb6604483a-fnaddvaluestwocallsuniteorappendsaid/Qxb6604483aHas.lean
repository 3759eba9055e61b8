import Derived.Test.Qxb6604483aTerms
namespace Go.Proofs.Qxb6604483a
open Go.RowKit
set_option linter.unusedSimpArgs false
set_option linter.unusedVariables false

set_option maxHeartbeats 400000 in
theorem has_any (a : Option Addr) (n c : Nat) (t : Tm) (w : World) :
    Calls Try.prog 65 #[.agg #[.bool true, .slice a n c], tmV t] w fun e w' => e = .returned (.bool true) ∧ Below w.heap.size w w' := by
  unfold tmV
  go_enter Try.func65, Try.ntmps65
  go_wp2
  go_ret
  exact ⟨rfl, (balloc _ _).alloc (by simp) _⟩

set_option maxRecDepth 100000 in
set_option maxHeartbeats 1000000 in
theorem has_terms (lo hi : Nat) (a : Option Addr) (n c : Nat) (ts : List Tm) (t : Tm) (w : World) (hhi : hi ≤ w.heap.size) (h : TsIn lo hi w a n ts) (hm : n ≤ 3000000) :
    Calls Try.prog 65 #[.agg #[.bool false, .slice a n c], tmV t] w fun e w' => e = .returned (.bool (hasB ts t)) ∧ Below w.heap.size w w' := by
  obtain ⟨k0, n0, s0⟩ := t
  unfold tmV
  obtain ⟨w0, hw0⟩ : ∃ w0, w0 = (w.alloc (.cells #[.bool false, .slice a n c] 63)).alloc (.cells #[.int .u8 k0, .int .i32 n0, .string s0] 86) := ⟨_, rfl⟩
  have hb0 : Below w.heap.size w w0 := by rw [hw0]; exact (balloc _ _).alloc (by simp) _
  have hs0 : w0.heap.size = w.heap.size + 2 := by rw [hw0]; simp
  have c0 : w0.cell? ⟨w.heap.size + 1, 0, none⟩ = some (.int .u8 k0) := by rw [hw0, World.cell?_alloc_at _ _ _ _ (by simp)]; rfl
  have c1 : w0.cell? ⟨w.heap.size + 1, 1, none⟩ = some (.int .i32 n0) := by rw [hw0, World.cell?_alloc_at _ _ _ _ (by simp)]; rfl
  have c2 : w0.cell? ⟨w.heap.size + 1, 2, none⟩ = some (.string s0) := by rw [hw0, World.cell?_alloc_at _ _ _ _ (by simp)]; rfl
  have HW : Hid (w0 = (w.alloc (.cells #[.bool false, .slice a n c] 63)).alloc (.cells #[.int .u8 k0, .int .i32 n0, .string s0] 86)) := hw0
  have HC : Hid (w0.cell? ⟨w.heap.size + 1, 0, none⟩ = some (.int .u8 k0) ∧ w0.cell? ⟨w.heap.size + 1, 1, none⟩ = some (.int .i32 n0) ∧ w0.cell? ⟨w.heap.size + 1, 2, none⟩ = some (.string s0) ∧ w0.heap.size = w.heap.size + 2) := ⟨c0, c1, c2, hs0⟩
  clear hw0 c0 c1 c2 hs0
  go_enter Try.func65, Try.ntmps65
  go_wp2_with fail
  rw [← HW.out]
  go_loopw [12] (fun v wr => ∃ k : Nat, k ≤ n ∧ v = .int .i64 (k : Int) ∧ (∀ j u, j < k → ts[j]? = some u → sameB u (k0, n0, s0) = false) ∧ Below (w.heap.size + 2) w0 wr) (fun v _ => n - (intOf v).toNat)
  case atStart => exact ⟨0, Nat.zero_le _, rfl, fun j u h => absurd h (Nat.not_lt_zero _), Below.refl _ _⟩
  case round =>
    obtain ⟨k, hk, rfl, hne, hb⟩ := hrel
    have HN : Hid (∀ j u, j < k → ts[j]? = some u → sameB u (k0, n0, s0) = false) := hne
    clear hne
    have hz : w.heap.size + 2 ≤ wr.heap.size := by have := hb.size; rw [HC.out.2.2.2] at this; exact this
    have hbw : Below w.heap.size w wr := bt hb0 hb (by omega)
    by_cases hlt : k < n
    · obtain ⟨b, o, rfl, h1, h2, hc⟩ := h.isAt (by omega)
      obtain ⟨u, hu⟩ : ∃ u, ts[k]? = some u := ⟨_, List.getElem?_eq_getElem (by rw [h.len_eq]; exact hlt)⟩
      obtain ⟨d0, d1, d2⟩ := hc k u hu
      obtain ⟨uk, un, us⟩ := u
      have e0 : wr.cell? ⟨b, o + k * 3, none⟩ = some (.int .u8 uk) := by rw [hbw.cell (by simp; omega)]; exact d0
      have e1 : wr.cell? ⟨b, o + k * 3 + 1, none⟩ = some (.int .i32 un) := by rw [hbw.cell (by simp; omega)]; exact d1
      have e2 : wr.cell? ⟨b, o + k * 3 + 2, none⟩ = some (.string us) := by rw [hbw.cell (by simp; omega)]; exact d2
      have f0 : wr.cell? ⟨w.heap.size + 1, 0, none⟩ = some (.int .u8 k0) := by rw [hb.cell (by simp)]; exact HC.out.1
      have f1 : wr.cell? ⟨w.heap.size + 1, 1, none⟩ = some (.int .i32 n0) := by rw [hb.cell (by simp)]; exact HC.out.2.1
      have f2 : wr.cell? ⟨w.heap.size + 1, 2, none⟩ = some (.string s0) := by rw [hb.cell (by simp)]; exact HC.out.2.2.1
      have hz1 : w.heap.size + 1 < wr.heap.size := by omega
      have HU : Hid (ts[k]? = some (uk, un, us)) := hu
      clear hc hu d0 d1 d2
      go_wp2_with fail
      · have hk0 : uk = k0 := by assumption
        have hn0 : un = n0 := by assumption
        have hs0 : us.toList = s0.toList := by assumption
        have S : sameB (uk, un, us) (k0, n0, s0) = true := by rw [← same_ft hk0 hn0]; simp [hs0]
        have E : hasB ts (k0, n0, s0) = true := hasB_yes HU.out S
        go_ret
        exact ⟨ret_bool E.symm, hbw.alloc (by omega) _⟩
      · have S : sameB (uk, un, us) (k0, n0, s0) = false := by rw [← same_ft (by assumption) (by assumption)]; simp; assumption
        clear f0 f1 f2 e0 e1 e2
        go_roundw
        case rel => exact ⟨k + 1, by omega, by go_num, fun j v hj hv => by
            by_cases e : j = k
            · subst e; rw [HU.out] at hv; cases hv; exact S
            · exact HN.out j v (by omega) hv, hb.alloc hz _⟩
        case measure => simp [intOf]; omega
      · have S : sameB (uk, un, us) (k0, n0, s0) = false := (same_fn (by assumption)).symm
        clear f0 f1 f2 e0 e1 e2
        go_roundw
        case rel => exact ⟨k + 1, by omega, by go_num, fun j v hj hv => by
            by_cases e : j = k
            · subst e; rw [HU.out] at hv; cases hv; exact S
            · exact HN.out j v (by omega) hv, hb.alloc hz _⟩
        case measure => simp [intOf]; omega
      · have S : sameB (uk, un, us) (k0, n0, s0) = false := (same_fk (by assumption)).symm
        clear f0 f1 f2 e0 e1 e2
        go_roundw
        case rel => exact ⟨k + 1, by omega, by go_num, fun j v hj hv => by
            by_cases e : j = k
            · subst e; rw [HU.out] at hv; cases hv; exact S
            · exact HN.out j v (by omega) hv, hb.alloc hz _⟩
        case measure => simp [intOf]; omega
    · have HE : Hid (hasB ts (k0, n0, s0) = false) := hasB_no fun j u hj hu => HN.out j u (by have := h.len_eq; omega) hu
      go_wp2_with fail
      go_ret
      exact ⟨ret_bool HE.out.symm, hbw⟩
end Go.Proofs.Qxb6604483a
