import Derived.Test.Qxb6604483aMem
import Derived.Deep.QuietTactic
import Derived.BigQuiet
import Derived.Deep.RegionWith
import Derived.Deep.DeepCutAuto
namespace Go.Proofs.Qxb6604483a
open Go.RowKit
set_option linter.unusedSimpArgs false
set_option linter.unusedVariables false

set_option maxHeartbeats 400000 in
theorem same_any (a b : Tm) (w : World) : Calls Try.prog 38 #[tmV a, tmV b] w fun e w' => e = .returned (.bool (sameB a b)) ∧ Below w.heap.size w w' := by
  obtain ⟨k1, n1, t1⟩ := a
  obtain ⟨k2, n2, t2⟩ := b
  unfold tmV
  have hb : Below w.heap.size w ((w.alloc (.cells #[.int .u8 k1, .int .i32 n1, .string t1] 56)).alloc (.cells #[.int .u8 k2, .int .i32 n2, .string t2] 56)) :=
    ((Below.refl _ _).alloc (Nat.le_refl _) _).alloc (by simp) _
  by_cases hk : k1 = k2
  · by_cases hn : n1 = n2
    · have H := same_ft (t1 := t1) (t2 := t2) hk hn
      subst hk hn
      have HH : Hid ((t1.toList == t2.toList) = sameB (k1, n1, t1) (k1, n1, t2)) := H
      clear H
      generalize sameB (k1, n1, t1) (k1, n1, t2) = r at *
      go_enter Try.func38, Try.ntmps38
      go_wp2
      go_ret
      exact ⟨ret_bool HH.out, hb⟩
    · have HH : Hid (false = sameB (k1, n1, t1) (k2, n2, t2)) := same_fn hn
      have t : (n1 == n2) = false := by simp [hn]
      subst hk
      generalize sameB (k1, n1, t1) (k1, n2, t2) = r at *
      go_enter Try.func38, Try.ntmps38
      go_wp2
      go_ret
      exact ⟨ret_bool HH.out, hb⟩
  · have HH : Hid (false = sameB (k1, n1, t1) (k2, n2, t2)) := same_fk hk
    have t : (k1 == k2) = false := by simp [hk]
    generalize sameB (k1, n1, t1) (k2, n2, t2) = r at *
    go_enter Try.func38, Try.ntmps38
    go_wp2
    go_ret
    exact ⟨ret_bool HH.out, hb⟩

/-- Is t among ts? -/
def hasB (ts : List Tm) (t : Tm) : Bool := ts.any fun u => sameB u t
theorem hasB_yes {ts : List Tm} {t u : Tm} {k : Nat} (hu : ts[k]? = some u) (h : sameB u t = true) : hasB ts t = true := by
  unfold hasB
  rw [List.any_eq_true]
  exact ⟨u, List.mem_of_getElem? hu, h⟩
theorem hasB_no {ts : List Tm} {t : Tm} (h : ∀ j u, j < ts.length → ts[j]? = some u → sameB u t = false) : hasB ts t = false := by
  unfold hasB
  rw [List.any_eq_false]
  intro u hu
  obtain ⟨j, hj, rfl⟩ := List.getElem_of_mem hu
  have := h j _ hj (List.getElem?_eq_getElem hj)
  simp [this]

set_option maxHeartbeats 1000000 in
theorem hasTerm_any (lo hi : Nat) (a : Option Addr) (len cap : Nat) (ts : List Tm) (t : Tm) (w : World) (hhi : hi ≤ w.heap.size) (h : TsIn lo hi w a len ts) (hm : len ≤ 3000000) :
    Calls Try.prog 46 #[.slice a len cap, tmV t] w fun e w' => e = .returned (.bool (hasB ts t)) ∧ Below w.heap.size w w' := by
  obtain ⟨k0, n0, s0⟩ := t
  unfold tmV
  go_enter Try.func46, Try.ntmps46
  go_wp2_with fail
  go_loopw [5] (fun v wr => ∃ k : Nat, k ≤ len ∧ v = .int .i64 (k : Int) ∧ (∀ j u, j < k → ts[j]? = some u → sameB u (k0, n0, s0) = false) ∧ Below (w.heap.size + 1) (w.alloc (.cells #[.int .u8 k0, .int .i32 n0, .string s0] 56)) wr) (fun v _ => len - (intOf v).toNat)
  case atStart => exact ⟨0, Nat.zero_le _, rfl, fun j u h => absurd h (Nat.not_lt_zero _), Below.refl _ _⟩
  case round =>
    obtain ⟨k, hk, rfl, hne, hb⟩ := hrel
    have hz := balloc_size hb
    have HN : Hid (∀ j u, j < k → ts[j]? = some u → sameB u (k0, n0, s0) = false) := hne
    clear hne
    by_cases hlt : k < len
    · obtain ⟨b, o, rfl, h1, h2, hc⟩ := h.isAt (by omega)
      obtain ⟨u, hu⟩ : ∃ u, ts[k]? = some u := ⟨_, List.getElem?_eq_getElem (by rw [h.len_eq]; exact hlt)⟩
      obtain ⟨c0, c1, c2⟩ := hc k u hu
      have Lc := fun (x : Nat) => hb.cell (p := ⟨b, x, none⟩) (show b < w.heap.size + 1 by omega)
      have d0 : wr.cell? ⟨b, o + k * 3, none⟩ = some (.int .u8 u.1) := by rw [Lc, World.cell?_alloc_lt _ _ _ (by simp; omega)]; exact c0
      have d1 : wr.cell? ⟨b, o + k * 3 + 1, none⟩ = some (.int .i32 u.2.1) := by rw [Lc, World.cell?_alloc_lt _ _ _ (by simp; omega)]; exact c1
      have d2 : wr.cell? ⟨b, o + k * 3 + 2, none⟩ = some (.string u.2.2) := by rw [Lc, World.cell?_alloc_lt _ _ _ (by simp; omega)]; exact c2
      clear Lc c0 c1 c2 hc
      have e0 : wr.cell? ⟨w.heap.size, 0, none⟩ = some (.int .u8 k0) := by rw [hb.cell (by simp), World.cell?_alloc_at (w := w) _ _ _ _ rfl]; rfl
      have e1 : wr.cell? ⟨w.heap.size, 1, none⟩ = some (.int .i32 n0) := by rw [hb.cell (by simp), World.cell?_alloc_at (w := w) _ _ _ _ rfl]; rfl
      have e2 : wr.cell? ⟨w.heap.size, 2, none⟩ = some (.string s0) := by rw [hb.cell (by simp), World.cell?_alloc_at (w := w) _ _ _ _ rfl]; rfl
      by_cases hs : sameB u (k0, n0, s0) = true
      · have HE : Hid (hasB ts (k0, n0, s0) = true) := hasB_yes hu hs
        have HS : Hid (sameB u (k0, n0, s0) = true) := hs
        clear hu hs
        go_wp2_with fail
        go_region_with (go_at_call 38; refine (same_any u (k0, n0, s0) _).mono ?_; rintro e w2 ⟨rfl, hb2⟩; rw [HS.out])
        all_goals
          go_wp2_with fail
          go_ret
          refine ⟨ret_bool HE.out.symm, ?_⟩
          exact btd (bt (balloc _ _) hb (Nat.le_succ _)) hb2 (Nat.le_of_succ_le hz)
      · have hs' : sameB u (k0, n0, s0) = false := by simpa using hs
        have HS : Hid (sameB u (k0, n0, s0) = false ∧ ts[k]? = some u) := ⟨hs', hu⟩
        clear hu hs hs'
        go_wp2_with fail
        go_region_with (go_at_call 38; refine (same_any u (k0, n0, s0) _).mono ?_; rintro e w2 ⟨rfl, hb2⟩; rw [HS.out.1])
        all_goals
          go_wp2_with fail
          go_roundw
          case rel => exact ⟨k + 1, by omega, by go_num, fun j v hj hv => by
              by_cases e : j = k
              · subst e; rw [HS.out.2] at hv; cases hv; exact HS.out.1
              · exact HN.out j v (by omega) hv, btd hb hb2 hz⟩
          case measure => simp [intOf]; omega
    · have HE : Hid (hasB ts (k0, n0, s0) = false) := hasB_no fun j u hj hu => HN.out j u (by have := h.len_eq; omega) hu
      go_wp2_with fail
      go_ret
      exact ⟨ret_bool HE.out.symm, ((Below.refl _ _).alloc (Nat.le_refl _) _).trans (hb.mono (Nat.le_succ _))⟩
end Go.Proofs.Qxb6604483a
