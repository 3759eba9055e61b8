import Derived.Test.Qxb6604483aTerms
namespace Go.Proofs.Qxb6604483a
open Go.RowKit
set_option linter.unusedSimpArgs false
set_option linter.unusedVariables false

set_option maxHeartbeats 400000 in
theorem zzterm_any (t : Tm) (w : World) : Calls Try.prog 43 #[.int .u8 t.1, .int .i32 t.2.1, .string t.2.2] w fun e w' => e = .returned (tmV t) ∧ Below w.heap.size w w' := by
  go_enter Try.func43, Try.ntmps43
  go_wp2
  exact bodyPost_ret (v := tmV t) (by simp [results, Try.results43, go_sem, tmV]) rfl ⟨rfl, balloc _ _⟩

set_option maxHeartbeats 400000 in
theorem zzvalues_any (b : Bool) (a : Option Addr) (len cap : Nat) (w : World) : Calls Try.prog 30 #[.bool b, .slice a len cap] w fun e w' => e = .returned (.agg #[.bool b, .slice a len cap]) ∧ Below w.heap.size w w' := by
  go_enter Try.func30, Try.ntmps30
  go_wp2
  exact bodyPost_ret (v := .agg #[.bool b, .slice a len cap]) (by simp [results, Try.results30, go_sem]) rfl ⟨rfl, balloc _ _⟩

theorem Try.info86 : (Try.prog.info? 86).map (fun i => (i.zero, i.size, i.bytes)) = some (some (.agg #[.int .u8 0, .int .i32 0, .string ⟨#[]⟩]), 3, 24) := by kernel_rfl
theorem Try.info63 : (Try.prog.info? 63).map (fun i => (i.zero, i.size, i.bytes)) = some (some (.agg #[.bool false, .slice none 0 0]), 2, 32) := by kernel_rfl

set_option maxHeartbeats 1000000 in
theorem toTerms_any (lo hi : Nat) (a : Option Addr) (len cap : Nat) (ts : List Tm) (w : World) (hhi : hi ≤ w.heap.size) (h : TsIn lo hi w a len ts) (hm : len ≤ 1048576) :
    Calls Try.prog 31 #[.slice a len cap] w fun e w' => e = .returned (.slice (some ⟨w.heap.size, 0, none⟩) len len) ∧ Row w' w.heap.size 86 (len * 3) (flatT ts) ∧ Below w.heap.size w w' := by
  obtain ⟨i0, hi0, hz0, hz1, hz2⟩ := info_parts Try.info86
  go_enter Try.func31, Try.ntmps31
  go_wp2_with (at_make; refine wpList_make_row _ rfl (.tmp 6) (.tmp 6) 61 rfl 86 i0 _ 3 Try.underlying61 hi0 hz0 hz1 .i64 .i64 _ _ len len rfl rfl rfl rfl (Nat.le_refl _) (by rw [hz2]; omega) (by omega) ?_; intro w1 hr1 hs1 hb1; replace hr1 := hr1.nil)
  go_loopw [4] (fun v wr => ∃ k : Nat, k ≤ len ∧ v = .int .i64 (k : Int) ∧ Row wr w.heap.size 86 (len * 3) (flatT (ts.take k)) ∧ Below w.heap.size w wr) (fun v _ => len - (intOf v).toNat)
  case atStart => exact ⟨0, Nat.zero_le _, rfl, hr1, hb1⟩
  case round =>
    obtain ⟨k, hk, rfl, hr, hb⟩ := hrel
    clear hr1 hs1 hb1
    have hg := hr.lt
    by_cases hlt : k < len
    · obtain ⟨b, o, rfl, h1, h2, hc⟩ := h.isAt (by omega)
      obtain ⟨u, hu⟩ : ∃ u, ts[k]? = some u := ⟨_, List.getElem?_eq_getElem (by rw [h.len_eq]; exact hlt)⟩
      obtain ⟨c0, c1, c2⟩ := hc k u hu
      have hx : (flatT (ts.take k)).length = k * 3 := by rw [flatT_length]; simp; have := h.len_eq; omega
      have HU : Hid (ts[k]? = some u ∧ (flatT (ts.take k)).length = k * 3) := ⟨hu, hx⟩
      have d0 : wr.cell? ⟨b, o + k * 3, none⟩ = some (.int .u8 u.1) := by rw [hb.cell (by simp; omega)]; exact c0
      have d1 : wr.cell? ⟨b, o + k * 3 + 1, none⟩ = some (.int .i32 u.2.1) := by rw [hb.cell (by simp; omega)]; exact c1
      have d2 : wr.cell? ⟨b, o + k * 3 + 2, none⟩ = some (.string u.2.2) := by rw [hb.cell (by simp; omega)]; exact c2
      clear c0 c1 c2 hc hu hx
      go_wp2_with fail
      go_region_with (go_at_call 43; refine (zzterm_any u _).mono ?_; rintro e w2 ⟨rfl, hb2⟩; unfold tmV; have hr2 := hr.drew.below hb2 hg; obtain ⟨v0, g0⟩ := hr2.old (k * 3) (by omega); obtain ⟨v1, g1⟩ := hr2.old (k * 3 + 1) (by omega); obtain ⟨v2, g2⟩ := hr2.old (k * 3 + 2) (by omega); have f0 := hr2.free (k * 3); have f1 := hr2.free (k * 3 + 1); have f2 := hr2.free (k * 3 + 2))
      all_goals
        clear d0 d1 d2 g0 g1 g2 f0 f1 f2
        go_wp2_with fail
        go_roundw
        case rel => exact ⟨k + 1, by omega, by go_num, by rw [take_snoc ts k u HU.out.1, flatT_append]; exact row_put3 hr2 _ _ _ (by rw [HU.out.2]; omega) _ HU.out.2.symm, bt (btd hb hb2 hb.size) (Touch.below (touch_put3 _ _ _ _ _ _) (Nat.le_refl _)) (Nat.le_refl _)⟩
        case measure => simp [intOf]; omega
    · have hk' : ts.take k = ts := List.take_of_length_le (by have := h.len_eq; omega)
      have HK : Hid (ts.take k = ts) := hk'
      clear hk'
      go_wp2_with fail
      go_ret
      exact ⟨rfl, by rw [HK.out] at hr; exact hr, hb⟩
end Go.Proofs.Qxb6604483a
