import Derived.Test.Qxb6604483aTo
import Derived.Test.Qxb6604483aVals
namespace Go.Proofs.Qxb6604483a
open Go.RowKit
set_option linter.unusedSimpArgs false
set_option linter.unusedVariables false

theorem touch_sameIn {g lo hi : Nat} {w w' : World} (h : Touch g w w') (hg : g < lo) : SameIn lo hi w w' := fun k h1 _ => h.block k (by omega)

theorem step_vals {w wr w2 w3 : World} {B len k : Nat} {vs vs' : List Vr} {u : Vr} (hk : k < len) (hd : vs'.map datV = (vs.take k).map datV) (hu : vs[k]? = some u ∧ (flatV vs').length = k * 2)
    (hB3 : Row w3 B 63 (len * 2) (flatV vs')) (hr3 : Row w3 wr.heap.size 86 (u.2.2.2.length * 3) (flatT u.2.2.2))
    (ht : ∀ (i : Nat) (x : Vr), vs'[i]? = some x → TsIn (B + 1) wr.heap.size wr x.2.1 x.2.2.2.length x.2.2.2) (hb : Below B w wr) (hBw : B < wr.heap.size)
    (hb2 : Below wr.heap.size wr.drew w2) (hb3 : Below w2.heap.size w2 w3) :
    ∃ vs'', vs''.map datV = (vs.take (k + 1)).map datV ∧
      Row ((w3.setCell ⟨B, k * 2, none⟩ (.bool u.1)).setCell ⟨B, k * 2 + 1, none⟩ (.slice (some ⟨wr.heap.size, 0, none⟩) u.2.2.2.length u.2.2.2.length)) B 63 (len * 2) (flatV vs'') ∧
      (∀ (i : Nat) (x : Vr), vs''[i]? = some x → TsIn (B + 1) ((w3.setCell ⟨B, k * 2, none⟩ (.bool u.1)).setCell ⟨B, k * 2 + 1, none⟩ (.slice (some ⟨wr.heap.size, 0, none⟩) u.2.2.2.length u.2.2.2.length)).heap.size
        ((w3.setCell ⟨B, k * 2, none⟩ (.bool u.1)).setCell ⟨B, k * 2 + 1, none⟩ (.slice (some ⟨wr.heap.size, 0, none⟩) u.2.2.2.length u.2.2.2.length)) x.2.1 x.2.2.2.length x.2.2.2) ∧
      Below B w ((w3.setCell ⟨B, k * 2, none⟩ (.bool u.1)).setCell ⟨B, k * 2 + 1, none⟩ (.slice (some ⟨wr.heap.size, 0, none⟩) u.2.2.2.length u.2.2.2.length)) := by
  have htc := touch_put2 w3 B (k * 2) (.bool u.1) (.slice (some ⟨wr.heap.size, 0, none⟩) u.2.2.2.length u.2.2.2.length)
  have hp := row_put2 hB3 (.bool u.1) (.slice (some ⟨wr.heap.size, 0, none⟩) u.2.2.2.length u.2.2.2.length) (by rw [hu.2]; omega) (k * 2) hu.2.symm
  generalize ((w3.setCell ⟨B, k * 2, none⟩ (.bool u.1)).setCell ⟨B, k * 2 + 1, none⟩ (.slice (some ⟨wr.heap.size, 0, none⟩) u.2.2.2.length u.2.2.2.length)) = wf at htc hp ⊢
  have l2 := hb2.size
  have l3 := hb3.size
  have lf := htc.size
  have l2' : wr.heap.size ≤ w2.heap.size := l2
  refine ⟨vs' ++ [(u.1, some ⟨wr.heap.size, 0, none⟩, u.2.2.2.length, u.2.2.2)], ?_, ?_, ?_, ?_⟩
  · rw [take_snoc vs k u hu.1, List.map_append, List.map_append, hd]
    rfl
  · rw [flatV_append]
    exact hp
  · intro i x hx
    have s13 : SameIn (B + 1) wr.heap.size wr wf := (sameIn_below (w := wr) (btd (Below.refl _ wr) (bt hb2 hb3 l2') (Nat.le_refl _)) (Nat.le_refl _)).trans (touch_sameIn htc (Nat.lt_succ_self _))
    by_cases hi : i < vs'.length
    · rw [List.getElem?_append_left hi] at hx
      exact ((ht i x hx).same s13).wide (Nat.le_refl _) (by omega)
    · rw [List.getElem?_append_right (by omega)] at hx
      have hi0 : i - vs'.length = 0 := by
        have := (List.getElem?_eq_some_iff.1 hx).1
        simp at this
        omega
      rw [hi0] at hx
      simp at hx
      subst hx
      exact (hr3.touch htc (by omega)).tsIn hBw (by have := hr3.lt; omega) rfl
  · exact bt (bt (btd hb hb2 (Nat.le_of_lt hBw)) hb3 (by omega)) (htc.below (Nat.le_refl _)) (Nat.le_refl _)

set_option maxHeartbeats 2000000 in
theorem toValues_any (lo hi : Nat) (a : Option Addr) (len cap : Nat) (vs : List Vr) (w : World) (hhi : hi ≤ w.heap.size) (h : VsIn lo hi w a len vs) (hm : len ≤ 1048576) (hm2 : ∀ (i : Nat) (x : Vr), vs[i]? = some x → x.2.2.2.length ≤ 1048576) :
    Calls Try.prog 11 #[.slice a len cap] w fun e w' => e = .returned (.slice (some ⟨w.heap.size, 0, none⟩) len len) ∧
      (∃ vs', vs'.map datV = vs.map datV ∧ VsIn w.heap.size w'.heap.size w' (some ⟨w.heap.size, 0, none⟩) len vs') ∧ Below w.heap.size w w' := by
  obtain ⟨i0, hi0, hz0, hz1, hz2⟩ := info_parts Try.info63
  go_enter Try.func11, Try.ntmps11
  go_wp2_with (at_make; refine wpList_make_row _ rfl (.tmp 6) (.tmp 6) 28 rfl 63 i0 _ 2 Try.underlying28 hi0 hz0 hz1 .i64 .i64 _ _ len len rfl rfl rfl rfl (Nat.le_refl _) (by rw [hz2]; omega) (by omega) ?_; intro w1 hr1 hs1 hb1; replace hr1 := hr1.nil)
  go_loopw [4] (fun v wr => ∃ (k : Nat) (vs' : List Vr), k ≤ len ∧ v = .int .i64 (k : Int) ∧ vs'.map datV = (vs.take k).map datV ∧ Row wr w.heap.size 63 (len * 2) (flatV vs') ∧ (∀ (i : Nat) (x : Vr), vs'[i]? = some x → TsIn (w.heap.size + 1) wr.heap.size wr x.2.1 x.2.2.2.length x.2.2.2) ∧ Below w.heap.size w wr) (fun v _ => len - (intOf v).toNat)
  case atStart => exact ⟨0, [], Nat.zero_le _, rfl, rfl, hr1, fun i x h => by simp at h, hb1⟩
  case round =>
    obtain ⟨k, vs', hk, rfl, hd, hr, ht, hb⟩ := hrel
    clear hr1 hs1 hb1
    have hg := hr.lt
    have HD : Hid (vs'.map datV = (vs.take k).map datV) := hd
    clear hd
    have hvl : vs'.length = k := by have := congrArg List.length HD.out; simp at this; have := h.len_eq; omega
    have HL : Hid (vs'.length = k) := hvl
    clear hvl
    by_cases hlt : k < len
    · obtain ⟨b, o, rfl, h1, h2, hc⟩ := h.isAt (by omega)
      obtain ⟨u, hu⟩ : ∃ u, vs[k]? = some u := ⟨_, List.getElem?_eq_getElem (by rw [h.len_eq]; exact hlt)⟩
      obtain ⟨c0, c1⟩ := hc k u hu
      have hut := (h.terms k u hu).below hb hhi
      have hul := hm2 k u hu
      have HU : Hid (vs[k]? = some u ∧ (flatV vs').length = k * 2) := ⟨hu, by rw [flatV_length, HL.out]⟩
      have hbl : b < wr.heap.size := by have := hb.size; omega
      have d0 : wr.cell? ⟨b, o + k * 2, none⟩ = some (.bool u.1) := by rw [hb.cell (by simp; omega)]; exact c0
      have d1 : wr.cell? ⟨b, o + k * 2 + 1, none⟩ = some (.slice u.2.1 u.2.2.2.length u.2.2.1) := by rw [hb.cell (by simp; omega)]; exact c1
      clear c0 c1 hc hu
      have hhi2 : hi ≤ wr.heap.size := by have := hb.size; omega
      go_wp2_with fail
      go_region_with (first
        | (go_at_call 31; refine (toTerms_any lo hi u.2.1 u.2.2.2.length u.2.2.1 u.2.2.2 wr.drew hhi2 hut.drew hul).mono ?_; rintro e w2 ⟨rfl, hr2, hb2⟩; have hB2 := hr.drew.below hb2 hg; have l2 := hb2.size; have g0 : w2.cell? ⟨b, o + k * 2, none⟩ = some (.bool u.1) := (by rw [hb2.cell hbl]; exact d0))
        | (go_at_call 30; refine (zzvalues_any u.1 _ _ _ _).mono ?_; rintro e w3 ⟨rfl, hb3⟩; have hB3 := hB2.below hb3 (Nat.lt_of_lt_of_le hg l2); have hr3 := hr2.below hb3 hr2.lt; obtain ⟨v0, q0⟩ := hB3.old (k * 2) (by omega); obtain ⟨v1, q1⟩ := hB3.old (k * 2 + 1) (by omega); have f0 := hB3.free (k * 2); have f1 := hB3.free (k * 2 + 1)))
      all_goals
        have R := step_vals (wr := wr) hlt HD.out HU.out hB3 hr3 ht hb hg hb2 hb3
        have HR : Hid _ := R
        clear R d0 d1 g0 q0 q1 f0 f1 hr3 hr2 ht hB3 hB2 hut
        go_wp2_with fail
        go_roundw
        case rel =>
          obtain ⟨vs'', r1, r2, r3, r4⟩ := HR.out
          exact ⟨k + 1, vs'', by omega, by go_num, r1, r2, r3, r4⟩
        case measure => simp [intOf]; omega
    · have HK : Hid (vs'.map datV = vs.map datV) := by
        have := HD.out
        rw [List.take_of_length_le (by have := h.len_eq; omega)] at this
        exact this
      have hvl : vs'.length = len := by rw [HL.out]; omega
      have HV : Hid (vs'.length = len) := hvl
      clear hvl
      go_wp2_with fail
      go_ret
      exact ⟨rfl, ⟨vs', HK.out, HV.out, fun _ => ⟨w.heap.size, 0, rfl, Nat.le_refl _, hg, fun i x hx => by
        obtain ⟨a, b⟩ := flatV_get vs' i x hx
        simp only [Nat.zero_add]
        exact ⟨hr.cell _ _ a, hr.cell _ _ b⟩⟩, fun i x hx => (ht i x hx).wide (Nat.le_succ _) (Nat.le_refl _)⟩, hb⟩
end Go.Proofs.Qxb6604483a
