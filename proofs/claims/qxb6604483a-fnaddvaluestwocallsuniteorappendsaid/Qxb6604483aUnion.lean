import Derived.Test.Qxb6604483aPlain
import Derived.Test.Qxb6604483aTo
namespace Go.Proofs.Qxb6604483a
open Go.RowKit
set_option linter.unusedSimpArgs false
set_option linter.unusedVariables false

theorem Try.info56 : (Try.prog.info? 56).map (fun i => (i.zero, i.size, i.bytes)) = some (some (.agg #[.int .u8 0, .int .i32 0, .string ⟨#[]⟩]), 3, 24) := by kernel_rfl

/-- What the call of 'unionModel' hands back. -/
def UniSaid (w w' : World) (e : Ending) (r : Bool × List Tm) : Prop :=
  ∃ a n c, e = .returned (.tuple #[.bool r.1, .slice a n c]) ∧ TsIn w.heap.size w'.heap.size w' a n r.2 ∧ n ≤ 17

theorem UniSaid.any (w w' : World) (r : Bool × List Tm) (h : r = (true, [])) : UniSaid w w' (.returned (.tuple #[.bool true, .slice none 0 0])) r := by
  subst h
  exact ⟨none, 0, 0, rfl, TsIn.nil _ _ _ _, by omega⟩

set_option maxHeartbeats 400000 in
theorem union_any1 (a1 a2 : Option Addr) (l1 c1 l2 c2 : Nat) (anyB : Bool) (ta tb : List Tm) (w : World) :
    Calls Try.prog 35 #[.bool true, .slice a1 l1 c1, .bool anyB, .slice a2 l2 c2] w fun e w' => UniSaid w w' e (uniR true ta anyB tb) ∧ Below w.heap.size w w' := by
  have H : Hid (uniR true ta anyB tb = (true, [])) := by show _ = _; unfold uniR; rw [if_pos (.inl rfl)]
  generalize uniR true ta anyB tb = r at *
  go_enter Try.func35, Try.ntmps35
  go_wp2
  go_ret2
  exact ⟨UniSaid.any _ _ _ H.out, Below.refl _ _⟩

set_option maxHeartbeats 400000 in
theorem union_any2 (a1 a2 : Option Addr) (l1 c1 l2 c2 : Nat) (ta tb : List Tm) (w : World) :
    Calls Try.prog 35 #[.bool false, .slice a1 l1 c1, .bool true, .slice a2 l2 c2] w fun e w' => UniSaid w w' e (uniR false ta true tb) ∧ Below w.heap.size w w' := by
  have H : Hid (uniR false ta true tb = (true, [])) := by show _ = _; unfold uniR; rw [if_pos (.inr rfl)]
  generalize uniR false ta true tb = r at *
  go_enter Try.func35, Try.ntmps35
  go_wp2
  go_ret2
  exact ⟨UniSaid.any _ _ _ H.out, Below.refl _ _⟩

theorem term_src (w : World) (t : Tm) : Src Try.prog 3 51 (.slice (some ⟨w.heap.size, 0, none⟩) 1 1) 1 (tmC t) (w.alloc (.cells #[.int .u8 t.1, .int .i32 t.2.1, .string t.2.2] 56)) := by
  refine Src.ofSlice _ Try.underlying51 _ 1 1 _ rfl (fun j u hj => ?_) (fun u hu => ?_)
  · rw [Addr.add_lit, World.cell?_alloc_at (w := w) _ _ _ _ rfl, Nat.zero_add]
    simpa [tmC] using hj
  · simp [tmC] at hu
    rcases hu with rfl | rfl | rfl <;> rfl

set_option maxRecDepth 100000 in
set_option maxHeartbeats 2000000 in
theorem union_none (lo hi : Nat) (a1 a2 : Option Addr) (l1 c1 l2 c2 : Nat) (ta tb : List Tm) (w : World) (hhi : hi ≤ w.heap.size) (h1 : TsIn lo hi w a1 l1 ta) (h2 : TsIn lo hi w a2 l2 tb) (m1 : l1 ≤ 1048576) (m2 : l2 ≤ 1048576) :
    Calls Try.prog 35 #[.bool false, .slice a1 l1 c1, .bool false, .slice a2 l2 c2] w fun e w' => UniSaid w w' e (uniR false ta false tb) ∧ Below w.heap.size w w' := by
  obtain ⟨i0, hi0, hz0, hz1, hz2⟩ := info_parts Try.info56
  obtain ⟨r, hr⟩ : ∃ r, r = uniR false ta false tb := ⟨_, rfl⟩
  rw [← hr]
  have HR : Hid (r = uniR false ta false tb) := hr
  clear hr
  obtain ⟨ts, hts⟩ : ∃ ts, ts = ta ++ tb := ⟨_, rfl⟩
  have HT : Hid (ts = ta ++ tb) := hts
  clear hts
  have hlen : ts.length = l1 + l2 := by rw [HT.out, List.length_append, h1.len_eq, h2.len_eq]
  have HL : Hid (ts.length = l1 + l2) := hlen
  clear hlen
  go_enter Try.func35, Try.ntmps35
  go_wp2_with (at_make; refine wpList_make_row _ rfl (.const (.int .i64 0)) (.const (.int .i64 17)) 51 rfl 56 i0 _ 3 Try.underlying51 hi0 hz0 hz1 .i64 .i64 _ _ 0 17 rfl rfl rfl rfl (by omega) (by rw [hz2]; omega) (by omega) ?_; intro w1 hr1 hs1 hb1; replace hr1 := hr1.nil)
  go_loopw [10, 11] (fun dv v wr => ∃ (k : Nat) (d : List Tm), k ≤ l1 + l2 ∧ v = .int .i64 (k : Int) ∧ dv = .slice (some ⟨w.heap.size, 0, none⟩) d.length 17 ∧ d.length ≤ 16 ∧ uni [] ts = uni d (ts.drop k) ∧ Row wr w.heap.size 56 (17 * 3) (flatT d) ∧ Below w.heap.size w wr) (fun _ v _ => l1 + l2 - (intOf v).toNat)
  case atStart => exact ⟨0, [], Nat.zero_le _, rfl, rfl, by simp, rfl, hr1, hb1⟩
  case round =>
    obtain ⟨k, d, hk, rfl, rfl, hd16, hun, hrow, hb⟩ := hrel
    clear hr1 hs1 hb1
    have HU : Hid (uni [] ts = uni d (ts.drop k)) := hun
    clear hun
    have hg := hrow.lt
    by_cases hlt : k < l1 + l2
    · go_upto_if 30 with fail
      go_cut [12] (fun p wx => p = .pointer (some ⟨wr.heap.size, 0, none⟩) ∧ ∃ t : Tm, ts[k]? = some t ∧ wx = wr.alloc (.cells #[.int .u8 t.1, .int .i32 t.2.1, .string t.2.2] 56))
      case first =>
        by_cases hk1 : k < l1
        · obtain ⟨b, o, rfl, q1, q2, hc⟩ := h1.isAt (by omega)
          obtain ⟨t, ht⟩ : ∃ t, ta[k]? = some t := ⟨_, List.getElem?_eq_getElem (by rw [h1.len_eq]; exact hk1)⟩
          obtain ⟨d0, d1, d2⟩ := hc k t ht
          have HH : Hid (ts[k]? = some t) := by
            show _ = _
            rw [HT.out, List.getElem?_append_left (by rw [h1.len_eq]; exact hk1)]; exact ht
          have e0 : wr.cell? ⟨b, o + k * 3, none⟩ = some (.int .u8 t.1) := by rw [hb.cell (by simp; omega)]; exact d0
          have e1 : wr.cell? ⟨b, o + k * 3 + 1, none⟩ = some (.int .i32 t.2.1) := by rw [hb.cell (by simp; omega)]; exact d1
          have e2 : wr.cell? ⟨b, o + k * 3 + 2, none⟩ = some (.string t.2.2) := by rw [hb.cell (by simp; omega)]; exact d2
          have hbl : b < wr.heap.size := by have := hb.size; omega
          clear hc ht d0 d1 d2
          go_wp2_with fail
          go_meet
          case rel => exact ⟨rfl, t, HH.out, rfl⟩
        · obtain ⟨j, rfl⟩ : ∃ j, k = l1 + j := ⟨k - l1, by omega⟩
          obtain ⟨b, o, rfl, q1, q2, hc⟩ := h2.isAt (by omega)
          obtain ⟨t, ht⟩ : ∃ t, tb[j]? = some t := ⟨_, List.getElem?_eq_getElem (by rw [h2.len_eq]; omega)⟩
          obtain ⟨d0, d1, d2⟩ := hc j t ht
          have HH : Hid (ts[l1 + j]? = some t) := by
            show _ = _
            rw [HT.out, List.getElem?_append_right (by rw [h1.len_eq]; omega), h1.len_eq, show l1 + j - l1 = j by omega]; exact ht
          have e0 : wr.cell? ⟨b, o + j * 3, none⟩ = some (.int .u8 t.1) := by rw [hb.cell (by simp; omega)]; exact d0
          have e1 : wr.cell? ⟨b, o + j * 3 + 1, none⟩ = some (.int .i32 t.2.1) := by rw [hb.cell (by simp; omega)]; exact d1
          have e2 : wr.cell? ⟨b, o + j * 3 + 2, none⟩ = some (.string t.2.2) := by rw [hb.cell (by simp; omega)]; exact d2
          have hbl : b < wr.heap.size := by have := hb.size; omega
          clear hc ht d0 d1 d2
          go_wp2_with fail
          go_meet
          case rel => exact ⟨rfl, t, HH.out, rfl⟩
      case rest =>
        obtain ⟨rfl, t, ht, hwc⟩ := hcut
        have HH : Hid (ts[k]? = some t) := ht
        clear ht
        subst hwc
        have hb2 : Below wr.heap.size wr (wr.alloc (.cells #[.int .u8 t.1, .int .i32 t.2.1, .string t.2.2] 56)) := balloc _ _
        have hrow2 := hrow.below hb2 hg
        go_wp2_with fail
        refine (hasTerm_any w.heap.size (wr.heap.size + 1) _ d.length 17 d t _ (by simp) (hrow2.tsIn (Nat.le_refl _) (by omega) rfl) (by omega)).mono ?_
        rintro e w3 ⟨rfl, hb3⟩
        have hz3 := balloc_size hb3
        have hrow3 := hrow2.below hb3 (by simp; omega)
        have hb03 : Below w.heap.size w w3 := bt (bt hb hb2 (Nat.le_of_lt hg)) hb3 (by simp; omega)
        by_cases hh : hasB d t = true
        · rw [hh]
          have HN : Hid (uni d (ts.drop k) = uni d (ts.drop (k + 1))) := uni_hit HH.out hh
          clear hh
          go_wp2_with fail
          go_roundw
          case rel => exact ⟨k + 1, d, by omega, by go_num, rfl, hd16, HU.out.trans HN.out, hrow3, hb03⟩
          case measure => simp [intOf]; omega
        · have hh' : hasB d t = false := by simpa using hh
          rw [hh']
          have HHB : Hid (hasB d t = false) := hh'
          clear hh hh'
          have f0 : w3.cell? ⟨wr.heap.size, 0, none⟩ = some (.int .u8 t.1) := by rw [hb3.cell (by simp), World.cell?_alloc_at (w := wr) _ _ _ _ rfl]; rfl
          have f1 : w3.cell? ⟨wr.heap.size, 1, none⟩ = some (.int .i32 t.2.1) := by rw [hb3.cell (by simp), World.cell?_alloc_at (w := wr) _ _ _ _ rfl]; rfl
          have f2 : w3.cell? ⟨wr.heap.size, 2, none⟩ = some (.string t.2.2) := by rw [hb3.cell (by simp), World.cell?_alloc_at (w := wr) _ _ _ _ rfl]; rfl
          by_cases hd : d.length < 16
          · have HN : Hid (uni d (ts.drop k) = uni (d ++ [t]) (ts.drop (k + 1))) := uni_new HH.out HHB.out hd
            go_wp2_with (at_builtin; refine wpList_append_row _ rfl (.tmp 45) (.tmp 47) 51 51 rfl 56 i0 3 Try.underlying51 hi0 hz1 w.heap.size d.length 17 (flatT d) rfl (hrow3.below (balloc _ _) hrow3.lt) (flatT_length d) _ 1 (tmC t) rfl (term_src w3 t) (by omega) ?_; intro w4 hr4 ht4)
            go_roundw
            case rel => exact ⟨k + 1, d ++ [t], by omega, by go_num, by simp, by simp; omega, HU.out.trans HN.out, by rw [flatT_append]; exact hr4, bt (bt hb03 (balloc _ _) (by omega)) (ht4.below (Nat.le_refl _)) (Nat.le_refl _)⟩
            case measure => simp [intOf]; omega
          · have HN : Hid (r = (true, [])) := by
              show r = _
              rw [HR.out, uniR, if_neg (by simp), ← HT.out, HU.out, uni_full HH.out HHB.out (by omega)]
            go_wp2_with (at_builtin; refine wpList_append_row _ rfl (.tmp 45) (.tmp 47) 51 51 rfl 56 i0 3 Try.underlying51 hi0 hz1 w.heap.size d.length 17 (flatT d) rfl (hrow3.below (balloc _ _) hrow3.lt) (flatT_length d) _ 1 (tmC t) rfl (term_src w3 t) (by omega) ?_; intro w4 hr4 ht4)
            go_ret2
            exact ⟨UniSaid.any _ _ _ HN.out, bt (bt hb03 (balloc _ _) (by omega)) (ht4.below (Nat.le_refl _)) (Nat.le_refl _)⟩
    · have HE : Hid (r = (false, d)) := by
        show r = _
        rw [HR.out, uniR, if_neg (by simp), ← HT.out, HU.out, uni_end (by rw [HL.out]; omega)]
      go_wp2_with fail
      go_ret2
      refine ⟨⟨_, _, _, by rw [HE.out]; rfl, ?_, by omega⟩, hb⟩
      rw [HE.out]
      exact hrow.tsIn (Nat.le_refl _) hg rfl
end Go.Proofs.Qxb6604483a
