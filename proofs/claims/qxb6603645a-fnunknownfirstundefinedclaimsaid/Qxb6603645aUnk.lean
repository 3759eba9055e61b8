import Derived.Test.Qxb6603645aClone
import Derived.Test.Qxb6603645aLaw
namespace Go.Proofs.Qxb6603645a
open Go.RowKit
set_option linter.unusedSimpArgs false
set_option linter.unusedVariables false

theorem Held.in {w : World} {g N : Nat} {L : List Mb} (h : Held w g L) (hN : L.length = N) : MbsIn w (some ⟨g, 0, none⟩) N L := ⟨hN, fun _ => ⟨g, 0, rfl, h.lt, fun i m hi => by simpa using h.cell hi⟩⟩

/-- What lies behind the clone and the sort. -/
def Ready (w : World) (ms : List Mb) (len : Nat) (v : Value) (w' : World) : Prop := ∃ a cap L, v = .slice a len cap ∧ MbsIn w' a len L ∧ Srt L ∧ Same ms L ∧ Below w.heap.size w w'

set_option maxRecDepth 100000 in
set_option maxHeartbeats 1000000 in
theorem unk_loop (gc : Nat) (a : Option Addr) (len cap : Nat) (ms : List Mb) (a2 : Option Addr) (len2 cap2 : Nat) (ds : List ByteArray) (w : World) (hc : w.cell? ⟨gc, 13, none⟩ = some (.slice a len cap)) (hgc : gc < w.heap.size)
    (ha : (a = none ∧ cap = 0) ∨ ∃ b o, a = some ⟨b, o, none⟩) (h : MbsIn w a len ms) (hm : len ≤ 4096) (h2 : StrsIn w a2 len2 ds) (hm2 : len2 ≤ 4096) :
    Calls Try.prog 26 #[.pointer (some ⟨gc, 0, none⟩), .slice a2 len2 cap2] w fun e w' => TwoRes (Best ms ds len) e ∧ Below w.heap.size w w' := by
  have D1 : Hid (Calls Try.prog 29 #[.slice a len cap] w fun e w' => ∃ v, e = .returned v ∧ Below w.heap.size w w' ∧ ((len = 0 ∧ v = .slice none 0 0) ∨ ∃ g cap2, v = .slice (some ⟨g, 0, none⟩) len cap2 ∧ Held w' g ms ∧ w.heap.size ≤ g)) := by
    rcases ha with ⟨rfl, rfl⟩ | ⟨b, o, rfl⟩
    · have hl : len = 0 := by
        rcases Nat.eq_zero_or_pos len with h0 | h0
        · exact h0
        · obtain ⟨b, o, e, _⟩ := h.isAt h0; cases e
      subst hl
      refine (clone_nil w).mono ?_
      rintro e w' ⟨rfl, hb⟩
      exact ⟨_, rfl, hb, .inl ⟨rfl, rfl⟩⟩
    · rcases Nat.eq_zero_or_pos len with h0 | h0
      · subst h0
        obtain rfl : ms = [] := List.length_eq_zero_iff.1 h.len_eq
        refine (clone_empty b o cap w).mono ?_
        rintro e w' ⟨g, cap2, rfl, q1, q2, q3⟩
        exact ⟨_, rfl, q3, .inr ⟨g, cap2, rfl, q1, q2⟩⟩
      · refine (clone_some b o len cap ms w h h0 hm).mono ?_
        rintro e w' ⟨g, cap2, rfl, q1, q2, q3⟩
        exact ⟨_, rfl, q3, .inr ⟨g, cap2, rfl, q1, q2⟩⟩
  have D2 : Hid (∀ v w', Below w.heap.size w w' → ((len = 0 ∧ v = .slice none 0 0) ∨ ∃ g cap2, v = .slice (some ⟨g, 0, none⟩) len cap2 ∧ Held w' g ms ∧ w.heap.size ≤ g) → Calls Try.prog 30 #[v, .func (.func 31) #[] #[]] w' fun e w2 => e = .returned (.tuple #[]) ∧ Ready w ms len v w2) := by
    intro v w' hb hv
    rcases hv with ⟨rfl, rfl⟩ | ⟨g, cap2, rfl, q1, q2⟩
    · refine (sort_nil w').mono ?_
      rintro e w2 ⟨rfl, hb2⟩
      obtain rfl : ms = [] := List.length_eq_zero_iff.1 h.len_eq
      exact ⟨rfl, none, 0, [], rfl, MbsIn.nil _ _, Srt.nil, Same.refl _, bt hb hb2 hb.size⟩
    · refine (sort_any g cap2 ms len w' q1 h.len_eq hm).mono ?_
      rintro e w2 ⟨rfl, ⟨M, m1, m2, m3⟩, hf⟩
      exact ⟨rfl, _, _, M, rfl, m1.in (by rw [m3.length, h.len_eq]), m2, m3, hb.trans (hf.toBelow q2 hb.size)⟩
  have HH : Hid (ms.length = len ∧ StrsIn w a2 len2 ds) := ⟨h.len_eq, h2⟩
  clear h h2 ha
  go_enter Try.func26, Try.ntmps26
  go_wp2_with fail
  refine Calls.mono D1.out ?_
  rintro e w1 ⟨v, rfl, hb1, hv⟩
  have D3 : Hid _ := D2.out v w1 hb1 hv
  clear D1 D2 hc hv hb1
  go_wp2_with fail
  refine Calls.mono D3.out ?_
  rintro e w2 ⟨rfl, hR⟩
  clear D3
  obtain ⟨b, cap3, L, rfl, hL, hS, hSame, hb2⟩ := hR
  have HS : Hid (Srt L ∧ Same ms L ∧ L.length = len) := ⟨hS, hSame, hL.len_eq⟩
  have HD : Hid (StrsIn w2 a2 len2 ds) := HH.out.2.below hb2
  clear hS hSame
  go_wp2_with fail
  go_loopw [7, 8, 9, 19] (fun _ _ _ v wr => ∃ k : Nat, k ≤ len ∧ v = .int .i64 (k : Int) ∧ (∀ j x, j < k → L[j]? = some x → cand L ds j x = false) ∧ Below w2.heap.size w2 wr) (fun _ _ _ v _ => len - (intOf v).toNat)
  case atStart => exact ⟨0, Nat.zero_le _, rfl, fun j u h => absurd h (Nat.not_lt_zero _), Below.refl _ _⟩
  case round =>
    obtain ⟨k, hk, rfl, hno, hb⟩ := hrel
    have HN : Hid (∀ j x, j < k → L[j]? = some x → cand L ds j x = false) := hno
    clear hno
    by_cases hlt : k < len
    · have t1 : (k : Int) < (len : Int) := by omega
      obtain ⟨x, hx⟩ : ∃ u, L[k]? = some u := ⟨_, List.getElem?_eq_getElem (by rw [hL.len_eq]; exact hlt)⟩
      obtain ⟨g, o, rfl, h1, hc⟩ := hL.isAt (by omega)
      have c0 : wr.cell? ⟨g, o + k * 2, none⟩ = some (.string x.1) := by rw [hb.cell (by simpa using h1)]; exact (hc k x hx).1
      have c1 : wr.cell? ⟨g, o + k * 2 + 1, none⟩ = some (.string x.2) := by rw [hb.cell (by simpa using h1)]; exact (hc k x hx).2
      have HX : Hid (L[k]? = some x) := hx
      have hg : g < wr.heap.size := Nat.lt_of_lt_of_le h1 hb.size
      obtain ⟨w3, hw3⟩ : ∃ w3, w3 = wr.alloc (.cells #[.string x.1, .string x.2] 62) := ⟨_, rfl⟩
      have hb3 : Below w2.heap.size w2 w3 := by rw [hw3]; exact hb.alloc hb.size _
      have f0 : w3.cell? ⟨wr.heap.size, 0, none⟩ = some (.string x.1) := by rw [hw3, World.cell?_alloc_at _ _ _ _ rfl]; rfl
      have f1 : w3.cell? ⟨wr.heap.size, 1, none⟩ = some (.string x.2) := by rw [hw3, World.cell?_alloc_at _ _ _ _ rfl]; rfl
      have hz3 : wr.heap.size < w3.heap.size := by rw [hw3]; simp
      have HW3 : Hid (w3 = wr.alloc (.cells #[.string x.1, .string x.2] 62)) := hw3
      clear hw3
      have HC : Hid (cand L ds k x = (lastAt L k (nm x) && !isNull x && !isIn ds (nm x))) := rfl
      have HK : Hid (isNull x = (x.2.toList == [110, 117, 108, 108])) := rfl
      have HM : Hid (len2 ≤ 3000000) := (by omega : len2 ≤ 3000000)
      obtain ⟨l, hl⟩ : ∃ l, l = lastAt L k (nm x) := ⟨_, rfl⟩
      rw [← hl] at HC
      have HL : Hid (l = lastAt L k (nm x)) := hl
      clear hl
      have HLN : Hid (lastAt L k (nm x) = (match L[k + 1]? with | none => true | some y => !(nm y == nm x))) := lastAt_next HS.out.1 hx
      clear hx
      by_cases hk1 : k + 1 < len
      · obtain ⟨y, hy⟩ : ∃ u, L[k + 1]? = some u := ⟨_, List.getElem?_eq_getElem (by rw [hL.len_eq]; exact hk1)⟩
        have d0 : w3.cell? ⟨g, o + (k + 1) * 2, none⟩ = some (.string y.1) := by rw [hb3.cell (by simpa using h1)]; exact (hc (k + 1) y hy).1
        have hg3 : g < w3.heap.size := Nat.lt_of_lt_of_le h1 hb3.size
        have t2 : ((k : Int) + 1 == (len : Int)) = false := by rw [beq_eq_false_iff_ne]; omega
        have t3 : (k : Int) + 1 < (len : Int) := by omega
        clear hc
        have HL2 : Hid (l = !(y.1.toList == x.1.toList)) := by
          show l = _
          rw [HL.out, HLN.out, hy]
          show (!(nm y == nm x)) = _
          rw [nm, nm, ← ByteArray.toList_eq, ← ByteArray.toList_eq]
        clear HLN HL
        by_cases hys : y.1.toList = x.1.toList
        · have hq : (y.1.toList == x.1.toList) = true := by simpa using hys
          clear hys
          go_wp2_with fail
          rw [← HW3.out]
          go_quiet (fail)
          go_wp2_with fail
          go_roundw
          case rel => exact ⟨k + 1, by omega, by go_num, step_lt (P := fun j x => cand L ds j x = false) HN.out HX.out (by rw [HC.out, HL2.out, hq]; simp), hb3.trans (drewN_below _ _ _)⟩
          case measure => simp [intOf]; omega
        · have hq : (y.1.toList == x.1.toList) = false := by simpa using hys
          clear hys
          by_cases hnu : x.2.toList = [110, 117, 108, 108]
          · have hq2 : (x.2.toList == [110, 117, 108, 108]) = true := by simpa using hnu
            go_wp2_with fail
            rw [← HW3.out]
            go_quiet (fail)
            go_wp2_with fail
            go_roundw
            case rel => exact ⟨k + 1, by omega, by go_num, step_lt (P := fun j x => cand L ds j x = false) HN.out HX.out (by rw [HC.out, HK.out, hq2]; simp), hb3.trans (drewN_below _ _ _)⟩
            case measure => simp [intOf]; omega
          · have hq2 : (x.2.toList == [110, 117, 108, 108]) = false := by simpa using hnu
            go_wp2_with fail
            rw [← HW3.out]
            go_quiet (fail)
            have hbq : Below w2.heap.size w2 (w3.drewN nq) := hb3.trans (drewN_below _ _ _)
            have D : Hid _ := contains_any a2 len2 cap2 ds x.1 (w3.drewN nq) (HD.out.below hbq) HM.out
            obtain ⟨iv, hiv⟩ : ∃ iv, iv = isIn ds x.1.toList := ⟨_, rfl⟩
            rw [← hiv] at D
            have HI : Hid (iv = isIn ds (nm x)) := by show iv = _; rw [hiv, nm, ← ByteArray.toList_eq]
            clear hiv
            go_wp2_with fail
            refine Calls.mono D.out ?_
            rintro e w4 ⟨rfl, hb4⟩
            have f4 : w4.cell? ⟨wr.heap.size, 0, none⟩ = some (.string x.1) := by rw [hb4.cell (by simpa using hz3)]; exact f0
            have hb5 : Below w2.heap.size w2 w4 := bt hbq hb4 hbq.size
            clear D hb4
            cases iv with
            | true =>
              go_wp2_with fail
              go_roundw
              case rel => exact ⟨k + 1, by omega, by go_num, step_lt (P := fun j x => cand L ds j x = false) HN.out HX.out (by rw [HC.out, ← HI.out]; simp), hb5⟩
              case measure => simp [intOf]; omega
            | false =>
              have HB : Hid (Best ms ds len x.1 true) := by
                have := best_first_hit HS.out.1 HX.out (by rw [HC.out, ← HI.out, HK.out, hq2, HL2.out, hq]; rfl) HN.out
                have := this.same HS.out.2.1
                rw [HH.out.1] at this
                exact this
              go_wp2_with fail
              go_ret2
              exact ⟨⟨_, _, rfl, HB.out⟩, bt hb2 hb5 hb2.size⟩
      · have t2 : ((k : Int) + 1 == (len : Int)) = true := by rw [beq_iff_eq]; omega
        clear hc
        have HL2 : Hid (l = true) := by
          show l = _
          rw [HL.out, HLN.out, List.getElem?_eq_none_iff.2 (by rw [hL.len_eq]; omega)]
        clear HLN HL
        by_cases hnu : x.2.toList = [110, 117, 108, 108]
        · have hq2 : (x.2.toList == [110, 117, 108, 108]) = true := by simpa using hnu
          go_wp2_with fail
          rw [← HW3.out]
          go_quiet (fail)
          go_wp2_with fail
          go_roundw
          case rel => exact ⟨k + 1, by omega, by go_num, step_lt (P := fun j x => cand L ds j x = false) HN.out HX.out (by rw [HC.out, HK.out, hq2]; simp), hb3.trans (drewN_below _ _ _)⟩
          case measure => simp [intOf]; omega
        · have hq2 : (x.2.toList == [110, 117, 108, 108]) = false := by simpa using hnu
          go_wp2_with fail
          rw [← HW3.out]
          go_quiet (fail)
          have hbq : Below w2.heap.size w2 (w3.drewN nq) := hb3.trans (drewN_below _ _ _)
          have D : Hid _ := contains_any a2 len2 cap2 ds x.1 (w3.drewN nq) (HD.out.below hbq) HM.out
          obtain ⟨iv, hiv⟩ : ∃ iv, iv = isIn ds x.1.toList := ⟨_, rfl⟩
          rw [← hiv] at D
          have HI : Hid (iv = isIn ds (nm x)) := by show iv = _; rw [hiv, nm, ← ByteArray.toList_eq]
          clear hiv
          go_wp2_with fail
          refine Calls.mono D.out ?_
          rintro e w4 ⟨rfl, hb4⟩
          have f4 : w4.cell? ⟨wr.heap.size, 0, none⟩ = some (.string x.1) := by rw [hb4.cell (by simpa using hz3)]; exact f0
          have hb5 : Below w2.heap.size w2 w4 := bt hbq hb4 hbq.size
          clear D hb4
          cases iv with
          | true =>
            go_wp2_with fail
            go_roundw
            case rel => exact ⟨k + 1, by omega, by go_num, step_lt (P := fun j x => cand L ds j x = false) HN.out HX.out (by rw [HC.out, ← HI.out]; simp), hb5⟩
            case measure => simp [intOf]; omega
          | false =>
            have HB : Hid (Best ms ds len x.1 true) := by
              have := best_first_hit HS.out.1 HX.out (by rw [HC.out, ← HI.out, HK.out, hq2, HL2.out]; rfl) HN.out
              have := this.same HS.out.2.1
              rw [HH.out.1] at this
              exact this
            go_wp2_with fail
            go_ret2
            exact ⟨⟨_, _, rfl, HB.out⟩, bt hb2 hb5 hb2.size⟩
    · have t1 : ¬ (k : Int) < (len : Int) := by omega
      go_wp2_with fail
      go_ret2
      refine ⟨⟨_, _, rfl, ?_⟩, bt hb2 hb hb2.size⟩
      have : Best L ds L.length ⟨#[]⟩ false := .inl ⟨rfl, rfl, fun i x hi hx => HN.out i x (by rw [HS.out.2.2] at hi; omega) hx⟩
      have := this.same HS.out.2.1
      rwa [HH.out.1] at this
end Go.Proofs.Qxb6603645a
