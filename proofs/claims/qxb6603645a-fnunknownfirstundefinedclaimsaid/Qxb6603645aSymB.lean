import Derived.Test.Qxb6603645aSymA
namespace Go.Proofs.Qxb6603645a
open Go.RowKit
set_option linter.unusedSimpArgs false
set_option linter.unusedVariables false

set_option maxRecDepth 100000 in
set_option maxHeartbeats 4000000 in
/-- 'symMerge' of a sorted run of more than one member with a run of one. -/
theorem sym_last (g cap : Nat) (P A R : List Mb) (y : Mb) (N : Nat) (w : World) (hH : Held w g (P ++ (A ++ y :: R))) (hN : (P ++ (A ++ y :: R)).length = N) (hN2 : N ≤ 4096) (a m b : Nat) (ha : P.length = a) (hm : a + A.length = m) (hb : m + 1 = b) (hA : Srt A) (hA2 : 2 ≤ A.length) :
    Calls Try.prog 40 #[.slice (some ⟨g, 0, none⟩) N cap, .int .i64 (a : Int), .int .i64 (m : Int), .int .i64 (b : Int), cmpF] w fun e w' => e = .returned (.tuple #[]) ∧ (∃ M, Held w' g (P ++ M ++ R) ∧ Srt M ∧ Same (A ++ [y]) M) ∧ Fr g w w' := by
  unfold cmpF
  have o1 : a + 2 ≤ m := by omega
  have o2 : m < b := by omega
  have o3 : b ≤ N := by simp only [List.length_append, List.length_cons] at hN; omega
  have t0 : ((m : Int) - (a : Int) == 1) = false := by rw [beq_eq_false_iff_ne]; omega
  have t1 : ((b : Int) - (m : Int) == 1) = true := by simp; omega
  have HL : Hid (P.length = a ∧ a + A.length = m ∧ m + 1 = b ∧ Srt A) := ⟨ha, hm, hb, hA⟩
  clear hN ha hm hb hA hA2
  go_enter Try.func40, Try.ntmps40
  go_wp2_with fail
  go_loopw [14, 15] (fun iv jv wr => ∃ i j : Nat, iv = .int .i64 (i : Int) ∧ jv = .int .i64 (j : Int) ∧ a ≤ i ∧ i ≤ j ∧ j ≤ m ∧ (i - a = 0 ∨ ∃ x, A[i - a - 1]? = some x ∧ Le (nm x) (nm y)) ∧ (A.length ≤ j - a ∨ ∃ x, A[j - a]? = some x ∧ Lt (nm y) (nm x)) ∧ Held wr g (P ++ (A ++ y :: R)) ∧ Fr g w wr) (fun iv jv _ => (intOf jv).toNat - (intOf iv).toNat)
  case atStart => exact ⟨a, m, rfl, rfl, Nat.le_refl _, by omega, Nat.le_refl _, .inl (by omega), .inl (by have := HL.out; omega), hH, Fr.refl _ _⟩
  case round =>
    clear hH
    obtain ⟨i, j, rfl, rfl, h1, h2, h3, q1, q2, hr, hf⟩ := hrel
    by_cases hij : i < j
    · have HQ : Hid _ := And.intro q1 (And.intro q2 hr)
      clear q1 q2 hr
      obtain ⟨h, hh⟩ : ∃ h : Nat, ((i : Int) + (j : Int)) / 2 = (h : Int) := ⟨(i + j) / 2, by omega⟩
      have u1 : i ≤ h := by omega
      have u2 : h < j := by omega
      obtain ⟨x, HY, c0, c1, c2, c3⟩ : ∃ x, Hid (A[h - a]? = some x) ∧ wr.cell? ⟨g, h * 2, none⟩ = some (.string x.1) ∧ wr.cell? ⟨g, h * 2 + 1, none⟩ = some (.string x.2) ∧ wr.cell? ⟨g, m * 2, none⟩ = some (.string y.1) ∧ wr.cell? ⟨g, m * 2 + 1, none⟩ = some (.string y.2) := by
        obtain ⟨ha, hm, hb, hA⟩ := HL.out
        have hlt : h - a < A.length := by omega
        have e : (P ++ (A ++ y :: R))[h]? = A[h - a]? := by
          have := get_seg P A (y :: R) hlt
          rw [ha, show a + (h - a) = h by omega] at this
          exact this
        have e2 : (P ++ (A ++ y :: R))[m]? = some y := by
          have := get_mid (P ++ A) R y
          rw [List.length_append, ha, hm] at this
          rw [← List.append_assoc]
          exact this
        have hy := List.getElem?_eq_getElem hlt
        rw [hy] at e
        exact ⟨_, hy, (HQ.out.2.2.cell e).1, (HQ.out.2.2.cell e).2, (HQ.out.2.2.cell e2).1, (HQ.out.2.2.cell e2).2⟩
      have v1 : (h : Int) < (N : Int) := by omega
      have v2 : (m : Int) < (N : Int) := by omega
      have v3 : h < N := by omega
      have v4 : m < N := by omega
      have HX : Hid _ := fun w => cmp_any y x w
      unfold mbV at HX
      obtain ⟨cv, hcv⟩ : ∃ cv, cv = Lib.compareBytes (nm y) (nm x) := ⟨_, rfl⟩
      rw [← hcv] at HX
      have HCV : Hid (cv = Lib.compareBytes (nm y) (nm x)) := hcv
      clear hcv
      go_wp2_with fail
      by_cases hlt2 : cv < 0
      · have HLT : Hid (cv < 0) := hlt2
        refine wp_region_any (by kernel_rfl) ?_
        change wpAny _ _ _ _ 12 #[false, false, false, false, false, false, false, false, false, false, false, false] _ (World.drew _)
        refine wpAny_take (i := 0) (v := .func (.func 31) #[] #[]) rfl (by kernel_rfl) (by kernel_rfl) (by kernel_rfl) (fun _ _ _ h => h) (Or.inl ⟨by kernel_rfl, fun w => BigFrame.run_move (.tmp 4) rfl w⟩) ?_
        simp only [List.getElem_toArray, List.getElem_cons_zero, List.getElem_cons_succ, Act.put, List.setIfInBounds_toArray, List.set_cons_succ, List.set_cons_zero]
        refine wpAny_take (i := 1) (v := .slice (some ⟨g, 0, none⟩) N cap) rfl (by kernel_rfl) (by kernel_rfl) (by kernel_rfl) (fun _ _ _ h => h) (Or.inl ⟨by kernel_rfl, fun w => BigFrame.run_move (.tmp 0) rfl w⟩) ?_
        simp only [List.getElem_toArray, List.getElem_cons_zero, List.getElem_cons_succ, Act.put, List.setIfInBounds_toArray, List.set_cons_succ, List.set_cons_zero]
        refine wpAny_take (i := 2) (v := .int .i64 (m : Int)) rfl (by kernel_rfl) (by kernel_rfl) (by kernel_rfl) (fun _ _ _ h => h) (Or.inl ⟨by kernel_rfl, fun w => BigFrame.run_move (.tmp 2) rfl w⟩) ?_
        simp only [List.getElem_toArray, List.getElem_cons_zero, List.getElem_cons_succ, Act.put, List.setIfInBounds_toArray, List.set_cons_succ, List.set_cons_zero]
        refine wpAny_take (i := 3) (v := .pointer (some ⟨g, m * 2, none⟩)) rfl (by kernel_rfl) (by kernel_rfl) (by kernel_rfl) (fun _ _ _ h => h) (Or.inl ⟨by kernel_rfl, ?_⟩) ?_
        · intro w; go_simp
        simp only [List.getElem_toArray, List.getElem_cons_zero, List.getElem_cons_succ, Act.put, List.setIfInBounds_toArray, List.set_cons_succ, List.set_cons_zero]
        refine wpAny_take (i := 5) (v := .slice (some ⟨g, 0, none⟩) N cap) rfl (by kernel_rfl) (by kernel_rfl) (by kernel_rfl) (fun _ _ _ h => h) (Or.inl ⟨by kernel_rfl, fun w => BigFrame.run_move (.tmp 0) rfl w⟩) ?_
        simp only [List.getElem_toArray, List.getElem_cons_zero, List.getElem_cons_succ, Act.put, List.setIfInBounds_toArray, List.set_cons_succ, List.set_cons_zero]
        refine wpAny_take (i := 6) (v := .int .i64 (h : Int)) rfl (by kernel_rfl) (by kernel_rfl) (by kernel_rfl) (fun _ _ _ h => h) (Or.inl ⟨by kernel_rfl, fun w => BigFrame.run_move (.tmp 16) rfl w⟩) ?_
        simp only [List.getElem_toArray, List.getElem_cons_zero, List.getElem_cons_succ, Act.put, List.setIfInBounds_toArray, List.set_cons_succ, List.set_cons_zero]
        refine wpAny_take (i := 7) (v := .pointer (some ⟨g, h * 2, none⟩)) rfl (by kernel_rfl) (by kernel_rfl) (by kernel_rfl) (fun _ _ _ h => h) (Or.inl ⟨by kernel_rfl, ?_⟩) ?_
        · intro w; go_simp
        simp only [List.getElem_toArray, List.getElem_cons_zero, List.getElem_cons_succ, Act.put, List.setIfInBounds_toArray, List.set_cons_succ, List.set_cons_zero]
        refine wpAny_ready (rs := [4, 8]) (by kernel_rfl) (by simp) (BigFrame.allReady_want rfl (by kernel_rfl) (fun K hK => ?_) (BigFrame.allReady_want rfl (by kernel_rfl) (fun K hK => ?_) AllReady.nil))
        · simp only [List.getElem_toArray, List.getElem_cons_zero, List.getElem_cons_succ]
          go_big_op
          refine hK _ _ ?_
          clear hK K
          simp only [List.setIfInBounds_toArray, List.set_cons_succ, List.set_cons_zero]
          refine wpAny_ready (rs := [8]) (by kernel_rfl) (by simp) (BigFrame.allReady_want rfl (by kernel_rfl) (fun K hK => ?_) AllReady.nil)
          simp only [List.getElem_toArray, List.getElem_cons_zero, List.getElem_cons_succ]
          go_big_op
          refine hK _ _ ?_
          clear hK K
          simp only [List.setIfInBounds_toArray, List.set_cons_succ, List.set_cons_zero]
          refine wpAny_ready (rs := [9]) (by kernel_rfl) (by simp) (BigFrame.allReady_want rfl (by kernel_rfl) (fun K hK => ?_) AllReady.nil)
          simp only [List.getElem_toArray, List.getElem_cons_zero, List.getElem_cons_succ]
          go_wp2_with (go_at_call 31; refine Calls.mono (HX.out _) ?_; rintro e w2 ⟨rfl, hb2⟩)
          try simp only [List.setIfInBounds_toArray, List.set_cons_succ, List.set_cons_zero]
          refine wpAny_take (i := 10) (v := .bool true) rfl (by kernel_rfl) (by kernel_rfl) (by kernel_rfl) (fun _ _ _ h => h) (Or.inl ⟨by kernel_rfl, ?_⟩) ?_
          · intro w; go_simp
          simp only [List.getElem_toArray, List.getElem_cons_zero, List.getElem_cons_succ, Act.put, List.setIfInBounds_toArray, List.set_cons_succ, List.set_cons_zero]
          refine wpAny_take (i := 11) (v := .bool false) rfl (by kernel_rfl) (by kernel_rfl) (by kernel_rfl) (fun _ _ _ h => h) (Or.inl ⟨by kernel_rfl, ?_⟩) ?_
          · intro w; go_simp
          simp only [List.getElem_toArray, List.getElem_cons_zero, List.getElem_cons_succ, Act.put, List.setIfInBounds_toArray, List.set_cons_succ, List.set_cons_zero]
          refine wpAny_done (by kernel_rfl) ?_ _
          have hb2' : Below wr.heap.size wr w2 := ⟨hb2.os, hb2.tape, hb2.output, hb2.size, hb2.block⟩
          have hw2 := HQ.out.2.2.below hb2'
          have hf2 : Fr g w w2 := hf.trans (Fr.of_below hb2')
          clear c0 c1 c2 c3 hb2 hb2'
          go_wp2_with fail
          go_roundw
          case rel => exact ⟨i, h, rfl, rfl, h1, by omega, by omega, HQ.out.1, .inr ⟨x, HY.out, by have hz := HLT.out; rw [HCV.out] at hz; exact hz⟩, hw2, hf2⟩
          case measure => simp [intOf]; omega
        · simp only [List.getElem_toArray, List.getElem_cons_zero, List.getElem_cons_succ]
          go_big_op
          refine hK _ _ ?_
          clear hK K
          simp only [List.setIfInBounds_toArray, List.set_cons_succ, List.set_cons_zero]
          refine wpAny_ready (rs := [4]) (by kernel_rfl) (by simp) (BigFrame.allReady_want rfl (by kernel_rfl) (fun K hK => ?_) AllReady.nil)
          simp only [List.getElem_toArray, List.getElem_cons_zero, List.getElem_cons_succ]
          go_big_op
          refine hK _ _ ?_
          clear hK K
          simp only [List.setIfInBounds_toArray, List.set_cons_succ, List.set_cons_zero]
          refine wpAny_ready (rs := [9]) (by kernel_rfl) (by simp) (BigFrame.allReady_want rfl (by kernel_rfl) (fun K hK => ?_) AllReady.nil)
          simp only [List.getElem_toArray, List.getElem_cons_zero, List.getElem_cons_succ]
          go_wp2_with (go_at_call 31; refine Calls.mono (HX.out _) ?_; rintro e w2 ⟨rfl, hb2⟩)
          try simp only [List.setIfInBounds_toArray, List.set_cons_succ, List.set_cons_zero]
          refine wpAny_take (i := 10) (v := .bool true) rfl (by kernel_rfl) (by kernel_rfl) (by kernel_rfl) (fun _ _ _ h => h) (Or.inl ⟨by kernel_rfl, ?_⟩) ?_
          · intro w; go_simp
          simp only [List.getElem_toArray, List.getElem_cons_zero, List.getElem_cons_succ, Act.put, List.setIfInBounds_toArray, List.set_cons_succ, List.set_cons_zero]
          refine wpAny_take (i := 11) (v := .bool false) rfl (by kernel_rfl) (by kernel_rfl) (by kernel_rfl) (fun _ _ _ h => h) (Or.inl ⟨by kernel_rfl, ?_⟩) ?_
          · intro w; go_simp
          simp only [List.getElem_toArray, List.getElem_cons_zero, List.getElem_cons_succ, Act.put, List.setIfInBounds_toArray, List.set_cons_succ, List.set_cons_zero]
          refine wpAny_done (by kernel_rfl) ?_ _
          have hb2' : Below wr.heap.size wr w2 := ⟨hb2.os, hb2.tape, hb2.output, hb2.size, hb2.block⟩
          have hw2 := HQ.out.2.2.below hb2'
          have hf2 : Fr g w w2 := hf.trans (Fr.of_below hb2')
          clear c0 c1 c2 c3 hb2 hb2'
          go_wp2_with fail
          go_roundw
          case rel => exact ⟨i, h, rfl, rfl, h1, by omega, by omega, HQ.out.1, .inr ⟨x, HY.out, by have hz := HLT.out; rw [HCV.out] at hz; exact hz⟩, hw2, hf2⟩
          case measure => simp [intOf]; omega
      · have HLT : Hid (¬ cv < 0) := hlt2
        refine wp_region_any (by kernel_rfl) ?_
        change wpAny _ _ _ _ 12 #[false, false, false, false, false, false, false, false, false, false, false, false] _ (World.drew _)
        refine wpAny_take (i := 0) (v := .func (.func 31) #[] #[]) rfl (by kernel_rfl) (by kernel_rfl) (by kernel_rfl) (fun _ _ _ h => h) (Or.inl ⟨by kernel_rfl, fun w => BigFrame.run_move (.tmp 4) rfl w⟩) ?_
        simp only [List.getElem_toArray, List.getElem_cons_zero, List.getElem_cons_succ, Act.put, List.setIfInBounds_toArray, List.set_cons_succ, List.set_cons_zero]
        refine wpAny_take (i := 1) (v := .slice (some ⟨g, 0, none⟩) N cap) rfl (by kernel_rfl) (by kernel_rfl) (by kernel_rfl) (fun _ _ _ h => h) (Or.inl ⟨by kernel_rfl, fun w => BigFrame.run_move (.tmp 0) rfl w⟩) ?_
        simp only [List.getElem_toArray, List.getElem_cons_zero, List.getElem_cons_succ, Act.put, List.setIfInBounds_toArray, List.set_cons_succ, List.set_cons_zero]
        refine wpAny_take (i := 2) (v := .int .i64 (m : Int)) rfl (by kernel_rfl) (by kernel_rfl) (by kernel_rfl) (fun _ _ _ h => h) (Or.inl ⟨by kernel_rfl, fun w => BigFrame.run_move (.tmp 2) rfl w⟩) ?_
        simp only [List.getElem_toArray, List.getElem_cons_zero, List.getElem_cons_succ, Act.put, List.setIfInBounds_toArray, List.set_cons_succ, List.set_cons_zero]
        refine wpAny_take (i := 3) (v := .pointer (some ⟨g, m * 2, none⟩)) rfl (by kernel_rfl) (by kernel_rfl) (by kernel_rfl) (fun _ _ _ h => h) (Or.inl ⟨by kernel_rfl, ?_⟩) ?_
        · intro w; go_simp
        simp only [List.getElem_toArray, List.getElem_cons_zero, List.getElem_cons_succ, Act.put, List.setIfInBounds_toArray, List.set_cons_succ, List.set_cons_zero]
        refine wpAny_take (i := 5) (v := .slice (some ⟨g, 0, none⟩) N cap) rfl (by kernel_rfl) (by kernel_rfl) (by kernel_rfl) (fun _ _ _ h => h) (Or.inl ⟨by kernel_rfl, fun w => BigFrame.run_move (.tmp 0) rfl w⟩) ?_
        simp only [List.getElem_toArray, List.getElem_cons_zero, List.getElem_cons_succ, Act.put, List.setIfInBounds_toArray, List.set_cons_succ, List.set_cons_zero]
        refine wpAny_take (i := 6) (v := .int .i64 (h : Int)) rfl (by kernel_rfl) (by kernel_rfl) (by kernel_rfl) (fun _ _ _ h => h) (Or.inl ⟨by kernel_rfl, fun w => BigFrame.run_move (.tmp 16) rfl w⟩) ?_
        simp only [List.getElem_toArray, List.getElem_cons_zero, List.getElem_cons_succ, Act.put, List.setIfInBounds_toArray, List.set_cons_succ, List.set_cons_zero]
        refine wpAny_take (i := 7) (v := .pointer (some ⟨g, h * 2, none⟩)) rfl (by kernel_rfl) (by kernel_rfl) (by kernel_rfl) (fun _ _ _ h => h) (Or.inl ⟨by kernel_rfl, ?_⟩) ?_
        · intro w; go_simp
        simp only [List.getElem_toArray, List.getElem_cons_zero, List.getElem_cons_succ, Act.put, List.setIfInBounds_toArray, List.set_cons_succ, List.set_cons_zero]
        refine wpAny_ready (rs := [4, 8]) (by kernel_rfl) (by simp) (BigFrame.allReady_want rfl (by kernel_rfl) (fun K hK => ?_) (BigFrame.allReady_want rfl (by kernel_rfl) (fun K hK => ?_) AllReady.nil))
        · simp only [List.getElem_toArray, List.getElem_cons_zero, List.getElem_cons_succ]
          go_big_op
          refine hK _ _ ?_
          clear hK K
          simp only [List.setIfInBounds_toArray, List.set_cons_succ, List.set_cons_zero]
          refine wpAny_ready (rs := [8]) (by kernel_rfl) (by simp) (BigFrame.allReady_want rfl (by kernel_rfl) (fun K hK => ?_) AllReady.nil)
          simp only [List.getElem_toArray, List.getElem_cons_zero, List.getElem_cons_succ]
          go_big_op
          refine hK _ _ ?_
          clear hK K
          simp only [List.setIfInBounds_toArray, List.set_cons_succ, List.set_cons_zero]
          refine wpAny_ready (rs := [9]) (by kernel_rfl) (by simp) (BigFrame.allReady_want rfl (by kernel_rfl) (fun K hK => ?_) AllReady.nil)
          simp only [List.getElem_toArray, List.getElem_cons_zero, List.getElem_cons_succ]
          go_wp2_with (go_at_call 31; refine Calls.mono (HX.out _) ?_; rintro e w2 ⟨rfl, hb2⟩)
          try simp only [List.setIfInBounds_toArray, List.set_cons_succ, List.set_cons_zero]
          refine wpAny_take (i := 10) (v := .bool false) rfl (by kernel_rfl) (by kernel_rfl) (by kernel_rfl) (fun _ _ _ h => h) (Or.inl ⟨by kernel_rfl, ?_⟩) ?_
          · intro w; go_simp
          simp only [List.getElem_toArray, List.getElem_cons_zero, List.getElem_cons_succ, Act.put, List.setIfInBounds_toArray, List.set_cons_succ, List.set_cons_zero]
          refine wpAny_take (i := 11) (v := .bool true) rfl (by kernel_rfl) (by kernel_rfl) (by kernel_rfl) (fun _ _ _ h => h) (Or.inl ⟨by kernel_rfl, ?_⟩) ?_
          · intro w; go_simp
          simp only [List.getElem_toArray, List.getElem_cons_zero, List.getElem_cons_succ, Act.put, List.setIfInBounds_toArray, List.set_cons_succ, List.set_cons_zero]
          refine wpAny_done (by kernel_rfl) ?_ _
          have hb2' : Below wr.heap.size wr w2 := ⟨hb2.os, hb2.tape, hb2.output, hb2.size, hb2.block⟩
          have hw2 := HQ.out.2.2.below hb2'
          have hf2 : Fr g w w2 := hf.trans (Fr.of_below hb2')
          clear c0 c1 c2 c3 hb2 hb2'
          go_wp2_with fail
          go_roundw
          case rel => exact ⟨h + 1, j, by go_num, rfl, by omega, by omega, h3, .inr ⟨x, by rw [show h + 1 - a - 1 = h - a by omega]; exact HY.out, by have hz := HLT.out; rw [HCV.out] at hz; show ¬ (Lib.compareBytes (nm y) (nm x) < 0); omega⟩, HQ.out.2.1, hw2, hf2⟩
          case measure => simp [intOf]; omega
        · simp only [List.getElem_toArray, List.getElem_cons_zero, List.getElem_cons_succ]
          go_big_op
          refine hK _ _ ?_
          clear hK K
          simp only [List.setIfInBounds_toArray, List.set_cons_succ, List.set_cons_zero]
          refine wpAny_ready (rs := [4]) (by kernel_rfl) (by simp) (BigFrame.allReady_want rfl (by kernel_rfl) (fun K hK => ?_) AllReady.nil)
          simp only [List.getElem_toArray, List.getElem_cons_zero, List.getElem_cons_succ]
          go_big_op
          refine hK _ _ ?_
          clear hK K
          simp only [List.setIfInBounds_toArray, List.set_cons_succ, List.set_cons_zero]
          refine wpAny_ready (rs := [9]) (by kernel_rfl) (by simp) (BigFrame.allReady_want rfl (by kernel_rfl) (fun K hK => ?_) AllReady.nil)
          simp only [List.getElem_toArray, List.getElem_cons_zero, List.getElem_cons_succ]
          go_wp2_with (go_at_call 31; refine Calls.mono (HX.out _) ?_; rintro e w2 ⟨rfl, hb2⟩)
          try simp only [List.setIfInBounds_toArray, List.set_cons_succ, List.set_cons_zero]
          refine wpAny_take (i := 10) (v := .bool false) rfl (by kernel_rfl) (by kernel_rfl) (by kernel_rfl) (fun _ _ _ h => h) (Or.inl ⟨by kernel_rfl, ?_⟩) ?_
          · intro w; go_simp
          simp only [List.getElem_toArray, List.getElem_cons_zero, List.getElem_cons_succ, Act.put, List.setIfInBounds_toArray, List.set_cons_succ, List.set_cons_zero]
          refine wpAny_take (i := 11) (v := .bool true) rfl (by kernel_rfl) (by kernel_rfl) (by kernel_rfl) (fun _ _ _ h => h) (Or.inl ⟨by kernel_rfl, ?_⟩) ?_
          · intro w; go_simp
          simp only [List.getElem_toArray, List.getElem_cons_zero, List.getElem_cons_succ, Act.put, List.setIfInBounds_toArray, List.set_cons_succ, List.set_cons_zero]
          refine wpAny_done (by kernel_rfl) ?_ _
          have hb2' : Below wr.heap.size wr w2 := ⟨hb2.os, hb2.tape, hb2.output, hb2.size, hb2.block⟩
          have hw2 := HQ.out.2.2.below hb2'
          have hf2 : Fr g w w2 := hf.trans (Fr.of_below hb2')
          clear c0 c1 c2 c3 hb2 hb2'
          go_wp2_with fail
          go_roundw
          case rel => exact ⟨h + 1, j, by go_num, rfl, by omega, by omega, h3, .inr ⟨x, by rw [show h + 1 - a - 1 = h - a by omega]; exact HY.out, by have hz := HLT.out; rw [HCV.out] at hz; show ¬ (Lib.compareBytes (nm y) (nm x) < 0); omega⟩, HQ.out.2.1, hw2, hf2⟩
          case measure => simp [intOf]; omega
    · have HS : Hid (Held wr g (P ++ (A.take (m - a) ++ y :: A.drop (m - a)) ++ R)) := by
        obtain ⟨ha, hm, hb, hA⟩ := HL.out
        show Held _ _ _
        rw [List.take_of_length_le (by omega), List.drop_eq_nil_of_le (by omega)]
        simpa using hr
      have HQ : Hid (Srt (A.take (i - a) ++ y :: A.drop (i - a)) ∧ Same (A ++ [y]) (A.take (i - a) ++ y :: A.drop (i - a))) := by
        have e : i = j := by omega
        subst e
        exact put_left HL.out.2.2.2 q1 q2
      clear q1 q2 hr
      go_wp2_with fail
      go_loopw [17] (fun kv ws => ∃ k : Nat, kv = .int .i64 (k : Int) ∧ i ≤ k ∧ k ≤ m ∧ Held ws g (P ++ (A.take (k - a) ++ y :: A.drop (k - a)) ++ R) ∧ Fr g w ws) (fun kv _ => (intOf kv).toNat)
      case atStart => exact ⟨m, rfl, by omega, Nat.le_refl _, HS.out, hf⟩
      case round =>
        clear HS
        obtain ⟨K, rfl, hk1, hk2, hw, hfs⟩ := hrel
        by_cases hki : i < K
        · obtain ⟨k, hk⟩ : ∃ k, k = K - 1 := ⟨_, rfl⟩
          obtain ⟨x, HT, c0, c1, c2, c3, f0, f1, f2, f3⟩ : ∃ x : Mb, Hid (Held ((((wr.drew.setCell ⟨g, K * 2, none⟩ (.string x.1)).setCell ⟨g, K * 2 + 1, none⟩ (.string x.2)).setCell ⟨g, (K - 1) * 2, none⟩ (.string y.1)).setCell ⟨g, (K - 1) * 2 + 1, none⟩ (.string y.2)) g (P ++ (A.take (K - 1 - a) ++ y :: A.drop (K - 1 - a)) ++ R) ∧
              Fr g wr.drew ((((wr.drew.setCell ⟨g, K * 2, none⟩ (.string x.1)).setCell ⟨g, K * 2 + 1, none⟩ (.string x.2)).setCell ⟨g, (K - 1) * 2, none⟩ (.string y.1)).setCell ⟨g, (K - 1) * 2 + 1, none⟩ (.string y.2))) ∧
              wr.cell? ⟨g, K * 2, none⟩ = some (.string y.1) ∧ wr.cell? ⟨g, K * 2 + 1, none⟩ = some (.string y.2) ∧ wr.cell? ⟨g, (K - 1) * 2, none⟩ = some (.string x.1) ∧ wr.cell? ⟨g, (K - 1) * 2 + 1, none⟩ = some (.string x.2) ∧
              wr.frozen? ⟨g, K * 2, none⟩ = false ∧ wr.frozen? ⟨g, K * 2 + 1, none⟩ = false ∧ wr.frozen? ⟨g, (K - 1) * 2, none⟩ = false ∧ wr.frozen? ⟨g, (K - 1) * 2 + 1, none⟩ = false := by
            obtain ⟨ha, hm, hb, hA⟩ := HL.out
            obtain ⟨x, hx⟩ : ∃ x, A[K - 1 - a]? = some x := ⟨_, List.getElem?_eq_getElem (by omega)⟩
            have eA : A.drop (K - 1 - a) = x :: A.drop (K - a) := by
              obtain ⟨_, rfl⟩ := List.getElem?_eq_some_iff.1 hx
              rw [show K - a = K - 1 - a + 1 by omega]
              exact List.drop_eq_getElem_cons _
            have tA : A.take (K - a) = A.take (K - 1 - a) ++ [x] := by
              rw [show K - a = K - 1 - a + 1 by omega, List.take_add_one, hx]
              rfl
            have e1 : P ++ (A.take (K - a) ++ y :: A.drop (K - a)) ++ R = (P ++ A.take (K - 1 - a)) ++ x :: ([] ++ y :: (A.drop (K - a) ++ R)) := by rw [tA]; simp
            have e2 : P ++ (A.take (K - 1 - a) ++ y :: A.drop (K - 1 - a)) ++ R = (P ++ A.take (K - 1 - a)) ++ y :: x :: (A.drop (K - a) ++ R) := by rw [eA]; simp
            rw [e1] at hw
            have i1 : (P ++ A.take (K - 1 - a)).length = K - 1 := by simp; omega
            have g1 : ((P ++ A.take (K - 1 - a)) ++ x :: ([] ++ y :: (A.drop (K - a) ++ R)))[K - 1]? = some x := by
              have := get_mid (P ++ A.take (K - 1 - a)) ([] ++ y :: (A.drop (K - a) ++ R)) x
              rw [i1] at this
              exact this
            have g2 : ((P ++ A.take (K - 1 - a)) ++ x :: ([] ++ y :: (A.drop (K - a) ++ R)))[K]? = some y := by
              have := get_mid (P ++ A.take (K - 1 - a) ++ [x]) (A.drop (K - a) ++ R) y
              rw [List.length_append, i1, show K - 1 + [x].length = K by simp; omega] at this
              rw [show (P ++ A.take (K - 1 - a)) ++ x :: ([] ++ y :: (A.drop (K - a) ++ R)) = (P ++ A.take (K - 1 - a) ++ [x]) ++ y :: (A.drop (K - a) ++ R) by simp]
              exact this
            have e3 := swap_list2 (P ++ A.take (K - 1 - a)) (A.drop (K - a) ++ R) y x
            rw [i1, show K - 1 + 1 = K by omega] at e3
            obtain ⟨s1, s2⟩ := hw.drew.swap g2 g1
            rw [e3, ← e2] at s1
            exact ⟨x, ⟨s1, s2⟩, (hw.cell g2).1, (hw.cell g2).2, (hw.cell g1).1, (hw.cell g1).2, hw.free _, hw.free _, hw.free _, hw.free _⟩
          clear hw hk
          have v1 : (K : Int) < (N : Int) := by omega
          have v2 : (K : Int) - 1 < (N : Int) := by omega
          have v3 : (i : Int) < (K : Int) := by omega
          have v4 : ((K : Int) - 1).toNat = K - 1 := by omega
          have v5 : 1 ≤ K := by omega
          go_wp2_with fail
          go_region
          all_goals
            go_wp2_with fail
            go_roundw
            case rel => exact ⟨K - 1, by go_num, by omega, by omega, HT.out.1, hfs.drew.trans HT.out.2⟩
            case measure => simp [intOf]; omega
        · have HE : Hid (∃ M, Held wr g (P ++ M ++ R) ∧ Srt M ∧ Same (A ++ [y]) M) := by
            obtain ⟨ha, hm, hb, hA⟩ := HL.out
            rw [show K - a = i - a by omega] at hw
            exact ⟨_, hw, HQ.out.1, HQ.out.2⟩
          have v3 : ¬ (i : Int) < (K : Int) := by omega
          clear hw
          go_wp2_with fail
          first | go_end0 | refine bodyPost_ret (results_none rfl _ _ _) rfl ?_
          obtain ⟨M, m1, m2⟩ := HE.out
          exact ⟨rfl, ⟨M, by simpa using m1, m2⟩, hfs⟩
end Go.Proofs.Qxb6603645a
