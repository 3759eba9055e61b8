import Derived.Test.Qxb6603645aIns
namespace Go.Proofs.Qxb6603645a
open Go.RowKit
set_option linter.unusedSimpArgs false
set_option linter.unusedVariables false

theorem get_seg (P B R : List Mb) {k : Nat} (h : k < B.length) : (P ++ (B ++ R))[P.length + k]? = B[k]? := by
  rw [List.getElem?_append_right (by omega), show P.length + k - P.length = k by omega, List.getElem?_append_left h]

set_option maxRecDepth 100000 in
set_option maxHeartbeats 4000000 in
/-- 'symMerge' of a run of one member with a sorted run. -/
theorem sym_one (g cap : Nat) (P B R : List Mb) (x : Mb) (N : Nat) (w : World) (hH : Held w g (P ++ x :: (B ++ R))) (hN : (P ++ x :: (B ++ R)).length = N) (hN2 : N ≤ 4096) (a m b : Nat) (ha : P.length = a) (hm : a + 1 = m) (hb : m + B.length = b) (hB : Srt B) :
    Calls Try.prog 40 #[.slice (some ⟨g, 0, none⟩) N cap, .int .i64 (a : Int), .int .i64 (m : Int), .int .i64 (b : Int), cmpF] w fun e w' => e = .returned (.tuple #[]) ∧ (∃ M, Held w' g (P ++ M ++ R) ∧ Srt M ∧ Same (x :: B) M) ∧ Fr g w w' := by
  unfold cmpF
  have o1 : a < m := by omega
  have o2 : m ≤ b := by omega
  have o3 : b ≤ N := by simp only [List.length_append, List.length_cons] at hN; omega
  have t0 : ((m : Int) - (a : Int) == 1) = true := by simp; omega
  have HL : Hid (P.length = a ∧ a + 1 = m ∧ m + B.length = b ∧ Srt B) := ⟨ha, hm, hb, hB⟩
  clear hN ha hm hb hB
  go_enter Try.func40, Try.ntmps40
  go_wp2_with fail
  go_loopw [10, 11] (fun iv jv wr => ∃ i j : Nat, iv = .int .i64 (i : Int) ∧ jv = .int .i64 (j : Int) ∧ m ≤ i ∧ i ≤ j ∧ j ≤ b ∧ (i - m = 0 ∨ ∃ y, B[i - m - 1]? = some y ∧ Lt (nm y) (nm x)) ∧ (B.length ≤ j - m ∨ ∃ y, B[j - m]? = some y ∧ Le (nm x) (nm y)) ∧ Held wr g (P ++ x :: (B ++ R)) ∧ Fr g w wr) (fun iv jv _ => (intOf jv).toNat - (intOf iv).toNat)
  case atStart => exact ⟨m, b, rfl, rfl, Nat.le_refl _, o2, Nat.le_refl _, .inl (by omega), .inl (by have := HL.out; omega), hH, Fr.refl _ _⟩
  case round =>
    clear hH
    obtain ⟨i, j, rfl, rfl, h1, h2, h3, q1, q2, hr, hf⟩ := hrel
    by_cases hij : i < j
    · have HQ : Hid _ := And.intro q1 (And.intro q2 hr)
      clear q1 q2 hr
      obtain ⟨h, hh⟩ : ∃ h : Nat, ((i : Int) + (j : Int)) / 2 = (h : Int) := ⟨(i + j) / 2, by omega⟩
      have u1 : i ≤ h := by omega
      have u2 : h < j := by omega
      obtain ⟨y, HY, c0, c1, c2, c3⟩ : ∃ y, Hid (B[h - m]? = some y) ∧ wr.cell? ⟨g, h * 2, none⟩ = some (.string y.1) ∧ wr.cell? ⟨g, h * 2 + 1, none⟩ = some (.string y.2) ∧ wr.cell? ⟨g, a * 2, none⟩ = some (.string x.1) ∧ wr.cell? ⟨g, a * 2 + 1, none⟩ = some (.string x.2) := by
        obtain ⟨ha, hm, hb, hB⟩ := HL.out
        have hlt : h - m < B.length := by omega
        have e : (P ++ x :: (B ++ R))[h]? = B[h - m]? := by
          have := get_seg (P ++ [x]) B R hlt
          have l : (P ++ [x]).length = m := by simp; omega
          rw [l, show m + (h - m) = h by omega] at this
          rw [← this]
          simp
        have e2 : (P ++ x :: (B ++ R))[a]? = some x := by rw [← ha]; exact get_mid _ _ _
        have hy := List.getElem?_eq_getElem hlt
        rw [hy] at e
        exact ⟨_, hy, (HQ.out.2.2.cell e).1, (HQ.out.2.2.cell e).2, (HQ.out.2.2.cell e2).1, (HQ.out.2.2.cell e2).2⟩
      have v1 : (h : Int) < (N : Int) := by omega
      have v2 : (a : Int) < (N : Int) := by omega
      have v3 : h < N := by omega
      have v4 : a < N := by omega
      have HX : Hid _ := fun w => cmp_any y x w
      unfold mbV at HX
      obtain ⟨cv, hcv⟩ : ∃ cv, cv = Lib.compareBytes (nm y) (nm x) := ⟨_, rfl⟩
      rw [← hcv] at HX
      have HCV : Hid (cv = Lib.compareBytes (nm y) (nm x)) := hcv
      clear hcv
      go_wp2_with fail
      by_cases hlt2 : cv < 0
      · have HLT : Hid (cv < 0) := hlt2
        refine wp_region_any (by kernel_rfl) ?_
        change wpAny _ _ _ _ 11 #[false, false, false, false, false, false, false, false, false, false, false] _ (World.drew _)
        refine wpAny_take (i := 0) (v := .func (.func 31) #[] #[]) rfl (by kernel_rfl) (by kernel_rfl) (by kernel_rfl) (fun _ _ _ h => h) (Or.inl ⟨by kernel_rfl, fun w => BigFrame.run_move (.tmp 4) rfl w⟩) ?_
        simp only [List.getElem_toArray, List.getElem_cons_zero, List.getElem_cons_succ, Act.put, List.setIfInBounds_toArray, List.set_cons_succ, List.set_cons_zero]
        refine wpAny_take (i := 1) (v := .slice (some ⟨g, 0, none⟩) N cap) rfl (by kernel_rfl) (by kernel_rfl) (by kernel_rfl) (fun _ _ _ h => h) (Or.inl ⟨by kernel_rfl, fun w => BigFrame.run_move (.tmp 0) rfl w⟩) ?_
        simp only [List.getElem_toArray, List.getElem_cons_zero, List.getElem_cons_succ, Act.put, List.setIfInBounds_toArray, List.set_cons_succ, List.set_cons_zero]
        refine wpAny_take (i := 2) (v := .int .i64 (h : Int)) rfl (by kernel_rfl) (by kernel_rfl) (by kernel_rfl) (fun _ _ _ h => h) (Or.inl ⟨by kernel_rfl, fun w => BigFrame.run_move (.tmp 12) rfl w⟩) ?_
        simp only [List.getElem_toArray, List.getElem_cons_zero, List.getElem_cons_succ, Act.put, List.setIfInBounds_toArray, List.set_cons_succ, List.set_cons_zero]
        refine wpAny_take (i := 3) (v := .pointer (some ⟨g, h * 2, none⟩)) rfl (by kernel_rfl) (by kernel_rfl) (by kernel_rfl) (fun _ _ _ h => h) (Or.inl ⟨by kernel_rfl, ?_⟩) ?_
        · intro w; go_simp
        simp only [List.getElem_toArray, List.getElem_cons_zero, List.getElem_cons_succ, Act.put, List.setIfInBounds_toArray, List.set_cons_succ, List.set_cons_zero]
        refine wpAny_take (i := 5) (v := .slice (some ⟨g, 0, none⟩) N cap) rfl (by kernel_rfl) (by kernel_rfl) (by kernel_rfl) (fun _ _ _ h => h) (Or.inl ⟨by kernel_rfl, fun w => BigFrame.run_move (.tmp 0) rfl w⟩) ?_
        simp only [List.getElem_toArray, List.getElem_cons_zero, List.getElem_cons_succ, Act.put, List.setIfInBounds_toArray, List.set_cons_succ, List.set_cons_zero]
        refine wpAny_take (i := 6) (v := .int .i64 (a : Int)) rfl (by kernel_rfl) (by kernel_rfl) (by kernel_rfl) (fun _ _ _ h => h) (Or.inl ⟨by kernel_rfl, fun w => BigFrame.run_move (.tmp 1) rfl w⟩) ?_
        simp only [List.getElem_toArray, List.getElem_cons_zero, List.getElem_cons_succ, Act.put, List.setIfInBounds_toArray, List.set_cons_succ, List.set_cons_zero]
        refine wpAny_take (i := 7) (v := .pointer (some ⟨g, a * 2, none⟩)) rfl (by kernel_rfl) (by kernel_rfl) (by kernel_rfl) (fun _ _ _ h => h) (Or.inl ⟨by kernel_rfl, ?_⟩) ?_
        · intro w; go_simp
        simp only [List.getElem_toArray, List.getElem_cons_zero, List.getElem_cons_succ, Act.put, List.setIfInBounds_toArray, List.set_cons_succ, List.set_cons_zero]
        refine wpAny_ready (rs := [4, 8]) (by kernel_rfl) (by simp) (BigFrame.allReady_want rfl (by kernel_rfl) (fun K hK => ?_) (BigFrame.allReady_want rfl (by kernel_rfl) (fun K hK => ?_) AllReady.nil))
        · simp only [List.getElem_toArray, List.getElem_cons_zero, List.getElem_cons_succ]
          go_big_op
          refine hK _ _ ?_
          clear hK K
          simp only [List.setIfInBounds_toArray, List.set_cons_succ, List.set_cons_zero]
          refine wpAny_ready (rs := [8]) (by kernel_rfl) (by simp) (BigFrame.allReady_want rfl (by kernel_rfl) (fun K hK => ?_) AllReady.nil)
          simp only [List.getElem_toArray, List.getElem_cons_zero, List.getElem_cons_succ]
          go_big_op
          refine hK _ _ ?_
          clear hK K
          simp only [List.setIfInBounds_toArray, List.set_cons_succ, List.set_cons_zero]
          refine wpAny_ready (rs := [9]) (by kernel_rfl) (by simp) (BigFrame.allReady_want rfl (by kernel_rfl) (fun K hK => ?_) AllReady.nil)
          simp only [List.getElem_toArray, List.getElem_cons_zero, List.getElem_cons_succ]
          go_wp2_with (go_at_call 31; refine Calls.mono (HX.out _) ?_; rintro e w2 ⟨rfl, hb2⟩)
          try simp only [List.setIfInBounds_toArray, List.set_cons_succ, List.set_cons_zero]
          refine wpAny_take (i := 10) (v := .bool true) rfl (by kernel_rfl) (by kernel_rfl) (by kernel_rfl) (fun _ _ _ h => h) (Or.inl ⟨by kernel_rfl, ?_⟩) ?_
          · intro w; go_simp
          simp only [List.getElem_toArray, List.getElem_cons_zero, List.getElem_cons_succ, Act.put, List.setIfInBounds_toArray, List.set_cons_succ, List.set_cons_zero]
          refine wpAny_done (by kernel_rfl) ?_ _
          have hb2' : Below wr.heap.size wr w2 := ⟨hb2.os, hb2.tape, hb2.output, hb2.size, hb2.block⟩
          have hw2 := HQ.out.2.2.below hb2'
          have hf2 : Fr g w w2 := hf.trans (Fr.of_below hb2')
          clear c0 c1 c2 c3 hb2 hb2'
          go_wp2_with fail
          go_roundw
          case rel => exact ⟨h + 1, j, by go_num, rfl, by omega, by omega, h3, .inr ⟨y, by rw [show h + 1 - m - 1 = h - m by omega]; exact HY.out, by have hz := HLT.out; rw [HCV.out] at hz; exact hz⟩, HQ.out.2.1, hw2, hf2⟩
          case measure => simp [intOf]; omega
        · simp only [List.getElem_toArray, List.getElem_cons_zero, List.getElem_cons_succ]
          go_big_op
          refine hK _ _ ?_
          clear hK K
          simp only [List.setIfInBounds_toArray, List.set_cons_succ, List.set_cons_zero]
          refine wpAny_ready (rs := [4]) (by kernel_rfl) (by simp) (BigFrame.allReady_want rfl (by kernel_rfl) (fun K hK => ?_) AllReady.nil)
          simp only [List.getElem_toArray, List.getElem_cons_zero, List.getElem_cons_succ]
          go_big_op
          refine hK _ _ ?_
          clear hK K
          simp only [List.setIfInBounds_toArray, List.set_cons_succ, List.set_cons_zero]
          refine wpAny_ready (rs := [9]) (by kernel_rfl) (by simp) (BigFrame.allReady_want rfl (by kernel_rfl) (fun K hK => ?_) AllReady.nil)
          simp only [List.getElem_toArray, List.getElem_cons_zero, List.getElem_cons_succ]
          go_wp2_with (go_at_call 31; refine Calls.mono (HX.out _) ?_; rintro e w2 ⟨rfl, hb2⟩)
          try simp only [List.setIfInBounds_toArray, List.set_cons_succ, List.set_cons_zero]
          refine wpAny_take (i := 10) (v := .bool true) rfl (by kernel_rfl) (by kernel_rfl) (by kernel_rfl) (fun _ _ _ h => h) (Or.inl ⟨by kernel_rfl, ?_⟩) ?_
          · intro w; go_simp
          simp only [List.getElem_toArray, List.getElem_cons_zero, List.getElem_cons_succ, Act.put, List.setIfInBounds_toArray, List.set_cons_succ, List.set_cons_zero]
          refine wpAny_done (by kernel_rfl) ?_ _
          have hb2' : Below wr.heap.size wr w2 := ⟨hb2.os, hb2.tape, hb2.output, hb2.size, hb2.block⟩
          have hw2 := HQ.out.2.2.below hb2'
          have hf2 : Fr g w w2 := hf.trans (Fr.of_below hb2')
          clear c0 c1 c2 c3 hb2 hb2'
          go_wp2_with fail
          go_roundw
          case rel => exact ⟨h + 1, j, by go_num, rfl, by omega, by omega, h3, .inr ⟨y, by rw [show h + 1 - m - 1 = h - m by omega]; exact HY.out, by have hz := HLT.out; rw [HCV.out] at hz; exact hz⟩, HQ.out.2.1, hw2, hf2⟩
          case measure => simp [intOf]; omega
      · have HLT : Hid (¬ cv < 0) := hlt2
        refine wp_region_any (by kernel_rfl) ?_
        change wpAny _ _ _ _ 11 #[false, false, false, false, false, false, false, false, false, false, false] _ (World.drew _)
        refine wpAny_take (i := 0) (v := .func (.func 31) #[] #[]) rfl (by kernel_rfl) (by kernel_rfl) (by kernel_rfl) (fun _ _ _ h => h) (Or.inl ⟨by kernel_rfl, fun w => BigFrame.run_move (.tmp 4) rfl w⟩) ?_
        simp only [List.getElem_toArray, List.getElem_cons_zero, List.getElem_cons_succ, Act.put, List.setIfInBounds_toArray, List.set_cons_succ, List.set_cons_zero]
        refine wpAny_take (i := 1) (v := .slice (some ⟨g, 0, none⟩) N cap) rfl (by kernel_rfl) (by kernel_rfl) (by kernel_rfl) (fun _ _ _ h => h) (Or.inl ⟨by kernel_rfl, fun w => BigFrame.run_move (.tmp 0) rfl w⟩) ?_
        simp only [List.getElem_toArray, List.getElem_cons_zero, List.getElem_cons_succ, Act.put, List.setIfInBounds_toArray, List.set_cons_succ, List.set_cons_zero]
        refine wpAny_take (i := 2) (v := .int .i64 (h : Int)) rfl (by kernel_rfl) (by kernel_rfl) (by kernel_rfl) (fun _ _ _ h => h) (Or.inl ⟨by kernel_rfl, fun w => BigFrame.run_move (.tmp 12) rfl w⟩) ?_
        simp only [List.getElem_toArray, List.getElem_cons_zero, List.getElem_cons_succ, Act.put, List.setIfInBounds_toArray, List.set_cons_succ, List.set_cons_zero]
        refine wpAny_take (i := 3) (v := .pointer (some ⟨g, h * 2, none⟩)) rfl (by kernel_rfl) (by kernel_rfl) (by kernel_rfl) (fun _ _ _ h => h) (Or.inl ⟨by kernel_rfl, ?_⟩) ?_
        · intro w; go_simp
        simp only [List.getElem_toArray, List.getElem_cons_zero, List.getElem_cons_succ, Act.put, List.setIfInBounds_toArray, List.set_cons_succ, List.set_cons_zero]
        refine wpAny_take (i := 5) (v := .slice (some ⟨g, 0, none⟩) N cap) rfl (by kernel_rfl) (by kernel_rfl) (by kernel_rfl) (fun _ _ _ h => h) (Or.inl ⟨by kernel_rfl, fun w => BigFrame.run_move (.tmp 0) rfl w⟩) ?_
        simp only [List.getElem_toArray, List.getElem_cons_zero, List.getElem_cons_succ, Act.put, List.setIfInBounds_toArray, List.set_cons_succ, List.set_cons_zero]
        refine wpAny_take (i := 6) (v := .int .i64 (a : Int)) rfl (by kernel_rfl) (by kernel_rfl) (by kernel_rfl) (fun _ _ _ h => h) (Or.inl ⟨by kernel_rfl, fun w => BigFrame.run_move (.tmp 1) rfl w⟩) ?_
        simp only [List.getElem_toArray, List.getElem_cons_zero, List.getElem_cons_succ, Act.put, List.setIfInBounds_toArray, List.set_cons_succ, List.set_cons_zero]
        refine wpAny_take (i := 7) (v := .pointer (some ⟨g, a * 2, none⟩)) rfl (by kernel_rfl) (by kernel_rfl) (by kernel_rfl) (fun _ _ _ h => h) (Or.inl ⟨by kernel_rfl, ?_⟩) ?_
        · intro w; go_simp
        simp only [List.getElem_toArray, List.getElem_cons_zero, List.getElem_cons_succ, Act.put, List.setIfInBounds_toArray, List.set_cons_succ, List.set_cons_zero]
        refine wpAny_ready (rs := [4, 8]) (by kernel_rfl) (by simp) (BigFrame.allReady_want rfl (by kernel_rfl) (fun K hK => ?_) (BigFrame.allReady_want rfl (by kernel_rfl) (fun K hK => ?_) AllReady.nil))
        · simp only [List.getElem_toArray, List.getElem_cons_zero, List.getElem_cons_succ]
          go_big_op
          refine hK _ _ ?_
          clear hK K
          simp only [List.setIfInBounds_toArray, List.set_cons_succ, List.set_cons_zero]
          refine wpAny_ready (rs := [8]) (by kernel_rfl) (by simp) (BigFrame.allReady_want rfl (by kernel_rfl) (fun K hK => ?_) AllReady.nil)
          simp only [List.getElem_toArray, List.getElem_cons_zero, List.getElem_cons_succ]
          go_big_op
          refine hK _ _ ?_
          clear hK K
          simp only [List.setIfInBounds_toArray, List.set_cons_succ, List.set_cons_zero]
          refine wpAny_ready (rs := [9]) (by kernel_rfl) (by simp) (BigFrame.allReady_want rfl (by kernel_rfl) (fun K hK => ?_) AllReady.nil)
          simp only [List.getElem_toArray, List.getElem_cons_zero, List.getElem_cons_succ]
          go_wp2_with (go_at_call 31; refine Calls.mono (HX.out _) ?_; rintro e w2 ⟨rfl, hb2⟩)
          try simp only [List.setIfInBounds_toArray, List.set_cons_succ, List.set_cons_zero]
          refine wpAny_take (i := 10) (v := .bool false) rfl (by kernel_rfl) (by kernel_rfl) (by kernel_rfl) (fun _ _ _ h => h) (Or.inl ⟨by kernel_rfl, ?_⟩) ?_
          · intro w; go_simp
          simp only [List.getElem_toArray, List.getElem_cons_zero, List.getElem_cons_succ, Act.put, List.setIfInBounds_toArray, List.set_cons_succ, List.set_cons_zero]
          refine wpAny_done (by kernel_rfl) ?_ _
          have hb2' : Below wr.heap.size wr w2 := ⟨hb2.os, hb2.tape, hb2.output, hb2.size, hb2.block⟩
          have hw2 := HQ.out.2.2.below hb2'
          have hf2 : Fr g w w2 := hf.trans (Fr.of_below hb2')
          clear c0 c1 c2 c3 hb2 hb2'
          go_wp2_with fail
          go_roundw
          case rel => exact ⟨i, h, rfl, rfl, h1, by omega, by omega, HQ.out.1, .inr ⟨y, HY.out, by have hz := HLT.out; rw [HCV.out] at hz; show ¬ (Lib.compareBytes (nm y) (nm x) < 0); omega⟩, hw2, hf2⟩
          case measure => simp [intOf]; omega
        · simp only [List.getElem_toArray, List.getElem_cons_zero, List.getElem_cons_succ]
          go_big_op
          refine hK _ _ ?_
          clear hK K
          simp only [List.setIfInBounds_toArray, List.set_cons_succ, List.set_cons_zero]
          refine wpAny_ready (rs := [4]) (by kernel_rfl) (by simp) (BigFrame.allReady_want rfl (by kernel_rfl) (fun K hK => ?_) AllReady.nil)
          simp only [List.getElem_toArray, List.getElem_cons_zero, List.getElem_cons_succ]
          go_big_op
          refine hK _ _ ?_
          clear hK K
          simp only [List.setIfInBounds_toArray, List.set_cons_succ, List.set_cons_zero]
          refine wpAny_ready (rs := [9]) (by kernel_rfl) (by simp) (BigFrame.allReady_want rfl (by kernel_rfl) (fun K hK => ?_) AllReady.nil)
          simp only [List.getElem_toArray, List.getElem_cons_zero, List.getElem_cons_succ]
          go_wp2_with (go_at_call 31; refine Calls.mono (HX.out _) ?_; rintro e w2 ⟨rfl, hb2⟩)
          try simp only [List.setIfInBounds_toArray, List.set_cons_succ, List.set_cons_zero]
          refine wpAny_take (i := 10) (v := .bool false) rfl (by kernel_rfl) (by kernel_rfl) (by kernel_rfl) (fun _ _ _ h => h) (Or.inl ⟨by kernel_rfl, ?_⟩) ?_
          · intro w; go_simp
          simp only [List.getElem_toArray, List.getElem_cons_zero, List.getElem_cons_succ, Act.put, List.setIfInBounds_toArray, List.set_cons_succ, List.set_cons_zero]
          refine wpAny_done (by kernel_rfl) ?_ _
          have hb2' : Below wr.heap.size wr w2 := ⟨hb2.os, hb2.tape, hb2.output, hb2.size, hb2.block⟩
          have hw2 := HQ.out.2.2.below hb2'
          have hf2 : Fr g w w2 := hf.trans (Fr.of_below hb2')
          clear c0 c1 c2 c3 hb2 hb2'
          go_wp2_with fail
          go_roundw
          case rel => exact ⟨i, h, rfl, rfl, h1, by omega, by omega, HQ.out.1, .inr ⟨y, HY.out, by have hz := HLT.out; rw [HCV.out] at hz; show ¬ (Lib.compareBytes (nm y) (nm x) < 0); omega⟩, hw2, hf2⟩
          case measure => simp [intOf]; omega
    · have HS : Hid (Held wr g (P ++ (B.take (a - a) ++ x :: B.drop (a - a)) ++ R)) := by
        show Held _ _ _
        simpa using hr
      have HQ : Hid (Srt (B.take (i - m) ++ x :: B.drop (i - m)) ∧ Same (x :: B) (B.take (i - m) ++ x :: B.drop (i - m))) := by
        have e : i = j := by omega
        subst e
        exact put_right HL.out.2.2.2 q1 q2
      clear q1 q2 hr
      go_wp2_with fail
      go_loopw [13] (fun kv ws => ∃ k : Nat, kv = .int .i64 (k : Int) ∧ a ≤ k ∧ k ≤ i - 1 ∧ Held ws g (P ++ (B.take (k - a) ++ x :: B.drop (k - a)) ++ R) ∧ Fr g w ws) (fun kv _ => i - (intOf kv).toNat)
      case atStart => exact ⟨a, rfl, Nat.le_refl _, by omega, HS.out, hf⟩
      case round =>
        clear HS
        obtain ⟨k, rfl, hk1, hk2, hw, hfs⟩ := hrel
        by_cases hki : k < i - 1
        · obtain ⟨y, HT, c0, c1, c2, c3, f0, f1, f2, f3⟩ : ∃ y : Mb, Hid (Held ((((wr.drew.setCell ⟨g, k * 2, none⟩ (.string y.1)).setCell ⟨g, k * 2 + 1, none⟩ (.string y.2)).setCell ⟨g, (k + 1) * 2, none⟩ (.string x.1)).setCell ⟨g, (k + 1) * 2 + 1, none⟩ (.string x.2)) g (P ++ (B.take (k + 1 - a) ++ x :: B.drop (k + 1 - a)) ++ R) ∧
              Fr g wr.drew ((((wr.drew.setCell ⟨g, k * 2, none⟩ (.string y.1)).setCell ⟨g, k * 2 + 1, none⟩ (.string y.2)).setCell ⟨g, (k + 1) * 2, none⟩ (.string x.1)).setCell ⟨g, (k + 1) * 2 + 1, none⟩ (.string x.2))) ∧
              wr.cell? ⟨g, k * 2, none⟩ = some (.string x.1) ∧ wr.cell? ⟨g, k * 2 + 1, none⟩ = some (.string x.2) ∧ wr.cell? ⟨g, (k + 1) * 2, none⟩ = some (.string y.1) ∧ wr.cell? ⟨g, (k + 1) * 2 + 1, none⟩ = some (.string y.2) ∧
              wr.frozen? ⟨g, k * 2, none⟩ = false ∧ wr.frozen? ⟨g, k * 2 + 1, none⟩ = false ∧ wr.frozen? ⟨g, (k + 1) * 2, none⟩ = false ∧ wr.frozen? ⟨g, (k + 1) * 2 + 1, none⟩ = false := by
            obtain ⟨ha, hm, hb, hB⟩ := HL.out
            obtain ⟨y, hy⟩ : ∃ y, B[k - a]? = some y := ⟨_, List.getElem?_eq_getElem (by omega)⟩
            have eB : B.drop (k - a) = y :: B.drop (k + 1 - a) := by
              obtain ⟨_, rfl⟩ := List.getElem?_eq_some_iff.1 hy
              rw [show k + 1 - a = k - a + 1 by omega]
              exact List.drop_eq_getElem_cons _
            have tB : B.take (k + 1 - a) = B.take (k - a) ++ [y] := by
              rw [show k + 1 - a = k - a + 1 by omega, List.take_add_one, hy]
              rfl
            have e1 : P ++ (B.take (k - a) ++ x :: B.drop (k - a)) ++ R = (P ++ B.take (k - a)) ++ x :: ([] ++ y :: (B.drop (k + 1 - a) ++ R)) := by rw [eB]; simp
            have e2 : P ++ (B.take (k + 1 - a) ++ x :: B.drop (k + 1 - a)) ++ R = (P ++ B.take (k - a)) ++ y :: ([] ++ x :: (B.drop (k + 1 - a) ++ R)) := by rw [tB]; simp
            rw [e1] at hw
            have i1 : (P ++ B.take (k - a)).length = k := by simp; omega
            have g1 : ((P ++ B.take (k - a)) ++ x :: ([] ++ y :: (B.drop (k + 1 - a) ++ R)))[k]? = some x := by
              have := get_mid (P ++ B.take (k - a)) ([] ++ y :: (B.drop (k + 1 - a) ++ R)) x
              rw [i1] at this
              exact this
            have g2 : ((P ++ B.take (k - a)) ++ x :: ([] ++ y :: (B.drop (k + 1 - a) ++ R)))[k + 1]? = some y := by
              have := get_mid (P ++ B.take (k - a) ++ [x]) (B.drop (k + 1 - a) ++ R) y
              rw [List.length_append, i1] at this
              rw [show (P ++ B.take (k - a)) ++ x :: ([] ++ y :: (B.drop (k + 1 - a) ++ R)) = (P ++ B.take (k - a) ++ [x]) ++ y :: (B.drop (k + 1 - a) ++ R) by simp]
              exact this
            have e3 := swap_list (P ++ B.take (k - a)) [] (B.drop (k + 1 - a) ++ R) x y
            rw [i1, List.length_nil, Nat.add_zero] at e3
            obtain ⟨s1, s2⟩ := hw.drew.swap g1 g2
            rw [e3, ← e2] at s1
            exact ⟨y, ⟨s1, s2⟩, (hw.cell g1).1, (hw.cell g1).2, (hw.cell g2).1, (hw.cell g2).2, hw.free _, hw.free _, hw.free _, hw.free _⟩
          clear hw
          have v1 : (k : Int) + 1 < (N : Int) := by omega
          have v2 : (k : Int) < (N : Int) := by omega
          have v3 : (k : Int) < (i : Int) - 1 := by omega
          go_wp2_with fail
          go_region
          all_goals
            go_wp2_with fail
            go_roundw
            case rel => exact ⟨k + 1, by go_num, by omega, by omega, HT.out.1, hfs.drew.trans HT.out.2⟩
            case measure => simp [intOf]; omega
        · have HE : Hid (∃ M, Held wr g (P ++ M ++ R) ∧ Srt M ∧ Same (x :: B) M) := by
            obtain ⟨ha, hm, hb, hB⟩ := HL.out
            rw [show k - a = i - m by omega] at hw
            exact ⟨_, hw, HQ.out.1, HQ.out.2⟩
          have v3 : ¬ (k : Int) < (i : Int) - 1 := by omega
          clear hw
          go_wp2_with fail
          first | go_end0 | refine bodyPost_ret (results_none rfl _ _ _) rfl ?_
          obtain ⟨M, m1, m2⟩ := HE.out
          exact ⟨rfl, ⟨M, by simpa using m1, m2⟩, hfs⟩
end Go.Proofs.Qxb6603645a
