import Derived.Test.Qxb6603645aRot
import Derived.Deep.RegionWith
import Derived.Deep.QuietTactic
import Derived.BigQuiet
import Derived.Deep.RegionHeld3
import Derived.Deep.DeepCutAuto
namespace Go.Proofs.Qxb6603645a
open Go.RowKit
set_option linter.unusedSimpArgs false
set_option linter.unusedVariables false

/-- The comparison, as a value. -/
def cmpF : Value := .func (.func 31) #[] #[]

theorem perm_of_filters {α : Type} [DecidableEq α] (p : α → α → Bool) (hp : ∀ m, p m m = true) {a b : List α} (h : ∀ m, b.filter (p m) = a.filter (p m)) : b.Perm a := by
  rw [List.perm_iff_count]
  intro m
  rw [← List.count_filter (l := b) (hp m), h, List.count_filter (hp m)]
theorem Same.length {a b : List Mb} (h : Same a b) : b.length = a.length :=
  (perm_of_filters (fun m k => nm k == nm m) (fun m => by simp) (fun m => h (nm m))).length_eq

/-- One more member goes into the sorted ones. -/
theorem ins_done {S1 S2 : List Mb} {x : Mb} (h : Srt (S1 ++ S2)) (h2 : ∀ r ∈ S2, Lt (nm x) (nm r)) (h1 : S1 = [] ∨ ∃ T y, S1 = T ++ [y] ∧ Le (nm y) (nm x)) : Srt (S1 ++ x :: S2) ∧ Same (S1 ++ S2 ++ [x]) (S1 ++ x :: S2) := by
  constructor
  · refine Srt.append h.left (List.pairwise_cons.2 ⟨fun r hr => (h2 r hr).le, h.right⟩) ?_
    intro u hu v hv
    rcases List.mem_cons.1 hv with rfl | hv
    · rcases h1 with rfl | ⟨T, y, rfl, hle⟩
      · simp at hu
      · rcases List.mem_append.1 hu with hu | hu
        · exact (Srt.across h.left u hu y (by simp)).trans hle
        · rw [List.mem_singleton.1 hu]
          exact hle
    · exact h.across u hu v hv
  · have e : S1 ++ x :: S2 = S1 ++ ([x] ++ S2) := by simp
    rw [e, List.append_assoc]
    refine Same.append (Same.refl _) (Same.swap ?_)
    intro u hu v hv
    rw [List.mem_singleton.1 hv]
    exact (h2 u hu).ne.symm

theorem swap_list2 (S Z : List Mb) (x y : Mb) : ((S ++ y :: ([] ++ x :: Z)).set (S.length + 1) y).set S.length x = S ++ x :: y :: Z := by
  rw [List.set_append_right _ _ (by omega), show S.length + 1 - S.length = 1 by omega, List.nil_append, List.set_cons_succ, List.set_cons_zero, List.set_append_right _ _ (Nat.le_refl _), Nat.sub_self, List.set_cons_zero]

/-- The state of the inner loop. -/
def InsIs (S T : List Mb) (x : Mb) (j : Nat) (xs : List Mb) : Prop := ∃ S1 S2, S = S1 ++ S2 ∧ S1.length = j ∧ (∀ r ∈ S2, Lt (nm x) (nm r)) ∧ xs = S1 ++ x :: S2

set_option maxRecDepth 100000 in
set_option maxHeartbeats 4000000 in
theorem insert_sort (g cap : Nat) (P A R : List Mb) (N : Nat) (w : World) (hH : Held w g (P ++ A ++ R)) (hN : (P ++ A ++ R).length = N) (hN2 : N ≤ 4096) (a b : Nat) (ha : P.length = a) (hb : a + A.length = b) :
    Calls Try.prog 39 #[.slice (some ⟨g, 0, none⟩) N cap, .int .i64 (a : Int), .int .i64 (b : Int), cmpF] w fun e w' => e = .returned (.tuple #[]) ∧ (∃ A', Held w' g (P ++ A' ++ R) ∧ Srt A' ∧ Same A A') ∧ Fr g w w' := by
  unfold cmpF
  have o1 : a ≤ b := by omega
  have o2 : b ≤ N := by simp only [List.length_append] at hN; omega
  have HL : Hid (P.length = a ∧ a + A.length = b ∧ (P ++ A ++ R).length = N) := ⟨ha, hb, hN⟩
  clear hN ha hb
  have S0 : Hid (∃ S, Srt S ∧ Same (A.take 1) S ∧ Held w g (P ++ S ++ A.drop 1 ++ R)) := by
    refine ⟨A.take 1, ?_, Same.refl _, by rw [List.append_assoc P, List.take_append_drop]; exact hH⟩
    cases A with
    | nil => exact Srt.nil
    | cons x A => exact Srt.one x
  clear hH
  go_enter Try.func39, Try.ntmps39
  go_wp2_with fail
  go_loopw [8] (fun iv wr => ∃ I : Nat, iv = .int .i64 (I : Int) ∧ a + 1 ≤ I ∧ (I ≤ b ∨ I ≤ a + 1) ∧ (∃ S, Srt S ∧ Same (A.take (I - a)) S ∧ Held wr g (P ++ S ++ A.drop (I - a) ++ R)) ∧ Fr g w wr) (fun iv _ => b - (intOf iv).toNat)
  case atStart => exact ⟨a + 1, by go_num, Nat.le_refl _, .inr (Nat.le_refl _), by rw [Nat.add_sub_cancel_left]; exact S0.out, Fr.refl _ _⟩
  case round =>
    clear S0
    obtain ⟨I, rfl, hI1, hIb, ⟨S, hS, hSame, hr⟩, hf⟩ := hrel
    obtain ⟨k, hk⟩ : ∃ k, k = I - a := ⟨_, rfl⟩
    rw [← hk] at hSame hr
    have hk1 : 1 ≤ k := by omega
    have hI2 : a + k ≤ I := by omega
    have hI3 : I ≤ a + k := by omega
    have hIk : Hid (k = I - a) := hk
    clear hk
    by_cases hlt : I < b
    · obtain ⟨hPl, hAl, hNl⟩ := HL.out
      obtain ⟨x, hx⟩ : ∃ x, A[k]? = some x := ⟨_, List.getElem?_eq_getElem (by omega)⟩
      have eA : A.drop k = x :: A.drop (k + 1) := by
        obtain ⟨_, rfl⟩ := List.getElem?_eq_some_iff.1 hx
        exact List.drop_eq_getElem_cons _
      have tA : A.take (k + 1) = A.take k ++ [x] := by rw [List.take_add_one, hx]; rfl
      have lS : S.length = k := by rw [hSame.length]; simp; omega
      rw [eA] at hr
      have HH : Hid (Srt S ∧ Same (A.take k) S ∧ A.take (k + 1) = A.take k ++ [x] ∧ S.length = k ∧ P.length = a) := ⟨hS, hSame, tA, lS, hPl⟩
      have h0 : Hid (∃ xs, InsIs S (A.drop (k + 1)) x k xs ∧ Held wr g (P ++ (xs ++ A.drop (k + 1)) ++ R)) := ⟨S ++ [x], ⟨S, [], by simp, lS, by simp, by simp⟩, by simpa using hr⟩
      clear hS hSame tA lS hPl hAl hNl eA hr hx
      go_wp2_with fail
      go_loopw [9] (fun jv ws => ∃ J : Nat, jv = .int .i64 (J : Int) ∧ a ≤ J ∧ J ≤ I ∧ (∃ xs, InsIs S (A.drop (k + 1)) x (J - a) xs ∧ Held ws g (P ++ (xs ++ A.drop (k + 1)) ++ R)) ∧ Fr g w ws) (fun jv _ => (intOf jv).toNat)
      case atStart => exact ⟨I, rfl, by omega, Nat.le_refl _, by rw [← hIk.out]; exact h0.out, hf⟩
      case round =>
        clear h0
        obtain ⟨J, rfl, haJ, hJk, ⟨xs, ⟨S1, S2, eS, l1, q2, rfl⟩, hw⟩, hfs⟩ := hrel
        by_cases hj : J = a
        · subst hj
          have HD : Hid (∃ S, Srt S ∧ Same (A.take (k + 1)) S ∧ Held wr g (P ++ S ++ A.drop (k + 1) ++ R)) := by
            obtain ⟨g1, g2, g3, g4, g5⟩ := HH.out
            rw [eS] at g1
            obtain ⟨d1, d2⟩ := ins_done g1 q2 (.inl (by cases S1 with | nil => rfl | cons _ _ => simp at l1))
            refine ⟨_, d1, ?_, by simpa using hw⟩
            rw [g3]
            refine Same.trans (Same.append g2 (Same.refl [x])) ?_
            rw [eS]
            exact d2
          clear hw eS q2
          go_wp2_with fail
          go_quiet (fail)
          go_wp2_with fail
          go_roundw
          case rel => exact ⟨I + 1, by go_num, by omega, .inl (by omega), by rw [show I + 1 - J = k + 1 by omega]; exact HD.out, ⟨hfs.os, hfs.tape, hfs.output, hfs.size, hfs.block⟩⟩
          case measure => simp [intOf]; omega
        · obtain ⟨T, y, rfl⟩ : ∃ T y, S1 = T ++ [y] := ⟨S1.dropLast, S1.getLast (by intro e; simp [e] at l1; omega), (List.dropLast_concat_getLast _).symm⟩
          have lT : T.length = J - 1 - a := by simp at l1; omega
          obtain ⟨g1, g2, g3, g4, g5⟩ := HH.out
          have e1 : P ++ (T ++ [y] ++ x :: S2 ++ A.drop (k + 1)) ++ R = (P ++ T) ++ y :: ([] ++ x :: (S2 ++ A.drop (k + 1) ++ R)) := by simp
          rw [e1] at hw
          have i1 : (P ++ T).length = J - 1 := by rw [List.length_append, g5, lT]; omega
          have q1 : ((P ++ T) ++ y :: ([] ++ x :: (S2 ++ A.drop (k + 1) ++ R)))[J - 1]? = some y := by rw [← i1]; exact get_mid _ _ _
          have q3 : ((P ++ T) ++ y :: ([] ++ x :: (S2 ++ A.drop (k + 1) ++ R)))[J]? = some x := by
            have e : (P ++ T) ++ y :: ([] ++ x :: (S2 ++ A.drop (k + 1) ++ R)) = (P ++ T ++ [y]) ++ x :: (S2 ++ A.drop (k + 1) ++ R) := by simp
            have i2 : (P ++ T ++ [y]).length = J := by rw [List.length_append, i1]; simp; omega
            rw [e]
            conv => lhs; rw [← i2]
            exact get_mid _ _ _
          obtain ⟨c0, c1⟩ := hw.cell q1
          obtain ⟨c2, c3⟩ := hw.cell q3
          have HW : Hid _ := And.intro hw (And.intro q1 (And.intro q3 i1))
          have t0 : a < J := by omega
          have t0' : (a : Int) < (J : Int) := by omega
          have t1 : (J : Int) < (N : Int) := by omega
          have t2 : (J : Int) - 1 < (N : Int) := by omega
          have t3 : (0 : Int) ≤ (J : Int) - 1 := by omega
          have t4 : ((J : Int) - 1).toNat = J - 1 := by omega
          have t6 : ¬ (J : Int) < 1 := by omega
          have hwr : IntKind.i64.wrap ((J : Int) - 1) = (J : Int) - 1 := by
            have e : ((J : Int) - 1) % 18446744073709551616 = (J : Int) - 1 := by omega
            show (if (true && decide (((J : Int) - 1) % 18446744073709551616 ≥ 9223372036854775808)) = true then ((J : Int) - 1) % 18446744073709551616 - 18446744073709551616 else ((J : Int) - 1) % 18446744073709551616) = _
            rw [e, if_neg (by simp; omega)]
          clear hw q1 q3 i1 e1 g1 g2 g3 g4 g5
          have HE : Hid _ := And.intro eS (And.intro q2 lT)
          clear eS q2 lT l1
          have HX : Hid _ := fun w => cmp_any x y w
          unfold mbV at HX
          have HQ : ∀ w2, Below wr.heap.size wr w2 → Hid (∀ w3, Below w2.heap.size w2 w3 → Held w3 g ((P ++ T) ++ y :: ([] ++ x :: (S2 ++ A.drop (k + 1) ++ R)))) := fun w2 hb2 w3 hb3 => (HW.out.1.below hb2).below hb3
          obtain ⟨cv, hcv⟩ : ∃ cv, cv = Lib.compareBytes (nm x) (nm y) := ⟨_, rfl⟩
          rw [← hcv] at HX
          have HCV : Hid (cv = Lib.compareBytes (nm x) (nm y)) := hcv
          clear hcv
          by_cases hlt2 : cv < 0
          · have HLT : Hid (cv < 0) := hlt2
            go_wp2_with fail
            refine wp_region_any (by kernel_rfl) ?_
            change wpAny _ _ _ _ 17 #[false, false, false, false, false, false, false, false, false, false, false, false, false, false, false, false, false] _ (World.drew _)
            refine wpAny_take (i := 0) (v := .int .i64 (J : Int)) rfl (by kernel_rfl) (by kernel_rfl) (by kernel_rfl) (fun _ _ _ h => h) (Or.inl ⟨by kernel_rfl, fun w => BigFrame.run_move (.tmp 9) rfl w⟩) ?_
            simp only [List.getElem_toArray, List.getElem_cons_zero, List.getElem_cons_succ, Act.put, List.setIfInBounds_toArray, List.set_cons_succ, List.set_cons_zero]
            refine wpAny_take (i := 1) (v := .int .i64 (a : Int)) rfl (by kernel_rfl) (by kernel_rfl) (by kernel_rfl) (fun _ _ _ h => h) (Or.inl ⟨by kernel_rfl, fun w => BigFrame.run_move (.tmp 1) rfl w⟩) ?_
            simp only [List.getElem_toArray, List.getElem_cons_zero, List.getElem_cons_succ, Act.put, List.setIfInBounds_toArray, List.set_cons_succ, List.set_cons_zero]
            refine wpAny_take (i := 2) (v := .bool true) rfl (by kernel_rfl) (by kernel_rfl) (by kernel_rfl) (fun _ _ _ h => h) (Or.inl ⟨by kernel_rfl, ?_⟩) ?_
            · intro w; go_simp
            simp only [List.getElem_toArray, List.getElem_cons_zero, List.getElem_cons_succ, Act.put, List.setIfInBounds_toArray, List.set_cons_succ, List.set_cons_zero]
            refine wpAny_take (i := 3) (v := .bool true) rfl (by kernel_rfl) (by kernel_rfl) (by kernel_rfl) (fun _ _ _ h => h) (Or.inl ⟨by kernel_rfl, fun w => BigFrame.run_move (.tmp 20) rfl w⟩) ?_
            simp only [List.getElem_toArray, List.getElem_cons_zero, List.getElem_cons_succ, Act.put, List.setIfInBounds_toArray, List.set_cons_succ, List.set_cons_zero]
            refine wpAny_take (i := 4) (v := .func (.func 31) #[] #[]) rfl (by kernel_rfl) (by kernel_rfl) (by kernel_rfl) (fun _ _ _ h => h) (Or.inl ⟨by kernel_rfl, fun w => BigFrame.run_move (.tmp 3) rfl w⟩) ?_
            simp only [List.getElem_toArray, List.getElem_cons_zero, List.getElem_cons_succ, Act.put, List.setIfInBounds_toArray, List.set_cons_succ, List.set_cons_zero]
            refine wpAny_take (i := 5) (v := .slice (some ⟨g, 0, none⟩) N cap) rfl (by kernel_rfl) (by kernel_rfl) (by kernel_rfl) (fun _ _ _ h => h) (Or.inl ⟨by kernel_rfl, fun w => BigFrame.run_move (.tmp 0) rfl w⟩) ?_
            simp only [List.getElem_toArray, List.getElem_cons_zero, List.getElem_cons_succ, Act.put, List.setIfInBounds_toArray, List.set_cons_succ, List.set_cons_zero]
            refine wpAny_take (i := 6) (v := .int .i64 (J : Int)) rfl (by kernel_rfl) (by kernel_rfl) (by kernel_rfl) (fun _ _ _ h => h) (Or.inl ⟨by kernel_rfl, fun w => BigFrame.run_move (.tmp 9) rfl w⟩) ?_
            simp only [List.getElem_toArray, List.getElem_cons_zero, List.getElem_cons_succ, Act.put, List.setIfInBounds_toArray, List.set_cons_succ, List.set_cons_zero]
            refine wpAny_take (i := 7) (v := .pointer (some ⟨g, J * 2, none⟩)) rfl (by kernel_rfl) (by kernel_rfl) (by kernel_rfl) (fun _ _ _ h => h) (Or.inl ⟨by kernel_rfl, ?_⟩) ?_
            · intro w; go_simp
            simp only [List.getElem_toArray, List.getElem_cons_zero, List.getElem_cons_succ, Act.put, List.setIfInBounds_toArray, List.set_cons_succ, List.set_cons_zero]
            refine wpAny_take (i := 9) (v := .slice (some ⟨g, 0, none⟩) N cap) rfl (by kernel_rfl) (by kernel_rfl) (by kernel_rfl) (fun _ _ _ h => h) (Or.inl ⟨by kernel_rfl, fun w => BigFrame.run_move (.tmp 0) rfl w⟩) ?_
            simp only [List.getElem_toArray, List.getElem_cons_zero, List.getElem_cons_succ, Act.put, List.setIfInBounds_toArray, List.set_cons_succ, List.set_cons_zero]
            refine wpAny_take (i := 10) (v := .int .i64 (J : Int)) rfl (by kernel_rfl) (by kernel_rfl) (by kernel_rfl) (fun _ _ _ h => h) (Or.inl ⟨by kernel_rfl, fun w => BigFrame.run_move (.tmp 9) rfl w⟩) ?_
            simp only [List.getElem_toArray, List.getElem_cons_zero, List.getElem_cons_succ, Act.put, List.setIfInBounds_toArray, List.set_cons_succ, List.set_cons_zero]
            refine wpAny_take (i := 11) (v := .int .i64 ((J : Int) - 1)) rfl (by kernel_rfl) (by kernel_rfl) (by kernel_rfl) (fun _ _ _ h => h) (Or.inl ⟨by kernel_rfl, ?_⟩) ?_
            · intro w; go_simp
            simp only [List.getElem_toArray, List.getElem_cons_zero, List.getElem_cons_succ, Act.put, List.setIfInBounds_toArray, List.set_cons_succ, List.set_cons_zero]
            refine wpAny_take (i := 12) (v := .pointer (some ⟨g, (J - 1) * 2, none⟩)) rfl (by kernel_rfl) (by kernel_rfl) (by kernel_rfl) (fun _ _ _ h => h) (Or.inl ⟨by kernel_rfl, ?_⟩) ?_
            · intro w; go_simp
            simp only [List.getElem_toArray, List.getElem_cons_zero, List.getElem_cons_succ, Act.put, List.setIfInBounds_toArray, List.set_cons_succ, List.set_cons_zero]
            refine wpAny_ready (rs := [8, 13]) (by kernel_rfl) (by simp) (BigFrame.allReady_want rfl (by kernel_rfl) (fun K hK => ?_) (BigFrame.allReady_want rfl (by kernel_rfl) (fun K hK => ?_) AllReady.nil))
            · simp only [List.getElem_toArray, List.getElem_cons_zero, List.getElem_cons_succ]
              go_big_op
              refine hK _ _ ?_
              clear hK K
              simp only [List.setIfInBounds_toArray, List.set_cons_succ, List.set_cons_zero]
              refine wpAny_ready (rs := [13]) (by kernel_rfl) (by simp) (BigFrame.allReady_want rfl (by kernel_rfl) (fun K hK => ?_) AllReady.nil)
              simp only [List.getElem_toArray, List.getElem_cons_zero, List.getElem_cons_succ]
              go_big_op
              refine hK _ _ ?_
              clear hK K
              simp only [List.setIfInBounds_toArray, List.set_cons_succ, List.set_cons_zero]
              refine wpAny_ready (rs := [14]) (by kernel_rfl) (by simp) (BigFrame.allReady_want rfl (by kernel_rfl) (fun K hK => ?_) AllReady.nil)
              simp only [List.getElem_toArray, List.getElem_cons_zero, List.getElem_cons_succ]
              go_wp2_with (go_at_call 31; refine Calls.mono (HX.out _) ?_; rintro e w2 ⟨rfl, hb2⟩)
              try simp only [List.setIfInBounds_toArray, List.set_cons_succ, List.set_cons_zero]
              refine wpAny_take (i := 15) (v := .bool true) rfl (by kernel_rfl) (by kernel_rfl) (by kernel_rfl) (fun _ _ _ h => h) (Or.inl ⟨by kernel_rfl, ?_⟩) ?_
              · intro w; go_simp
              simp only [List.getElem_toArray, List.getElem_cons_zero, List.getElem_cons_succ, Act.put, List.setIfInBounds_toArray, List.set_cons_succ, List.set_cons_zero]
              refine wpAny_take (i := 16) (v := .bool true) rfl (by kernel_rfl) (by kernel_rfl) (by kernel_rfl) (fun _ _ _ h => h) (Or.inl ⟨by kernel_rfl, ?_⟩) ?_
              · intro w; go_simp
              simp only [List.getElem_toArray, List.getElem_cons_zero, List.getElem_cons_succ, Act.put, List.setIfInBounds_toArray, List.set_cons_succ, List.set_cons_zero]
              refine wpAny_done (by kernel_rfl) ?_ _
              have hb2' : Below wr.heap.size wr w2 := ⟨hb2.os, hb2.tape, hb2.output, hb2.size, hb2.block⟩
              have hw2 := HW.out.1.below hb2'
              have hf2 : Fr g w w2 := hfs.trans (Fr.of_below hb2')
              obtain ⟨d0, d1⟩ := hw2.cell HW.out.2.1
              obtain ⟨d2, d3⟩ := hw2.cell HW.out.2.2.1
              have e0 := hw2.free ((J - 1) * 2)
              have e1 := hw2.free ((J - 1) * 2 + 1)
              have e2 := hw2.free (J * 2)
              have e3 := hw2.free (J * 2 + 1)
              obtain ⟨s1, s2⟩ := hw2.drew.swap HW.out.2.2.1 HW.out.2.1
              have e4 := swap_list2 (P ++ T) (S2 ++ A.drop (k + 1) ++ R) x y
              rw [HW.out.2.2.2, show J - 1 + 1 = J by omega] at e4
              rw [e4, show (P ++ T) ++ x :: y :: (S2 ++ A.drop (k + 1) ++ R) = P ++ ((T ++ x :: (y :: S2)) ++ A.drop (k + 1)) ++ R by simp] at s1
              have HS : Hid _ := And.intro s1 (hf2.drew.trans s2)
              clear hw2 s1 s2 e4 c0 c1 c2 c3 hb2 hb2' hf2
              go_wp2_with fail
              go_region
              all_goals
                go_wp2_with fail
                go_roundw
                case rel => exact ⟨J - 1, by go_num, by omega, by omega, ⟨_, ⟨T, y :: S2, by rw [HE.out.1]; simp, by rw [HE.out.2.2], fun r hr => by rcases List.mem_cons.1 hr with rfl | hr; exact (show Lt (nm x) (nm _) by have hz := HLT.out; rw [HCV.out] at hz; exact hz); exact HE.out.2.1 r hr, rfl⟩, HS.out.1⟩, HS.out.2⟩
                case measure => simp [intOf]; omega
            · simp only [List.getElem_toArray, List.getElem_cons_zero, List.getElem_cons_succ]
              go_big_op
              refine hK _ _ ?_
              clear hK K
              simp only [List.setIfInBounds_toArray, List.set_cons_succ, List.set_cons_zero]
              refine wpAny_ready (rs := [8]) (by kernel_rfl) (by simp) (BigFrame.allReady_want rfl (by kernel_rfl) (fun K hK => ?_) AllReady.nil)
              simp only [List.getElem_toArray, List.getElem_cons_zero, List.getElem_cons_succ]
              go_big_op
              refine hK _ _ ?_
              clear hK K
              simp only [List.setIfInBounds_toArray, List.set_cons_succ, List.set_cons_zero]
              refine wpAny_ready (rs := [14]) (by kernel_rfl) (by simp) (BigFrame.allReady_want rfl (by kernel_rfl) (fun K hK => ?_) AllReady.nil)
              simp only [List.getElem_toArray, List.getElem_cons_zero, List.getElem_cons_succ]
              go_wp2_with (go_at_call 31; refine Calls.mono (HX.out _) ?_; rintro e w2 ⟨rfl, hb2⟩)
              try simp only [List.setIfInBounds_toArray, List.set_cons_succ, List.set_cons_zero]
              refine wpAny_take (i := 15) (v := .bool true) rfl (by kernel_rfl) (by kernel_rfl) (by kernel_rfl) (fun _ _ _ h => h) (Or.inl ⟨by kernel_rfl, ?_⟩) ?_
              · intro w; go_simp
              simp only [List.getElem_toArray, List.getElem_cons_zero, List.getElem_cons_succ, Act.put, List.setIfInBounds_toArray, List.set_cons_succ, List.set_cons_zero]
              refine wpAny_take (i := 16) (v := .bool true) rfl (by kernel_rfl) (by kernel_rfl) (by kernel_rfl) (fun _ _ _ h => h) (Or.inl ⟨by kernel_rfl, ?_⟩) ?_
              · intro w; go_simp
              simp only [List.getElem_toArray, List.getElem_cons_zero, List.getElem_cons_succ, Act.put, List.setIfInBounds_toArray, List.set_cons_succ, List.set_cons_zero]
              refine wpAny_done (by kernel_rfl) ?_ _
              have hb2' : Below wr.heap.size wr w2 := ⟨hb2.os, hb2.tape, hb2.output, hb2.size, hb2.block⟩
              have hw2 := HW.out.1.below hb2'
              have hf2 : Fr g w w2 := hfs.trans (Fr.of_below hb2')
              obtain ⟨d0, d1⟩ := hw2.cell HW.out.2.1
              obtain ⟨d2, d3⟩ := hw2.cell HW.out.2.2.1
              have e0 := hw2.free ((J - 1) * 2)
              have e1 := hw2.free ((J - 1) * 2 + 1)
              have e2 := hw2.free (J * 2)
              have e3 := hw2.free (J * 2 + 1)
              obtain ⟨s1, s2⟩ := hw2.drew.swap HW.out.2.2.1 HW.out.2.1
              have e4 := swap_list2 (P ++ T) (S2 ++ A.drop (k + 1) ++ R) x y
              rw [HW.out.2.2.2, show J - 1 + 1 = J by omega] at e4
              rw [e4, show (P ++ T) ++ x :: y :: (S2 ++ A.drop (k + 1) ++ R) = P ++ ((T ++ x :: (y :: S2)) ++ A.drop (k + 1)) ++ R by simp] at s1
              have HS : Hid _ := And.intro s1 (hf2.drew.trans s2)
              clear hw2 s1 s2 e4 c0 c1 c2 c3 hb2 hb2' hf2
              go_wp2_with fail
              go_region
              all_goals
                go_wp2_with fail
                go_roundw
                case rel => exact ⟨J - 1, by go_num, by omega, by omega, ⟨_, ⟨T, y :: S2, by rw [HE.out.1]; simp, by rw [HE.out.2.2], fun r hr => by rcases List.mem_cons.1 hr with rfl | hr; exact (show Lt (nm x) (nm _) by have hz := HLT.out; rw [HCV.out] at hz; exact hz); exact HE.out.2.1 r hr, rfl⟩, HS.out.1⟩, HS.out.2⟩
                case measure => simp [intOf]; omega
          · have HLT : Hid (¬ cv < 0) := hlt2
            go_wp2_with fail
            refine wp_region_any (by kernel_rfl) ?_
            change wpAny _ _ _ _ 17 #[false, false, false, false, false, false, false, false, false, false, false, false, false, false, false, false, false] _ (World.drew _)
            refine wpAny_take (i := 0) (v := .int .i64 (J : Int)) rfl (by kernel_rfl) (by kernel_rfl) (by kernel_rfl) (fun _ _ _ h => h) (Or.inl ⟨by kernel_rfl, fun w => BigFrame.run_move (.tmp 9) rfl w⟩) ?_
            simp only [List.getElem_toArray, List.getElem_cons_zero, List.getElem_cons_succ, Act.put, List.setIfInBounds_toArray, List.set_cons_succ, List.set_cons_zero]
            refine wpAny_take (i := 1) (v := .int .i64 (a : Int)) rfl (by kernel_rfl) (by kernel_rfl) (by kernel_rfl) (fun _ _ _ h => h) (Or.inl ⟨by kernel_rfl, fun w => BigFrame.run_move (.tmp 1) rfl w⟩) ?_
            simp only [List.getElem_toArray, List.getElem_cons_zero, List.getElem_cons_succ, Act.put, List.setIfInBounds_toArray, List.set_cons_succ, List.set_cons_zero]
            refine wpAny_take (i := 2) (v := .bool true) rfl (by kernel_rfl) (by kernel_rfl) (by kernel_rfl) (fun _ _ _ h => h) (Or.inl ⟨by kernel_rfl, ?_⟩) ?_
            · intro w; go_simp
            simp only [List.getElem_toArray, List.getElem_cons_zero, List.getElem_cons_succ, Act.put, List.setIfInBounds_toArray, List.set_cons_succ, List.set_cons_zero]
            refine wpAny_take (i := 3) (v := .bool true) rfl (by kernel_rfl) (by kernel_rfl) (by kernel_rfl) (fun _ _ _ h => h) (Or.inl ⟨by kernel_rfl, fun w => BigFrame.run_move (.tmp 20) rfl w⟩) ?_
            simp only [List.getElem_toArray, List.getElem_cons_zero, List.getElem_cons_succ, Act.put, List.setIfInBounds_toArray, List.set_cons_succ, List.set_cons_zero]
            refine wpAny_take (i := 4) (v := .func (.func 31) #[] #[]) rfl (by kernel_rfl) (by kernel_rfl) (by kernel_rfl) (fun _ _ _ h => h) (Or.inl ⟨by kernel_rfl, fun w => BigFrame.run_move (.tmp 3) rfl w⟩) ?_
            simp only [List.getElem_toArray, List.getElem_cons_zero, List.getElem_cons_succ, Act.put, List.setIfInBounds_toArray, List.set_cons_succ, List.set_cons_zero]
            refine wpAny_take (i := 5) (v := .slice (some ⟨g, 0, none⟩) N cap) rfl (by kernel_rfl) (by kernel_rfl) (by kernel_rfl) (fun _ _ _ h => h) (Or.inl ⟨by kernel_rfl, fun w => BigFrame.run_move (.tmp 0) rfl w⟩) ?_
            simp only [List.getElem_toArray, List.getElem_cons_zero, List.getElem_cons_succ, Act.put, List.setIfInBounds_toArray, List.set_cons_succ, List.set_cons_zero]
            refine wpAny_take (i := 6) (v := .int .i64 (J : Int)) rfl (by kernel_rfl) (by kernel_rfl) (by kernel_rfl) (fun _ _ _ h => h) (Or.inl ⟨by kernel_rfl, fun w => BigFrame.run_move (.tmp 9) rfl w⟩) ?_
            simp only [List.getElem_toArray, List.getElem_cons_zero, List.getElem_cons_succ, Act.put, List.setIfInBounds_toArray, List.set_cons_succ, List.set_cons_zero]
            refine wpAny_take (i := 7) (v := .pointer (some ⟨g, J * 2, none⟩)) rfl (by kernel_rfl) (by kernel_rfl) (by kernel_rfl) (fun _ _ _ h => h) (Or.inl ⟨by kernel_rfl, ?_⟩) ?_
            · intro w; go_simp
            simp only [List.getElem_toArray, List.getElem_cons_zero, List.getElem_cons_succ, Act.put, List.setIfInBounds_toArray, List.set_cons_succ, List.set_cons_zero]
            refine wpAny_take (i := 9) (v := .slice (some ⟨g, 0, none⟩) N cap) rfl (by kernel_rfl) (by kernel_rfl) (by kernel_rfl) (fun _ _ _ h => h) (Or.inl ⟨by kernel_rfl, fun w => BigFrame.run_move (.tmp 0) rfl w⟩) ?_
            simp only [List.getElem_toArray, List.getElem_cons_zero, List.getElem_cons_succ, Act.put, List.setIfInBounds_toArray, List.set_cons_succ, List.set_cons_zero]
            refine wpAny_take (i := 10) (v := .int .i64 (J : Int)) rfl (by kernel_rfl) (by kernel_rfl) (by kernel_rfl) (fun _ _ _ h => h) (Or.inl ⟨by kernel_rfl, fun w => BigFrame.run_move (.tmp 9) rfl w⟩) ?_
            simp only [List.getElem_toArray, List.getElem_cons_zero, List.getElem_cons_succ, Act.put, List.setIfInBounds_toArray, List.set_cons_succ, List.set_cons_zero]
            refine wpAny_take (i := 11) (v := .int .i64 ((J : Int) - 1)) rfl (by kernel_rfl) (by kernel_rfl) (by kernel_rfl) (fun _ _ _ h => h) (Or.inl ⟨by kernel_rfl, ?_⟩) ?_
            · intro w; go_simp
            simp only [List.getElem_toArray, List.getElem_cons_zero, List.getElem_cons_succ, Act.put, List.setIfInBounds_toArray, List.set_cons_succ, List.set_cons_zero]
            refine wpAny_take (i := 12) (v := .pointer (some ⟨g, (J - 1) * 2, none⟩)) rfl (by kernel_rfl) (by kernel_rfl) (by kernel_rfl) (fun _ _ _ h => h) (Or.inl ⟨by kernel_rfl, ?_⟩) ?_
            · intro w; go_simp
            simp only [List.getElem_toArray, List.getElem_cons_zero, List.getElem_cons_succ, Act.put, List.setIfInBounds_toArray, List.set_cons_succ, List.set_cons_zero]
            refine wpAny_ready (rs := [8, 13]) (by kernel_rfl) (by simp) (BigFrame.allReady_want rfl (by kernel_rfl) (fun K hK => ?_) (BigFrame.allReady_want rfl (by kernel_rfl) (fun K hK => ?_) AllReady.nil))
            · simp only [List.getElem_toArray, List.getElem_cons_zero, List.getElem_cons_succ]
              go_big_op
              refine hK _ _ ?_
              clear hK K
              simp only [List.setIfInBounds_toArray, List.set_cons_succ, List.set_cons_zero]
              refine wpAny_ready (rs := [13]) (by kernel_rfl) (by simp) (BigFrame.allReady_want rfl (by kernel_rfl) (fun K hK => ?_) AllReady.nil)
              simp only [List.getElem_toArray, List.getElem_cons_zero, List.getElem_cons_succ]
              go_big_op
              refine hK _ _ ?_
              clear hK K
              simp only [List.setIfInBounds_toArray, List.set_cons_succ, List.set_cons_zero]
              refine wpAny_ready (rs := [14]) (by kernel_rfl) (by simp) (BigFrame.allReady_want rfl (by kernel_rfl) (fun K hK => ?_) AllReady.nil)
              simp only [List.getElem_toArray, List.getElem_cons_zero, List.getElem_cons_succ]
              go_wp2_with (go_at_call 31; refine Calls.mono (HX.out _) ?_; rintro e w2 ⟨rfl, hb2⟩)
              try simp only [List.setIfInBounds_toArray, List.set_cons_succ, List.set_cons_zero]
              refine wpAny_take (i := 15) (v := .bool false) rfl (by kernel_rfl) (by kernel_rfl) (by kernel_rfl) (fun _ _ _ h => h) (Or.inl ⟨by kernel_rfl, ?_⟩) ?_
              · intro w; go_simp
              simp only [List.getElem_toArray, List.getElem_cons_zero, List.getElem_cons_succ, Act.put, List.setIfInBounds_toArray, List.set_cons_succ, List.set_cons_zero]
              refine wpAny_take (i := 16) (v := .bool false) rfl (by kernel_rfl) (by kernel_rfl) (by kernel_rfl) (fun _ _ _ h => h) (Or.inl ⟨by kernel_rfl, ?_⟩) ?_
              · intro w; go_simp
              simp only [List.getElem_toArray, List.getElem_cons_zero, List.getElem_cons_succ, Act.put, List.setIfInBounds_toArray, List.set_cons_succ, List.set_cons_zero]
              refine wpAny_done (by kernel_rfl) ?_ _
              have hb2' : Below wr.heap.size wr w2 := ⟨hb2.os, hb2.tape, hb2.output, hb2.size, hb2.block⟩
              have hw2 := HW.out.1.below hb2'
              have hf2 : Fr g w w2 := hfs.trans (Fr.of_below hb2')
              have HD : Hid (∃ S, Srt S ∧ Same (A.take (k + 1)) S ∧ Held w2 g (P ++ S ++ A.drop (k + 1) ++ R)) := by
                obtain ⟨g1, g2, g3, g4, g5⟩ := HH.out
                rw [HE.out.1] at g1
                obtain ⟨d1, d2⟩ := ins_done g1 HE.out.2.1 (.inr ⟨T, y, rfl, by have hz := HLT.out; rw [HCV.out] at hz; show ¬ (Lib.compareBytes (nm x) (nm y) < 0); omega⟩)
                refine ⟨_, d1, ?_, by simpa using hw2⟩
                rw [g3]
                refine Same.trans (Same.append g2 (Same.refl [x])) ?_
                rw [HE.out.1]
                exact d2
              clear hw2 c0 c1 c2 c3 hb2 hb2'
              go_wp2_with fail
              go_roundw
              case rel => exact ⟨I + 1, by go_num, by omega, .inl (by omega), by rw [show I + 1 - a = k + 1 by omega]; exact HD.out, hf2⟩
              case measure => simp [intOf]; omega
            · simp only [List.getElem_toArray, List.getElem_cons_zero, List.getElem_cons_succ]
              go_big_op
              refine hK _ _ ?_
              clear hK K
              simp only [List.setIfInBounds_toArray, List.set_cons_succ, List.set_cons_zero]
              refine wpAny_ready (rs := [8]) (by kernel_rfl) (by simp) (BigFrame.allReady_want rfl (by kernel_rfl) (fun K hK => ?_) AllReady.nil)
              simp only [List.getElem_toArray, List.getElem_cons_zero, List.getElem_cons_succ]
              go_big_op
              refine hK _ _ ?_
              clear hK K
              simp only [List.setIfInBounds_toArray, List.set_cons_succ, List.set_cons_zero]
              refine wpAny_ready (rs := [14]) (by kernel_rfl) (by simp) (BigFrame.allReady_want rfl (by kernel_rfl) (fun K hK => ?_) AllReady.nil)
              simp only [List.getElem_toArray, List.getElem_cons_zero, List.getElem_cons_succ]
              go_wp2_with (go_at_call 31; refine Calls.mono (HX.out _) ?_; rintro e w2 ⟨rfl, hb2⟩)
              try simp only [List.setIfInBounds_toArray, List.set_cons_succ, List.set_cons_zero]
              refine wpAny_take (i := 15) (v := .bool false) rfl (by kernel_rfl) (by kernel_rfl) (by kernel_rfl) (fun _ _ _ h => h) (Or.inl ⟨by kernel_rfl, ?_⟩) ?_
              · intro w; go_simp
              simp only [List.getElem_toArray, List.getElem_cons_zero, List.getElem_cons_succ, Act.put, List.setIfInBounds_toArray, List.set_cons_succ, List.set_cons_zero]
              refine wpAny_take (i := 16) (v := .bool false) rfl (by kernel_rfl) (by kernel_rfl) (by kernel_rfl) (fun _ _ _ h => h) (Or.inl ⟨by kernel_rfl, ?_⟩) ?_
              · intro w; go_simp
              simp only [List.getElem_toArray, List.getElem_cons_zero, List.getElem_cons_succ, Act.put, List.setIfInBounds_toArray, List.set_cons_succ, List.set_cons_zero]
              refine wpAny_done (by kernel_rfl) ?_ _
              have hb2' : Below wr.heap.size wr w2 := ⟨hb2.os, hb2.tape, hb2.output, hb2.size, hb2.block⟩
              have hw2 := HW.out.1.below hb2'
              have hf2 : Fr g w w2 := hfs.trans (Fr.of_below hb2')
              have HD : Hid (∃ S, Srt S ∧ Same (A.take (k + 1)) S ∧ Held w2 g (P ++ S ++ A.drop (k + 1) ++ R)) := by
                obtain ⟨g1, g2, g3, g4, g5⟩ := HH.out
                rw [HE.out.1] at g1
                obtain ⟨d1, d2⟩ := ins_done g1 HE.out.2.1 (.inr ⟨T, y, rfl, by have hz := HLT.out; rw [HCV.out] at hz; show ¬ (Lib.compareBytes (nm x) (nm y) < 0); omega⟩)
                refine ⟨_, d1, ?_, by simpa using hw2⟩
                rw [g3]
                refine Same.trans (Same.append g2 (Same.refl [x])) ?_
                rw [HE.out.1]
                exact d2
              clear hw2 c0 c1 c2 c3 hb2 hb2'
              go_wp2_with fail
              go_roundw
              case rel => exact ⟨I + 1, by go_num, by omega, .inl (by omega), by rw [show I + 1 - a = k + 1 by omega]; exact HD.out, hf2⟩
              case measure => simp [intOf]; omega
    · have HE : Hid (∃ A', Held wr g (P ++ A' ++ R) ∧ Srt A' ∧ Same A A') := by
        obtain ⟨hPl, hAl, hNl⟩ := HL.out
        rw [List.drop_eq_nil_of_le (by omega)] at hr
        rw [List.take_of_length_le (by omega)] at hSame
        exact ⟨S, by simpa using hr, hS, hSame⟩
      clear hr hS hSame
      go_wp2_with fail
      go_end0
      exact ⟨rfl, HE.out, hf⟩
end Go.Proofs.Qxb6603645a
