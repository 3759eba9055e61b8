import Derived.Test.Qxb6603645aSymB
namespace Go.Proofs.Qxb6603645a
open Go.RowKit
set_option linter.unusedSimpArgs false
set_option linter.unusedVariables false

/-- 'symMerge' merges any two sorted runs of together n members or fewer. -/
def SymOk (n : Nat) : Prop := ∀ (g cap : Nat) (P A B R : List Mb) (N : Nat) (w : World), Held w g (P ++ (A ++ (B ++ R))) → (P ++ (A ++ (B ++ R))).length = N → N ≤ 4096 → ∀ (a m b : Nat), P.length = a → a + A.length = m → m + B.length = b → 0 < A.length → 0 < B.length → Srt A → Srt B → A.length + B.length ≤ n →
    Calls Try.prog 40 #[.slice (some ⟨g, 0, none⟩) N cap, .int .i64 (a : Int), .int .i64 (m : Int), .int .i64 (b : Int), cmpF] w fun e w' => e = .returned (.tuple #[]) ∧ (∃ M, Held w' g (P ++ (M ++ R)) ∧ Srt M ∧ Same (A ++ B) M) ∧ Fr g w w'

theorem wrap_small {z : Int} (h0 : 0 ≤ z) (h1 : z < 4611686018427387904) : IntKind.i64.wrap z = z := by
  have e : z % 18446744073709551616 = z := by omega
  show (if (true && decide (z % 18446744073709551616 ≥ 9223372036854775808)) = true then z % 18446744073709551616 - 18446744073709551616 else z % 18446744073709551616) = _
  rw [e, if_neg (by simp; omega)]

/-- The borders of the search. -/
def Lo (A B : List Mb) (a mid lo s : Nat) : Prop := s = lo ∨ ∃ u v, A[s - 1 - a]? = some u ∧ B[mid - s]? = some v ∧ Le (nm u) (nm v)
def Up (A B : List Mb) (a mid hi r : Nat) : Prop := r = hi ∨ ∃ u v, A[r - a]? = some u ∧ B[mid - 1 - r]? = some v ∧ Lt (nm v) (nm u)

/-- The list behind the rotation. -/
def Mixed (P A B R : List Mb) (s e : Nat) : List Mb := (P ++ (A.take s ++ B.take e)) ++ ((A.drop s ++ B.drop e) ++ R)
theorem mixed_none {P A B R : List Mb} {s e : Nat} (h : A.length ≤ s ∨ e = 0) : P ++ (A ++ (B ++ R)) = Mixed P A B R s e := by
  unfold Mixed
  have eA := List.take_append_drop s A
  have eB := List.take_append_drop e B
  rcases h with h | h
  · have d : A.drop s = [] := List.drop_eq_nil_of_le h
    have t : A.take s = A := List.take_of_length_le h
    rw [d, t]
    conv => lhs; rw [← eB]
    simp only [List.append_assoc, List.nil_append]
  · subst h
    rw [List.take_zero, List.append_nil, List.drop_zero, List.append_assoc P, ← List.append_assoc (A.take s), ← List.append_assoc (A.take s), eA, List.append_assoc A]
theorem rot_call {g cap N s m en a mid : Nat} {P A B R : List Mb} {F : Value} {w : World} (hH : Held w g (P ++ (A ++ (B ++ R)))) (hN : (P ++ (A ++ (B ++ R))).length = N) (hN2 : N ≤ 4096) (ha : P.length = a) (hm : a + A.length = m) (h1 : a ≤ s) (h2 : s < m) (h3 : m < en) (h4 : s + en = mid + m) (h5 : en ≤ m + B.length) :
    Calls Try.prog 42 #[.slice (some ⟨g, 0, none⟩) N cap, .int .i64 (s : Int), .int .i64 (m : Int), .int .i64 (en : Int), F] w fun e w' => e = .returned (.tuple #[]) ∧ Held w' g (Mixed P A B R (s - a) (mid - s)) ∧ Fr g w w' := by
  have lA : (A.take (s - a)).length = s - a := by simp; omega
  have lA2 : (A.drop (s - a)).length = m - s := by simp; omega
  have lB : (B.take (mid - s)).length = en - m := by simp; omega
  have e : P ++ (A ++ (B ++ R)) = (P ++ A.take (s - a)) ++ A.drop (s - a) ++ B.take (mid - s) ++ (B.drop (mid - s) ++ R) := by
    conv => lhs; rw [← List.take_append_drop (s - a) A, ← List.take_append_drop (mid - s) B]
    simp only [List.append_assoc]
  rw [e] at hH hN
  refine (rotate_any g cap (P ++ A.take (s - a)) (A.drop (s - a)) (B.take (mid - s)) (B.drop (mid - s) ++ R) N F w hH hN hN2 s m en (by rw [List.length_append, lA]; omega) (by omega) (by omega) (by omega) (by omega)).mono ?_
  rintro r w' ⟨rfl, g1, g2⟩
  refine ⟨rfl, ?_, g2⟩
  unfold Mixed
  have : P ++ (A.take (s - a) ++ B.take (mid - s)) ++ ((A.drop (s - a) ++ B.drop (mid - s)) ++ R) = P ++ A.take (s - a) ++ B.take (mid - s) ++ A.drop (s - a) ++ (B.drop (mid - s) ++ R) := by simp only [List.append_assoc]
  rw [this]
  exact g1
/-- The left half, merged. -/
def LeftOk (P A B R : List Mb) (s e : Nat) (X ys : List Mb) : Prop := ys = (P ++ X) ++ ((A.drop s ++ B.drop e) ++ R) ∧ Srt X ∧ Same (A.take s ++ B.take e) X
theorem left_none {P A B R : List Mb} {s e : Nat} (hA : Srt A) (hB : Srt B) (h : s = 0 ∨ e = 0) : LeftOk P A B R s e (A.take s ++ B.take e) (Mixed P A B R s e) := by
  refine ⟨rfl, ?_, Same.refl _⟩
  rcases h with rfl | rfl
  · simpa using hB.take e
  · simpa using hA.take s
theorem left_call {n g cap N s a mid : Nat} {P A B R : List Mb} {w : World} (ih : SymOk n) (hH : Held w g (Mixed P A B R (s - a) (mid - s))) (hN : (P ++ (A ++ (B ++ R))).length = N) (hN2 : N ≤ 4096) (ha : P.length = a) (hA : Srt A) (hB : Srt B) (h1 : a < s) (h2 : s < mid) (h3 : s - a ≤ A.length) (h4 : mid - s ≤ B.length) (hn : mid - a ≤ n) :
    Calls Try.prog 40 #[.slice (some ⟨g, 0, none⟩) N cap, .int .i64 (a : Int), .int .i64 (s : Int), .int .i64 (mid : Int), cmpF] w fun e w' => e = .returned (.tuple #[]) ∧ (∃ X ys, LeftOk P A B R (s - a) (mid - s) X ys ∧ Held w' g ys) ∧ Fr g w w' := by
  have lA : (A.take (s - a)).length = s - a := by simp; omega
  have lB : (B.take (mid - s)).length = mid - s := by simp; omega
  have e : Mixed P A B R (s - a) (mid - s) = P ++ (A.take (s - a) ++ (B.take (mid - s) ++ ((A.drop (s - a) ++ B.drop (mid - s)) ++ R))) := by unfold Mixed; simp only [List.append_assoc]
  have lN : (P ++ (A.take (s - a) ++ (B.take (mid - s) ++ ((A.drop (s - a) ++ B.drop (mid - s)) ++ R)))).length = N := by
    rw [← hN]
    simp only [List.length_append, List.length_take, List.length_drop]
    omega
  rw [e] at hH
  refine (ih g cap P _ _ _ N w hH lN hN2 a s mid ha (by omega) (by omega) (by omega) (by omega) (hA.take _) (hB.take _) (by omega)).mono ?_
  rintro r w' ⟨rfl, ⟨X, x1, x2, x3⟩, g2⟩
  exact ⟨rfl, ⟨X, _, ⟨rfl, x2, x3⟩, by rw [List.append_assoc]; exact x1⟩, g2⟩
theorem right_none {P A B R X ys : List Mb} {s e : Nat} (h0 : LeftOk P A B R s e X ys) (hA : Srt A) (hB : Srt B) (h : A.length ≤ s ∨ B.length ≤ e)
    (h1 : A.length ≤ s ∨ e = 0 ∨ ∃ u v, A[s]? = some u ∧ B[e - 1]? = some v ∧ Lt (nm v) (nm u)) (h2 : s = 0 ∨ B.length ≤ e ∨ ∃ u v, A[s - 1]? = some u ∧ B[e]? = some v ∧ Le (nm u) (nm v)) : ∃ M, ys = P ++ (M ++ R) ∧ Srt M ∧ Same (A ++ B) M := by
  obtain ⟨rfl, hX, sX⟩ := h0
  have hY : Srt (A.drop s ++ B.drop e) := by
    rcases h with h | h
    · rw [List.drop_eq_nil_of_le h]; simpa using hB.drop e
    · rw [List.drop_eq_nil_of_le h]; simpa using hA.drop s
  obtain ⟨f1, f2⟩ := sym_step hA hB h1 h2 hX sX hY (Same.refl _)
  exact ⟨_, by simp only [List.append_assoc], f1, f2⟩
theorem right_call {n g cap N s m en b a mid : Nat} {P A B R X ys : List Mb} {w : World} (ih : SymOk n) (h0 : LeftOk P A B R (s - a) (mid - s) X ys) (hH : Held w g ys) (hN : (P ++ (A ++ (B ++ R))).length = N) (hN2 : N ≤ 4096) (ha : P.length = a) (hm : a + A.length = m) (hb : m + B.length = b) (hA : Srt A) (hB : Srt B) (k1 : a ≤ s) (k2 : s ≤ m) (k3 : s ≤ mid) (h3 : mid < en) (h4 : en < b) (h5 : s + en = mid + m) (hn : b - mid ≤ n)
    (h1 : A.length ≤ s - a ∨ mid - s = 0 ∨ ∃ u v, A[s - a]? = some u ∧ B[mid - s - 1]? = some v ∧ Lt (nm v) (nm u)) (h2 : s - a = 0 ∨ B.length ≤ mid - s ∨ ∃ u v, A[s - a - 1]? = some u ∧ B[mid - s]? = some v ∧ Le (nm u) (nm v)) :
    Calls Try.prog 40 #[.slice (some ⟨g, 0, none⟩) N cap, .int .i64 (mid : Int), .int .i64 (en : Int), .int .i64 (b : Int), cmpF] w fun e w' => e = .returned (.tuple #[]) ∧ (∃ M, Held w' g (P ++ (M ++ R)) ∧ Srt M ∧ Same (A ++ B) M) ∧ Fr g w w' := by
  obtain ⟨rfl, hX, sX⟩ := h0
  have lX : X.length = mid - a := by
    rw [sX.length]
    simp only [List.length_append, List.length_take]
    omega
  have lA : (A.drop (s - a)).length = m - s := by simp; omega
  have lB : (B.drop (mid - s)).length = b - en := by simp; omega
  have lN : ((P ++ X) ++ (A.drop (s - a) ++ (B.drop (mid - s) ++ R))).length = N := by
    rw [← hN]
    simp only [List.length_append, lX, lA, lB]
    omega
  rw [List.append_assoc (A.drop (s - a))] at hH
  refine (ih g cap (P ++ X) _ _ R N w hH lN hN2 mid en b (by rw [List.length_append, lX]; omega) (by omega) (by omega) (by omega) (by omega) (hA.drop _) (hB.drop _) (by omega)).mono ?_
  rintro r w' ⟨rfl, ⟨Y, y1, y2, y3⟩, g2⟩
  obtain ⟨f1, f2⟩ := sym_step hA hB h1 h2 hX sX y2 y3
  refine ⟨rfl, ⟨X ++ Y, ?_, f1, f2⟩, g2⟩
  rw [List.append_assoc X, ← List.append_assoc P]
  exact y1

set_option maxRecDepth 100000 in
set_option maxHeartbeats 6000000 in
theorem sym_gen (n : Nat) (ih : SymOk n) (g cap : Nat) (P A B R : List Mb) (N : Nat) (w : World) (hH : Held w g (P ++ (A ++ (B ++ R)))) (hN : (P ++ (A ++ (B ++ R))).length = N) (hN2 : N ≤ 4096) (a m b : Nat) (ha : P.length = a) (hm : a + A.length = m) (hb : m + B.length = b) (hA : Srt A) (hB : Srt B) (hA2 : 2 ≤ A.length) (hB2 : 2 ≤ B.length) (hn : A.length + B.length ≤ n + 1) :
    Calls Try.prog 40 #[.slice (some ⟨g, 0, none⟩) N cap, .int .i64 (a : Int), .int .i64 (m : Int), .int .i64 (b : Int), cmpF] w fun e w' => e = .returned (.tuple #[]) ∧ (∃ M, Held w' g (P ++ (M ++ R)) ∧ Srt M ∧ Same (A ++ B) M) ∧ Fr g w w' := by
  unfold cmpF
  have o1 : a + 2 ≤ m := by omega
  have o2 : m + 2 ≤ b := by omega
  have o3 : b ≤ N := by simp only [List.length_append] at hN; omega
  have t0 : ((m : Int) - (a : Int) == 1) = false := by rw [beq_eq_false_iff_ne]; omega
  have t1 : ((b : Int) - (m : Int) == 1) = false := by rw [beq_eq_false_iff_ne]; omega
  have HL : Hid (P.length = a ∧ a + A.length = m ∧ m + B.length = b ∧ Srt A ∧ Srt B ∧ A.length + B.length ≤ n + 1 ∧ (P ++ (A ++ (B ++ R))).length = N ∧ SymOk n) := ⟨ha, hm, hb, hA, hB, hn, hN, ih⟩
  clear hN ha hm hb hA hB hA2 hB2 hn ih
  obtain ⟨mid, hmid⟩ : ∃ mid : Nat, ((a : Int) + (b : Int)) / 2 = (mid : Int) := ⟨(a + b) / 2, by omega⟩
  have m1 : a + b ≤ 2 * mid + 1 := by omega
  have m2 : 2 * mid ≤ a + b := by omega
  go_enter Try.func40, Try.ntmps40
  go_upto_if 140 with fail
  go_cut [20, 21] (fun sv rv wx => w = wx ∧ ∃ lo hi : Nat, sv = .int .i64 (lo : Int) ∧ rv = .int .i64 (hi : Int) ∧ ((lo ≤ a ∧ a ≤ lo ∧ hi ≤ m ∧ m ≤ hi ∧ m ≤ mid) ∨ (lo + b ≤ mid + m ∧ mid + m ≤ lo + b ∧ hi ≤ mid ∧ mid ≤ hi ∧ mid < m)))
  case first =>
    by_cases hmm : mid < m
    · have t2 : (mid : Int) < (m : Int) := by omega
      go_wp2_with fail
      go_meet
      case rel => exact ⟨rfl, mid + m - b, mid, by go_num, rfl, .inr ⟨by omega, by omega, Nat.le_refl _, Nat.le_refl _, hmm⟩⟩
    · have t2 : ¬ (mid : Int) < (m : Int) := by omega
      go_wp2_with fail
      go_meet
      case rel => exact ⟨rfl, a, m, rfl, rfl, .inl ⟨Nat.le_refl _, Nat.le_refl _, Nat.le_refl _, Nat.le_refl _, by omega⟩⟩
  case rest =>
    obtain ⟨rfl, lo, hi, rfl, rfl, hlh⟩ := hcut
    go_wp2_with fail
    go_loopw [20, 21] (fun sv rv wr => ∃ s r : Nat, sv = .int .i64 (s : Int) ∧ rv = .int .i64 (r : Int) ∧ lo ≤ s ∧ s ≤ r ∧ r ≤ hi ∧ Lo A B a mid lo s ∧ Up A B a mid hi r ∧ Held wr g (P ++ (A ++ (B ++ R))) ∧ Fr g w wr) (fun sv rv _ => (intOf rv).toNat - (intOf sv).toNat)
    case atStart => exact ⟨lo, hi, rfl, rfl, Nat.le_refl _, by omega, Nat.le_refl _, .inl rfl, .inl rfl, hH, Fr.refl _ _⟩
    case round =>
      clear hH
      obtain ⟨s, r, rfl, rfl, h1, h2, h3, q1, q2, hr, hf⟩ := hrel
      by_cases hij : s < r
      · have HQ : Hid _ := And.intro q1 (And.intro q2 hr)
        clear q1 q2 hr
        obtain ⟨c, hc⟩ : ∃ c : Nat, ((s : Int) + (r : Int)) / 2 = (c : Int) := ⟨(s + r) / 2, by omega⟩
        have u1 : s ≤ c := by omega
        have u2 : c < r := by omega
        have u3 : a ≤ c := by omega
        have u4 : c < m := by omega
        have u5 : c < mid := by omega
        have u6 : mid + m ≤ b + c := by omega
        obtain ⟨pc, hpc⟩ : ∃ pc : Nat, pc = mid + m - 1 - c := ⟨_, rfl⟩
        obtain ⟨u, v, HU, c0, c1, c2, c3⟩ : ∃ u v, Hid (A[c - a]? = some u ∧ B[mid - 1 - c]? = some v) ∧ wr.cell? ⟨g, c * 2, none⟩ = some (.string u.1) ∧ wr.cell? ⟨g, c * 2 + 1, none⟩ = some (.string u.2) ∧ wr.cell? ⟨g, pc * 2, none⟩ = some (.string v.1) ∧ wr.cell? ⟨g, pc * 2 + 1, none⟩ = some (.string v.2) := by
          obtain ⟨ha, hm, hb, hA, hB, hn, hN, ih⟩ := HL.out
          have hlt : c - a < A.length := by omega
          have hlt2 : mid - 1 - c < B.length := by omega
          have e : (P ++ (A ++ (B ++ R)))[c]? = A[c - a]? := by
            have := get_seg P A (B ++ R) hlt
            rw [ha, show a + (c - a) = c by omega] at this
            exact this
          have e2 : (P ++ (A ++ (B ++ R)))[pc]? = B[mid - 1 - c]? := by
            have := get_seg (P ++ A) B R hlt2
            rw [List.length_append, ha, hm, show m + (mid - 1 - c) = pc by omega] at this
            rw [← this]
            simp
          have hu := List.getElem?_eq_getElem hlt
          have hv := List.getElem?_eq_getElem hlt2
          rw [hu] at e
          rw [hv] at e2
          exact ⟨_, _, ⟨hu, hv⟩, (HQ.out.2.2.cell e).1, (HQ.out.2.2.cell e).2, (HQ.out.2.2.cell e2).1, (HQ.out.2.2.cell e2).2⟩
        have v0 : (mid : Int) + (m : Int) - 1 - (c : Int) = (pc : Int) := by omega
        have hwr : IntKind.i64.wrap (pc : Int) = (pc : Int) := wrap_small (by omega) (by omega)
        have v1 : (c : Int) < (N : Int) := by omega
        have v2 : (pc : Int) < (N : Int) := by omega
        have v3 : c < N := by omega
        have v4 : pc < N := by omega
        clear hpc
        have HX : Hid _ := fun w => cmp_any v u w
        unfold mbV at HX
        obtain ⟨cv, hcv⟩ : ∃ cv, cv = Lib.compareBytes (nm v) (nm u) := ⟨_, rfl⟩
        rw [← hcv] at HX
        have HCV : Hid (cv = Lib.compareBytes (nm v) (nm u)) := hcv
        clear hcv
        go_wp2_with fail
        by_cases hlt2 : cv < 0
        · have HLT : Hid (cv < 0) := hlt2
          refine wp_region_any (by kernel_rfl) ?_
          change wpAny _ _ _ _ 14 #[false, false, false, false, false, false, false, false, false, false, false, false, false, false] _ (World.drew _)
          refine wpAny_take (i := 0) (v := .func (.func 31) #[] #[]) rfl (by kernel_rfl) (by kernel_rfl) (by kernel_rfl) (fun _ _ _ h => h) (Or.inl ⟨by kernel_rfl, fun w => BigFrame.run_move (.tmp 4) rfl w⟩) ?_
          simp only [List.getElem_toArray, List.getElem_cons_zero, List.getElem_cons_succ, Act.put, List.setIfInBounds_toArray, List.set_cons_succ, List.set_cons_zero]
          refine wpAny_take (i := 1) (v := .slice (some ⟨g, 0, none⟩) N cap) rfl (by kernel_rfl) (by kernel_rfl) (by kernel_rfl) (fun _ _ _ h => h) (Or.inl ⟨by kernel_rfl, fun w => BigFrame.run_move (.tmp 0) rfl w⟩) ?_
          simp only [List.getElem_toArray, List.getElem_cons_zero, List.getElem_cons_succ, Act.put, List.setIfInBounds_toArray, List.set_cons_succ, List.set_cons_zero]
          refine wpAny_take (i := 2) (v := .int .i64 ((mid : Int) + (m : Int) - 1)) rfl (by kernel_rfl) (by kernel_rfl) (by kernel_rfl) (fun _ _ _ h => h) (Or.inl ⟨by kernel_rfl, fun w => BigFrame.run_move (.tmp 22) rfl w⟩) ?_
          simp only [List.getElem_toArray, List.getElem_cons_zero, List.getElem_cons_succ, Act.put, List.setIfInBounds_toArray, List.set_cons_succ, List.set_cons_zero]
          refine wpAny_take (i := 3) (v := .int .i64 (c : Int)) rfl (by kernel_rfl) (by kernel_rfl) (by kernel_rfl) (fun _ _ _ h => h) (Or.inl ⟨by kernel_rfl, fun w => BigFrame.run_move (.tmp 23) rfl w⟩) ?_
          simp only [List.getElem_toArray, List.getElem_cons_zero, List.getElem_cons_succ, Act.put, List.setIfInBounds_toArray, List.set_cons_succ, List.set_cons_zero]
          refine wpAny_take (i := 4) (v := .int .i64 (pc : Int)) rfl (by kernel_rfl) (by kernel_rfl) (by kernel_rfl) (fun _ _ _ h => h) (Or.inl ⟨by kernel_rfl, ?_⟩) ?_
          · intro w; go_simp
          simp only [List.getElem_toArray, List.getElem_cons_zero, List.getElem_cons_succ, Act.put, List.setIfInBounds_toArray, List.set_cons_succ, List.set_cons_zero]
          refine wpAny_take (i := 5) (v := .pointer (some ⟨g, pc * 2, none⟩)) rfl (by kernel_rfl) (by kernel_rfl) (by kernel_rfl) (fun _ _ _ h => h) (Or.inl ⟨by kernel_rfl, ?_⟩) ?_
          · intro w; go_simp
          simp only [List.getElem_toArray, List.getElem_cons_zero, List.getElem_cons_succ, Act.put, List.setIfInBounds_toArray, List.set_cons_succ, List.set_cons_zero]
          refine wpAny_take (i := 7) (v := .slice (some ⟨g, 0, none⟩) N cap) rfl (by kernel_rfl) (by kernel_rfl) (by kernel_rfl) (fun _ _ _ h => h) (Or.inl ⟨by kernel_rfl, fun w => BigFrame.run_move (.tmp 0) rfl w⟩) ?_
          simp only [List.getElem_toArray, List.getElem_cons_zero, List.getElem_cons_succ, Act.put, List.setIfInBounds_toArray, List.set_cons_succ, List.set_cons_zero]
          refine wpAny_take (i := 8) (v := .int .i64 (c : Int)) rfl (by kernel_rfl) (by kernel_rfl) (by kernel_rfl) (fun _ _ _ h => h) (Or.inl ⟨by kernel_rfl, fun w => BigFrame.run_move (.tmp 23) rfl w⟩) ?_
          simp only [List.getElem_toArray, List.getElem_cons_zero, List.getElem_cons_succ, Act.put, List.setIfInBounds_toArray, List.set_cons_succ, List.set_cons_zero]
          refine wpAny_take (i := 9) (v := .pointer (some ⟨g, c * 2, none⟩)) rfl (by kernel_rfl) (by kernel_rfl) (by kernel_rfl) (fun _ _ _ h => h) (Or.inl ⟨by kernel_rfl, ?_⟩) ?_
          · intro w; go_simp
          simp only [List.getElem_toArray, List.getElem_cons_zero, List.getElem_cons_succ, Act.put, List.setIfInBounds_toArray, List.set_cons_succ, List.set_cons_zero]
          refine wpAny_ready (rs := [6, 10]) (by kernel_rfl) (by simp) (BigFrame.allReady_want rfl (by kernel_rfl) (fun K hK => ?_) (BigFrame.allReady_want rfl (by kernel_rfl) (fun K hK => ?_) AllReady.nil))
          · simp only [List.getElem_toArray, List.getElem_cons_zero, List.getElem_cons_succ]
            go_big_op
            refine hK _ _ ?_
            clear hK K
            simp only [List.setIfInBounds_toArray, List.set_cons_succ, List.set_cons_zero]
            refine wpAny_ready (rs := [10]) (by kernel_rfl) (by simp) (BigFrame.allReady_want rfl (by kernel_rfl) (fun K hK => ?_) AllReady.nil)
            simp only [List.getElem_toArray, List.getElem_cons_zero, List.getElem_cons_succ]
            go_big_op
            refine hK _ _ ?_
            clear hK K
            simp only [List.setIfInBounds_toArray, List.set_cons_succ, List.set_cons_zero]
            refine wpAny_ready (rs := [11]) (by kernel_rfl) (by simp) (BigFrame.allReady_want rfl (by kernel_rfl) (fun K hK => ?_) AllReady.nil)
            simp only [List.getElem_toArray, List.getElem_cons_zero, List.getElem_cons_succ]
            go_wp2_with (go_at_call 31; refine Calls.mono (HX.out _) ?_; rintro e w2 ⟨rfl, hb2⟩)
            try simp only [List.setIfInBounds_toArray, List.set_cons_succ, List.set_cons_zero]
            refine wpAny_take (i := 12) (v := .bool true) rfl (by kernel_rfl) (by kernel_rfl) (by kernel_rfl) (fun _ _ _ h => h) (Or.inl ⟨by kernel_rfl, ?_⟩) ?_
            · intro w; go_simp
            simp only [List.getElem_toArray, List.getElem_cons_zero, List.getElem_cons_succ, Act.put, List.setIfInBounds_toArray, List.set_cons_succ, List.set_cons_zero]
            refine wpAny_take (i := 13) (v := .bool false) rfl (by kernel_rfl) (by kernel_rfl) (by kernel_rfl) (fun _ _ _ h => h) (Or.inl ⟨by kernel_rfl, ?_⟩) ?_
            · intro w; go_simp
            simp only [List.getElem_toArray, List.getElem_cons_zero, List.getElem_cons_succ, Act.put, List.setIfInBounds_toArray, List.set_cons_succ, List.set_cons_zero]
            refine wpAny_done (by kernel_rfl) ?_ _
            have hb2' : Below wr.heap.size wr w2 := ⟨hb2.os, hb2.tape, hb2.output, hb2.size, hb2.block⟩
            have hw2 := HQ.out.2.2.below hb2'
            have hf2 : Fr g w w2 := hf.trans (Fr.of_below hb2')
            clear c0 c1 c2 c3 hb2 hb2'
            go_wp2_with fail
            go_roundw
            case rel => exact ⟨s, c, rfl, rfl, h1, by omega, by omega, HQ.out.1, .inr ⟨u, v, HU.out.1, HU.out.2, by have hz := HLT.out; rw [HCV.out] at hz; exact hz⟩, hw2, hf2⟩
            case measure => simp [intOf]; omega
          · simp only [List.getElem_toArray, List.getElem_cons_zero, List.getElem_cons_succ]
            go_big_op
            refine hK _ _ ?_
            clear hK K
            simp only [List.setIfInBounds_toArray, List.set_cons_succ, List.set_cons_zero]
            refine wpAny_ready (rs := [6]) (by kernel_rfl) (by simp) (BigFrame.allReady_want rfl (by kernel_rfl) (fun K hK => ?_) AllReady.nil)
            simp only [List.getElem_toArray, List.getElem_cons_zero, List.getElem_cons_succ]
            go_big_op
            refine hK _ _ ?_
            clear hK K
            simp only [List.setIfInBounds_toArray, List.set_cons_succ, List.set_cons_zero]
            refine wpAny_ready (rs := [11]) (by kernel_rfl) (by simp) (BigFrame.allReady_want rfl (by kernel_rfl) (fun K hK => ?_) AllReady.nil)
            simp only [List.getElem_toArray, List.getElem_cons_zero, List.getElem_cons_succ]
            go_wp2_with (go_at_call 31; refine Calls.mono (HX.out _) ?_; rintro e w2 ⟨rfl, hb2⟩)
            try simp only [List.setIfInBounds_toArray, List.set_cons_succ, List.set_cons_zero]
            refine wpAny_take (i := 12) (v := .bool true) rfl (by kernel_rfl) (by kernel_rfl) (by kernel_rfl) (fun _ _ _ h => h) (Or.inl ⟨by kernel_rfl, ?_⟩) ?_
            · intro w; go_simp
            simp only [List.getElem_toArray, List.getElem_cons_zero, List.getElem_cons_succ, Act.put, List.setIfInBounds_toArray, List.set_cons_succ, List.set_cons_zero]
            refine wpAny_take (i := 13) (v := .bool false) rfl (by kernel_rfl) (by kernel_rfl) (by kernel_rfl) (fun _ _ _ h => h) (Or.inl ⟨by kernel_rfl, ?_⟩) ?_
            · intro w; go_simp
            simp only [List.getElem_toArray, List.getElem_cons_zero, List.getElem_cons_succ, Act.put, List.setIfInBounds_toArray, List.set_cons_succ, List.set_cons_zero]
            refine wpAny_done (by kernel_rfl) ?_ _
            have hb2' : Below wr.heap.size wr w2 := ⟨hb2.os, hb2.tape, hb2.output, hb2.size, hb2.block⟩
            have hw2 := HQ.out.2.2.below hb2'
            have hf2 : Fr g w w2 := hf.trans (Fr.of_below hb2')
            clear c0 c1 c2 c3 hb2 hb2'
            go_wp2_with fail
            go_roundw
            case rel => exact ⟨s, c, rfl, rfl, h1, by omega, by omega, HQ.out.1, .inr ⟨u, v, HU.out.1, HU.out.2, by have hz := HLT.out; rw [HCV.out] at hz; exact hz⟩, hw2, hf2⟩
            case measure => simp [intOf]; omega
        · have HLT : Hid (¬ cv < 0) := hlt2
          refine wp_region_any (by kernel_rfl) ?_
          change wpAny _ _ _ _ 14 #[false, false, false, false, false, false, false, false, false, false, false, false, false, false] _ (World.drew _)
          refine wpAny_take (i := 0) (v := .func (.func 31) #[] #[]) rfl (by kernel_rfl) (by kernel_rfl) (by kernel_rfl) (fun _ _ _ h => h) (Or.inl ⟨by kernel_rfl, fun w => BigFrame.run_move (.tmp 4) rfl w⟩) ?_
          simp only [List.getElem_toArray, List.getElem_cons_zero, List.getElem_cons_succ, Act.put, List.setIfInBounds_toArray, List.set_cons_succ, List.set_cons_zero]
          refine wpAny_take (i := 1) (v := .slice (some ⟨g, 0, none⟩) N cap) rfl (by kernel_rfl) (by kernel_rfl) (by kernel_rfl) (fun _ _ _ h => h) (Or.inl ⟨by kernel_rfl, fun w => BigFrame.run_move (.tmp 0) rfl w⟩) ?_
          simp only [List.getElem_toArray, List.getElem_cons_zero, List.getElem_cons_succ, Act.put, List.setIfInBounds_toArray, List.set_cons_succ, List.set_cons_zero]
          refine wpAny_take (i := 2) (v := .int .i64 ((mid : Int) + (m : Int) - 1)) rfl (by kernel_rfl) (by kernel_rfl) (by kernel_rfl) (fun _ _ _ h => h) (Or.inl ⟨by kernel_rfl, fun w => BigFrame.run_move (.tmp 22) rfl w⟩) ?_
          simp only [List.getElem_toArray, List.getElem_cons_zero, List.getElem_cons_succ, Act.put, List.setIfInBounds_toArray, List.set_cons_succ, List.set_cons_zero]
          refine wpAny_take (i := 3) (v := .int .i64 (c : Int)) rfl (by kernel_rfl) (by kernel_rfl) (by kernel_rfl) (fun _ _ _ h => h) (Or.inl ⟨by kernel_rfl, fun w => BigFrame.run_move (.tmp 23) rfl w⟩) ?_
          simp only [List.getElem_toArray, List.getElem_cons_zero, List.getElem_cons_succ, Act.put, List.setIfInBounds_toArray, List.set_cons_succ, List.set_cons_zero]
          refine wpAny_take (i := 4) (v := .int .i64 (pc : Int)) rfl (by kernel_rfl) (by kernel_rfl) (by kernel_rfl) (fun _ _ _ h => h) (Or.inl ⟨by kernel_rfl, ?_⟩) ?_
          · intro w; go_simp
          simp only [List.getElem_toArray, List.getElem_cons_zero, List.getElem_cons_succ, Act.put, List.setIfInBounds_toArray, List.set_cons_succ, List.set_cons_zero]
          refine wpAny_take (i := 5) (v := .pointer (some ⟨g, pc * 2, none⟩)) rfl (by kernel_rfl) (by kernel_rfl) (by kernel_rfl) (fun _ _ _ h => h) (Or.inl ⟨by kernel_rfl, ?_⟩) ?_
          · intro w; go_simp
          simp only [List.getElem_toArray, List.getElem_cons_zero, List.getElem_cons_succ, Act.put, List.setIfInBounds_toArray, List.set_cons_succ, List.set_cons_zero]
          refine wpAny_take (i := 7) (v := .slice (some ⟨g, 0, none⟩) N cap) rfl (by kernel_rfl) (by kernel_rfl) (by kernel_rfl) (fun _ _ _ h => h) (Or.inl ⟨by kernel_rfl, fun w => BigFrame.run_move (.tmp 0) rfl w⟩) ?_
          simp only [List.getElem_toArray, List.getElem_cons_zero, List.getElem_cons_succ, Act.put, List.setIfInBounds_toArray, List.set_cons_succ, List.set_cons_zero]
          refine wpAny_take (i := 8) (v := .int .i64 (c : Int)) rfl (by kernel_rfl) (by kernel_rfl) (by kernel_rfl) (fun _ _ _ h => h) (Or.inl ⟨by kernel_rfl, fun w => BigFrame.run_move (.tmp 23) rfl w⟩) ?_
          simp only [List.getElem_toArray, List.getElem_cons_zero, List.getElem_cons_succ, Act.put, List.setIfInBounds_toArray, List.set_cons_succ, List.set_cons_zero]
          refine wpAny_take (i := 9) (v := .pointer (some ⟨g, c * 2, none⟩)) rfl (by kernel_rfl) (by kernel_rfl) (by kernel_rfl) (fun _ _ _ h => h) (Or.inl ⟨by kernel_rfl, ?_⟩) ?_
          · intro w; go_simp
          simp only [List.getElem_toArray, List.getElem_cons_zero, List.getElem_cons_succ, Act.put, List.setIfInBounds_toArray, List.set_cons_succ, List.set_cons_zero]
          refine wpAny_ready (rs := [6, 10]) (by kernel_rfl) (by simp) (BigFrame.allReady_want rfl (by kernel_rfl) (fun K hK => ?_) (BigFrame.allReady_want rfl (by kernel_rfl) (fun K hK => ?_) AllReady.nil))
          · simp only [List.getElem_toArray, List.getElem_cons_zero, List.getElem_cons_succ]
            go_big_op
            refine hK _ _ ?_
            clear hK K
            simp only [List.setIfInBounds_toArray, List.set_cons_succ, List.set_cons_zero]
            refine wpAny_ready (rs := [10]) (by kernel_rfl) (by simp) (BigFrame.allReady_want rfl (by kernel_rfl) (fun K hK => ?_) AllReady.nil)
            simp only [List.getElem_toArray, List.getElem_cons_zero, List.getElem_cons_succ]
            go_big_op
            refine hK _ _ ?_
            clear hK K
            simp only [List.setIfInBounds_toArray, List.set_cons_succ, List.set_cons_zero]
            refine wpAny_ready (rs := [11]) (by kernel_rfl) (by simp) (BigFrame.allReady_want rfl (by kernel_rfl) (fun K hK => ?_) AllReady.nil)
            simp only [List.getElem_toArray, List.getElem_cons_zero, List.getElem_cons_succ]
            go_wp2_with (go_at_call 31; refine Calls.mono (HX.out _) ?_; rintro e w2 ⟨rfl, hb2⟩)
            try simp only [List.setIfInBounds_toArray, List.set_cons_succ, List.set_cons_zero]
            refine wpAny_take (i := 12) (v := .bool false) rfl (by kernel_rfl) (by kernel_rfl) (by kernel_rfl) (fun _ _ _ h => h) (Or.inl ⟨by kernel_rfl, ?_⟩) ?_
            · intro w; go_simp
            simp only [List.getElem_toArray, List.getElem_cons_zero, List.getElem_cons_succ, Act.put, List.setIfInBounds_toArray, List.set_cons_succ, List.set_cons_zero]
            refine wpAny_take (i := 13) (v := .bool true) rfl (by kernel_rfl) (by kernel_rfl) (by kernel_rfl) (fun _ _ _ h => h) (Or.inl ⟨by kernel_rfl, ?_⟩) ?_
            · intro w; go_simp
            simp only [List.getElem_toArray, List.getElem_cons_zero, List.getElem_cons_succ, Act.put, List.setIfInBounds_toArray, List.set_cons_succ, List.set_cons_zero]
            refine wpAny_done (by kernel_rfl) ?_ _
            have hb2' : Below wr.heap.size wr w2 := ⟨hb2.os, hb2.tape, hb2.output, hb2.size, hb2.block⟩
            have hw2 := HQ.out.2.2.below hb2'
            have hf2 : Fr g w w2 := hf.trans (Fr.of_below hb2')
            clear c0 c1 c2 c3 hb2 hb2'
            go_wp2_with fail
            go_roundw
            case rel => exact ⟨c + 1, r, by go_num, rfl, by omega, by omega, h3, .inr ⟨u, v, by rw [show c + 1 - 1 - a = c - a by omega]; exact HU.out.1, by rw [show mid - (c + 1) = mid - 1 - c by omega]; exact HU.out.2, by have hz := HLT.out; rw [HCV.out] at hz; show ¬ (Lib.compareBytes (nm v) (nm u) < 0); omega⟩, HQ.out.2.1, hw2, hf2⟩
            case measure => simp [intOf]; omega
          · simp only [List.getElem_toArray, List.getElem_cons_zero, List.getElem_cons_succ]
            go_big_op
            refine hK _ _ ?_
            clear hK K
            simp only [List.setIfInBounds_toArray, List.set_cons_succ, List.set_cons_zero]
            refine wpAny_ready (rs := [6]) (by kernel_rfl) (by simp) (BigFrame.allReady_want rfl (by kernel_rfl) (fun K hK => ?_) AllReady.nil)
            simp only [List.getElem_toArray, List.getElem_cons_zero, List.getElem_cons_succ]
            go_big_op
            refine hK _ _ ?_
            clear hK K
            simp only [List.setIfInBounds_toArray, List.set_cons_succ, List.set_cons_zero]
            refine wpAny_ready (rs := [11]) (by kernel_rfl) (by simp) (BigFrame.allReady_want rfl (by kernel_rfl) (fun K hK => ?_) AllReady.nil)
            simp only [List.getElem_toArray, List.getElem_cons_zero, List.getElem_cons_succ]
            go_wp2_with (go_at_call 31; refine Calls.mono (HX.out _) ?_; rintro e w2 ⟨rfl, hb2⟩)
            try simp only [List.setIfInBounds_toArray, List.set_cons_succ, List.set_cons_zero]
            refine wpAny_take (i := 12) (v := .bool false) rfl (by kernel_rfl) (by kernel_rfl) (by kernel_rfl) (fun _ _ _ h => h) (Or.inl ⟨by kernel_rfl, ?_⟩) ?_
            · intro w; go_simp
            simp only [List.getElem_toArray, List.getElem_cons_zero, List.getElem_cons_succ, Act.put, List.setIfInBounds_toArray, List.set_cons_succ, List.set_cons_zero]
            refine wpAny_take (i := 13) (v := .bool true) rfl (by kernel_rfl) (by kernel_rfl) (by kernel_rfl) (fun _ _ _ h => h) (Or.inl ⟨by kernel_rfl, ?_⟩) ?_
            · intro w; go_simp
            simp only [List.getElem_toArray, List.getElem_cons_zero, List.getElem_cons_succ, Act.put, List.setIfInBounds_toArray, List.set_cons_succ, List.set_cons_zero]
            refine wpAny_done (by kernel_rfl) ?_ _
            have hb2' : Below wr.heap.size wr w2 := ⟨hb2.os, hb2.tape, hb2.output, hb2.size, hb2.block⟩
            have hw2 := HQ.out.2.2.below hb2'
            have hf2 : Fr g w w2 := hf.trans (Fr.of_below hb2')
            clear c0 c1 c2 c3 hb2 hb2'
            go_wp2_with fail
            go_roundw
            case rel => exact ⟨c + 1, r, by go_num, rfl, by omega, by omega, h3, .inr ⟨u, v, by rw [show c + 1 - 1 - a = c - a by omega]; exact HU.out.1, by rw [show mid - (c + 1) = mid - 1 - c by omega]; exact HU.out.2, by have hz := HLT.out; rw [HCV.out] at hz; show ¬ (Lib.compareBytes (nm v) (nm u) < 0); omega⟩, HQ.out.2.1, hw2, hf2⟩
            case measure => simp [intOf]; omega
      · obtain ⟨en, hen⟩ : ∃ en : Nat, (mid : Int) + (m : Int) - (s : Int) = (en : Int) := ⟨mid + m - s, by omega⟩
        have k1 : a ≤ s := by omega
        have k2 : s ≤ m := by omega
        have k3 : s ≤ mid := by omega
        have k4 : m ≤ en := by omega
        have k5 : en ≤ b := by omega
        have k6 : mid ≤ en := by omega
        have hwr : IntKind.i64.wrap (en : Int) = (en : Int) := wrap_small (by omega) (by omega)
        have HJ : Hid ((A.length ≤ s - a ∨ mid - s = 0 ∨ ∃ u v, A[s - a]? = some u ∧ B[mid - s - 1]? = some v ∧ Lt (nm v) (nm u)) ∧ (s - a = 0 ∨ B.length ≤ mid - s ∨ ∃ u v, A[s - a - 1]? = some u ∧ B[mid - s]? = some v ∧ Le (nm u) (nm v)) ∧ s + en = mid + m) := by
          obtain ⟨ha, hm, hb, hA, hB, hn, hN, ih⟩ := HL.out
          refine ⟨?_, ?_, by omega⟩
          · rcases q2 with e | ⟨u, v, hu, hv, hl⟩
            · rcases hlh with h | h
              · exact .inl (by omega)
              · exact .inr (.inl (by omega))
            · have e : r = s := by omega
              subst e
              exact .inr (.inr ⟨u, v, hu, by rw [show mid - r - 1 = mid - 1 - r by omega]; exact hv, hl⟩)
          · rcases q1 with e | ⟨u, v, hu, hv, hl⟩
            · rcases hlh with h | h
              · exact .inl (by omega)
              · exact .inr (.inl (by omega))
            · exact .inr (.inr ⟨u, v, by rw [show s - a - 1 = s - 1 - a by omega]; exact hu, hv, hl⟩)
        have HR : Hid (Held wr g (P ++ (A ++ (B ++ R)))) := hr
        clear q1 q2 hr
        · by_cases h4 : s < m
          · by_cases h5 : s < mid
            · by_cases h6 : a < s
              · by_cases h7 : en < b
                · have c1 : ((s : Int) < (m : Int)) := by have := HJ.out.2.2; omega
                  have c2 : ((m : Int) < (en : Int)) := by have := HJ.out.2.2; omega
                  have c3 : ((a : Int) < (s : Int)) := by have := HJ.out.2.2; omega
                  have c4 : ((s : Int) < (mid : Int)) := by have := HJ.out.2.2; omega
                  have c5 : ((mid : Int) < (en : Int)) := by have := HJ.out.2.2; omega
                  have c6 : ((en : Int) < (b : Int)) := by have := HJ.out.2.2; omega
                  have D1 : Hid (Calls Try.prog 42 #[.slice (some ⟨g, 0, none⟩) N cap, .int .i64 (s : Int), .int .i64 (m : Int), .int .i64 (en : Int), .func (.func 31) #[] #[]] wr fun e w' => e = .returned (.tuple #[]) ∧ Held w' g (Mixed P A B R (s - a) (mid - s)) ∧ Fr g wr w') := by
                    obtain ⟨ha, hm, hb, hA, hB, hn, hN, ih⟩ := HL.out; obtain ⟨j1, j2, j3⟩ := HJ.out; clear j1 j2 hlh; exact rot_call HR.out hN hN2 ha hm k1 (by omega) (by omega) j3 (by omega)
                  go_wp2_with fail
                  refine Calls.mono D1.out ?_
                  rintro e w1 ⟨rfl, hm1, hf1⟩
                  have HM : Hid _ := hm1
                  clear hm1
                  have D2 : Hid (Calls Try.prog 40 #[.slice (some ⟨g, 0, none⟩) N cap, .int .i64 (a : Int), .int .i64 (s : Int), .int .i64 (mid : Int), .func (.func 31) #[] #[]] w1 fun e w' => e = .returned (.tuple #[]) ∧ (∃ X ys, LeftOk P A B R (s - a) (mid - s) X ys ∧ Held w' g ys) ∧ Fr g w1 w') := by
                    obtain ⟨ha, hm, hb, hA, hB, hn, hN, ih⟩ := HL.out; obtain ⟨j1, j2, j3⟩ := HJ.out; clear j1 j2 hlh; exact left_call ih HM.out hN hN2 ha hA hB (by omega) (by omega) (by omega) (by omega) (by omega)
                  go_wp2_with fail
                  refine Calls.mono D2.out ?_
                  rintro e w2 ⟨rfl, hm2, hf2⟩
                  obtain ⟨X, ys, HX⟩ : ∃ X ys, Hid (LeftOk P A B R (s - a) (mid - s) X ys ∧ Held w2 g ys) := hm2
                  have D3 : Hid (Calls Try.prog 40 #[.slice (some ⟨g, 0, none⟩) N cap, .int .i64 (mid : Int), .int .i64 (en : Int), .int .i64 (b : Int), .func (.func 31) #[] #[]] w2 fun e w' => e = .returned (.tuple #[]) ∧ (∃ M, Held w' g (P ++ (M ++ R)) ∧ Srt M ∧ Same (A ++ B) M) ∧ Fr g w2 w') := by
                    obtain ⟨ha, hm, hb, hA, hB, hn, hN, ih⟩ := HL.out; obtain ⟨j1, j2, j3⟩ := HJ.out; clear hlh; exact right_call ih HX.out.1 HX.out.2 hN hN2 ha hm hb hA hB k1 k2 k3 (by clear j1 j2; omega) (by clear j1 j2; omega) j3 (by clear j1 j2; omega) j1 j2
                  go_wp2_with fail
                  refine Calls.mono D3.out ?_
                  rintro e w3 ⟨rfl, hm3, hf3⟩
                  go_wp2_with fail
                  go_end0
                  exact ⟨rfl, hm3, ((hf.trans hf1).trans hf2).trans hf3⟩
                · have c1 : ((s : Int) < (m : Int)) := by have := HJ.out.2.2; omega
                  have c2 : ((m : Int) < (en : Int)) := by have := HJ.out.2.2; omega
                  have c3 : ((a : Int) < (s : Int)) := by have := HJ.out.2.2; omega
                  have c4 : ((s : Int) < (mid : Int)) := by have := HJ.out.2.2; omega
                  have c5 : ((mid : Int) < (en : Int)) := by have := HJ.out.2.2; omega
                  have c6 : ¬ ((en : Int) < (b : Int)) := by have := HJ.out.2.2; omega
                  have D1 : Hid (Calls Try.prog 42 #[.slice (some ⟨g, 0, none⟩) N cap, .int .i64 (s : Int), .int .i64 (m : Int), .int .i64 (en : Int), .func (.func 31) #[] #[]] wr fun e w' => e = .returned (.tuple #[]) ∧ Held w' g (Mixed P A B R (s - a) (mid - s)) ∧ Fr g wr w') := by
                    obtain ⟨ha, hm, hb, hA, hB, hn, hN, ih⟩ := HL.out; obtain ⟨j1, j2, j3⟩ := HJ.out; clear j1 j2 hlh; exact rot_call HR.out hN hN2 ha hm k1 (by omega) (by omega) j3 (by omega)
                  go_wp2_with fail
                  refine Calls.mono D1.out ?_
                  rintro e w1 ⟨rfl, hm1, hf1⟩
                  have HM : Hid _ := hm1
                  clear hm1
                  have D2 : Hid (Calls Try.prog 40 #[.slice (some ⟨g, 0, none⟩) N cap, .int .i64 (a : Int), .int .i64 (s : Int), .int .i64 (mid : Int), .func (.func 31) #[] #[]] w1 fun e w' => e = .returned (.tuple #[]) ∧ (∃ X ys, LeftOk P A B R (s - a) (mid - s) X ys ∧ Held w' g ys) ∧ Fr g w1 w') := by
                    obtain ⟨ha, hm, hb, hA, hB, hn, hN, ih⟩ := HL.out; obtain ⟨j1, j2, j3⟩ := HJ.out; clear j1 j2 hlh; exact left_call ih HM.out hN hN2 ha hA hB (by omega) (by omega) (by omega) (by omega) (by omega)
                  go_wp2_with fail
                  refine Calls.mono D2.out ?_
                  rintro e w2 ⟨rfl, hm2, hf2⟩
                  obtain ⟨X, ys, HX⟩ : ∃ X ys, Hid (LeftOk P A B R (s - a) (mid - s) X ys ∧ Held w2 g ys) := hm2
                  have HY : Hid (∃ M, Held w2 g (P ++ (M ++ R)) ∧ Srt M ∧ Same (A ++ B) M) := by
                    obtain ⟨ha, hm, hb, hA, hB, hn, hN, ih⟩ := HL.out; obtain ⟨j1, j2, j3⟩ := HJ.out; obtain ⟨M, rfl, y2, y3⟩ := right_none HX.out.1 hA hB (by omega) j1 j2
                    exact ⟨M, HX.out.2, y2, y3⟩
                  go_wp2_with fail
                  go_end0
                  exact ⟨rfl, HY.out, ((hf.trans hf1).trans hf2)⟩
              · by_cases h7 : en < b
                · have c1 : ((s : Int) < (m : Int)) := by have := HJ.out.2.2; omega
                  have c2 : ((m : Int) < (en : Int)) := by have := HJ.out.2.2; omega
                  have c3 : ¬ ((a : Int) < (s : Int)) := by have := HJ.out.2.2; omega
                  have c4 : ((s : Int) < (mid : Int)) := by have := HJ.out.2.2; omega
                  have c5 : ((mid : Int) < (en : Int)) := by have := HJ.out.2.2; omega
                  have c6 : ((en : Int) < (b : Int)) := by have := HJ.out.2.2; omega
                  have D1 : Hid (Calls Try.prog 42 #[.slice (some ⟨g, 0, none⟩) N cap, .int .i64 (s : Int), .int .i64 (m : Int), .int .i64 (en : Int), .func (.func 31) #[] #[]] wr fun e w' => e = .returned (.tuple #[]) ∧ Held w' g (Mixed P A B R (s - a) (mid - s)) ∧ Fr g wr w') := by
                    obtain ⟨ha, hm, hb, hA, hB, hn, hN, ih⟩ := HL.out; obtain ⟨j1, j2, j3⟩ := HJ.out; clear j1 j2 hlh; exact rot_call HR.out hN hN2 ha hm k1 (by omega) (by omega) j3 (by omega)
                  go_wp2_with fail
                  refine Calls.mono D1.out ?_
                  rintro e w1 ⟨rfl, hm1, hf1⟩
                  have HM : Hid _ := hm1
                  clear hm1
                  obtain ⟨X, ys, HX⟩ : ∃ X ys, Hid (LeftOk P A B R (s - a) (mid - s) X ys ∧ Held w1 g ys) := by
                    obtain ⟨ha, hm, hb, hA, hB, hn, hN, ih⟩ := HL.out; obtain ⟨j1, j2, j3⟩ := HJ.out; exact ⟨_, _, left_none hA hB (by omega), HM.out⟩
                  have D3 : Hid (Calls Try.prog 40 #[.slice (some ⟨g, 0, none⟩) N cap, .int .i64 (mid : Int), .int .i64 (en : Int), .int .i64 (b : Int), .func (.func 31) #[] #[]] w1 fun e w' => e = .returned (.tuple #[]) ∧ (∃ M, Held w' g (P ++ (M ++ R)) ∧ Srt M ∧ Same (A ++ B) M) ∧ Fr g w1 w') := by
                    obtain ⟨ha, hm, hb, hA, hB, hn, hN, ih⟩ := HL.out; obtain ⟨j1, j2, j3⟩ := HJ.out; clear hlh; exact right_call ih HX.out.1 HX.out.2 hN hN2 ha hm hb hA hB k1 k2 k3 (by clear j1 j2; omega) (by clear j1 j2; omega) j3 (by clear j1 j2; omega) j1 j2
                  go_wp2_with fail
                  refine Calls.mono D3.out ?_
                  rintro e w3 ⟨rfl, hm3, hf3⟩
                  go_wp2_with fail
                  go_end0
                  exact ⟨rfl, hm3, (hf.trans hf1).trans hf3⟩
                · have c1 : ((s : Int) < (m : Int)) := by have := HJ.out.2.2; omega
                  have c2 : ((m : Int) < (en : Int)) := by have := HJ.out.2.2; omega
                  have c3 : ¬ ((a : Int) < (s : Int)) := by have := HJ.out.2.2; omega
                  have c4 : ((s : Int) < (mid : Int)) := by have := HJ.out.2.2; omega
                  have c5 : ((mid : Int) < (en : Int)) := by have := HJ.out.2.2; omega
                  have c6 : ¬ ((en : Int) < (b : Int)) := by have := HJ.out.2.2; omega
                  have D1 : Hid (Calls Try.prog 42 #[.slice (some ⟨g, 0, none⟩) N cap, .int .i64 (s : Int), .int .i64 (m : Int), .int .i64 (en : Int), .func (.func 31) #[] #[]] wr fun e w' => e = .returned (.tuple #[]) ∧ Held w' g (Mixed P A B R (s - a) (mid - s)) ∧ Fr g wr w') := by
                    obtain ⟨ha, hm, hb, hA, hB, hn, hN, ih⟩ := HL.out; obtain ⟨j1, j2, j3⟩ := HJ.out; clear j1 j2 hlh; exact rot_call HR.out hN hN2 ha hm k1 (by omega) (by omega) j3 (by omega)
                  go_wp2_with fail
                  refine Calls.mono D1.out ?_
                  rintro e w1 ⟨rfl, hm1, hf1⟩
                  have HM : Hid _ := hm1
                  clear hm1
                  obtain ⟨X, ys, HX⟩ : ∃ X ys, Hid (LeftOk P A B R (s - a) (mid - s) X ys ∧ Held w1 g ys) := by
                    obtain ⟨ha, hm, hb, hA, hB, hn, hN, ih⟩ := HL.out; obtain ⟨j1, j2, j3⟩ := HJ.out; exact ⟨_, _, left_none hA hB (by omega), HM.out⟩
                  have HY : Hid (∃ M, Held w1 g (P ++ (M ++ R)) ∧ Srt M ∧ Same (A ++ B) M) := by
                    obtain ⟨ha, hm, hb, hA, hB, hn, hN, ih⟩ := HL.out; obtain ⟨j1, j2, j3⟩ := HJ.out; obtain ⟨M, rfl, y2, y3⟩ := right_none HX.out.1 hA hB (by omega) j1 j2
                    exact ⟨M, HX.out.2, y2, y3⟩
                  go_wp2_with fail
                  go_end0
                  exact ⟨rfl, HY.out, (hf.trans hf1)⟩
            · by_cases h6 : a < s
              · by_cases h7 : en < b
                · have c1 : ((s : Int) < (m : Int)) := by have := HJ.out.2.2; omega
                  have c2 : ¬ ((m : Int) < (en : Int)) := by have := HJ.out.2.2; omega
                  have c3 : ((a : Int) < (s : Int)) := by have := HJ.out.2.2; omega
                  have c4 : ¬ ((s : Int) < (mid : Int)) := by have := HJ.out.2.2; omega
                  have c5 : ((mid : Int) < (en : Int)) := by have := HJ.out.2.2; omega
                  have c6 : ((en : Int) < (b : Int)) := by have := HJ.out.2.2; omega
                  have HM : Hid (Held wr g (Mixed P A B R (s - a) (mid - s))) := by
                    obtain ⟨ha, hm, hb, hA, hB, hn, hN, ih⟩ := HL.out; obtain ⟨j1, j2, j3⟩ := HJ.out; have hz := HR.out; rw [mixed_none (s := s - a) (e := mid - s) (by omega)] at hz; exact hz
                  obtain ⟨X, ys, HX⟩ : ∃ X ys, Hid (LeftOk P A B R (s - a) (mid - s) X ys ∧ Held wr g ys) := by
                    obtain ⟨ha, hm, hb, hA, hB, hn, hN, ih⟩ := HL.out; obtain ⟨j1, j2, j3⟩ := HJ.out; exact ⟨_, _, left_none hA hB (by omega), HM.out⟩
                  have D3 : Hid (Calls Try.prog 40 #[.slice (some ⟨g, 0, none⟩) N cap, .int .i64 (mid : Int), .int .i64 (en : Int), .int .i64 (b : Int), .func (.func 31) #[] #[]] wr fun e w' => e = .returned (.tuple #[]) ∧ (∃ M, Held w' g (P ++ (M ++ R)) ∧ Srt M ∧ Same (A ++ B) M) ∧ Fr g wr w') := by
                    obtain ⟨ha, hm, hb, hA, hB, hn, hN, ih⟩ := HL.out; obtain ⟨j1, j2, j3⟩ := HJ.out; clear hlh; exact right_call ih HX.out.1 HX.out.2 hN hN2 ha hm hb hA hB k1 k2 k3 (by clear j1 j2; omega) (by clear j1 j2; omega) j3 (by clear j1 j2; omega) j1 j2
                  go_wp2_with fail
                  refine Calls.mono D3.out ?_
                  rintro e w3 ⟨rfl, hm3, hf3⟩
                  go_wp2_with fail
                  go_end0
                  exact ⟨rfl, hm3, hf.trans hf3⟩
                · have c1 : ((s : Int) < (m : Int)) := by have := HJ.out.2.2; omega
                  have c2 : ¬ ((m : Int) < (en : Int)) := by have := HJ.out.2.2; omega
                  have c3 : ((a : Int) < (s : Int)) := by have := HJ.out.2.2; omega
                  have c4 : ¬ ((s : Int) < (mid : Int)) := by have := HJ.out.2.2; omega
                  have c5 : ((mid : Int) < (en : Int)) := by have := HJ.out.2.2; omega
                  have c6 : ¬ ((en : Int) < (b : Int)) := by have := HJ.out.2.2; omega
                  have HM : Hid (Held wr g (Mixed P A B R (s - a) (mid - s))) := by
                    obtain ⟨ha, hm, hb, hA, hB, hn, hN, ih⟩ := HL.out; obtain ⟨j1, j2, j3⟩ := HJ.out; have hz := HR.out; rw [mixed_none (s := s - a) (e := mid - s) (by omega)] at hz; exact hz
                  obtain ⟨X, ys, HX⟩ : ∃ X ys, Hid (LeftOk P A B R (s - a) (mid - s) X ys ∧ Held wr g ys) := by
                    obtain ⟨ha, hm, hb, hA, hB, hn, hN, ih⟩ := HL.out; obtain ⟨j1, j2, j3⟩ := HJ.out; exact ⟨_, _, left_none hA hB (by omega), HM.out⟩
                  have HY : Hid (∃ M, Held wr g (P ++ (M ++ R)) ∧ Srt M ∧ Same (A ++ B) M) := by
                    obtain ⟨ha, hm, hb, hA, hB, hn, hN, ih⟩ := HL.out; obtain ⟨j1, j2, j3⟩ := HJ.out; obtain ⟨M, rfl, y2, y3⟩ := right_none HX.out.1 hA hB (by omega) j1 j2
                    exact ⟨M, HX.out.2, y2, y3⟩
                  go_wp2_with fail
                  go_end0
                  exact ⟨rfl, HY.out, hf⟩
              · by_cases h7 : en < b
                · have c1 : ((s : Int) < (m : Int)) := by have := HJ.out.2.2; omega
                  have c2 : ¬ ((m : Int) < (en : Int)) := by have := HJ.out.2.2; omega
                  have c3 : ¬ ((a : Int) < (s : Int)) := by have := HJ.out.2.2; omega
                  have c4 : ¬ ((s : Int) < (mid : Int)) := by have := HJ.out.2.2; omega
                  have c5 : ((mid : Int) < (en : Int)) := by have := HJ.out.2.2; omega
                  have c6 : ((en : Int) < (b : Int)) := by have := HJ.out.2.2; omega
                  have HM : Hid (Held wr g (Mixed P A B R (s - a) (mid - s))) := by
                    obtain ⟨ha, hm, hb, hA, hB, hn, hN, ih⟩ := HL.out; obtain ⟨j1, j2, j3⟩ := HJ.out; have hz := HR.out; rw [mixed_none (s := s - a) (e := mid - s) (by omega)] at hz; exact hz
                  obtain ⟨X, ys, HX⟩ : ∃ X ys, Hid (LeftOk P A B R (s - a) (mid - s) X ys ∧ Held wr g ys) := by
                    obtain ⟨ha, hm, hb, hA, hB, hn, hN, ih⟩ := HL.out; obtain ⟨j1, j2, j3⟩ := HJ.out; exact ⟨_, _, left_none hA hB (by omega), HM.out⟩
                  have D3 : Hid (Calls Try.prog 40 #[.slice (some ⟨g, 0, none⟩) N cap, .int .i64 (mid : Int), .int .i64 (en : Int), .int .i64 (b : Int), .func (.func 31) #[] #[]] wr fun e w' => e = .returned (.tuple #[]) ∧ (∃ M, Held w' g (P ++ (M ++ R)) ∧ Srt M ∧ Same (A ++ B) M) ∧ Fr g wr w') := by
                    obtain ⟨ha, hm, hb, hA, hB, hn, hN, ih⟩ := HL.out; obtain ⟨j1, j2, j3⟩ := HJ.out; clear hlh; exact right_call ih HX.out.1 HX.out.2 hN hN2 ha hm hb hA hB k1 k2 k3 (by clear j1 j2; omega) (by clear j1 j2; omega) j3 (by clear j1 j2; omega) j1 j2
                  go_wp2_with fail
                  refine Calls.mono D3.out ?_
                  rintro e w3 ⟨rfl, hm3, hf3⟩
                  go_wp2_with fail
                  go_end0
                  exact ⟨rfl, hm3, hf.trans hf3⟩
                · have c1 : ((s : Int) < (m : Int)) := by have := HJ.out.2.2; omega
                  have c2 : ¬ ((m : Int) < (en : Int)) := by have := HJ.out.2.2; omega
                  have c3 : ¬ ((a : Int) < (s : Int)) := by have := HJ.out.2.2; omega
                  have c4 : ¬ ((s : Int) < (mid : Int)) := by have := HJ.out.2.2; omega
                  have c5 : ((mid : Int) < (en : Int)) := by have := HJ.out.2.2; omega
                  have c6 : ¬ ((en : Int) < (b : Int)) := by have := HJ.out.2.2; omega
                  have HM : Hid (Held wr g (Mixed P A B R (s - a) (mid - s))) := by
                    obtain ⟨ha, hm, hb, hA, hB, hn, hN, ih⟩ := HL.out; obtain ⟨j1, j2, j3⟩ := HJ.out; have hz := HR.out; rw [mixed_none (s := s - a) (e := mid - s) (by omega)] at hz; exact hz
                  obtain ⟨X, ys, HX⟩ : ∃ X ys, Hid (LeftOk P A B R (s - a) (mid - s) X ys ∧ Held wr g ys) := by
                    obtain ⟨ha, hm, hb, hA, hB, hn, hN, ih⟩ := HL.out; obtain ⟨j1, j2, j3⟩ := HJ.out; exact ⟨_, _, left_none hA hB (by omega), HM.out⟩
                  have HY : Hid (∃ M, Held wr g (P ++ (M ++ R)) ∧ Srt M ∧ Same (A ++ B) M) := by
                    obtain ⟨ha, hm, hb, hA, hB, hn, hN, ih⟩ := HL.out; obtain ⟨j1, j2, j3⟩ := HJ.out; obtain ⟨M, rfl, y2, y3⟩ := right_none HX.out.1 hA hB (by omega) j1 j2
                    exact ⟨M, HX.out.2, y2, y3⟩
                  go_wp2_with fail
                  go_end0
                  exact ⟨rfl, HY.out, hf⟩
          · by_cases h5 : s < mid
            · by_cases h6 : a < s
              · by_cases h7 : en < b
                · have c1 : ¬ ((s : Int) < (m : Int)) := by have := HJ.out.2.2; omega
                  have c2 : ((m : Int) < (en : Int)) := by have := HJ.out.2.2; omega
                  have c3 : ((a : Int) < (s : Int)) := by have := HJ.out.2.2; omega
                  have c4 : ((s : Int) < (mid : Int)) := by have := HJ.out.2.2; omega
                  have c5 : ¬ ((mid : Int) < (en : Int)) := by have := HJ.out.2.2; omega
                  have c6 : ((en : Int) < (b : Int)) := by have := HJ.out.2.2; omega
                  have HM : Hid (Held wr g (Mixed P A B R (s - a) (mid - s))) := by
                    obtain ⟨ha, hm, hb, hA, hB, hn, hN, ih⟩ := HL.out; obtain ⟨j1, j2, j3⟩ := HJ.out; have hz := HR.out; rw [mixed_none (s := s - a) (e := mid - s) (by omega)] at hz; exact hz
                  have D2 : Hid (Calls Try.prog 40 #[.slice (some ⟨g, 0, none⟩) N cap, .int .i64 (a : Int), .int .i64 (s : Int), .int .i64 (mid : Int), .func (.func 31) #[] #[]] wr fun e w' => e = .returned (.tuple #[]) ∧ (∃ X ys, LeftOk P A B R (s - a) (mid - s) X ys ∧ Held w' g ys) ∧ Fr g wr w') := by
                    obtain ⟨ha, hm, hb, hA, hB, hn, hN, ih⟩ := HL.out; obtain ⟨j1, j2, j3⟩ := HJ.out; clear j1 j2 hlh; exact left_call ih HM.out hN hN2 ha hA hB (by omega) (by omega) (by omega) (by omega) (by omega)
                  go_wp2_with fail
                  refine Calls.mono D2.out ?_
                  rintro e w2 ⟨rfl, hm2, hf2⟩
                  obtain ⟨X, ys, HX⟩ : ∃ X ys, Hid (LeftOk P A B R (s - a) (mid - s) X ys ∧ Held w2 g ys) := hm2
                  have HY : Hid (∃ M, Held w2 g (P ++ (M ++ R)) ∧ Srt M ∧ Same (A ++ B) M) := by
                    obtain ⟨ha, hm, hb, hA, hB, hn, hN, ih⟩ := HL.out; obtain ⟨j1, j2, j3⟩ := HJ.out; obtain ⟨M, rfl, y2, y3⟩ := right_none HX.out.1 hA hB (by omega) j1 j2
                    exact ⟨M, HX.out.2, y2, y3⟩
                  go_wp2_with fail
                  go_end0
                  exact ⟨rfl, HY.out, (hf.trans hf2)⟩
                · exfalso; have hx2 := HJ.out.2.2; omega

              · by_cases h7 : en < b
                · have c1 : ¬ ((s : Int) < (m : Int)) := by have := HJ.out.2.2; omega
                  have c2 : ((m : Int) < (en : Int)) := by have := HJ.out.2.2; omega
                  have c3 : ¬ ((a : Int) < (s : Int)) := by have := HJ.out.2.2; omega
                  have c4 : ((s : Int) < (mid : Int)) := by have := HJ.out.2.2; omega
                  have c5 : ¬ ((mid : Int) < (en : Int)) := by have := HJ.out.2.2; omega
                  have c6 : ((en : Int) < (b : Int)) := by have := HJ.out.2.2; omega
                  have HM : Hid (Held wr g (Mixed P A B R (s - a) (mid - s))) := by
                    obtain ⟨ha, hm, hb, hA, hB, hn, hN, ih⟩ := HL.out; obtain ⟨j1, j2, j3⟩ := HJ.out; have hz := HR.out; rw [mixed_none (s := s - a) (e := mid - s) (by omega)] at hz; exact hz
                  obtain ⟨X, ys, HX⟩ : ∃ X ys, Hid (LeftOk P A B R (s - a) (mid - s) X ys ∧ Held wr g ys) := by
                    obtain ⟨ha, hm, hb, hA, hB, hn, hN, ih⟩ := HL.out; obtain ⟨j1, j2, j3⟩ := HJ.out; exact ⟨_, _, left_none hA hB (by omega), HM.out⟩
                  have HY : Hid (∃ M, Held wr g (P ++ (M ++ R)) ∧ Srt M ∧ Same (A ++ B) M) := by
                    obtain ⟨ha, hm, hb, hA, hB, hn, hN, ih⟩ := HL.out; obtain ⟨j1, j2, j3⟩ := HJ.out; obtain ⟨M, rfl, y2, y3⟩ := right_none HX.out.1 hA hB (by omega) j1 j2
                    exact ⟨M, HX.out.2, y2, y3⟩
                  go_wp2_with fail
                  go_end0
                  exact ⟨rfl, HY.out, hf⟩
                · exfalso; have hx2 := HJ.out.2.2; omega

            · by_cases h6 : a < s
              · by_cases h7 : en < b
                · have c1 : ¬ ((s : Int) < (m : Int)) := by have := HJ.out.2.2; omega
                  have c2 : ¬ ((m : Int) < (en : Int)) := by have := HJ.out.2.2; omega
                  have c3 : ((a : Int) < (s : Int)) := by have := HJ.out.2.2; omega
                  have c4 : ¬ ((s : Int) < (mid : Int)) := by have := HJ.out.2.2; omega
                  have c5 : ¬ ((mid : Int) < (en : Int)) := by have := HJ.out.2.2; omega
                  have c6 : ((en : Int) < (b : Int)) := by have := HJ.out.2.2; omega
                  have HM : Hid (Held wr g (Mixed P A B R (s - a) (mid - s))) := by
                    obtain ⟨ha, hm, hb, hA, hB, hn, hN, ih⟩ := HL.out; obtain ⟨j1, j2, j3⟩ := HJ.out; have hz := HR.out; rw [mixed_none (s := s - a) (e := mid - s) (by omega)] at hz; exact hz
                  obtain ⟨X, ys, HX⟩ : ∃ X ys, Hid (LeftOk P A B R (s - a) (mid - s) X ys ∧ Held wr g ys) := by
                    obtain ⟨ha, hm, hb, hA, hB, hn, hN, ih⟩ := HL.out; obtain ⟨j1, j2, j3⟩ := HJ.out; exact ⟨_, _, left_none hA hB (by omega), HM.out⟩
                  have HY : Hid (∃ M, Held wr g (P ++ (M ++ R)) ∧ Srt M ∧ Same (A ++ B) M) := by
                    obtain ⟨ha, hm, hb, hA, hB, hn, hN, ih⟩ := HL.out; obtain ⟨j1, j2, j3⟩ := HJ.out; obtain ⟨M, rfl, y2, y3⟩ := right_none HX.out.1 hA hB (by omega) j1 j2
                    exact ⟨M, HX.out.2, y2, y3⟩
                  go_wp2_with fail
                  go_end0
                  exact ⟨rfl, HY.out, hf⟩
                · exfalso; have hx2 := HJ.out.2.2; omega

              · by_cases h7 : en < b
                · have c1 : ¬ ((s : Int) < (m : Int)) := by have := HJ.out.2.2; omega
                  have c2 : ¬ ((m : Int) < (en : Int)) := by have := HJ.out.2.2; omega
                  have c3 : ¬ ((a : Int) < (s : Int)) := by have := HJ.out.2.2; omega
                  have c4 : ¬ ((s : Int) < (mid : Int)) := by have := HJ.out.2.2; omega
                  have c5 : ¬ ((mid : Int) < (en : Int)) := by have := HJ.out.2.2; omega
                  have c6 : ((en : Int) < (b : Int)) := by have := HJ.out.2.2; omega
                  have HM : Hid (Held wr g (Mixed P A B R (s - a) (mid - s))) := by
                    obtain ⟨ha, hm, hb, hA, hB, hn, hN, ih⟩ := HL.out; obtain ⟨j1, j2, j3⟩ := HJ.out; have hz := HR.out; rw [mixed_none (s := s - a) (e := mid - s) (by omega)] at hz; exact hz
                  obtain ⟨X, ys, HX⟩ : ∃ X ys, Hid (LeftOk P A B R (s - a) (mid - s) X ys ∧ Held wr g ys) := by
                    obtain ⟨ha, hm, hb, hA, hB, hn, hN, ih⟩ := HL.out; obtain ⟨j1, j2, j3⟩ := HJ.out; exact ⟨_, _, left_none hA hB (by omega), HM.out⟩
                  have HY : Hid (∃ M, Held wr g (P ++ (M ++ R)) ∧ Srt M ∧ Same (A ++ B) M) := by
                    obtain ⟨ha, hm, hb, hA, hB, hn, hN, ih⟩ := HL.out; obtain ⟨j1, j2, j3⟩ := HJ.out; obtain ⟨M, rfl, y2, y3⟩ := right_none HX.out.1 hA hB (by omega) j1 j2
                    exact ⟨M, HX.out.2, y2, y3⟩
                  go_wp2_with fail
                  go_end0
                  exact ⟨rfl, HY.out, hf⟩
                · exfalso; have hx2 := HJ.out.2.2; omega

end Go.Proofs.Qxb6603645a
