import Derived.Test.Qxb6603645aMem
import Derived.Lib.Walk
namespace Go.Proofs.Qxb6603645a
open Go.RowKit
set_option linter.unusedSimpArgs false
set_option linter.unusedVariables false

set_option maxHeartbeats 1000000 in
set_option maxRecDepth 100000 in
theorem cmpString_any (a b : ByteArray) (w : World) : Calls Try.prog 37 #[.string a, .string b] w fun e w' => e = .returned (.int .i64 (Lib.compareBytes a.data.toList b.data.toList)) ∧ w' = w := by
  go_enter Try.func37, Try.ntmps37
  go_wp2
  rw [run_callFunc_extern Try.func41 (by kernel_rfl) (by kernel_rfl) (by kernel_rfl) (e := Extern.BytealgCompare.compare) (by kernel_rfl), Lib.run_compareString]
  simp only [Result.andThen]
  rw [Oper.upon_value]
  go_wp2
  go_ret
  exact ⟨rfl, rfl⟩
theorem compare_any (a b : ByteArray) (w : World) : Calls Try.prog 32 #[.string a, .string b] w fun e w' => e = .returned (.int .i64 (Lib.compareBytes a.data.toList b.data.toList)) ∧ w' = w := by
  go_enter Try.func32, Try.ntmps32
  go_wp2_with (go_at_call 37; refine (cmpString_any _ _ _).mono ?_; rintro e w' ⟨rfl, rfl⟩)
  go_ret
  exact ⟨rfl, rfl⟩
/-- The comparison that the sort is handed: of the names. -/
theorem cmp_any (x y : Mb) (w : World) : Calls Try.prog 31 #[mbV x, mbV y] w fun e w' => e = .returned (.int .i64 (Lib.compareBytes (nm x) (nm y))) ∧ Below w.heap.size w w' := by
  unfold mbV
  go_enter Try.func31, Try.ntmps31
  go_wp2_with (go_at_call 32; refine (compare_any _ _ _).mono ?_; rintro e w' ⟨rfl, rfl⟩)
  go_ret
  exact ⟨rfl, bt (balloc _ _) (balloc _ _) (by simp)⟩

set_option maxRecDepth 100000 in
set_option maxHeartbeats 2000000 in
/-- 'swapRange(data, a, b, n)'. -/
theorem swapRange_any (g cap : Nat) (P X Q Y R : List Mb) (N : Nat) (F : Value) (w : World) (hH : Held w g (P ++ X ++ Q ++ Y ++ R)) (hN : (P ++ X ++ Q ++ Y ++ R).length = N) (hN2 : N ≤ 4096) (a b n : Nat) (ha : P.length = a) (hb : P.length + X.length + Q.length = b) (hn : X.length = n) (hY : Y.length = n) :
    Calls Try.prog 43 #[.slice (some ⟨g, 0, none⟩) N cap, .int .i64 (a : Int), .int .i64 (b : Int), .int .i64 (n : Int), F] w fun e w' => e = .returned (.tuple #[]) ∧ Held w' g (P ++ Y ++ Q ++ X ++ R) ∧ Fr g w w' := by
  have o1 : a + n ≤ b := by omega
  have o2 : b + n ≤ N := by simp only [List.length_append] at hN; omega
  have HL : Hid (P.length = a ∧ P.length + X.length + Q.length = b ∧ X.length = n ∧ Y.length = n) := ⟨ha, hb, hn, hY⟩
  clear hN ha hb hn hY
  go_enter Try.func43, Try.ntmps43
  go_wp2_with fail
  go_loopw [10] (fun i wr => ∃ k : Nat, k ≤ n ∧ i = .int .i64 (k : Int) ∧ Held wr g (P ++ (Y.take k ++ X.drop k) ++ Q ++ (X.take k ++ Y.drop k) ++ R) ∧ Fr g w wr) (fun i _ => n - (intOf i).toNat)
  case atStart => exact ⟨0, Nat.zero_le _, rfl, by simpa using hH, Fr.refl _ _⟩
  case round =>
    clear hH
    obtain ⟨k, hk, rfl, hr, hf⟩ := hrel
    by_cases hlt : k < n
    · obtain ⟨x, y, HS, c0, c1, c2, c3, f1, f2, f3, f4⟩ : ∃ x y : Mb, Hid (Held ((((wr.drew.setCell ⟨g, (a + k) * 2, none⟩ (.string y.1)).setCell ⟨g, (a + k) * 2 + 1, none⟩ (.string y.2)).setCell ⟨g, (b + k) * 2, none⟩ (.string x.1)).setCell ⟨g, (b + k) * 2 + 1, none⟩ (.string x.2)) g (P ++ (Y.take (k + 1) ++ X.drop (k + 1)) ++ Q ++ (X.take (k + 1) ++ Y.drop (k + 1)) ++ R) ∧
          Fr g wr.drew ((((wr.drew.setCell ⟨g, (a + k) * 2, none⟩ (.string y.1)).setCell ⟨g, (a + k) * 2 + 1, none⟩ (.string y.2)).setCell ⟨g, (b + k) * 2, none⟩ (.string x.1)).setCell ⟨g, (b + k) * 2 + 1, none⟩ (.string x.2))) ∧
          wr.cell? ⟨g, (a + k) * 2, none⟩ = some (.string x.1) ∧ wr.cell? ⟨g, (a + k) * 2 + 1, none⟩ = some (.string x.2) ∧ wr.cell? ⟨g, (b + k) * 2, none⟩ = some (.string y.1) ∧ wr.cell? ⟨g, (b + k) * 2 + 1, none⟩ = some (.string y.2) ∧
          wr.frozen? ⟨g, (a + k) * 2, none⟩ = false ∧ wr.frozen? ⟨g, (a + k) * 2 + 1, none⟩ = false ∧ wr.frozen? ⟨g, (b + k) * 2, none⟩ = false ∧ wr.frozen? ⟨g, (b + k) * 2 + 1, none⟩ = false := by
        obtain ⟨ha, hb, hn, hY⟩ := HL.out
        obtain ⟨x, hx⟩ : ∃ x, X[k]? = some x := ⟨_, List.getElem?_eq_getElem (by omega)⟩
        obtain ⟨y, hy⟩ : ∃ y, Y[k]? = some y := ⟨_, List.getElem?_eq_getElem (by omega)⟩
        have eX : X.drop k = x :: X.drop (k + 1) := by
          obtain ⟨_, rfl⟩ := List.getElem?_eq_some_iff.1 hx
          exact List.drop_eq_getElem_cons _
        have eY : Y.drop k = y :: Y.drop (k + 1) := by
          obtain ⟨_, rfl⟩ := List.getElem?_eq_some_iff.1 hy
          exact List.drop_eq_getElem_cons _
        have tX : X.take (k + 1) = X.take k ++ [x] := by rw [List.take_add_one, hx]; rfl
        have tY : Y.take (k + 1) = Y.take k ++ [y] := by rw [List.take_add_one, hy]; rfl
        have lX : (X.take k).length = k := by simp; omega
        have lY : (Y.take k).length = k := by simp; omega
        have lD : (X.drop (k + 1)).length = X.length - (k + 1) := by simp
        have e1 : P ++ (Y.take k ++ X.drop k) ++ Q ++ (X.take k ++ Y.drop k) ++ R = (P ++ Y.take k) ++ x :: ((X.drop (k + 1) ++ Q ++ X.take k) ++ y :: (Y.drop (k + 1) ++ R)) := by rw [eX, eY]; simp
        have e2 : P ++ (Y.take (k + 1) ++ X.drop (k + 1)) ++ Q ++ (X.take (k + 1) ++ Y.drop (k + 1)) ++ R = (P ++ Y.take k) ++ y :: ((X.drop (k + 1) ++ Q ++ X.take k) ++ x :: (Y.drop (k + 1) ++ R)) := by rw [tX, tY]; simp
        rw [e1] at hr
        have i1 : (P ++ Y.take k).length = a + k := by rw [List.length_append, lY, ha]
        have i2 : (P ++ Y.take k).length + 1 + (X.drop (k + 1) ++ Q ++ X.take k).length = b + k := by simp only [List.length_append, lY, lD, lX]; omega
        have g1 : ((P ++ Y.take k) ++ x :: ((X.drop (k + 1) ++ Q ++ X.take k) ++ y :: (Y.drop (k + 1) ++ R)))[a + k]? = some x := by rw [← i1]; exact get_mid _ _ _
        have g2 : ((P ++ Y.take k) ++ x :: ((X.drop (k + 1) ++ Q ++ X.take k) ++ y :: (Y.drop (k + 1) ++ R)))[b + k]? = some y := by
          have : (P ++ Y.take k) ++ x :: ((X.drop (k + 1) ++ Q ++ X.take k) ++ y :: (Y.drop (k + 1) ++ R)) = ((P ++ Y.take k) ++ x :: (X.drop (k + 1) ++ Q ++ X.take k)) ++ y :: (Y.drop (k + 1) ++ R) := by simp
          rw [this, ← i2]
          have e : ((P ++ Y.take k) ++ x :: (X.drop (k + 1) ++ Q ++ X.take k)).length = (P ++ Y.take k).length + 1 + (X.drop (k + 1) ++ Q ++ X.take k).length := by simp only [List.length_append, List.length_cons]; omega
          rw [← e]
          exact get_mid _ _ _
        obtain ⟨s1, s2⟩ := hr.drew.swap g1 g2
        have e3 := swap_list (P ++ Y.take k) (X.drop (k + 1) ++ Q ++ X.take k) (Y.drop (k + 1) ++ R) x y
        rw [i2, i1] at e3
        rw [e3, ← e2] at s1
        exact ⟨x, y, ⟨s1, s2⟩, (hr.cell g1).1, (hr.cell g1).2, (hr.cell g2).1, (hr.cell g2).2, hr.free _, hr.free _, hr.free _, hr.free _⟩
      clear hr
      go_wp2_with fail
      go_region
      all_goals
        go_wp2_with fail
        go_roundw
        case rel => exact ⟨k + 1, by omega, by go_num, HS.out.1, (hf.drew).trans HS.out.2⟩
        case measure => simp [intOf]; omega
    · have HE : Hid (Held wr g (P ++ Y ++ Q ++ X ++ R)) := by
        obtain ⟨ha, hb, hn, hY⟩ := HL.out
        have : k = n := by omega
        subst this
        rw [List.drop_eq_nil_of_le (by omega), List.drop_eq_nil_of_le (by omega), List.take_of_length_le (by omega), List.take_of_length_le (by omega)] at hr
        show Held wr g (P ++ Y ++ Q ++ X ++ R)
        simpa using hr
      clear hr
      go_wp2_with fail
      go_end0
      exact ⟨rfl, HE.out, hf⟩
end Go.Proofs.Qxb6603645a
