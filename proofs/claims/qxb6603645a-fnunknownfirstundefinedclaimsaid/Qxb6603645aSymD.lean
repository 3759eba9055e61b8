import Derived.Test.Qxb6603645aSymC
namespace Go.Proofs.Qxb6603645a
open Go.RowKit
set_option linter.unusedSimpArgs false
set_option linter.unusedVariables false

theorem sym_ok : ∀ n, SymOk n
  | 0 => by
    intro g cap P A B R N w hH hN hN2 a m b ha hm hb hA0 hB0 hA hB hn
    omega
  | n + 1 => by
    intro g cap P A B R N w hH hN hN2 a m b ha hm hb hA0 hB0 hA hB hn
    by_cases h1 : A.length = 1
    · obtain ⟨x, rfl⟩ := List.length_eq_one_iff.1 h1
      have e : P ++ ([x] ++ (B ++ R)) = P ++ x :: (B ++ R) := by simp
      rw [e] at hH hN
      refine (sym_one g cap P B R x N w hH hN hN2 a m b ha (by simpa using hm) hb hB).mono ?_
      rintro r w' ⟨rfl, ⟨M, q1, q2, q3⟩, q4⟩
      exact ⟨rfl, ⟨M, by rw [← List.append_assoc]; exact q1, q2, q3⟩, q4⟩
    · by_cases h2 : B.length = 1
      · obtain ⟨y, rfl⟩ := List.length_eq_one_iff.1 h2
        have e : P ++ (A ++ ([y] ++ R)) = P ++ (A ++ y :: R) := by simp
        rw [e] at hH hN
        refine (sym_last g cap P A R y N w hH hN hN2 a m b ha hm (by simpa using hb) hA (by omega)).mono ?_
        rintro r w' ⟨rfl, ⟨M, q1, q2, q3⟩, q4⟩
        exact ⟨rfl, ⟨M, by rw [← List.append_assoc]; exact q1, q2, q3⟩, q4⟩
      · exact sym_gen n (sym_ok n) g cap P A B R N w hH hN hN2 a m b ha hm hb hA hB (by omega) (by omega) hn

/-- 'symMerge'. -/
theorem symMerge_any (g cap : Nat) (P A B R : List Mb) (N : Nat) (w : World) (hH : Held w g (P ++ (A ++ (B ++ R)))) (hN : (P ++ (A ++ (B ++ R))).length = N) (hN2 : N ≤ 4096) (a m b : Nat) (ha : P.length = a) (hm : a + A.length = m) (hb : m + B.length = b) (hA0 : 0 < A.length) (hB0 : 0 < B.length) (hA : Srt A) (hB : Srt B) :
    Calls Try.prog 40 #[.slice (some ⟨g, 0, none⟩) N cap, .int .i64 (a : Int), .int .i64 (m : Int), .int .i64 (b : Int), cmpF] w fun e w' => e = .returned (.tuple #[]) ∧ (∃ M, Held w' g (P ++ (M ++ R)) ∧ Srt M ∧ Same (A ++ B) M) ∧ Fr g w w' :=
  sym_ok _ g cap P A B R N w hH hN hN2 a m b ha hm hb hA0 hB0 hA hB (Nat.le_refl _)

/-- Runs of one length, each sorted. -/
def Runs (bs : Nat) (Ls : List (List Mb)) : Prop := ∀ l ∈ Ls, l.length = bs ∧ Srt l
def Part (a : Nat) (L : List Mb) : Prop := ∃ Ps R, L = Ps.flatten ++ R ∧ Ps.flatten.length = a ∧ Runs 20 Ps
def Laid (bs : Nat) (L : List Mb) : Prop := ∃ Ls T, L = Ls.flatten ++ T ∧ Runs bs Ls ∧ Srt T ∧ T.length < bs
def Half (bs a : Nat) (L : List Mb) : Prop := ∃ Ps Ls T, L = Ps.flatten ++ (Ls.flatten ++ T) ∧ Ps.flatten.length = a ∧ Runs (2 * bs) Ps ∧ Runs bs Ls ∧ Srt T ∧ T.length < bs
/-- The list, at some stage, in memory. -/
def Stage (X : List Mb → Prop) (L0 : List Mb) (g N : Nat) (w : World) : Prop := ∃ L, X L ∧ Held w g L ∧ Same L0 L ∧ L.length = N

theorem Runs.snoc {bs : Nat} {Ls : List (List Mb)} {l : List Mb} (h : Runs bs Ls) (h1 : l.length = bs) (h2 : Srt l) : Runs bs (Ls ++ [l]) := by
  intro k hk
  rcases List.mem_append.1 hk with hk | hk
  · exact h k hk
  · rw [List.mem_singleton.1 hk]; exact ⟨h1, h2⟩
theorem laid_half {bs : Nat} {L : List Mb} (h : Laid bs L) : Half bs 0 L := by
  obtain ⟨Ls, T, h1, h2, h3, h4⟩ := h
  exact ⟨[], Ls, T, by simpa using h1, rfl, fun _ h => by simp at h, h2, h3, h4⟩
theorem half_laid {bs a : Nat} {L : List Mb} (h : Half bs a L) (hn : L.length ≤ a + bs) : Laid (2 * bs) L := by
  obtain ⟨Ps, Ls, T, rfl, h2, h3, h4, h5, h6⟩ := h
  simp only [List.length_append] at hn
  cases Ls with
  | nil => exact ⟨Ps, T, by simp, h3, h5, by omega⟩
  | cons A Q =>
    have hA := h4 A (by simp)
    simp only [List.flatten_cons, List.length_append] at hn
    have hT : T = [] := List.length_eq_zero_iff.1 (by omega)
    have hQ : Q.flatten = [] := List.length_eq_zero_iff.1 (by omega)
    subst hT
    exact ⟨Ps, A, by simp [hQ], h3, hA.2, by omega⟩
theorem laid_srt {bs : Nat} {L : List Mb} (h : Laid bs L) (hn : L.length ≤ bs) : Srt L := by
  obtain ⟨Ls, T, rfl, h2, h3, h4⟩ := h
  simp only [List.length_append] at hn
  cases Ls with
  | nil => simpa using h3
  | cons A Q =>
    have hA := h2 A (by simp)
    simp only [List.flatten_cons, List.length_append] at hn
    have hT : T = [] := List.length_eq_zero_iff.1 (by omega)
    have hQ : Q.flatten = [] := List.length_eq_zero_iff.1 (by omega)
    subst hT
    simpa [hQ] using hA.2
theorem same_mid {P A A' R : List Mb} (h : Same A A') : Same (P ++ (A ++ R)) (P ++ (A' ++ R)) := (Same.refl P).append (h.append (Same.refl R))

theorem stage_start {L : List Mb} {g N : Nat} {w : World} (h : Held w g L) (hN : L.length = N) : Stage (Part 0) L g N w := ⟨L, ⟨[], L, rfl, rfl, fun _ h => by simp at h⟩, h, Same.refl _, hN⟩
theorem stage_block {L0 : List Mb} {g cap N a b : Nat} {w : World} (h : Stage (Part a) L0 g N w) (hN : N ≤ 4096) (hab : b = a + 20) (hb : b ≤ N) :
    Calls Try.prog 39 #[.slice (some ⟨g, 0, none⟩) N cap, .int .i64 (a : Int), .int .i64 (b : Int), cmpF] w fun e w' => e = .returned (.tuple #[]) ∧ Stage (Part b) L0 g N w' ∧ Fr g w w' := by
  obtain ⟨L, ⟨Ps, R, rfl, h2, h3⟩, hH, hS, hL⟩ := h
  have l1 : (R.take 20).length = 20 := by simp only [List.length_append] at hL; rw [List.length_take]; omega
  have e : Ps.flatten ++ R = Ps.flatten ++ R.take 20 ++ R.drop 20 := by rw [List.append_assoc, List.take_append_drop]
  rw [e] at hH hL
  refine (insert_sort g cap Ps.flatten (R.take 20) (R.drop 20) N w hH hL hN a b h2 (by omega)).mono ?_
  rintro r w' ⟨rfl, ⟨A', q1, q2, q3⟩, q4⟩
  refine ⟨rfl, ⟨_, ⟨Ps ++ [A'], R.drop 20, ?_, ?_, h3.snoc (by rw [q3.length]; exact l1) q2⟩, q1, ?_, ?_⟩, q4⟩
  · simp
  · simp only [List.flatten_append, List.flatten_cons, List.flatten_nil, List.append_nil, List.length_append, q3.length]; omega
  · rw [e] at hS
    refine hS.trans ?_
    rw [List.append_assoc, List.append_assoc]
    exact same_mid q3
  · rw [← hL]; simp only [List.length_append, q3.length]
theorem stage_rest {L0 : List Mb} {g cap N a : Nat} {w : World} (h : Stage (Part a) L0 g N w) (hN : N ≤ 4096) (ha : a ≤ N) (hb : N < a + 20) :
    Calls Try.prog 39 #[.slice (some ⟨g, 0, none⟩) N cap, .int .i64 (a : Int), .int .i64 (N : Int), cmpF] w fun e w' => e = .returned (.tuple #[]) ∧ Stage (Laid 20) L0 g N w' ∧ Fr g w w' := by
  obtain ⟨L, ⟨Ps, R, rfl, h2, h3⟩, hH, hS, hL⟩ := h
  have e : Ps.flatten ++ R = Ps.flatten ++ R ++ [] := by simp
  rw [e] at hH hL
  refine (insert_sort g cap Ps.flatten R [] N w hH hL hN a N h2 (by simp only [List.length_append, List.length_nil] at hL; omega)).mono ?_
  rintro r w' ⟨rfl, ⟨A', q1, q2, q3⟩, q4⟩
  rw [List.append_nil] at q1
  refine ⟨rfl, ⟨_, ⟨Ps, A', rfl, h3, q2, ?_⟩, q1, hS.trans ((Same.refl _).append q3), ?_⟩, q4⟩
  · rw [q3.length]; simp only [List.length_append, List.length_nil] at hL; omega
  · rw [← hL]; simp only [List.length_append, q3.length, List.length_nil]; omega
theorem stage_merge {L0 : List Mb} {g cap N a m b bs : Nat} {w : World} (h : Stage (Half bs a) L0 g N w) (hN : N ≤ 4096) (h0 : 0 < bs) (hm : m = a + bs) (hab : b = a + 2 * bs) (hb : b ≤ N) :
    Calls Try.prog 40 #[.slice (some ⟨g, 0, none⟩) N cap, .int .i64 (a : Int), .int .i64 (m : Int), .int .i64 (b : Int), cmpF] w fun e w' => e = .returned (.tuple #[]) ∧ Stage (Half bs b) L0 g N w' ∧ Fr g w w' := by
  obtain ⟨L, ⟨Ps, Ls, T, rfl, h2, h3, h4, h5, h6⟩, hH, hS, hL⟩ := h
  have hl := hL
  simp only [List.length_append] at hl
  match Ls, h4 with
  | [], h4 => simp only [List.flatten_nil, List.flatten_cons, List.append_nil, List.length_append, List.length_nil] at hl; omega
  | [A], h4 =>
    have hA := h4 A (by simp)
    simp only [List.flatten_nil, List.flatten_cons, List.append_nil, List.length_append, List.length_nil] at hl; omega
  | A :: B :: Q, h4 =>
    have hA := h4 A (by simp)
    have hB := h4 B (by simp)
    have e : Ps.flatten ++ ((A :: B :: Q).flatten ++ T) = Ps.flatten ++ (A ++ (B ++ (Q.flatten ++ T))) := by simp
    rw [e] at hH hL hS
    refine (symMerge_any g cap Ps.flatten A B (Q.flatten ++ T) N w hH hL hN a m b h2 (by omega) (by omega) (by omega) (by omega) hA.2 hB.2).mono ?_
    rintro r w' ⟨rfl, ⟨M, q1, q2, q3⟩, q4⟩
    have lM : M.length = 2 * bs := by rw [q3.length, List.length_append]; omega
    refine ⟨rfl, ⟨_, ⟨Ps ++ [M], Q, T, ?_, ?_, h3.snoc lM q2, fun l hl => h4 l (by simp [hl]), h5, h6⟩, q1, ?_, ?_⟩, q4⟩
    · simp
    · simp only [List.flatten_append, List.flatten_cons, List.flatten_nil, List.append_nil, List.length_append, lM]; omega
    · refine hS.trans ?_
      rw [← List.append_assoc A B]
      exact same_mid q3
    · rw [← hL]; simp only [List.length_append, lM]; omega
theorem stage_tail {L0 : List Mb} {g cap N a m bs : Nat} {w : World} (h : Stage (Half bs a) L0 g N w) (hN : N ≤ 4096) (h0 : 0 < bs) (hm : m = a + bs) (hab : N < a + 2 * bs) (hb : m < N) :
    Calls Try.prog 40 #[.slice (some ⟨g, 0, none⟩) N cap, .int .i64 (a : Int), .int .i64 (m : Int), .int .i64 (N : Int), cmpF] w fun e w' => e = .returned (.tuple #[]) ∧ Stage (Laid (2 * bs)) L0 g N w' ∧ Fr g w w' := by
  obtain ⟨L, ⟨Ps, Ls, T, rfl, h2, h3, h4, h5, h6⟩, hH, hS, hL⟩ := h
  have hl := hL
  simp only [List.length_append] at hl
  match Ls, h4 with
  | [], h4 => simp only [List.flatten_nil, List.flatten_cons, List.append_nil, List.length_append, List.length_nil] at hl; omega
  | A :: Q, h4 =>
    have hA := h4 A (by simp)
    simp only [List.flatten_cons, List.length_append] at hl
    have hQ : Q.flatten = [] := by
      cases Q with
      | nil => rfl
      | cons B Q =>
        have hB := h4 B (by simp)
        simp only [List.flatten_cons, List.length_append] at hl
        omega
    rw [hQ] at hl
    simp only [List.length_nil] at hl
    have e : Ps.flatten ++ ((A :: Q).flatten ++ T) = Ps.flatten ++ (A ++ (T ++ [])) := by simp [hQ]
    rw [e] at hH hL hS
    refine (symMerge_any g cap Ps.flatten A T [] N w hH hL hN a m N h2 (by omega) (by omega) (by omega) (by omega) hA.2 h5).mono ?_
    rintro r w' ⟨rfl, ⟨M, q1, q2, q3⟩, q4⟩
    have lM : M.length = bs + T.length := by rw [q3.length, List.length_append]; omega
    rw [List.append_nil] at q1
    refine ⟨rfl, ⟨_, ⟨Ps, M, rfl, h3, q2, by omega⟩, q1, ?_, ?_⟩, q4⟩
    · refine hS.trans ?_
      rw [List.append_nil]
      exact (Same.refl _).append q3
    · simp only [List.length_append, lM]; omega
end Go.Proofs.Qxb6603645a
