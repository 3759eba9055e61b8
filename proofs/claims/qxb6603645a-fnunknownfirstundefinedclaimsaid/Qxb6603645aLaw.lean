import Derived.Test.Qxb6603645aModel
namespace Go.Proofs.Qxb6603645a
open Go.RowKit
set_option linter.unusedSimpArgs false
set_option linter.unusedVariables false

/-! ### The plain law -/
theorem last_of_filter (p : Mb → Bool) (x : Mb) : ∀ L : List Mb, (L.filter p).getLast? = some x → ∃ i, L[i]? = some x ∧ ∀ d ∈ L.drop (i + 1), p d = false
  | [], h => by simp at h
  | y :: L, h => by
    by_cases hn : L.filter p = []
    · have hall : ∀ d ∈ L, p d = false := fun d hd => by
        have := List.filter_eq_nil_iff.1 hn d hd
        simpa using this
      by_cases hy : p y = true
      · rw [List.filter_cons_of_pos hy, hn] at h
        simp at h
        subst h
        exact ⟨0, rfl, by simpa using hall⟩
      · rw [List.filter_cons_of_neg hy, hn] at h
        simp at h
    · have : (L.filter p).getLast? = some x := by
        by_cases hy : p y = true
        · rw [List.filter_cons_of_pos hy] at h
          rw [List.getLast?_cons] at h
          cases hg : (L.filter p).getLast? with
          | none => exact absurd (List.getLast?_eq_none_iff.1 hg) hn
          | some z => rw [hg] at h; simpa using h
        · rwa [List.filter_cons_of_neg hy] at h
      obtain ⟨i, h1, h2⟩ := last_of_filter p x L this
      exact ⟨i + 1, by simpa using h1, by simpa using h2⟩
theorem filter_of_last (p : Mb → Bool) {x : Mb} {L : List Mb} {i : Nat} (hx : L[i]? = some x) (hp : p x = true) (h : ∀ d ∈ L.drop (i + 1), p d = false) : (L.filter p).getLast? = some x := by
  obtain ⟨hi, rfl⟩ := List.getElem?_eq_some_iff.1 hx
  have e : L = L.take i ++ L[i] :: L.drop (i + 1) := by rw [← List.drop_eq_getElem_cons, List.take_append_drop]
  have e2 : (L.drop (i + 1)).filter p = [] := List.filter_eq_nil_iff.2 fun d hd => by simp [h d hd]
  have : ((L.take i ++ L[i] :: L.drop (i + 1)).filter p).getLast? = some L[i] := by
    rw [List.filter_append, List.filter_cons_of_pos hp, e2]
    simp
  rwa [← e] at this

/-- A candidate, without its place. -/
def CandM (L : List Mb) (ds : List ByteArray) (x : Mb) : Prop := (L.filter (fun m => nm m == nm x)).getLast? = some x ∧ isNull x = false ∧ isIn ds (nm x) = false
theorem candM_iff {L : List Mb} {ds : List ByteArray} {x : Mb} : CandM L ds x ↔ ∃ i, L[i]? = some x ∧ cand L ds i x = true := by
  constructor
  · rintro ⟨h1, h2, h3⟩
    obtain ⟨i, h4, h5⟩ := last_of_filter _ x L h1
    refine ⟨i, h4, ?_⟩
    unfold cand lastAt
    rw [h2, h3]
    simp only [Bool.not_false, Bool.and_true]
    rw [List.all_eq_true]
    intro d hd
    simpa using h5 d hd
  · rintro ⟨i, h1, h2⟩
    unfold cand lastAt at h2
    simp only [Bool.and_eq_true] at h2
    obtain ⟨⟨h3, h4⟩, h5⟩ := h2
    refine ⟨filter_of_last _ h1 (by simp) fun d hd => ?_, by simpa using h4, by simpa using h5⟩
    have := List.all_eq_true.1 h3 d hd
    simpa using this
theorem CandM.same {L M : List Mb} {ds : List ByteArray} {x : Mb} (h : Same L M) (hc : CandM M ds x) : CandM L ds x := ⟨by rw [← h (nm x)]; exact hc.1, hc.2⟩

theorem best_iff {L : List Mb} {ds : List ByteArray} {n : ByteArray} {f : Bool} : Best L ds L.length n f ↔ (f = false ∧ n = ⟨#[]⟩ ∧ ∀ x, ¬ CandM L ds x) ∨ (f = true ∧ (∃ x, CandM L ds x ∧ x.1 = n) ∧ ∀ x, CandM L ds x → Le n.data.toList (nm x)) := by
  constructor
  · rintro (⟨h1, h2, h3⟩ | ⟨h1, ⟨i, x, h2, h3, h4, h5⟩, h6⟩)
    · refine .inl ⟨h1, h2, fun x hx => ?_⟩
      obtain ⟨i, hi, hc⟩ := candM_iff.1 hx
      rw [h3 i x (List.getElem?_eq_some_iff.1 hi).1 hi] at hc
      cases hc
    · refine .inr ⟨h1, ⟨x, candM_iff.2 ⟨i, h3, h4⟩, h5⟩, fun y hy => ?_⟩
      obtain ⟨i, hi, hc⟩ := candM_iff.1 hy
      exact h6 i y (List.getElem?_eq_some_iff.1 hi).1 hi hc
  · rintro (⟨h1, h2, h3⟩ | ⟨h1, ⟨x, h2, h3⟩, h4⟩)
    · refine .inl ⟨h1, h2, fun i x _ hx => ?_⟩
      cases hc : cand L ds i x with
      | false => rfl
      | true => exact absurd (candM_iff.2 ⟨i, hx, hc⟩) (h3 x)
    · obtain ⟨i, hi, hc⟩ := candM_iff.1 h2
      exact .inr ⟨h1, ⟨i, x, (List.getElem?_eq_some_iff.1 hi).1, hi, hc, h3⟩, fun j y _ hy hcy => h4 y (candM_iff.2 ⟨j, hy, hcy⟩)⟩
theorem Best.same {L M : List Mb} {ds : List ByteArray} {n : ByteArray} {f : Bool} (h : Same L M) (hb : Best M ds M.length n f) : Best L ds L.length n f := by
  rw [best_iff] at hb ⊢
  rcases hb with ⟨h1, h2, h3⟩ | ⟨h1, ⟨x, h2, h3⟩, h4⟩
  · exact .inl ⟨h1, h2, fun x hx => h3 x (hx.same h.symm)⟩
  · exact .inr ⟨h1, ⟨x, h2.same h, h3⟩, fun y hy => h4 y (hy.same h.symm)⟩
/-- There is one answer. -/
theorem Best.one {L : List Mb} {ds : List ByteArray} {n n' : ByteArray} {f f' : Bool} (h : Best L ds L.length n f) (h' : Best L ds L.length n' f') : n.data.toList = n'.data.toList ∧ f = f' := by
  rw [best_iff] at h h'
  rcases h with ⟨rfl, rfl, h3⟩ | ⟨rfl, ⟨x, h2, rfl⟩, h4⟩
  · rcases h' with ⟨rfl, rfl, _⟩ | ⟨rfl, ⟨x, h2, _⟩, _⟩
    · exact ⟨rfl, rfl⟩
    · exact absurd h2 (h3 x)
  · rcases h' with ⟨rfl, rfl, h3⟩ | ⟨rfl, ⟨y, g2, rfl⟩, g4⟩
    · exact absurd h2 (h3 x)
    · exact ⟨Le.antisymm (h4 y g2) (g4 x h2), rfl⟩

/-! ### In a sorted list -/
/-- The test of 'unknown' for 'last': there is no next, or it has another name. -/
theorem lastAt_next {L : List Mb} {i : Nat} {x : Mb} (hs : Srt L) (hx : L[i]? = some x) : lastAt L i (nm x) = (match L[i + 1]? with | none => true | some y => !(nm y == nm x)) := by
  cases hy : L[i + 1]? with
  | none =>
    refine lastAt_yes fun j d hj hd => ?_
    have h1 := (List.getElem?_eq_some_iff.1 hd).1
    have h2 := List.getElem?_eq_none_iff.1 hy
    omega
  | some y =>
    by_cases he : nm y = nm x
    · rw [lastAt_no (Nat.lt_succ_self i) hy he]
      simp [he]
    · rw [lastAt_yes]
      · simp [he]
      · intro j d hj hd e
        have h1 : Le (nm x) (nm y) := hs.at hx hy (by omega)
        have h2 : Le (nm y) (nm d) := hs.at hy hd (by omega)
        rw [e] at h2
        exact he (Le.antisymm h2 h1)
/-- The first candidate of a sorted list is the least. -/
theorem best_first_hit {L : List Mb} {ds : List ByteArray} {i : Nat} {x : Mb} (hs : Srt L) (hx : L[i]? = some x) (hc : cand L ds i x = true) (hno : ∀ j y, j < i → L[j]? = some y → cand L ds j y = false) : Best L ds L.length x.1 true := by
  refine .inr ⟨rfl, ⟨i, x, (List.getElem?_eq_some_iff.1 hx).1, hx, hc, rfl⟩, fun j y _ hy hcy => ?_⟩
  rcases Nat.lt_or_ge j i with h | h
  · rw [hno j y h hy] at hcy; cases hcy
  · exact hs.at hx hy h
end Go.Proofs.Qxb6603645a
