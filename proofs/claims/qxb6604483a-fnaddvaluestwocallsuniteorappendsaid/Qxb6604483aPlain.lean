import Derived.Test.Qxb6604483aTerms
namespace Go.Proofs.Qxb6604483a
set_option linter.unusedSimpArgs false

/-! ### The model's union: no Go in sight -/
/-- The distinct terms of a list behind d, in the order first met; none where there are more than sixteen. -/
def uni : List Tm → List Tm → Option (List Tm)
  | d, [] => some d
  | d, t :: r => if hasB d t = true then uni d r else if 16 ≤ d.length then none else uni (d ++ [t]) r
/-- What 'unionModel' computes. -/
def uniR (anyA : Bool) (ta : List Tm) (anyB : Bool) (tb : List Tm) : Bool × List Tm :=
  if anyA = true ∨ anyB = true then (true, []) else match uni [] (ta ++ tb) with | none => (true, []) | some d => (false, d)

theorem uni_hit {d : List Tm} {ts : List Tm} {k : Nat} {t : Tm} (ht : ts[k]? = some t) (h : hasB d t = true) : uni d (ts.drop k) = uni d (ts.drop (k + 1)) := by
  have e : ts.drop k = t :: ts.drop (k + 1) := by
    obtain ⟨hk, rfl⟩ := List.getElem?_eq_some_iff.1 ht
    exact List.drop_eq_getElem_cons hk
  rw [e, uni, if_pos h]
theorem uni_new {d : List Tm} {ts : List Tm} {k : Nat} {t : Tm} (ht : ts[k]? = some t) (h : hasB d t = false) (hd : d.length < 16) : uni d (ts.drop k) = uni (d ++ [t]) (ts.drop (k + 1)) := by
  have e : ts.drop k = t :: ts.drop (k + 1) := by
    obtain ⟨hk, rfl⟩ := List.getElem?_eq_some_iff.1 ht
    exact List.drop_eq_getElem_cons hk
  rw [e, uni, if_neg (by simp [h]), if_neg (by omega)]
theorem uni_full {d : List Tm} {ts : List Tm} {k : Nat} {t : Tm} (ht : ts[k]? = some t) (h : hasB d t = false) (hd : 16 ≤ d.length) : uni d (ts.drop k) = none := by
  have e : ts.drop k = t :: ts.drop (k + 1) := by
    obtain ⟨hk, rfl⟩ := List.getElem?_eq_some_iff.1 ht
    exact List.drop_eq_getElem_cons hk
  rw [e, uni, if_neg (by simp [h]), if_pos hd]
theorem uni_end {d : List Tm} {ts : List Tm} {k : Nat} (hk : ts.length ≤ k) : uni d (ts.drop k) = some d := by
  rw [List.drop_eq_nil_of_le hk, uni]
end Go.Proofs.Qxb6604483a
