import Derived.Test.Qxb6604483aAddAll
import Derived.Test.Qxb6604483aPlain
namespace Go.Proofs.Qxb6604483a

theorem addL_any : ∀ (ts : List Tm), addL (true, []) ts = (true, [])
  | [] => rfl
  | t :: ts => by
    show addL (addS true [] t).1 ts = _
    have : (addS true [] t).1 = (true, []) := by simp [addS]
    rw [this]
    exact addL_any ts
theorem addL_uni : ∀ (ts d : List Tm), d.length ≤ 16 → addL (false, d) ts = match uni d ts with | none => (true, []) | some d => (false, d)
  | [], d, _ => rfl
  | t :: ts, d, hd => by
    show addL (addS false d t).1 ts = _
    rw [uni]
    by_cases h : hasB d t = true
    · rw [if_pos h, show (addS false d t).1 = (false, d) by simp [addS, h]]
      exact addL_uni ts d hd
    · rw [if_neg h]
      by_cases h16 : d.length = 16
      · rw [if_pos (by omega), show (addS false d t).1 = (true, []) by simp [addS, h, h16]]
        exact addL_any ts
      · rw [if_neg (by omega), show (addS false d t).1 = (false, d ++ [t]) by simp [addS, h, h16]]
        exact addL_uni ts (d ++ [t]) (by simp; omega)

/-- Two calls unite: the model's union. -/
theorem add_two (a b : Bool × List Tm) : addA (addA (false, []) a) b = uniR a.1 a.2 b.1 b.2 := by
  unfold uniR
  by_cases hb : b.1 = true
  · rw [if_pos (.inr hb)]
    unfold addA
    rw [if_pos hb]
  · by_cases ha : a.1 = true
    · rw [if_pos (.inl ha)]
      unfold addA
      rw [if_neg hb, if_pos ha, addL_any]
    · rw [if_neg (by simp [ha, hb])]
      unfold addA
      rw [if_neg hb, if_neg ha]
      have : addL (addL (false, []) a.2) b.2 = addL (false, []) (a.2 ++ b.2) := by
        unfold addL
        rw [List.foldl_append]
      rw [this]
      exact addL_uni _ _ (by simp)
/-- One call alone. -/
theorem add_one (a : Bool × List Tm) : addA (false, []) a = uniR a.1 a.2 false [] := add_two a (false, [])
end Go.Proofs.Qxb6604483a
