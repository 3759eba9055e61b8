import Derived.Test.Qxb6604449aRows
import Derived.WalkKit
import Derived.WalkSpells
import Derived.WalkLawsBesides
import Derived.Lib.Bytes
namespace Go.Proofs.Qxb6604449a
open Go.RowKit

set_option maxHeartbeats 400000 in
theorem equal_any (v1 v2 : Value) (xs ys : List Int) (w : World)
    (h1 : (convert 22 9 v1).run Try.prog w = .ok (.string (strOfNums xs)) w) (h2 : (convert 22 9 v2).run Try.prog w = .ok (.string (strOfNums ys)) w) :
    Calls Try.prog 12 #[v1, v2] w fun e w' => e = .returned (.bool (Lib.bytesOf xs == Lib.bytesOf ys)) ∧ w' = w := by
  rw [← Lib.strOfNums_toList, ← Lib.strOfNums_toList]
  go_enter Try.func12, Try.ntmps12
  go_wp2
  go_ret
  exact ⟨rfl, rfl⟩

set_option maxHeartbeats 400000 in
/-- 'bytes.HasPrefix' of two rows. -/
theorem hasPrefix_any (b1 o1 n c b2 o2 m d : Nat) (xs ys : List Int) (w : World) (hx : xs.length = n) (hy : ys.length = m) (hnc : n ≤ c)
    (hc1 : ∀ i, i < n → w.cell? ⟨b1, o1 + i, none⟩ = some (.int .u8 (xs.getD i 0))) (hc2 : ∀ i, i < m → w.cell? ⟨b2, o2 + i, none⟩ = some (.int .u8 (ys.getD i 0))) :
    Calls Try.prog 11 #[.slice (some ⟨b1, o1, none⟩) n c, .slice (some ⟨b2, o2, none⟩) m d] w fun e w' => e = .returned (.bool (Lib.hasPrefix (Lib.bytesOf xs) (Lib.bytesOf ys))) ∧ w' = w := by
  rw [← Lib.bytes_hasPrefix, hx, hy]
  have g2 := run_convert_bytes_arg (P := Try.prog) w 22 5 Try.underlying22 Try.underlying5 b2 o2 m d ys hy hc2 9 Try.underlying9
  have g1 : m ≤ n → (convert 22 9 (.slice (some ⟨b1, o1, none⟩) m c)).run Try.prog w = .ok (.string (strOfNums (xs.take m))) w := fun h =>
    run_convert_bytes_arg (P := Try.prog) w 22 5 Try.underlying22 Try.underlying5 b1 o1 m c (xs.take m) (by simp; omega) (fun i hi => by rw [Lib.getD_take _ _ _ hi]; exact hc1 i (by omega)) 9 Try.underlying9
  by_cases h : m ≤ n
  · have g1 := g1 h
    go_enter Try.func11, Try.ntmps11
    go_wp2_with (go_at_call 12; refine (equal_any _ _ (xs.take m) ys _ g1 g2).mono ?_; rintro e w' ⟨rfl, rfl⟩)
    go_ret
    refine ⟨?_, rfl⟩
    rw [decide_eq_true h, Bool.true_and]
    rfl
  · clear g1
    go_enter Try.func11, Try.ntmps11
    go_wp2
    go_ret
    refine ⟨?_, rfl⟩
    rw [decide_eq_false h, Bool.false_and]
    rfl

set_option maxHeartbeats 400000 in
/-- 'bytes.HasPrefix' of the nil slice, the prefix not empty. -/
theorem hasPrefix_nil (c m d : Nat) (p : Option Addr) (w : World) (hm : 0 < m) :
    Calls Try.prog 11 #[.slice none 0 c, .slice p m d] w fun e w' => e = .returned (.bool false) ∧ w' = w := by
  go_enter Try.func11, Try.ntmps11
  go_wp2
  go_ret
  exact ⟨rfl, rfl⟩

end Go.Proofs.Qxb6604449a
