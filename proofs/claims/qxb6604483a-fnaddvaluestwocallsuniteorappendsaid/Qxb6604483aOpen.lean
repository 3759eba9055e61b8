import Derived.Test.Qxb6604483aVals
import Derived.Deep.SlicePairs
import Derived.Deep.Strs
import Derived.ProofKit
import Derived.OpenShut
import Derived.ShutString
import Derived.ChangeOld
namespace Go.Proofs.Qxb6604483a
open Go.ChangeShapes Go.WideShapes Go.ChangeAt Go.RowKit Go.Deep
set_option linter.unusedSimpArgs false
set_option linter.unusedVariables false

theorem plain_addr {w : World} {a : Addr} {v : Value} (h : w.cell? (a.add 0) = some v) : ∃ b o, a = ⟨b, o, none⟩ ∧ b < w.heap.size := by
  obtain ⟨b, o, spot⟩ := a
  have hs : spot = none := by simpa [Addr.add] using World.cell?_spot h
  subst hs
  refine ⟨b, o, rfl, ?_⟩
  rcases Nat.lt_or_ge b w.heap.size with hlt | hge
  · exact hlt
  · simp [Addr.add, World.cell?, Array.getElem?_eq_none hge] at h

theorem three {cs : List Value} (h : cs.length = 3) : ∃ a b c, cs = [a, b, c] := by
  match cs, h with
  | [a, b, c], _ => exact ⟨a, b, c, rfl⟩

section
variable {H : Type} {enc : TypeId × Value → H} {w : World} {held : Bool} {spare : Nat → Bool}

/-- A slice of terms that came in. -/
theorem open_terms {fuel : Nat} {v : Value} {x : DataW H × List MemPlace} (h : DataW.trod enc Try.prog w 0 spare held fuel 51 [v] = some x) :
    ∃ a len cap ts, v = .slice a len cap ∧ TsIn 0 w.heap.size w a len ts ∧ len ≤ 9223372036854775807 := by
  rcases open_slice Try.underlying51 h with ⟨h0, _⟩ | ⟨a, len, cap, m, n, D, Pl, h0, _, hl, hm, hmm, _, hx⟩
  · simp at h0
    exact ⟨none, 0, 0, [], h0, TsIn.nil _ _ _ _, by omega⟩
  · simp at h0
    have hlm : len ≤ m := by rw [hmm]; split <;> omega
    have each : ∀ i, i < len → ∃ t : Tm, w.cell? (a.add (i * 3)) = some (.int .u8 t.1) ∧ w.cell? (a.add (i * 3 + 1)) = some (.int .i32 t.2.1) ∧ w.cell? (a.add (i * 3 + 2)) = some (.string t.2.2) := by
      intro i hi
      obtain ⟨cs, h1, h2⟩ := hx i (by omega)
      rw [show Try.prog.cellsOf 56 = 3 by kernel_rfl] at h1
      obtain ⟨_, hlen, hcell⟩ := World.cells?_some h1
      obtain ⟨y0, y1, y2, k, _, _, g0, g1, g2⟩ := trod_struct3 Try.underlying56 h2
      obtain ⟨v0, v1, v2, rfl⟩ := three hlen
      rw [show Try.prog.cellsOf 5 = 1 by kernel_rfl] at g0
      rw [show Try.prog.cellsOf 21 = 1 by kernel_rfl] at g1
      rw [show Try.prog.cellsOf 9 = 1 by kernel_rfl] at g2
      simp at g0 g1 g2
      obtain ⟨n0, e0, _⟩ := DataW.trod_int Try.underlying5 g0
      obtain ⟨n1, e1, _⟩ := DataW.trod_int Try.underlying21 g1
      obtain ⟨s, e2, _⟩ := DataW.trod_string Try.underlying9 g2
      have q0 := hcell 0 (by simp)
      have q1 := hcell 1 (by simp)
      have q2 := hcell 2 (by simp)
      rw [add_add] at q0 q1 q2
      simp at e0 e1 e2
      subst e0 e1 e2
      exact ⟨(n0, n1, s), by simpa using q0, by simpa using q1, by simpa using q2⟩
    obtain ⟨t, ht⟩ := choose_lt each
    refine ⟨some a, len, cap, (List.range len).map t, h0, ⟨by simp, fun hp => ?_⟩, by unfold maxLen at hm; omega⟩
    have h00 := (ht 0 hp).1
    rw [Nat.zero_mul] at h00
    obtain ⟨b, o, rfl, hb⟩ := plain_addr h00
    refine ⟨b, o, rfl, Nat.zero_le _, hb, fun i y hy => ?_⟩
    rw [List.getElem?_map] at hy
    obtain ⟨j, hj, rfl⟩ := Option.map_eq_some_iff.1 hy
    obtain ⟨hj1, hj2⟩ := List.getElem?_eq_some_iff.1 hj
    simp at hj1 hj2
    subst hj2
    have := ht i hj1
    rw [add_plain, add_plain, add_plain] at this
    exact this

/-- A slice of sets of terms that came in. -/
theorem open_vals {fuel : Nat} {v : Value} {x : DataW H × List MemPlace} (h : DataW.trod enc Try.prog w 0 spare held fuel 22 [v] = some x) :
    ∃ a len cap vs, v = .slice a len cap ∧ VsIn 0 w.heap.size w a len vs ∧ len ≤ 9223372036854775807 ∧ ∀ (i : Nat) (x : Vr), vs[i]? = some x → x.2.2.2.length ≤ 9223372036854775807 := by
  rcases open_slice_pairs Try.underlying22 Try.underlying53 (by kernel_rfl) rfl rfl (by kernel_rfl) (by kernel_rfl) h with ⟨h0, _⟩ | ⟨a, len, cap, m, n, V0, V1, D0, D1, P0, P1, h0, _, hl, hm, hmm, _, hx⟩
  · simp at h0
    exact ⟨none, 0, 0, [], h0, VsIn.nil _ _ _ _, by omega, by intro i x h; simp at h⟩
  · simp at h0
    have hlm : len ≤ m := by rw [hmm]; split <;> omega
    have each : ∀ i, i < len → ∃ y : Vr, w.cell? (a.add (i * 2)) = some (.bool y.1) ∧ w.cell? (a.add (i * 2 + 1)) = some (.slice y.2.1 y.2.2.2.length y.2.2.1) ∧ TsIn 0 w.heap.size w y.2.1 y.2.2.2.length y.2.2.2 ∧ y.2.2.2.length ≤ 9223372036854775807 := by
      intro i hi
      obtain ⟨q0, q1, g0, g1⟩ := hx i (by omega)
      obtain ⟨b, e0, _⟩ := DataW.trod_bool Try.underlying4 g0
      obtain ⟨a', len', cap', ts, e1, hT, hlt⟩ := open_terms g1
      simp at e0
      rw [e0] at q0
      rw [e1] at q1
      obtain rfl := hT.len_eq
      exact ⟨(b, a', cap', ts), q0, q1, hT, hlt⟩
    obtain ⟨t, ht⟩ := choose_lt each
    have at_ : ∀ (i : Nat) (y : Vr), ((List.range len).map t)[i]? = some y → i < len ∧ t i = y := by
      intro i y hy
      rw [List.getElem?_map] at hy
      obtain ⟨j, hj, rfl⟩ := Option.map_eq_some_iff.1 hy
      obtain ⟨hj1, hj2⟩ := List.getElem?_eq_some_iff.1 hj
      simp at hj1 hj2
      subst hj2
      exact ⟨hj1, rfl⟩
    refine ⟨some a, len, cap, (List.range len).map t, h0, ⟨by simp, fun hp => ?_, fun i y hy => ?_⟩, by unfold maxLen at hm; omega, fun i y hy => ?_⟩
    · have h00 := (ht 0 hp).1
      rw [Nat.zero_mul] at h00
      obtain ⟨b, o, rfl, hb⟩ := plain_addr h00
      refine ⟨b, o, rfl, Nat.zero_le _, hb, fun i y hy => ?_⟩
      obtain ⟨hi, rfl⟩ := at_ i y hy
      have := ht i hi
      rw [add_plain, add_plain] at this
      exact ⟨this.1, this.2.1⟩
    · obtain ⟨hi, rfl⟩ := at_ i y hy
      exact (ht i hi).2.2.1
    · obtain ⟨hi, rfl⟩ := at_ i y hy
      exact (ht i hi).2.2.2
end
end Go.Proofs.Qxb6604483a
