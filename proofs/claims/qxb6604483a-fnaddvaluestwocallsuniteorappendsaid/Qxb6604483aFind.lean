import Derived.Test.Qxb6604483aAddAll
import Derived.Maps.OwnSet
import Derived.Deep.QuietTactic
import Derived.BigQuiet
namespace Go.Proofs.Qxb6604483a
open Go.RowKit Go.Maps
set_option linter.unusedSimpArgs false
set_option linter.unusedVariables false

theorem law : Keyed Try.prog 3 := int_keyed Try.underlying3
theorem zero3 (w : World) : (zeroValue 3).run Try.prog w = .ok (.int .i64 0) w := by kernel_rfl

/-- The map of places: nil, or a block that reads as D. -/
def MapIs (w : World) (m : Option Nat) (n : Nat) (D : DataW Unit) : Prop :=
  (m = none ∧ D = .map [] ∧ n = 0) ∨ ∃ M, m = some M ∧ w.ownsMap Try.prog 3 (plainElem Try.prog 3) M n D

/-- 'place, ok := s.place[pred]'. -/
theorem MapIs.look {w : World} {m : Option Nat} {n : Nat} {D : DataW Unit} (h : MapIs w m n D) (p : Int) (hp : (Lit.int .i64 p).wf = true) :
    ∃ c : Int, (Instr.lookup 37 (.map m) (.int .i64 p) true).run Try.prog w = .ok (.tuple #[.int .i64 c, .bool (Maps.has D (.int .i64 p))]) w ∧ D.atKey (.int .i64 p) (.lit (.int .i64 0)) = .lit (.int .i64 c) := by
  rcases h with ⟨rfl, rfl, rfl⟩ | ⟨M, rfl, h⟩
  · exact ⟨0, Maps.look_nil true law Try.underlying37 (zero3 w) (keyOf_int_mk Try.underlying3 hp), rfl⟩
  · obtain ⟨v, ps, hrun, hv⟩ := h.look_ok law Try.underlying37 (zero3 w) (plainElem_int Try.underlying3 (by decide)) (keyOf_int_mk Try.underlying3 hp)
    obtain ⟨c, rfl, hc, hwc⟩ := plainElem_int_inv Try.underlying3 hv
    exact ⟨c, hrun, congrArg Prod.fst hc⟩

theorem MapIs.drewN {w : World} {m : Option Nat} {n : Nat} {D : DataW Unit} (h : MapIs w m n D) (k : Nat) : MapIs (w.drewN k) m n D := h

/-- The struct's block. -/
def HeadIs (w : World) (S : Nat) (m : Option Nat) (pr q : Value) : Prop := w.heap[S]? = some (.cells #[.map m, pr, q, .int .i64 0] 59 (0, 0))
theorem HeadIs.cells {w : World} {S : Nat} {m : Option Nat} {pr q : Value} (h : HeadIs w S m pr q) :
    w.cell? ⟨S, 0, none⟩ = some (.map m) ∧ w.cell? ⟨S, 1, none⟩ = some pr ∧ w.cell? ⟨S, 2, none⟩ = some q ∧ w.cell? ⟨S, 3, none⟩ = some (.int .i64 0) ∧ S < w.heap.size ∧ ∀ i, w.frozen? ⟨S, i, none⟩ = false := by
  refine ⟨?_, ?_, ?_, ?_, (Array.getElem?_eq_some_iff.1 h).1, fun i => frozen_of_row w S i _ _ h⟩
  all_goals simp only [World.cell?, show w.heap[S]? = _ from h]; rfl

set_option maxRecDepth 100000 in
set_option maxHeartbeats 1000000 in
theorem find_empty (S : Nat) (m : Option Nat) (a : Option Addr) (c nM : Nat) (q : Value) (p : Int) (D : DataW Unit) (w : World) (hp : (Lit.int .i64 p).wf = true) (hH : HeadIs w S m (.slice a 0 c) q) (hM : MapIs w m nM D) (hno : Maps.has D (.int .i64 p) = false) :
    Calls Try.prog 47 #[.pointer (some ⟨S, 0, none⟩), .int .i64 p] w fun e w' => (∃ c : Int, e = .returned (.tuple #[.int .i64 c, .bool false])) ∧ ∃ k, w' = w.drewN k := by
  obtain ⟨c0, c1, c2, c3, hlt, hf⟩ := hH.cells
  have look := fun k => (hM.drewN k).look p hp
  rw [hno] at look
  have HL : Hid (∀ k, ∃ c : Int, (Instr.lookup 37 (.map m) (.int .i64 p) true).run Try.prog (w.drewN k) = .ok (.tuple #[.int .i64 c, .bool false]) (w.drewN k) ∧ D.atKey (.int .i64 p) (.lit (.int .i64 0)) = .lit (.int .i64 c)) := look
  clear look hH hM hno
  go_enter Try.func47, Try.ntmps47
  go_wp2_with fail
  go_quiet (fail)
  obtain ⟨cc, hrun, _⟩ := HL.out nq
  go_wp2_with fail
  go_ret2
  exact ⟨⟨cc, rfl⟩, nq, rfl⟩

/-- A predicate's entry: its number, the block of its arguments' sets, how many they are, is it queued? -/
abbrev En := Int × Nat × Nat × Bool
def enC (e : En) : List Value := [.int .i64 e.1, .slice (some ⟨e.2.1, 0, none⟩) e.2.2.1 e.2.2.1, .bool e.2.2.2]
def flatE (es : List En) : List Value := es.flatMap enC
theorem flatE_length : ∀ es : List En, (flatE es).length = es.length * 3
  | [] => rfl
  | t :: es => by
    have := flatE_length es
    simp only [flatE, List.flatMap_cons, List.length_append, List.length_cons] at this ⊢
    rw [this]
    simp [enC]
    omega
theorem flatE_append (a b : List En) : flatE (a ++ b) = flatE a ++ flatE b := by simp [flatE]
theorem flatE_get : ∀ (es : List En) (i : Nat) (t : En), es[i]? = some t → (flatE es)[i * 3]? = some (.int .i64 t.1) ∧ (flatE es)[i * 3 + 1]? = some (.slice (some ⟨t.2.1, 0, none⟩) t.2.2.1 t.2.2.1) ∧ (flatE es)[i * 3 + 2]? = some (.bool t.2.2.2)
  | [], i, t, h => by simp at h
  | u :: es, 0, t, h => by
    simp at h
    subst h
    simp [flatE, enC]
  | u :: es, i + 1, t, h => by
    have := flatE_get es i t (by simpa using h)
    have e : flatE (u :: es) = enC u ++ flatE es := by simp [flatE]
    have l : (enC u).length = 3 := rfl
    rw [e]
    refine ⟨?_, ?_, ?_⟩
    · rw [List.getElem?_append_right (by omega), l, show (i + 1) * 3 - 3 = i * 3 by omega]; exact this.1
    · rw [List.getElem?_append_right (by omega), l, show (i + 1) * 3 + 1 - 3 = i * 3 + 1 by omega]; exact this.2.1
    · rw [List.getElem?_append_right (by omega), l, show (i + 1) * 3 + 2 - 3 = i * 3 + 2 by omega]; exact this.2.2

/-- The entries' row: what a value that owns at least one looks like, and its cells. -/
theorem preds_at {w : World} {pr : Value} {es : List En} (h : w.ownsRow 0 34 3 pr es.length (flatE es)) (hn : 0 < es.length) :
    ∃ g cap, pr = .slice (some ⟨g, 0, none⟩) es.length cap ∧ g < w.heap.size ∧ (∀ i, w.frozen? ⟨g, i, none⟩ = false) ∧ ∀ j u, (flatE es)[j]? = some u → w.cell? ⟨g, j, none⟩ = some u := by
  rcases h.2 with ⟨_, h0⟩ | ⟨g, cap, cur, hv, _, hg, _, _, _, ht⟩
  · omega
  · refine ⟨g, cap, hv, (Array.getElem?_eq_some_iff.1 hg).1, fun i => frozen_of_row w g i _ _ hg, fun j u hj => ?_⟩
    simp only [World.cell?, hg]
    rw [← ht] at hj
    rw [List.getElem?_take] at hj
    split at hj
    · simpa using hj
    · cases hj

set_option maxRecDepth 100000 in
set_option maxHeartbeats 1000000 in
theorem find_first (S : Nat) (m : Option Nat) (pr q : Value) (es : List En) (e0 : En) (p : Int) (w : World) (hH : HeadIs w S m pr q) (hP : w.ownsRow 0 34 3 pr es.length (flatE es)) (he : es[0]? = some e0) (hp0 : e0.1 = p) (hes : es.length ≤ 5) :
    Calls Try.prog 47 #[.pointer (some ⟨S, 0, none⟩), .int .i64 p] w fun e w' => e = .returned (.tuple #[.int .i64 0, .bool true]) ∧ ∃ k, w' = w.drewN k := by
  obtain ⟨c0, c1, c2, c3, hlt, hf⟩ := hH.cells
  have hn : 0 < es.length := (List.getElem?_eq_some_iff.1 he).1
  obtain ⟨g, cap, rfl, hg, _, hc⟩ := preds_at hP hn
  have d0 := hc _ _ (flatE_get es 0 e0 he).1
  rw [hp0] at d0
  simp only [Nat.zero_mul] at d0
  have t1 : (p == p) = true := by simp
  have t0 : (0 : Int) < (es.length : Int) := by omega
  clear hH hP he hp0 hc
  generalize es.length = n at *
  go_enter Try.func47, Try.ntmps47
  go_wp2_with fail
  go_quiet (fail)
  go_wp2_with fail
  go_ret2
  exact ⟨rfl, nq, rfl⟩

set_option maxRecDepth 100000 in
set_option maxHeartbeats 1000000 in
theorem find_other (S : Nat) (m : Option Nat) (nM : Nat) (pr q : Value) (es : List En) (e0 : En) (p : Int) (D : DataW Unit) (w : World) (hp : (Lit.int .i64 p).wf = true) (hH : HeadIs w S m pr q) (hP : w.ownsRow 0 34 3 pr es.length (flatE es)) (he : es[0]? = some e0) (hp0 : e0.1 ≠ p) (hes : es.length ≤ 5)
    (hM : MapIs w m nM D) (hno : Maps.has D (.int .i64 p) = false) :
    Calls Try.prog 47 #[.pointer (some ⟨S, 0, none⟩), .int .i64 p] w fun e w' => (∃ c : Int, e = .returned (.tuple #[.int .i64 c, .bool false])) ∧ ∃ k, w' = w.drewN k := by
  obtain ⟨c0, c1, c2, c3, hlt, hf⟩ := hH.cells
  have hn : 0 < es.length := (List.getElem?_eq_some_iff.1 he).1
  obtain ⟨g, cap, rfl, hg, _, hc⟩ := preds_at hP hn
  have d0 := hc _ _ (flatE_get es 0 e0 he).1
  simp only [Nat.zero_mul] at d0
  have t1 : (e0.1 == p) = false := by simp [hp0]
  have t0 : (0 : Int) < (es.length : Int) := by omega
  have look := fun k => (hM.drewN k).look p hp
  rw [hno] at look
  have HL : Hid (∀ k, ∃ c : Int, (Instr.lookup 37 (.map m) (.int .i64 p) true).run Try.prog (w.drewN k) = .ok (.tuple #[.int .i64 c, .bool false]) (w.drewN k) ∧ D.atKey (.int .i64 p) (.lit (.int .i64 0)) = .lit (.int .i64 c)) := look
  clear look hH hM hno hP he hp0 hc
  generalize es.length = n at *
  go_enter Try.func47, Try.ntmps47
  go_wp2_with fail
  go_quiet (fail)
  obtain ⟨cc, hrun, _⟩ := HL.out nq
  go_wp2_with fail
  go_ret2
  exact ⟨⟨cc, rfl⟩, nq, rfl⟩
end Go.Proofs.Qxb6604483a
