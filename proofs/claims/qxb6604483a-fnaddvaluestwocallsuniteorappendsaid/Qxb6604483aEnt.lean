import Derived.Test.Qxb6604483aEnq
import Derived.Test.Qxb6604483aPred
namespace Go.Proofs.Qxb6604483a
open Go.RowKit Go.Maps
set_option linter.unusedSimpArgs false
set_option linter.unusedVariables false

/-- The slice value of a set. -/
def vrS (r : Vr) : Value := .slice r.2.1 r.2.2.2.length r.2.2.1

/-- The sets of an entry: each owns its row, and no two rows are one. -/
structure EntOk (w : World) (A : Nat) (rs : List Vr) : Prop where
  block : w.heap[A]? = some (.cells (flatV rs).toArray 63 (0, 0))
  own : ∀ (j : Nat) (r : Vr), rs[j]? = some r → w.ownsRow 0 86 3 (vrS r) r.2.2.2.length (flatT r.2.2.2) ∧ r.2.2.2.length ≤ 16
  apart : ∀ (i j : Nat) (ri rj : Vr), i ≠ j → rs[i]? = some ri → rs[j]? = some rj → ∀ g, (vrS ri).ownBlock = some g → (vrS rj).ownBlock ≠ some g

/-- A block of one of the sets' rows. -/
def RowOf (rs : List Vr) (g : Nat) : Prop := ∃ (i : Nat) (r : Vr), rs[i]? = some r ∧ (vrS r).ownBlock = some g

theorem EntOk.row {w : World} {A : Nat} {rs : List Vr} (h : EntOk w A rs) {g : Nat} (hg : RowOf rs g) : ∃ cur, w.heap[g]? = some (.cells cur 86 (0, 0)) := by
  obtain ⟨i, r, hr, hb⟩ := hg
  exact own_block (h.own i r hr).1 hb
theorem EntOk.row_lt {w : World} {A : Nat} {rs : List Vr} (h : EntOk w A rs) {g : Nat} (hg : RowOf rs g) : g < w.heap.size := by
  obtain ⟨cur, h⟩ := h.row hg
  exact (Array.getElem?_eq_some_iff.1 h).1
theorem EntOk.lt {w : World} {A : Nat} {rs : List Vr} (h : EntOk w A rs) : A < w.heap.size := (Array.getElem?_eq_some_iff.1 h.block).1
/-- A frame keeps it. -/
theorem EntOk.fr {X : Nat → Prop} {w w' : World} {A : Nat} {rs : List Vr} (h : EntOk w A rs) (hF : Fr X w w') (hA : ¬ X A) (hX : ∀ g, RowOf rs g → ¬ X g) : EntOk w' A rs where
  block := by rw [hF.block A h.lt hA]; exact h.block
  own := fun j r hr => ⟨own_fr (h.own j r hr).1 hF (fun k hk => hX k ⟨j, r, hr, hk⟩), (h.own j r hr).2⟩
  apart := h.apart

/-- From the world w0 to w: the entry's sets turn from rs0 into rs; no other old block turns. -/
structure EntStep (w0 w : World) (A : Nat) (rs0 rs : List Vr) : Prop where
  ok : EntOk w A rs
  len : rs.length = rs0.length
  src : ∀ g, RowOf rs g → RowOf rs0 g ∨ w0.heap.size ≤ g
  fr : Fr (fun k => k = A ∨ RowOf rs0 k) w0 w

theorem EntStep.refl {w : World} {A : Nat} {rs : List Vr} (h : EntOk w A rs) : EntStep w w A rs rs := ⟨h, rfl, fun _ h => .inl h, Fr.refl _ _⟩
theorem EntStep.below {w0 w w' : World} {A : Nat} {rs0 rs : List Vr} (h : EntStep w0 w A rs0 rs) (hb : Below w.heap.size w w') : EntStep w0 w' A rs0 rs :=
  ⟨h.ok.fr (Fr.of_below (X := fun _ => False) hb) (fun e => e) (fun _ _ e => e), h.len, h.src, Fr.trans h.fr (Fr.of_below (X := fun _ => False) hb) (fun _ _ e => e.elim)⟩

theorem flatV_set : ∀ (rs : List Vr) (j : Nat) (r : Vr), j < rs.length → flatV (rs.set j r) = ((flatV rs).set (j * 2) (.bool r.1)).set (j * 2 + 1) (vrS r)
  | [], j, r, h => by simp at h
  | u :: rs, 0, r, h => by simp [flatV, vrC, vrS]
  | u :: rs, j + 1, r, h => by
    have := flatV_set rs j r (by simpa using h)
    have q : ∀ l, flatV (u :: l) = vrC u ++ flatV l := fun l => by simp [flatV]
    have l2 : (vrC u).length = 2 := rfl
    rw [List.set_cons_succ, q, q, this, List.set_append_right _ _ (by omega), List.set_append_right _ _ (by omega), l2, show (j + 1) * 2 - 2 = j * 2 by omega, show (j + 1) * 2 + 1 - 2 = j * 2 + 1 by omega]

theorem rowOf_set {rs : List Vr} {j : Nat} {r : Vr} {g : Nat} (h : RowOf (rs.set j r) g) : (vrS r).ownBlock = some g ∨ RowOf rs g := by
  obtain ⟨i, x, hx, hg⟩ := h
  by_cases e : j = i
  · subst e
    rw [List.getElem?_set] at hx
    simp at hx
    obtain ⟨_, rfl⟩ := hx
    exact .inl hg
  · rw [List.getElem?_set_ne e] at hx
    exact .inr ⟨i, x, hx, hg⟩

theorem EntStep.step {w0 w w' : World} {A j : Nat} {rs0 rs : List Vr} {r : Vr} {x : Bool × List Tm} (h : EntStep w0 w A rs0 rs) (hr : rs[j]? = some r) (hx : x.2.length ≤ 16) (hS : SetAt w w' A (j * 2) (flatV rs) (vrS r) x) :
    ∃ r', datV r' = x ∧ EntStep w0 w' A rs0 (rs.set j r') := by
  obtain ⟨v', g1, g2, g3, g4⟩ := hS
  obtain ⟨a', c', rfl⟩ := own_shape g2
  have hj : j < rs.length := (List.getElem?_eq_some_iff.1 hr).1
  have hF : Fr (fun k => k = A ∨ some k = (vrS r).ownBlock) w w' := ⟨g4.os, g4.tape, g4.output, g4.size, fun k hk hX => g4.block k hk (fun e => hX (.inl e)) (fun e => hX (.inr e))⟩
  have hnew : ∀ g, (Value.slice a' x.2.length c').ownBlock = some g → (vrS r).ownBlock = some g ∨ w.heap.size ≤ g := fun g hg => by
    rcases g3 with e | e | ⟨g', e, hge⟩
    · rw [e] at hg; cases hg
    · exact .inl (by rw [← e]; exact hg)
    · rw [e] at hg; cases hg; exact .inr hge
  refine ⟨(x.1, a', c', x.2), rfl, ⟨?_, ?_, ?_⟩, by rw [List.length_set]; exact h.len, ?_, ?_⟩
  · rw [flatV_set rs j _ hj]
    exact g1
  · intro i y hy
    by_cases e : j = i
    · subst e
      rw [List.getElem?_set] at hy
      simp at hy
      obtain ⟨_, rfl⟩ := hy
      exact ⟨g2, hx⟩
    · rw [List.getElem?_set_ne e] at hy
      refine ⟨own_fr (h.ok.own i y hy).1 hF (fun k hk => ?_), (h.ok.own i y hy).2⟩
      rintro (rfl | hX)
      · exact own_ne (h.ok.own i y hy).1 h.ok.block hk.symm
      · exact h.ok.apart i j y r (Ne.symm e) hy hr k hk hX.symm
  · intro i k yi yk hik hyi hyk g hgi hgk
    have old : ∀ y (l : Nat), l ≠ j → rs[l]? = some y → (vrS y).ownBlock = some g → (Value.slice a' x.2.length c').ownBlock = some g → False := fun y l hl hy hg hn => by
      rcases hnew g hn with e | e
      · exact h.ok.apart l j y r hl hy hr g hg e
      · have := h.ok.row_lt ⟨l, y, hy, hg⟩
        omega
    by_cases e1 : j = i
    · subst e1
      rw [List.getElem?_set] at hyi
      simp at hyi
      obtain ⟨_, rfl⟩ := hyi
      rw [List.getElem?_set_ne hik] at hyk
      exact old yk k (Ne.symm hik) hyk hgk hgi
    · rw [List.getElem?_set_ne e1] at hyi
      by_cases e2 : j = k
      · subst e2
        rw [List.getElem?_set] at hyk
        simp at hyk
        obtain ⟨_, rfl⟩ := hyk
        exact old yi i hik hyi hgi hgk
      · rw [List.getElem?_set_ne e2] at hyk
        exact h.ok.apart i k yi yk hik hyi hyk g hgi hgk
  · intro g hg
    rcases rowOf_set hg with e | e
    · rcases hnew g e with e | e
      · exact h.src g ⟨j, r, hr, e⟩
      · exact .inr (Nat.le_trans h.fr.size e)
    · exact h.src g e
  · refine Fr.trans h.fr hF (fun k hk hX => ?_)
    rcases hX with e | e
    · exact .inl e
    · rcases h.src k ⟨j, r, hr, e.symm⟩ with e | e
      · exact .inr e
      · omega

/-- What lies in the range stays as it was, where neither A nor a row lies in it. -/
theorem EntStep.source {w0 w : World} {A : Nat} {rs0 rs : List Vr} (h : EntStep w0 w A rs0 rs) {lo hi : Nat} (hA : A < lo ∨ hi ≤ A) (hv : ∀ g, RowOf rs0 g → g < lo ∨ hi ≤ g) (hhi : hi ≤ w0.heap.size) : SameIn lo hi w0 w := by
  intro k h1 h2
  refine h.fr.block k (by omega) ?_
  rintro (e | e)
  · omega
  · have := hv k e
    omega

/-- The sets before place k have taken theirs, the others are as they were. -/
def Dat (k : Nat) (rs0 vs rs : List Vr) : Prop := ∀ (j : Nat) (r r0 : Vr), rs[j]? = some r → rs0[j]? = some r0 → datV r = if j < k then addA (datV r0) (bAt vs j) else datV r0
theorem Dat.refl (rs vs : List Vr) : Dat 0 rs vs rs := fun j r r0 h h0 => by
  rw [h] at h0
  cases h0
  rfl
theorem Dat.step {k : Nat} {rs0 vs rs : List Vr} {r r' x : Vr} (h : Dat k rs0 vs rs) (hr : rs[k]? = some r) (hx : vs[k]? = some x) (hl : rs.length = rs0.length) (hr' : datV r' = addA (datV r) (datV x)) : Dat (k + 1) rs0 vs (rs.set k r') := by
  intro j y y0 hy hy0
  by_cases e : k = j
  · subst e
    rw [List.getElem?_set] at hy
    simp at hy
    obtain ⟨_, rfl⟩ := hy
    rw [if_pos (by omega), hr', h k r y0 hr hy0, if_neg (by omega)]
    unfold bAt
    rw [hx]
  · rw [List.getElem?_set_ne e] at hy
    rw [h j y y0 hy hy0]
    by_cases hjk : j < k
    · rw [if_pos hjk, if_pos (by omega)]
    · rw [if_neg hjk, if_neg (by omega)]
theorem Dat.all {rs0 vs rs : List Vr} (h : Dat vs.length rs0 vs rs) : ∀ (j : Nat) (r r0 : Vr), rs[j]? = some r → rs0[j]? = some r0 → datV r = addA (datV r0) (bAt vs j) := fun j r r0 hr h0 => by
  rw [h j r r0 hr h0]
  by_cases hj : j < vs.length
  · rw [if_pos hj]
  · rw [if_neg hj]
    unfold bAt
    rw [List.getElem?_eq_none (by omega)]
    rfl

theorem addA_le {r x : Bool × List Tm} (h : r.2.length ≤ 16) : (addA r x).2.length ≤ 16 := by
  unfold addA
  split
  · simp
  · exact addL_le _ _ h
end Go.Proofs.Qxb6604483a
