import Derived.Test.Qxb6604483aMem
namespace Go.Proofs.Qxb6604483a
open Go.RowKit
set_option linter.unusedSimpArgs false
set_option linter.unusedVariables false

/-! ### A slice of sets of terms in memory -/
/-- A set of terms in memory: does it hold every term? where its terms lie, up to what capacity; the terms. -/
abbrev Vr := Bool × Option Addr × Nat × List Tm
/-- What a set of terms says: no memory in it. -/
def datV (x : Vr) : Bool × List Tm := (x.1, x.2.2.2)
/-- Its cells. -/
def vrC (x : Vr) : List Value := [.bool x.1, .slice x.2.1 x.2.2.2.length x.2.2.1]
def flatV (vs : List Vr) : List Value := vs.flatMap vrC

theorem flatV_length : ∀ vs : List Vr, (flatV vs).length = vs.length * 2
  | [] => rfl
  | t :: vs => by
    have := flatV_length vs
    simp only [flatV, List.flatMap_cons, List.length_append, List.length_cons] at this ⊢
    rw [this]
    simp [vrC]
    omega
theorem flatV_append (a b : List Vr) : flatV (a ++ b) = flatV a ++ flatV b := by simp [flatV]
theorem flatV_get : ∀ (vs : List Vr) (i : Nat) (x : Vr), vs[i]? = some x → (flatV vs)[i * 2]? = some (.bool x.1) ∧ (flatV vs)[i * 2 + 1]? = some (.slice x.2.1 x.2.2.2.length x.2.2.1)
  | [], i, t, h => by simp at h
  | u :: vs, 0, t, h => by
    simp at h
    subst h
    simp [flatV, vrC]
  | u :: vs, i + 1, t, h => by
    have := flatV_get vs i t (by simpa using h)
    have e : flatV (u :: vs) = vrC u ++ flatV vs := by simp [flatV]
    have l : (vrC u).length = 2 := rfl
    rw [e]
    refine ⟨?_, ?_⟩
    · rw [List.getElem?_append_right (by omega), l, show (i + 1) * 2 - 2 = i * 2 by omega]; exact this.1
    · rw [List.getElem?_append_right (by omega), l, show (i + 1) * 2 + 1 - 2 = i * 2 + 1 by omega]; exact this.2

structure VsIn (lo hi : Nat) (w : World) (a : Option Addr) (len : Nat) (vs : List Vr) : Prop where
  len_eq : vs.length = len
  isAt : 0 < len → ∃ b o, a = some ⟨b, o, none⟩ ∧ lo ≤ b ∧ b < hi ∧ ∀ i x, vs[i]? = some x →
    w.cell? ⟨b, o + i * 2, none⟩ = some (.bool x.1) ∧ w.cell? ⟨b, o + i * 2 + 1, none⟩ = some (.slice x.2.1 x.2.2.2.length x.2.2.1)
  terms : ∀ (i : Nat) (x : Vr), vs[i]? = some x → TsIn lo hi w x.2.1 x.2.2.2.length x.2.2.2

theorem VsIn.same {lo hi : Nat} {w w' : World} {a : Option Addr} {len : Nat} {vs : List Vr} (h : VsIn lo hi w a len vs) (hs : SameIn lo hi w w') : VsIn lo hi w' a len vs where
  len_eq := h.len_eq
  isAt := fun hp => by
    obtain ⟨b, o, rfl, h1, h2, h3⟩ := h.isAt hp
    refine ⟨b, o, rfl, h1, h2, fun i t ht => ?_⟩
    rw [hs.cell h1 h2, hs.cell h1 h2]
    exact h3 i t ht
  terms := fun i x hx => (h.terms i x hx).same hs
theorem VsIn.below {lo hi B : Nat} {w w' : World} {a : Option Addr} {len : Nat} {vs : List Vr} (h : VsIn lo hi w a len vs) (hb : Below B w w') (hB : hi ≤ B) : VsIn lo hi w' a len vs := h.same (sameIn_below hb hB)
theorem VsIn.nil (lo hi : Nat) (w : World) (a : Option Addr) : VsIn lo hi w a 0 [] where
  len_eq := rfl
  isAt := fun h => absurd h (Nat.not_lt_zero _)
  terms := fun i x h => by simp at h
theorem TsIn.drew {lo hi : Nat} {w : World} {a : Option Addr} {len : Nat} {ts : List Tm} (h : TsIn lo hi w a len ts) : TsIn lo hi w.drew a len ts := ⟨h.len_eq, h.isAt⟩
end Go.Proofs.Qxb6604483a
