import Derived.Test.Qxb6603645aRows
import Derived.Test.Qxb6603645aOrd
import Derived.WalkKit
import Derived.WalkSpells
import Derived.WalkLawsBesides
import Derived.Deep.AppendSrc
import Derived.Laws.CopyOwn
import Derived.Below
import Derived.Lib.Strings
namespace Go.Proofs.Qxb6603645a
open Go.RowKit
set_option linter.unusedSimpArgs false
set_option linter.unusedVariables false

theorem bt {B C : Nat} {a b c : World} (h : Below B a b) (k : Below C b c) (hC : B ≤ C) : Below B a c := h.trans (k.mono hC)
theorem balloc (w : World) (o : Obj) : Below w.heap.size w (w.alloc o) := (Below.refl _ _).alloc (Nat.le_refl _) o

/-- The world w' is w but for what block g holds. -/
structure Touch (g : Nat) (w w' : World) : Prop where
  os : w'.os = w.os
  tape : w'.tape = w.tape
  output : w'.output = w.output
  size : w'.heap.size = w.heap.size
  block : ∀ k, k ≠ g → w'.heap[k]? = w.heap[k]?
theorem Touch.trans {g : Nat} {a b c : World} (h : Touch g a b) (k : Touch g b c) : Touch g a c :=
  ⟨k.os.trans h.os, k.tape.trans h.tape, k.output.trans h.output, k.size.trans h.size, fun i hi => (k.block i hi).trans (h.block i hi)⟩
theorem Touch.setCell (w : World) (g i : Nat) (v : Value) : Touch g w (w.setCell ⟨g, i, none⟩ v) :=
  ⟨rfl, rfl, rfl, by simp [World.setCell], fun k hk => Below.heap_setCell _ _ _ _ (by simpa using hk)⟩

/-- The world w' is w but for the block g, and for new ones. -/
structure Fr (g : Nat) (w w' : World) : Prop where
  os : w'.os = w.os
  tape : w'.tape = w.tape
  output : w'.output = w.output
  size : w.heap.size ≤ w'.heap.size
  block : ∀ k, k < w.heap.size → k ≠ g → w'.heap[k]? = w.heap[k]?
theorem Fr.refl (g : Nat) (w : World) : Fr g w w := ⟨rfl, rfl, rfl, Nat.le_refl _, fun _ _ _ => rfl⟩
theorem Fr.of_below {g : Nat} {w w' : World} (h : Below w.heap.size w w') : Fr g w w' := ⟨h.os, h.tape, h.output, h.size, fun k hk _ => h.block k hk⟩
theorem Fr.of_touch {g : Nat} {w w' : World} (h : Touch g w w') : Fr g w w' := ⟨h.os, h.tape, h.output, Nat.le_of_eq h.size.symm, fun k _ ha => h.block k ha⟩
theorem Fr.drew {g : Nat} {a w : World} (h : Fr g a w) : Fr g a w.drew := ⟨h.os, h.tape, h.output, h.size, h.block⟩
theorem Fr.trans {g : Nat} {a b c : World} (h : Fr g a b) (k : Fr g b c) : Fr g a c :=
  ⟨k.os.trans h.os, k.tape.trans h.tape, k.output.trans h.output, Nat.le_trans h.size k.size, fun i hi hx => (k.block i (Nat.lt_of_lt_of_le hi h.size) hx).trans (h.block i hi hx)⟩
theorem Fr.toBelow {g B : Nat} {w w' : World} (h : Fr g w w') (hg : B ≤ g) (hB : B ≤ w.heap.size) : Below B w w' := ⟨h.os, h.tape, h.output, h.size, fun k hk => h.block k (by omega) (by omega)⟩

/-! ### Members in a row -/
def mbC (m : Mb) : List Value := [.string m.1, .string m.2]
def mbV (m : Mb) : Value := .agg #[.string m.1, .string m.2]
def flatM (ms : List Mb) : List Value := ms.flatMap mbC
theorem flatM_length : ∀ ms : List Mb, (flatM ms).length = ms.length * 2
  | [] => rfl
  | t :: ms => by
    have := flatM_length ms
    simp only [flatM, List.flatMap_cons, List.length_append, List.length_cons] at this ⊢
    rw [this]
    simp [mbC]
    omega
theorem flatM_append (a b : List Mb) : flatM (a ++ b) = flatM a ++ flatM b := by simp [flatM]
theorem flatM_cons (u : Mb) (l : List Mb) : flatM (u :: l) = mbC u ++ flatM l := by simp [flatM]
theorem flatM_get : ∀ (ms : List Mb) (i : Nat) (t : Mb), ms[i]? = some t → (flatM ms)[i * 2]? = some (.string t.1) ∧ (flatM ms)[i * 2 + 1]? = some (.string t.2)
  | [], i, t, h => by simp at h
  | u :: ms, 0, t, h => by
    simp at h
    subst h
    simp [flatM, mbC]
  | u :: ms, i + 1, t, h => by
    have := flatM_get ms i t (by simpa using h)
    have l : (mbC u).length = 2 := rfl
    rw [flatM_cons]
    refine ⟨?_, ?_⟩
    · rw [List.getElem?_append_right (by omega), l, show (i + 1) * 2 - 2 = i * 2 by omega]; exact this.1
    · rw [List.getElem?_append_right (by omega), l, show (i + 1) * 2 + 1 - 2 = i * 2 + 1 by omega]; exact this.2
theorem flatM_set : ∀ (ms : List Mb) (j : Nat) (r : Mb), j < ms.length → flatM (ms.set j r) = ((flatM ms).set (j * 2) (.string r.1)).set (j * 2 + 1) (.string r.2)
  | [], j, r, h => by simp at h
  | u :: ms, 0, r, h => by simp [flatM, mbC]
  | u :: ms, j + 1, r, h => by
    have := flatM_set ms j r (by simpa using h)
    have l2 : (mbC u).length = 2 := rfl
    rw [List.set_cons_succ, flatM_cons, flatM_cons, this, List.set_append_right _ _ (by omega), List.set_append_right _ _ (by omega), l2, show (j + 1) * 2 - 2 = j * 2 by omega, show (j + 1) * 2 + 1 - 2 = j * 2 + 1 by omega]

/-- The row of members in block g. -/
def Held (w : World) (g : Nat) (ms : List Mb) : Prop := ∃ rest : List Value, w.heap[g]? = some (.cells (flatM ms ++ rest).toArray 62 (0, 0))
theorem Held.lt {w : World} {g : Nat} {ms : List Mb} (h : Held w g ms) : g < w.heap.size := by
  obtain ⟨r, h⟩ := h
  exact (Array.getElem?_eq_some_iff.1 h).1
theorem Held.of {w w' : World} {g : Nat} {ms : List Mb} (h : Held w g ms) (hb : w'.heap[g]? = w.heap[g]?) : Held w' g ms := by
  obtain ⟨r, h⟩ := h
  exact ⟨r, hb.trans h⟩
theorem Held.below {w w' : World} {g : Nat} {ms : List Mb} (h : Held w g ms) (hb : Below w.heap.size w w') : Held w' g ms := h.of (hb.block g h.lt)
theorem Held.drew {w : World} {g : Nat} {ms : List Mb} (h : Held w g ms) : Held w.drew g ms := h
theorem Held.free {w : World} {g : Nat} {ms : List Mb} (h : Held w g ms) (i : Nat) : w.frozen? ⟨g, i, none⟩ = false := by
  obtain ⟨r, h⟩ := h
  exact frozen_of_row w g i _ _ h
theorem Held.cell {w : World} {g : Nat} {ms : List Mb} (h : Held w g ms) {i : Nat} {m : Mb} (hi : ms[i]? = some m) : w.cell? ⟨g, i * 2, none⟩ = some (.string m.1) ∧ w.cell? ⟨g, i * 2 + 1, none⟩ = some (.string m.2) := by
  obtain ⟨r, h⟩ := h
  obtain ⟨g0, g1⟩ := flatM_get ms i m hi
  have h0 := (List.getElem?_eq_some_iff.1 g0).1
  have h1 := (List.getElem?_eq_some_iff.1 g1).1
  simp only [World.cell?, h]
  simp [List.getElem?_append_left h0, List.getElem?_append_left h1, g0, g1]
theorem Held.put {w : World} {g : Nat} {ms : List Mb} (h : Held w g ms) {i : Nat} (hi : i < ms.length) (m : Mb) : Held ((w.setCell ⟨g, i * 2, none⟩ (.string m.1)).setCell ⟨g, i * 2 + 1, none⟩ (.string m.2)) g (ms.set i m) := by
  obtain ⟨r, h⟩ := h
  have hl := flatM_length ms
  refine ⟨r, ?_⟩
  have h1 : (w.setCell ⟨g, i * 2, none⟩ (.string m.1)).heap[g]? = some (.cells ((flatM ms ++ r).set (i * 2) (.string m.1)).toArray 62 (0, 0)) := by
    rw [setCell_eq_setRow w g (i * 2) _ _ _ _ h, setRow_heap w g _ _ _ _ h]
    simp
  rw [setCell_eq_setRow _ g (i * 2 + 1) _ _ _ _ h1, setRow_heap _ g _ _ _ _ h1, flatM_set ms i m hi]
  rw [List.set_append_left _ _ (by omega)]
  simp only [List.setIfInBounds_toArray]
  rw [List.set_append_left _ _ (by simp; omega)]
theorem touch_put2 (w : World) (g o : Nat) (a b : Value) : Touch g w ((w.setCell ⟨g, o, none⟩ a).setCell ⟨g, o + 1, none⟩ b) :=
  (Touch.setCell w g o a).trans (Touch.setCell _ g _ b)

/-- The swap of two members in the row. -/
theorem Held.swap {w : World} {g : Nat} {ms : List Mb} (h : Held w g ms) {i j : Nat} {x y : Mb} (hi : ms[i]? = some x) (hj : ms[j]? = some y) :
    Held ((((w.setCell ⟨g, i * 2, none⟩ (.string y.1)).setCell ⟨g, i * 2 + 1, none⟩ (.string y.2)).setCell ⟨g, j * 2, none⟩ (.string x.1)).setCell ⟨g, j * 2 + 1, none⟩ (.string x.2)) g ((ms.set i y).set j x) ∧
      Fr g w ((((w.setCell ⟨g, i * 2, none⟩ (.string y.1)).setCell ⟨g, i * 2 + 1, none⟩ (.string y.2)).setCell ⟨g, j * 2, none⟩ (.string x.1)).setCell ⟨g, j * 2 + 1, none⟩ (.string x.2)) := by
  have h1 := (List.getElem?_eq_some_iff.1 hi).1
  have h2 := (List.getElem?_eq_some_iff.1 hj).1
  exact ⟨(h.put h1 y).put (by simpa using h2) x, Fr.of_touch ((touch_put2 w g _ _ _).trans (touch_put2 _ g _ _ _))⟩

theorem swap_list (S T Z : List Mb) (x y : Mb) : ((S ++ x :: (T ++ y :: Z)).set S.length y).set (S.length + 1 + T.length) x = S ++ y :: (T ++ x :: Z) := by
  rw [List.set_append_right _ _ (Nat.le_refl _), Nat.sub_self, List.set_cons_zero, List.set_append_right _ _ (by omega)]
  rw [show S.length + 1 + T.length - S.length = T.length + 1 by omega, List.set_cons_succ, List.set_append_right _ _ (Nat.le_refl _), Nat.sub_self, List.set_cons_zero]
theorem get_mid (P Q : List Mb) (x : Mb) : (P ++ x :: Q)[P.length]? = some x := by simp
end Go.Proofs.Qxb6603645a
