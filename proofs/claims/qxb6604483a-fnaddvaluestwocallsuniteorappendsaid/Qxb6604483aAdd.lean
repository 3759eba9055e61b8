import Derived.Test.Qxb6604483aHas
import Derived.Test.Qxb6604483aTo
import Derived.Test.Qxb6604483aVals
import Derived.Deep.AppendLies
import Derived.Deep.RegionLaw
import Derived.Deep.RegionHeld3
namespace Go.Proofs.Qxb6604483a
open Go.RowKit
set_option linter.unusedSimpArgs false
set_option linter.unusedVariables false

/-- What 'add' does to a set, and whether it grew. -/
def addS (any : Bool) (ts : List Tm) (t : Tm) : (Bool × List Tm) × Bool :=
  if any = true ∨ hasB ts t = true then ((any, ts), false) else if ts.length = 16 then ((true, []), true) else ((false, ts ++ [t]), true)

/-- The world w' is w but for block A, for the row 'row', and for new blocks. -/
structure Mod (A : Nat) (row : Option Nat) (w w' : World) : Prop where
  os : w'.os = w.os
  tape : w'.tape = w.tape
  output : w'.output = w.output
  size : w.heap.size ≤ w'.heap.size
  block : ∀ k, k < w.heap.size → k ≠ A → some k ≠ row → w'.heap[k]? = w.heap[k]?
theorem Mod.of_below {A : Nat} {row : Option Nat} {w w' : World} (h : Below w.heap.size w w') : Mod A row w w' := ⟨h.os, h.tape, h.output, h.size, fun k hk _ _ => h.block k hk⟩
theorem Mod.of_grown {A : Nat} {row : Option Nat} {w w' : World} (h : w.grownBy w' row) : Mod A row w w' := ⟨h.os, h.tape, h.output, h.size, fun k hk _ hr => h.block k hk hr⟩
theorem Mod.of_touch {A : Nat} {row : Option Nat} {w w' : World} (h : Touch A w w') : Mod A row w w' := ⟨h.os, h.tape, h.output, Nat.le_of_eq h.size.symm, fun k _ ha _ => h.block k ha⟩
theorem Mod.trans {A : Nat} {row : Option Nat} {a b c : World} (h : Mod A row a b) (k : Mod A row b c) : Mod A row a c :=
  ⟨k.os.trans h.os, k.tape.trans h.tape, k.output.trans h.output, Nat.le_trans h.size k.size, fun i hi h1 h2 => (k.block i (Nat.lt_of_lt_of_le hi h.size) h1 h2).trans (h.block i hi h1 h2)⟩

/-- Behind 'add' and its like: the set at place o of block A holds (any, ts); its terms lie in the old row or in a new one. -/
def SetAt (w w' : World) (A o : Nat) (cs : List Value) (v : Value) (r : Bool × List Tm) : Prop :=
  ∃ v', w'.heap[A]? = some (.cells ((cs.set o (.bool r.1)).set (o + 1) v').toArray 63 (0, 0)) ∧ w'.ownsRow 0 86 3 v' r.2.length (flatT r.2) ∧
    (v'.ownBlock = none ∨ v'.ownBlock = v.ownBlock ∨ ∃ g, v'.ownBlock = some g ∧ w.heap.size ≤ g) ∧ Mod A v.ownBlock w w'

/-- A block's cell. -/
theorem at_cell {w : World} {A : Nat} {cs : List Value} {e : TypeId} (h : w.heap[A]? = some (.cells cs.toArray e (0, 0))) {i : Nat} {u : Value} (hi : cs[i]? = some u) : w.cell? ⟨A, i, none⟩ = some u := by
  simp only [World.cell?, h]
  simpa using hi

theorem set_same (cs : List Value) (o : Nat) (u v : Value) (h0 : cs[o]? = some u) (h1 : cs[o + 1]? = some v) : (cs.set o u).set (o + 1) v = cs := by
  have e : ∀ (l : List Value) (i : Nat) (x : Value), l[i]? = some x → l.set i x = l := by
    intro l i x h
    obtain ⟨hi, rfl⟩ := List.getElem?_eq_some_iff.1 h
    exact List.set_getElem_self hi
  rw [e cs o u h0, e cs (o + 1) v h1]

theorem SetAt.same {w w' : World} {A o : Nat} {cs : List Value} {v : Value} {any : Bool} {ts : List Tm} (hA : w.heap[A]? = some (.cells cs.toArray 63 (0, 0))) (h0 : cs[o]? = some (.bool any)) (h1 : cs[o + 1]? = some v)
    (hown : w.ownsRow 0 86 3 v ts.length (flatT ts)) (hb : Below w.heap.size w w') : SetAt w w' A o cs v (any, ts) := by
  have hlt : A < w.heap.size := (Array.getElem?_eq_some_iff.1 hA).1
  refine ⟨v, ?_, ?_, .inr (.inl rfl), Mod.of_below hb⟩
  · rw [set_same cs o _ _ h0 h1, hb.block A hlt]
    exact hA
  · exact hown.kept (w' := w') (row := none) ⟨hb.os, hb.tape, hb.output, hb.size, fun k hk _ => hb.block k hk⟩ (by cases hv : v.ownBlock <;> simp)

set_option maxHeartbeats 1000000 in
theorem add_any (A o : Nat) (cs : List Value) (v : Value) (ts : List Tm) (t : Tm) (w : World) (hA : w.heap[A]? = some (.cells cs.toArray 63 (0, 0))) (h0 : cs[o]? = some (.bool true)) (h1 : cs[o + 1]? = some v)
    (hown : w.ownsRow 0 86 3 v ts.length (flatT ts)) :
    Calls Try.prog 61 #[.pointer (some ⟨A, o, none⟩), tmV t] w fun e w' => e = .returned (.bool false) ∧ SetAt w w' A o cs v (true, ts) := by
  have S := fun w' => SetAt.same (w' := w') hA h0 h1 hown
  obtain ⟨a, c, hv⟩ : ∃ a c, v = .slice a ts.length c := by
    rcases hown.2 with ⟨h, h'⟩ | ⟨g, cap, cur, h, _⟩
    · exact ⟨_, _, by rw [h, h']⟩
    · exact ⟨_, _, h⟩
  have c0 := at_cell hA h0
  have c1 := at_cell hA h1
  rw [hv] at c1
  have hlt : A < w.heap.size := (Array.getElem?_eq_some_iff.1 hA).1
  clear hA h0 h1 hown hv
  unfold tmV
  have HS : Hid (∀ w', Below w.heap.size w w' → SetAt w w' A o cs v (true, ts)) := S
  clear S
  go_enter Try.func61, Try.ntmps61
  go_wp2_with fail
  go_region_with (go_at_call 65; refine (has_any _ _ _ t _).mono ?_; rintro e w2 ⟨rfl, hb2⟩)
  all_goals
    have b2 : Below w.heap.size w w2 := btd (balloc _ _) hb2 (by simp)
    go_wp2_with fail
    go_ret
    exact ⟨rfl, HS.out _ b2⟩

/-- An owned row of terms is a slice of terms. -/
theorem own_tsIn {w : World} {a : Option Addr} {c n : Nat} {ts : List Tm} (h : w.ownsRow 0 86 3 (.slice a n c) n (flatT ts)) (hn : ts.length = n) : TsIn 0 w.heap.size w a n ts where
  len_eq := hn
  isAt := fun hp => by
    rcases h.2 with ⟨_, h0⟩ | ⟨g, cap, cur, hv, _, hg, _, _, _, ht⟩
    · omega
    · have hlt : g < w.heap.size := (Array.getElem?_eq_some_iff.1 hg).1
      simp only [Value.slice.injEq] at hv
      refine ⟨g, 0, hv.1, Nat.zero_le _, hlt, fun i t hi => ?_⟩
      have k : ∀ (j : Nat) (u : Value), (flatT ts)[j]? = some u → w.cell? ⟨g, 0 + j, none⟩ = some u := fun j u hj => by
        rw [Nat.zero_add]
        simp only [World.cell?, hg]
        rw [← ht] at hj
        rw [List.getElem?_take] at hj
        split at hj
        · simpa using hj
        · cases hj
      obtain ⟨q0, q1, q2⟩ := flatT_get ts i t hi
      exact ⟨k _ _ q0, k _ _ q1, k _ _ q2⟩

theorem own_shape {w : World} {v : Value} {ts : List Tm} (h : w.ownsRow 0 86 3 v ts.length (flatT ts)) : ∃ a c, v = .slice a ts.length c := by
  rcases h.2 with ⟨h, h'⟩ | ⟨g, cap, cur, h, _⟩
  · exact ⟨_, _, by rw [h, h']⟩
  · exact ⟨_, _, h⟩

set_option maxHeartbeats 1000000 in
theorem add_hit (A o : Nat) (cs : List Value) (v : Value) (ts : List Tm) (t : Tm) (w : World) (hA : w.heap[A]? = some (.cells cs.toArray 63 (0, 0))) (h0 : cs[o]? = some (.bool false)) (h1 : cs[o + 1]? = some v)
    (hown : w.ownsRow 0 86 3 v ts.length (flatT ts)) (hl : ts.length ≤ 16) (hh : hasB ts t = true) :
    Calls Try.prog 61 #[.pointer (some ⟨A, o, none⟩), tmV t] w fun e w' => e = .returned (.bool false) ∧ SetAt w w' A o cs v (false, ts) := by
  have S := fun w' => SetAt.same (w' := w') hA h0 h1 hown
  obtain ⟨a, c, hv⟩ := own_shape hown
  rw [hv] at hown
  have hT := own_tsIn hown rfl
  have c0 := at_cell hA h0
  have c1 := at_cell hA h1
  rw [hv] at c1
  have hlt : A < w.heap.size := (Array.getElem?_eq_some_iff.1 hA).1
  clear hA h0 h1 hown hv
  have HS : Hid ((∀ w', Below w.heap.size w w' → SetAt w w' A o cs v (false, ts)) ∧ hasB ts t = true) := ⟨S, hh⟩
  clear S hh
  unfold tmV
  have hT2 : TsIn 0 w.heap.size (w.alloc (.cells #[.int .u8 t.1, .int .i32 t.2.1, .string t.2.2] 86)) a ts.length ts := hT.below (balloc _ _) (Nat.le_refl _)
  go_enter Try.func61, Try.ntmps61
  go_wp2_with fail
  go_region_with (go_at_call 65; refine (has_terms 0 w.heap.size a ts.length c ts t (w.alloc (.cells #[.int .u8 t.1, .int .i32 t.2.1, .string t.2.2] 86)).drew (by simp) hT2.drew (by omega)).mono ?_; rintro e w2 ⟨rfl, hb2⟩; rw [HS.out.2])
  all_goals
    have b2 : Below w.heap.size w w2 := btd (balloc _ _) hb2 (by simp)
    go_wp2_with fail
    go_ret
    exact ⟨rfl, HS.out.1 _ b2⟩

/-- 'add' at sixteen terms: every term. -/
theorem SetAt.full {w w2 : World} {A o : Nat} {cs : List Value} {v : Value} {ts : List Tm} (hA : w.heap[A]? = some (.cells cs.toArray 63 (0, 0))) (hb : Below w.heap.size w w2) :
    SetAt w ((w2.setCell ⟨A, o, none⟩ (.bool true)).setCell ⟨A, o + 1, none⟩ (.slice none 0 0)) A o cs v (true, []) := by
  have hlt : A < w.heap.size := (Array.getElem?_eq_some_iff.1 hA).1
  have h2 : w2.heap[A]? = some (.cells cs.toArray 63 (0, 0)) := by rw [hb.block A hlt]; exact hA
  refine ⟨.slice none 0 0, ?_, World.ownsRow_nil _ _ _ _, .inl rfl, (Mod.of_below hb).trans (Mod.of_touch (touch_put2 _ _ _ _ _))⟩
  have e1 : (w2.setCell ⟨A, o, none⟩ (.bool true)).heap[A]? = some (.cells (cs.set o (.bool true)).toArray 63 (0, 0)) := by
    rw [setCell_eq_setRow w2 A o _ _ _ _ h2, setRow_heap w2 A _ _ _ _ h2]
    simp
  rw [setCell_eq_setRow _ A (o + 1) _ _ _ _ e1, setRow_heap _ A _ _ _ _ e1]
  simp

set_option maxHeartbeats 1000000 in
theorem add_full (A o : Nat) (cs : List Value) (v : Value) (ts : List Tm) (t : Tm) (w : World) (hA : w.heap[A]? = some (.cells cs.toArray 63 (0, 0))) (h0 : cs[o]? = some (.bool false)) (h1 : cs[o + 1]? = some v)
    (hown : w.ownsRow 0 86 3 v ts.length (flatT ts)) (hl : ts.length = 16) (hh : hasB ts t = false) :
    Calls Try.prog 61 #[.pointer (some ⟨A, o, none⟩), tmV t] w fun e w' => e = .returned (.bool true) ∧ SetAt w w' A o cs v (true, []) := by
  have S := fun w2 => SetAt.full (w2 := w2) (o := o) (v := v) (ts := ts) hA
  obtain ⟨a, c, hv⟩ := own_shape hown
  rw [hv] at hown
  have hT := own_tsIn hown rfl
  have c0 := at_cell hA h0
  have c1 := at_cell hA h1
  rw [hv] at c1
  have hlt : A < w.heap.size := (Array.getElem?_eq_some_iff.1 hA).1
  have f0 := frozen_of_row w A o _ _ hA
  have f1 := frozen_of_row w A (o + 1) _ _ hA
  clear hA h0 h1 hown hv
  have HS : Hid ((∀ w2, Below w.heap.size w w2 → SetAt w ((w2.setCell ⟨A, o, none⟩ (.bool true)).setCell ⟨A, o + 1, none⟩ (.slice none 0 0)) A o cs v (true, [])) ∧ hasB ts t = false) := ⟨S, hh⟩
  clear S hh
  unfold tmV
  have hT2 : TsIn 0 w.heap.size (w.alloc (.cells #[.int .u8 t.1, .int .i32 t.2.1, .string t.2.2] 86)) a ts.length ts := hT.below (balloc _ _) (Nat.le_refl _)
  rw [hl] at c1 hT2
  go_enter Try.func61, Try.ntmps61
  go_wp2_with fail
  go_region_with (go_at_call 65; refine (has_terms 0 w.heap.size a 16 c ts t (w.alloc (.cells #[.int .u8 t.1, .int .i32 t.2.1, .string t.2.2] 86)).drew (by simp) hT2.drew (by omega)).mono ?_; rintro e w2 ⟨rfl, hb2⟩; rw [HS.out.2])
  all_goals
    have b2 : Below w.heap.size w w2 := btd (balloc _ _) hb2 (by simp)
    have c0' : w2.cell? ⟨A, o, none⟩ = some (.bool false) := by rw [b2.cell hlt]; exact c0
    have c1' : w2.cell? ⟨A, o + 1, none⟩ = some (.slice a 16 c) := by rw [b2.cell hlt]; exact c1
    have f0' : w2.frozen? ⟨A, o, none⟩ = false := by rw [b2.frozen hlt]; exact f0
    have f1' : w2.frozen? ⟨A, o + 1, none⟩ = false := by rw [b2.frozen hlt]; exact f1
    clear c0 c1 f0 f1
    go_wp2_with fail
    go_ret
    exact ⟨rfl, HS.out.1 _ b2⟩
end Go.Proofs.Qxb6604483a
