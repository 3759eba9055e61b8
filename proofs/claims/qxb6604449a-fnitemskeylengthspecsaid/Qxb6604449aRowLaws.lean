import Derived.Test.Qxb6604449aRows
import Derived.WalkKit
import Derived.WalkSpells
import Derived.WalkLawsBesides
import Derived.Deep.AppendSrc
import Derived.Laws.CopyOwn
import Derived.Below
namespace Go.Proofs.Qxb6604449a
open Go.RowKit
set_option linter.unusedSimpArgs false
set_option linter.unusedVariables false

/-- The world w' is w but for what block g holds. -/
structure Touch (g : Nat) (w w' : World) : Prop where
  os : w'.os = w.os
  tape : w'.tape = w.tape
  output : w'.output = w.output
  size : w'.heap.size = w.heap.size
  block : ∀ k, k ≠ g → w'.heap[k]? = w.heap[k]?

theorem Touch.refl (g : Nat) (w : World) : Touch g w w := ⟨rfl, rfl, rfl, rfl, fun _ _ => rfl⟩
theorem Touch.trans {g : Nat} {a b c : World} (h : Touch g a b) (k : Touch g b c) : Touch g a c :=
  ⟨k.os.trans h.os, k.tape.trans h.tape, k.output.trans h.output, k.size.trans h.size, fun i hi => (k.block i hi).trans (h.block i hi)⟩
theorem Touch.below {g B : Nat} {w w' : World} (h : Touch g w w') (hB : B ≤ g) : Below B w w' :=
  ⟨h.os, h.tape, h.output, Nat.le_of_eq h.size.symm, fun k hk => h.block k (by omega)⟩
theorem Touch.setCell (w : World) (g i : Nat) (v : Value) : Touch g w (w.setCell ⟨g, i, none⟩ v) :=
  ⟨rfl, rfl, rfl, by simp [World.setCell], fun k hk => Below.heap_setCell _ _ _ _ (by simpa using hk)⟩
theorem Touch.setCells (g : Nat) : ∀ (vs : List Value) (o : Nat) (w : World), Touch g w (w.setCells g o vs)
  | [], _, w => Touch.refl g w
  | v :: r, o, w => (Touch.setCell w g o v).trans (Touch.setCells g r (o + 1) _)
theorem Touch.setRow (w : World) (g : Nat) (cs : Array Value) : Touch g w (w.setRow g cs) :=
  ⟨rfl, rfl, rfl, by simp, fun k hk => setRow_other w g k cs hk⟩

/-- Block g is a row of 'cap' cells, not frozen, whose first cells are xs. -/
def Row (w : World) (g : Nat) (e : TypeId) (cap : Nat) (xs : List Value) : Prop :=
  ∃ rest : List Value, w.heap[g]? = some (.cells (xs ++ rest).toArray e (0, 0)) ∧ (xs ++ rest).length = cap

theorem Row.lt {w : World} {g : Nat} {e : TypeId} {cap : Nat} {xs : List Value} (h : Row w g e cap xs) : g < w.heap.size := by
  obtain ⟨r, h, _⟩ := h
  exact (Array.getElem?_eq_some_iff.1 h).1
theorem Row.fits {w : World} {g : Nat} {e : TypeId} {cap : Nat} {xs : List Value} (h : Row w g e cap xs) : xs.length ≤ cap := by
  obtain ⟨r, _, h⟩ := h
  simp at h
  omega
theorem Row.of_block {w w' : World} {g : Nat} {e : TypeId} {cap : Nat} {xs : List Value} (h : Row w g e cap xs) (hb : w'.heap[g]? = w.heap[g]?) : Row w' g e cap xs := by
  obtain ⟨r, h1, h2⟩ := h
  exact ⟨r, hb.trans h1, h2⟩
theorem Row.below {w w' : World} {g B : Nat} {e : TypeId} {cap : Nat} {xs : List Value} (h : Row w g e cap xs) (hb : Below B w w') (hg : g < B) : Row w' g e cap xs := h.of_block (hb.block g hg)
theorem Row.touch {w w' : World} {g k : Nat} {e : TypeId} {cap : Nat} {xs : List Value} (h : Row w g e cap xs) (hb : Touch k w w') (hg : g ≠ k) : Row w' g e cap xs := h.of_block (hb.block g hg)
theorem Row.cell {w : World} {g : Nat} {e : TypeId} {cap : Nat} {xs : List Value} (h : Row w g e cap xs) (j : Nat) (u : Value) (hj : xs[j]? = some u) : w.cell? ⟨g, j, none⟩ = some u := by
  obtain ⟨r, h1, h2⟩ := h
  have hl : j < xs.length := (List.getElem?_eq_some_iff.1 hj).1
  simp only [World.cell?, h1]
  simp [List.getElem?_append_left hl, hj]

theorem Row.nil {w : World} {g : Nat} {e : TypeId} {cap : Nat} {xs : List Value} (h : Row w g e cap xs) : Row w g e cap [] := by
  obtain ⟨r, h1, h2⟩ := h
  exact ⟨xs ++ r, h1, h2⟩

theorem set_mid {α : Type} (xs r : List α) (v : α) (vs : List α) (h : (v :: vs).length ≤ r.length) : (xs ++ r).set xs.length v = (xs ++ [v]) ++ r.drop 1 := by
  cases r with
  | nil => simp at h
  | cons y r => simp

theorem heap_setCells {e : TypeId} (g : Nat) : ∀ (vs xs r : List Value) (w : World), w.heap[g]? = some (.cells (xs ++ r).toArray e (0, 0)) → vs.length ≤ r.length →
    (w.setCells g xs.length vs).heap[g]? = some (.cells ((xs ++ vs) ++ r.drop vs.length).toArray e (0, 0))
  | [], xs, r, w, h, _ => by simpa [World.setCells] using h
  | v :: vs, xs, r, w, h, hl => by
    have h1 : (w.setCell ⟨g, xs.length, none⟩ v).heap[g]? = some (.cells ((xs ++ [v]) ++ r.drop 1).toArray e (0, 0)) := by
      rw [setCell_eq_setRow w g xs.length _ _ _ v h, setRow_heap w g _ _ _ _ h]
      rw [← set_mid xs r v vs hl]
      simp
    have h2 := heap_setCells g vs (xs ++ [v]) (r.drop 1) _ h1 (by simp at hl ⊢; omega)
    simp only [World.setCells]
    rw [show (xs ++ [v]).length = xs.length + 1 by simp] at h2
    rw [h2]
    simp [List.drop_drop, Nat.add_comm]

theorem Row.cells_some {w : World} {g : Nat} {e : TypeId} {cap : Nat} {xs : List Value} (h : Row w g e cap xs) (i : Nat) (hi : i < cap) : (w.cell? ⟨g, i, none⟩).isSome = true := by
  obtain ⟨r, h1, h2⟩ := h
  simp only [World.cell?, h1]
  rw [List.getElem?_toArray, List.getElem?_eq_getElem (by omega)]
  rfl
theorem Row.free {w : World} {g : Nat} {e : TypeId} {cap : Nat} {xs : List Value} (h : Row w g e cap xs) (i : Nat) : w.frozen? ⟨g, i, none⟩ = false := by
  obtain ⟨r, h1, h2⟩ := h
  exact frozen_of_row w g i _ _ h1

/-- 'make([]T, l, n)'. -/
theorem wpList_make_row {P : Program} (w : World) {ops : Array Oper} {rest : List Oper} {o : Oper} {a : Act} {Q : Exit → Act → World → Prop} (hg : o.guard = none)
    (l c : Operand) (t : TypeId) (hop : o.op = Op.makeSlice t l c) (e : TypeId) (i : TypeInfo) (z : Value) (size : Nat) (h1 : P.underlying t = some (.slice e)) (h2 : P.info? e = some i) (h3 : i.zero = some z)
    (h4 : i.size = size) (kl kc : IntKind) (L C : Int) (ln n : Nat) (hl : a.eval l = .int kl L) (hc : a.eval c = .int kc C) (hL : L = (ln : Int)) (hC : C = (n : Int)) (hle : ln ≤ n) (b2 : i.bytes * n ≤ 281474976710656) (b3 : n ≤ 9223372036854775807)
    (hK : ∀ w', Row w' w.heap.size e (n * size) (madeCells z.cells (n * size)).toList → w'.heap.size = w.heap.size + 1 → Below w.heap.size w w' →
      wpList P ops Q rest (a.put o.dst (.slice (some ⟨w.heap.size, 0, none⟩) ln n)) w') : wpList P ops Q (o :: rest) a w := by
  refine wpList_plain hg fun K hK' => ?_
  subst hL hC
  have hb2 : ((i.bytes : Nat) : Int) * (n : Int) ≤ 281474976710656 := by
    have : ((i.bytes * n : Nat) : Int) ≤ 281474976710656 := by omega
    simpa using this
  have hrun := run_make (P := P) w t e i z h1 h2 h3 kl kc (ln : Int) (n : Int) (by omega) (by omega) hb2 (by omega)
  unfold Oper.wp
  simp [execOp, hop, hl, hc, hrun, Result.andThen]
  refine hK' _ _ (hK _ ⟨[], ?_, ?_⟩ (by simp) ((Below.refl _ _).alloc (Nat.le_refl _) _))
  · rw [h4]
    show (w.heap.push _)[w.heap.size]? = _
    simp
  · simp [size_madeCells]

/-- 'append' WITHIN THE CAPACITY onto a row of the call's own, of whatever source. -/
theorem wpList_append_row {P : Program} (w : World) {ops : Array Oper} {rest : List Oper} {o : Oper} {a : Act} {Q : Exit → Act → World → Prop} (hgd : o.guard = none)
    (s x : Operand) (t tx : TypeId) (hop : o.op = Op.call { callee := Callee.builtin Builtin.append, args := #[s, x], argTypes := #[t, tx] })
    (e : TypeId) (i : TypeInfo) (size : Nat) (h1 : P.underlying t = some (.slice e)) (h2 : P.info? e = some i) (h4 : i.size = size)
    (g k cap : Nat) (xs : List Value) (hs : a.eval s = .slice (some ⟨g, 0, none⟩) k cap) (hrow : Row w g e (cap * size) xs) (hk : xs.length = k * size) (v : Value) (m : Nat) (news : List Value) (hx : a.eval x = v)
    (hsrc : Src P size tx v m news w) (b1 : k + m ≤ cap)
    (hK : ∀ w', Row w' g e (cap * size) (xs ++ news) → Touch g w w' → wpList P ops Q rest (a.put o.dst (.slice (some ⟨g, 0, none⟩) (k + m) cap)) w') : wpList P ops Q (o :: rest) a w := by
  refine wpList_plain hgd fun K hK' => ?_
  subst h4
  have hnl := hsrc.newsLen
  have hm : k * i.size + m * i.size ≤ cap * i.size := by rw [← Nat.add_mul]; exact Nat.mul_le_mul_right _ b1
  have hrun := run_append_room_src (P := P) w t tx o.type e i h1 h2 g 0 k cap v m news hsrc b1 (fun j hj => hrow.cells_some _ (by omega)) (fun j hj => hrow.free _)
  unfold Oper.wp
  simp [execOp, hop, resolve, invoke, builtin, hs, hx, hrun, Result.andThen]
  refine hK' _ _ (hK _ ?_ (Touch.setCells g _ _ _))
  obtain ⟨r, r1, r2⟩ := hrow
  refine ⟨r.drop news.length, ?_, ?_⟩
  · rw [← hk]
    exact heap_setCells g news xs r w r1 (by simp at r2; omega)
  · simp at r2 ⊢
    omega

/-- 'copy(dst, src)', dst a row of the call's own of n one-cell elements, src n elements from whatever slice: all go over. -/
theorem wpList_copy_row {P : Program} (w : World) {ops : Array Oper} {rest : List Oper} {o : Oper} {a : Act} {Q : Exit → Act → World → Prop} (hgd : o.guard = none) (d s : Operand) (dT sT : TypeId)
    (ho : o.op = .call { callee := .builtin .copy, args := #[d, s], argTypes := #[dT, sT] }) (elem : TypeId) (hu : P.underlying dT = some (.slice elem)) (hsz : (P.info? elem).map (·.size) = some 1)
    (g n dCap : Nat) (sp : Option Addr) (sCap : Nat) (hd : a.eval d = .slice (some ⟨g, 0, none⟩) n dCap) (hs : a.eval s = .slice sp n sCap)
    (old cs : List Value) (t : TypeId) (hrow : Row w g t n old) (hn : cs.length = n)
    (hpos : 0 < n → ∃ ad, sp = some ad ∧ ∀ j v, cs[j]? = some v → w.cell? (ad.add j) = some v) (h1 : ∀ v ∈ cs, v.oneCell' = true)
    (h : ∀ w', Row w' g t n cs → Touch g w w' → wpList P ops Q rest (a.put o.dst (goInt n)) w') : wpList P ops Q (o :: rest) a w := by
  subst hn
  obtain ⟨r, r1, r2⟩ := hrow
  by_cases h0 : cs.length = 0
  · obtain rfl : cs = [] := List.eq_nil_of_length_eq_zero h0
    refine wpList_copy_nothing hgd d s dT sT ho elem hu hsz _ _ _ dCap _ sCap hd hs (by simp) ?_
    exact h w ⟨[], by rw [r1]; simp at r2; simp [r2], by simp⟩ (Touch.refl _ _)
  · obtain ⟨ad, rfl, hsrc⟩ := hpos (by omega)
    refine wpList_copy_own hgd d s dT sT ho elem hu hsz g 0 _ dCap ad _ sCap hd hs (old ++ r).toArray t r1 cs (by simp) hsrc (by simp at r2 ⊢; omega) h1 ?_
    refine h _ ⟨[], ?_, by simp⟩ (Touch.setRow _ _ _)
    rw [setRow_heap w g _ _ _ _ r1]
    have : (old ++ r).drop cs.length = [] := List.drop_eq_nil_of_le (by omega)
    simp only [List.take_zero, List.nil_append, Nat.zero_add, this, List.append_nil]
end Go.Proofs.Qxb6604449a
