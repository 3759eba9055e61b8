import Derived.Test.Qxb6604483aRows
import Derived.WalkKit
import Derived.WalkSpells
import Derived.WalkLawsBesides
import Derived.Deep.AppendSrc
import Derived.Laws.CopyOwn
import Derived.Below
import Derived.Lib.Strings
namespace Go.Proofs.Qxb6604483a
open Go.RowKit
set_option linter.unusedSimpArgs false
set_option linter.unusedVariables false

/-! ### Terms as data -/
/-- A term: its kind, its number, its text. -/
abbrev Tm := Int × Int × ByteArray
/-- A term as a value. -/
def tmV (t : Tm) : Value := .agg #[.int .u8 t.1, .int .i32 t.2.1, .string t.2.2]
/-- A term's cells. -/
def tmC (t : Tm) : List Value := [.int .u8 t.1, .int .i32 t.2.1, .string t.2.2]
/-- Are the two one? -/
def sameB (a b : Tm) : Bool := decide (a = b)

theorem toList_inj {a b : ByteArray} (h : a.toList = b.toList) : a = b := by
  rw [Lib.toList_data, Lib.toList_data] at h
  cases a; cases b
  simp at h
  rw [h]

theorem same_ft {k1 k2 n1 n2 : Int} {t1 t2 : ByteArray} (hk : k1 = k2) (hn : n1 = n2) : (t1.toList == t2.toList) = sameB (k1, n1, t1) (k2, n2, t2) := by
  subst hk hn
  unfold sameB
  by_cases h : t1 = t2
  · subst h; simp
  · rw [decide_eq_false (by simp [h]), beq_eq_false_iff_ne]
    exact fun e => h (toList_inj e)
theorem same_fn {k1 k2 n1 n2 : Int} {t1 t2 : ByteArray} (hn : ¬ n1 = n2) : false = sameB (k1, n1, t1) (k2, n2, t2) := by
  unfold sameB
  rw [decide_eq_false (by simp [hn])]
theorem same_fk {k1 k2 n1 n2 : Int} {t1 t2 : ByteArray} (hk : ¬ k1 = k2) : false = sameB (k1, n1, t1) (k2, n2, t2) := by
  unfold sameB
  rw [decide_eq_false (by simp [hk])]
theorem ret_bool {a b : Bool} (h : a = b) : Ending.returned (.bool a) = .returned (.bool b) := by rw [h]

theorem bt {B C : Nat} {a b c : World} (h : Below B a b) (k : Below C b c) (hC : B ≤ C) : Below B a c := h.trans (k.mono hC)
theorem btd {B C : Nat} {a b c : World} (h : Below B a b) (k : Below C b.drew c) (hC : B ≤ C) : Below B a c := h.drew.trans (k.mono hC)
theorem balloc (w : World) (o : Obj) : Below w.heap.size w (w.alloc o) := (Below.refl _ _).alloc (Nat.le_refl _) o
theorem balloc_size {w wr : World} {o : Obj} {B : Nat} (hb : Below B (w.alloc o) wr) : w.heap.size + 1 ≤ wr.heap.size := by
  have := hb.size
  simpa using this

/-! ### A slice of terms in memory: its cells lie in one block, whose number is from lo on and below hi -/
structure TsIn (lo hi : Nat) (w : World) (a : Option Addr) (len : Nat) (ts : List Tm) : Prop where
  len_eq : ts.length = len
  isAt : 0 < len → ∃ b o, a = some ⟨b, o, none⟩ ∧ lo ≤ b ∧ b < hi ∧ ∀ i t, ts[i]? = some t →
    w.cell? ⟨b, o + i * 3, none⟩ = some (.int .u8 t.1) ∧ w.cell? ⟨b, o + i * 3 + 1, none⟩ = some (.int .i32 t.2.1) ∧ w.cell? ⟨b, o + i * 3 + 2, none⟩ = some (.string t.2.2)

/-- All blocks from lo on and below hi are as they were. -/
def SameIn (lo hi : Nat) (w w' : World) : Prop := ∀ k, lo ≤ k → k < hi → w'.heap[k]? = w.heap[k]?

theorem SameIn.cell {lo hi : Nat} {w w' : World} (h : SameIn lo hi w w') {b o : Nat} (h1 : lo ≤ b) (h2 : b < hi) : w'.cell? ⟨b, o, none⟩ = w.cell? ⟨b, o, none⟩ :=
  World.cell?_of_block (w := w) (h b h1 h2)
theorem SameIn.refl (lo hi : Nat) (w : World) : SameIn lo hi w w := fun _ _ _ => rfl
theorem SameIn.trans {lo hi : Nat} {a b c : World} (h : SameIn lo hi a b) (k : SameIn lo hi b c) : SameIn lo hi a c := fun j h1 h2 => (k j h1 h2).trans (h j h1 h2)
theorem sameIn_below {B lo hi : Nat} {w w' : World} (h : Below B w w') (hB : hi ≤ B) : SameIn lo hi w w' := fun k _ h2 => h.block k (by omega)

theorem TsIn.same {lo hi : Nat} {w w' : World} {a : Option Addr} {len : Nat} {ts : List Tm} (h : TsIn lo hi w a len ts) (hs : SameIn lo hi w w') : TsIn lo hi w' a len ts where
  len_eq := h.len_eq
  isAt := fun hp => by
    obtain ⟨b, o, rfl, h1, h2, h3⟩ := h.isAt hp
    refine ⟨b, o, rfl, h1, h2, fun i t ht => ?_⟩
    rw [hs.cell h1 h2, hs.cell h1 h2, hs.cell h1 h2]
    exact h3 i t ht
theorem TsIn.below {lo hi B : Nat} {w w' : World} {a : Option Addr} {len : Nat} {ts : List Tm} (h : TsIn lo hi w a len ts) (hb : Below B w w') (hB : hi ≤ B) : TsIn lo hi w' a len ts := h.same (sameIn_below hb hB)
theorem TsIn.wide {lo hi lo' hi' : Nat} {w : World} {a : Option Addr} {len : Nat} {ts : List Tm} (h : TsIn lo hi w a len ts) (h1 : lo' ≤ lo) (h2 : hi ≤ hi') : TsIn lo' hi' w a len ts where
  len_eq := h.len_eq
  isAt := fun hp => by
    obtain ⟨b, o, rfl, g1, g2, h3⟩ := h.isAt hp
    exact ⟨b, o, rfl, by omega, by omega, h3⟩
theorem TsIn.nil (lo hi : Nat) (w : World) (a : Option Addr) : TsIn lo hi w a 0 [] where
  len_eq := rfl
  isAt := fun h => absurd h (Nat.not_lt_zero _)
/-- The world w' is w but for what block g holds. -/
structure Touch (g : Nat) (w w' : World) : Prop where
  os : w'.os = w.os
  tape : w'.tape = w.tape
  output : w'.output = w.output
  size : w'.heap.size = w.heap.size
  block : ∀ k, k ≠ g → w'.heap[k]? = w.heap[k]?

theorem Touch.refl (g : Nat) (w : World) : Touch g w w := ⟨rfl, rfl, rfl, rfl, fun _ _ => rfl⟩
theorem Touch.trans {g : Nat} {a b c : World} (h : Touch g a b) (k : Touch g b c) : Touch g a c :=
  ⟨k.os.trans h.os, k.tape.trans h.tape, k.output.trans h.output, k.size.trans h.size, fun i hi => (k.block i hi).trans (h.block i hi)⟩
theorem Touch.below {g B : Nat} {w w' : World} (h : Touch g w w') (hB : B ≤ g) : Below B w w' :=
  ⟨h.os, h.tape, h.output, Nat.le_of_eq h.size.symm, fun k hk => h.block k (by omega)⟩
theorem Touch.setCell (w : World) (g i : Nat) (v : Value) : Touch g w (w.setCell ⟨g, i, none⟩ v) :=
  ⟨rfl, rfl, rfl, by simp [World.setCell], fun k hk => Below.heap_setCell _ _ _ _ (by simpa using hk)⟩
theorem Touch.setCells (g : Nat) : ∀ (vs : List Value) (o : Nat) (w : World), Touch g w (w.setCells g o vs)
  | [], _, w => Touch.refl g w
  | v :: r, o, w => (Touch.setCell w g o v).trans (Touch.setCells g r (o + 1) _)
theorem Touch.setRow (w : World) (g : Nat) (cs : Array Value) : Touch g w (w.setRow g cs) :=
  ⟨rfl, rfl, rfl, by simp, fun k hk => setRow_other w g k cs hk⟩

/-- Block g is a row of 'cap' cells, not frozen, whose first cells are xs. -/
def Row (w : World) (g : Nat) (e : TypeId) (cap : Nat) (xs : List Value) : Prop :=
  ∃ rest : List Value, w.heap[g]? = some (.cells (xs ++ rest).toArray e (0, 0)) ∧ (xs ++ rest).length = cap

theorem Row.lt {w : World} {g : Nat} {e : TypeId} {cap : Nat} {xs : List Value} (h : Row w g e cap xs) : g < w.heap.size := by
  obtain ⟨r, h, _⟩ := h
  exact (Array.getElem?_eq_some_iff.1 h).1
theorem Row.fits {w : World} {g : Nat} {e : TypeId} {cap : Nat} {xs : List Value} (h : Row w g e cap xs) : xs.length ≤ cap := by
  obtain ⟨r, _, h⟩ := h
  simp at h
  omega
theorem Row.of_block {w w' : World} {g : Nat} {e : TypeId} {cap : Nat} {xs : List Value} (h : Row w g e cap xs) (hb : w'.heap[g]? = w.heap[g]?) : Row w' g e cap xs := by
  obtain ⟨r, h1, h2⟩ := h
  exact ⟨r, hb.trans h1, h2⟩
theorem Row.below {w w' : World} {g B : Nat} {e : TypeId} {cap : Nat} {xs : List Value} (h : Row w g e cap xs) (hb : Below B w w') (hg : g < B) : Row w' g e cap xs := h.of_block (hb.block g hg)
theorem Row.drew {w : World} {g : Nat} {e : TypeId} {cap : Nat} {xs : List Value} (h : Row w g e cap xs) : Row w.drew g e cap xs := h
theorem Row.touch {w w' : World} {g k : Nat} {e : TypeId} {cap : Nat} {xs : List Value} (h : Row w g e cap xs) (hb : Touch k w w') (hg : g ≠ k) : Row w' g e cap xs := h.of_block (hb.block g hg)
theorem Row.cell {w : World} {g : Nat} {e : TypeId} {cap : Nat} {xs : List Value} (h : Row w g e cap xs) (j : Nat) (u : Value) (hj : xs[j]? = some u) : w.cell? ⟨g, j, none⟩ = some u := by
  obtain ⟨r, h1, h2⟩ := h
  have hl : j < xs.length := (List.getElem?_eq_some_iff.1 hj).1
  simp only [World.cell?, h1]
  simp [List.getElem?_append_left hl, hj]

theorem Row.nil {w : World} {g : Nat} {e : TypeId} {cap : Nat} {xs : List Value} (h : Row w g e cap xs) : Row w g e cap [] := by
  obtain ⟨r, h1, h2⟩ := h
  exact ⟨xs ++ r, h1, h2⟩

theorem set_mid {α : Type} (xs r : List α) (v : α) (vs : List α) (h : (v :: vs).length ≤ r.length) : (xs ++ r).set xs.length v = (xs ++ [v]) ++ r.drop 1 := by
  cases r with
  | nil => simp at h
  | cons y r => simp

theorem heap_setCells {e : TypeId} (g : Nat) : ∀ (vs xs r : List Value) (w : World), w.heap[g]? = some (.cells (xs ++ r).toArray e (0, 0)) → vs.length ≤ r.length →
    (w.setCells g xs.length vs).heap[g]? = some (.cells ((xs ++ vs) ++ r.drop vs.length).toArray e (0, 0))
  | [], xs, r, w, h, _ => by simpa [World.setCells] using h
  | v :: vs, xs, r, w, h, hl => by
    have h1 : (w.setCell ⟨g, xs.length, none⟩ v).heap[g]? = some (.cells ((xs ++ [v]) ++ r.drop 1).toArray e (0, 0)) := by
      rw [setCell_eq_setRow w g xs.length _ _ _ v h, setRow_heap w g _ _ _ _ h]
      rw [← set_mid xs r v vs hl]
      simp
    have h2 := heap_setCells g vs (xs ++ [v]) (r.drop 1) _ h1 (by simp at hl ⊢; omega)
    simp only [World.setCells]
    rw [show (xs ++ [v]).length = xs.length + 1 by simp] at h2
    rw [h2]
    simp [List.drop_drop, Nat.add_comm]

theorem Row.cells_some {w : World} {g : Nat} {e : TypeId} {cap : Nat} {xs : List Value} (h : Row w g e cap xs) (i : Nat) (hi : i < cap) : (w.cell? ⟨g, i, none⟩).isSome = true := by
  obtain ⟨r, h1, h2⟩ := h
  simp only [World.cell?, h1]
  rw [List.getElem?_toArray, List.getElem?_eq_getElem (by omega)]
  rfl
theorem Row.free {w : World} {g : Nat} {e : TypeId} {cap : Nat} {xs : List Value} (h : Row w g e cap xs) (i : Nat) : w.frozen? ⟨g, i, none⟩ = false := by
  obtain ⟨r, h1, h2⟩ := h
  exact frozen_of_row w g i _ _ h1

/-- 'make([]T, l, n)'. -/
theorem wpList_make_row {P : Program} (w : World) {ops : Array Oper} {rest : List Oper} {o : Oper} {a : Act} {Q : Exit → Act → World → Prop} (hg : o.guard = none)
    (l c : Operand) (t : TypeId) (hop : o.op = Op.makeSlice t l c) (e : TypeId) (i : TypeInfo) (z : Value) (size : Nat) (h1 : P.underlying t = some (.slice e)) (h2 : P.info? e = some i) (h3 : i.zero = some z)
    (h4 : i.size = size) (kl kc : IntKind) (L C : Int) (ln n : Nat) (hl : a.eval l = .int kl L) (hc : a.eval c = .int kc C) (hL : L = (ln : Int)) (hC : C = (n : Int)) (hle : ln ≤ n) (b2 : i.bytes * n ≤ 281474976710656) (b3 : n ≤ 9223372036854775807)
    (hK : ∀ w', Row w' w.heap.size e (n * size) (madeCells z.cells (n * size)).toList → w'.heap.size = w.heap.size + 1 → Below w.heap.size w w' →
      wpList P ops Q rest (a.put o.dst (.slice (some ⟨w.heap.size, 0, none⟩) ln n)) w') : wpList P ops Q (o :: rest) a w := by
  refine wpList_plain hg fun K hK' => ?_
  subst hL hC
  have hb2 : ((i.bytes : Nat) : Int) * (n : Int) ≤ 281474976710656 := by
    have : ((i.bytes * n : Nat) : Int) ≤ 281474976710656 := by omega
    simpa using this
  have hrun := run_make (P := P) w t e i z h1 h2 h3 kl kc (ln : Int) (n : Int) (by omega) (by omega) hb2 (by omega)
  unfold Oper.wp
  simp [execOp, hop, hl, hc, hrun, Result.andThen]
  refine hK' _ _ (hK _ ⟨[], ?_, ?_⟩ (by simp) ((Below.refl _ _).alloc (Nat.le_refl _) _))
  · rw [h4]
    show (w.heap.push _)[w.heap.size]? = _
    simp
  · simp [size_madeCells]

/-- 'append' WITHIN THE CAPACITY onto a row of the call's own, of whatever source. -/
theorem wpList_append_row {P : Program} (w : World) {ops : Array Oper} {rest : List Oper} {o : Oper} {a : Act} {Q : Exit → Act → World → Prop} (hgd : o.guard = none)
    (s x : Operand) (t tx : TypeId) (hop : o.op = Op.call { callee := Callee.builtin Builtin.append, args := #[s, x], argTypes := #[t, tx] })
    (e : TypeId) (i : TypeInfo) (size : Nat) (h1 : P.underlying t = some (.slice e)) (h2 : P.info? e = some i) (h4 : i.size = size)
    (g k cap : Nat) (xs : List Value) (hs : a.eval s = .slice (some ⟨g, 0, none⟩) k cap) (hrow : Row w g e (cap * size) xs) (hk : xs.length = k * size) (v : Value) (m : Nat) (news : List Value) (hx : a.eval x = v)
    (hsrc : Src P size tx v m news w) (b1 : k + m ≤ cap)
    (hK : ∀ w', Row w' g e (cap * size) (xs ++ news) → Touch g w w' → wpList P ops Q rest (a.put o.dst (.slice (some ⟨g, 0, none⟩) (k + m) cap)) w') : wpList P ops Q (o :: rest) a w := by
  refine wpList_plain hgd fun K hK' => ?_
  subst h4
  have hnl := hsrc.newsLen
  have hm : k * i.size + m * i.size ≤ cap * i.size := by rw [← Nat.add_mul]; exact Nat.mul_le_mul_right _ b1
  have hrun := run_append_room_src (P := P) w t tx o.type e i h1 h2 g 0 k cap v m news hsrc b1 (fun j hj => hrow.cells_some _ (by omega)) (fun j hj => hrow.free _)
  unfold Oper.wp
  simp [execOp, hop, resolve, invoke, builtin, hs, hx, hrun, Result.andThen]
  refine hK' _ _ (hK _ ?_ (Touch.setCells g _ _ _))
  obtain ⟨r, r1, r2⟩ := hrow
  refine ⟨r.drop news.length, ?_, ?_⟩
  · rw [← hk]
    exact heap_setCells g news xs r w r1 (by simp at r2; omega)
  · simp at r2 ⊢
    omega


theorem row_put3 {w : World} {g : Nat} {e : TypeId} {cap : Nat} {xs : List Value} (h : Row w g e cap xs) (a b c : Value) (hl : xs.length + 3 ≤ cap) (o : Nat) (ho : o = xs.length) :
    Row (((w.setCell ⟨g, o, none⟩ a).setCell ⟨g, o + 1, none⟩ b).setCell ⟨g, o + 2, none⟩ c) g e cap (xs ++ [a, b, c]) := by
  subst ho
  obtain ⟨r, h1, h2⟩ := h
  have := heap_setCells g [a, b, c] xs r w h1 (by simp at h2 ⊢; omega)
  refine ⟨r.drop 3, this, ?_⟩
  simp at h2 ⊢
  omega
theorem row_put2 {w : World} {g : Nat} {e : TypeId} {cap : Nat} {xs : List Value} (h : Row w g e cap xs) (a b : Value) (hl : xs.length + 2 ≤ cap) (o : Nat) (ho : o = xs.length) :
    Row ((w.setCell ⟨g, o, none⟩ a).setCell ⟨g, o + 1, none⟩ b) g e cap (xs ++ [a, b]) := by
  subst ho
  obtain ⟨r, h1, h2⟩ := h
  have := heap_setCells g [a, b] xs r w h1 (by simp at h2 ⊢; omega)
  refine ⟨r.drop 2, this, ?_⟩
  simp at h2 ⊢
  omega
theorem Row.old {w : World} {g : Nat} {e : TypeId} {cap : Nat} {xs : List Value} (h : Row w g e cap xs) (i : Nat) (hi : i < cap) : ∃ v, w.cell? ⟨g, i, none⟩ = some v :=
  Option.isSome_iff_exists.1 (h.cells_some i hi)
theorem touch_put3 (w : World) (g o : Nat) (a b c : Value) : Touch g w (((w.setCell ⟨g, o, none⟩ a).setCell ⟨g, o + 1, none⟩ b).setCell ⟨g, o + 2, none⟩ c) :=
  ((Touch.setCell w g o a).trans (Touch.setCell _ g _ b)).trans (Touch.setCell _ g _ c)
theorem touch_put2 (w : World) (g o : Nat) (a b : Value) : Touch g w ((w.setCell ⟨g, o, none⟩ a).setCell ⟨g, o + 1, none⟩ b) :=
  (Touch.setCell w g o a).trans (Touch.setCell _ g _ b)

/-- All the terms' cells, one behind the other. -/
def flatT (ts : List Tm) : List Value := ts.flatMap tmC
theorem flatT_length : ∀ ts : List Tm, (flatT ts).length = ts.length * 3
  | [] => rfl
  | t :: ts => by
    have := flatT_length ts
    simp only [flatT, List.flatMap_cons, List.length_append, List.length_cons] at this ⊢
    rw [this]
    simp [tmC]
    omega
theorem flatT_append (a b : List Tm) : flatT (a ++ b) = flatT a ++ flatT b := by simp [flatT]
theorem flatT_get : ∀ (ts : List Tm) (i : Nat) (t : Tm), ts[i]? = some t → (flatT ts)[i * 3]? = some (.int .u8 t.1) ∧ (flatT ts)[i * 3 + 1]? = some (.int .i32 t.2.1) ∧ (flatT ts)[i * 3 + 2]? = some (.string t.2.2)
  | [], i, t, h => by simp at h
  | u :: ts, 0, t, h => by
    simp at h
    subst h
    simp [flatT, tmC]
  | u :: ts, i + 1, t, h => by
    have := flatT_get ts i t (by simpa using h)
    have e : flatT (u :: ts) = tmC u ++ flatT ts := by simp [flatT]
    have l : (tmC u).length = 3 := rfl
    rw [e]
    refine ⟨?_, ?_, ?_⟩
    · rw [List.getElem?_append_right (by omega), l, show (i + 1) * 3 - 3 = i * 3 by omega]; exact this.1
    · rw [List.getElem?_append_right (by omega), l, show (i + 1) * 3 + 1 - 3 = i * 3 + 1 by omega]; exact this.2.1
    · rw [List.getElem?_append_right (by omega), l, show (i + 1) * 3 + 2 - 3 = i * 3 + 2 by omega]; exact this.2.2
theorem flatT_one (ts : List Tm) : ∀ u ∈ flatT ts, u.oneCell' = true := by
  intro u hu
  obtain ⟨t, _, ht⟩ := List.mem_flatMap.1 hu
  simp [tmC] at ht
  rcases ht with rfl | rfl | rfl <;> rfl
theorem take_snoc {α : Type} (l : List α) (k : Nat) (t : α) (h : l[k]? = some t) : l.take (k + 1) = l.take k ++ [t] := by
  rw [List.take_add_one, h]; rfl

/-- A row of terms is a slice of terms. -/
theorem Row.tsIn {w : World} {g : Nat} {e : TypeId} {cap : Nat} {ts : List Tm} (h : Row w g e cap (flatT ts)) {lo hi len : Nat} (h1 : lo ≤ g) (h2 : g < hi) (hl : ts.length = len) : TsIn lo hi w (some ⟨g, 0, none⟩) len ts where
  len_eq := hl
  isAt := fun _ => ⟨g, 0, rfl, h1, h2, fun i t ht => by
    obtain ⟨a, b, c⟩ := flatT_get ts i t ht
    simp only [Nat.zero_add]
    exact ⟨h.cell _ _ a, h.cell _ _ b, h.cell _ _ c⟩⟩
end Go.Proofs.Qxb6604483a
