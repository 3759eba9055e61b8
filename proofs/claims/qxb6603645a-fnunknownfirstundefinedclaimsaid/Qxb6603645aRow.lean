import Derived.Test.Qxb6603645aCl
namespace Go.Proofs.Qxb6603645a
open Go.RowKit
set_option linter.unusedSimpArgs false
set_option linter.unusedVariables false

theorem Touch.below {g B : Nat} {w w' : World} (h : Touch g w w') (hB : B ≤ g) : Below B w w' := ⟨h.os, h.tape, h.output, Nat.le_of_eq h.size.symm, fun k hk => h.block k (by omega)⟩

/-- Block g is a row of 'cap' cells, not frozen, whose first cells are xs. -/
def Row (w : World) (g : Nat) (e : TypeId) (cap : Nat) (xs : List Value) : Prop :=
  ∃ rest : List Value, w.heap[g]? = some (.cells (xs ++ rest).toArray e (0, 0)) ∧ (xs ++ rest).length = cap

theorem Row.lt {w : World} {g : Nat} {e : TypeId} {cap : Nat} {xs : List Value} (h : Row w g e cap xs) : g < w.heap.size := by
  obtain ⟨r, h, _⟩ := h
  exact (Array.getElem?_eq_some_iff.1 h).1
theorem Row.fits {w : World} {g : Nat} {e : TypeId} {cap : Nat} {xs : List Value} (h : Row w g e cap xs) : xs.length ≤ cap := by
  obtain ⟨r, _, h⟩ := h
  simp at h
  omega
theorem Row.of_block {w w' : World} {g : Nat} {e : TypeId} {cap : Nat} {xs : List Value} (h : Row w g e cap xs) (hb : w'.heap[g]? = w.heap[g]?) : Row w' g e cap xs := by
  obtain ⟨r, h1, h2⟩ := h
  exact ⟨r, hb.trans h1, h2⟩
theorem Row.below {w w' : World} {g B : Nat} {e : TypeId} {cap : Nat} {xs : List Value} (h : Row w g e cap xs) (hb : Below B w w') (hg : g < B) : Row w' g e cap xs := h.of_block (hb.block g hg)
theorem Row.drew {w : World} {g : Nat} {e : TypeId} {cap : Nat} {xs : List Value} (h : Row w g e cap xs) : Row w.drew g e cap xs := h
theorem Row.touch {w w' : World} {g k : Nat} {e : TypeId} {cap : Nat} {xs : List Value} (h : Row w g e cap xs) (hb : Touch k w w') (hg : g ≠ k) : Row w' g e cap xs := h.of_block (hb.block g hg)
theorem Row.cell {w : World} {g : Nat} {e : TypeId} {cap : Nat} {xs : List Value} (h : Row w g e cap xs) (j : Nat) (u : Value) (hj : xs[j]? = some u) : w.cell? ⟨g, j, none⟩ = some u := by
  obtain ⟨r, h1, h2⟩ := h
  have hl : j < xs.length := (List.getElem?_eq_some_iff.1 hj).1
  simp only [World.cell?, h1]
  simp [List.getElem?_append_left hl, hj]

theorem Row.nil {w : World} {g : Nat} {e : TypeId} {cap : Nat} {xs : List Value} (h : Row w g e cap xs) : Row w g e cap [] := by
  obtain ⟨r, h1, h2⟩ := h
  exact ⟨xs ++ r, h1, h2⟩

theorem set_mid {α : Type} (xs r : List α) (v : α) (vs : List α) (h : (v :: vs).length ≤ r.length) : (xs ++ r).set xs.length v = (xs ++ [v]) ++ r.drop 1 := by
  cases r with
  | nil => simp at h
  | cons y r => simp

theorem heap_setCells {e : TypeId} (g : Nat) : ∀ (vs xs r : List Value) (w : World), w.heap[g]? = some (.cells (xs ++ r).toArray e (0, 0)) → vs.length ≤ r.length →
    (w.setCells g xs.length vs).heap[g]? = some (.cells ((xs ++ vs) ++ r.drop vs.length).toArray e (0, 0))
  | [], xs, r, w, h, _ => by simpa [World.setCells] using h
  | v :: vs, xs, r, w, h, hl => by
    have h1 : (w.setCell ⟨g, xs.length, none⟩ v).heap[g]? = some (.cells ((xs ++ [v]) ++ r.drop 1).toArray e (0, 0)) := by
      rw [setCell_eq_setRow w g xs.length _ _ _ v h, setRow_heap w g _ _ _ _ h]
      rw [← set_mid xs r v vs hl]
      simp
    have h2 := heap_setCells g vs (xs ++ [v]) (r.drop 1) _ h1 (by simp at hl ⊢; omega)
    simp only [World.setCells]
    rw [show (xs ++ [v]).length = xs.length + 1 by simp] at h2
    rw [h2]
    simp [List.drop_drop, Nat.add_comm]

theorem Row.cells_some {w : World} {g : Nat} {e : TypeId} {cap : Nat} {xs : List Value} (h : Row w g e cap xs) (i : Nat) (hi : i < cap) : (w.cell? ⟨g, i, none⟩).isSome = true := by
  obtain ⟨r, h1, h2⟩ := h
  simp only [World.cell?, h1]
  rw [List.getElem?_toArray, List.getElem?_eq_getElem (by omega)]
  rfl
theorem Row.free {w : World} {g : Nat} {e : TypeId} {cap : Nat} {xs : List Value} (h : Row w g e cap xs) (i : Nat) : w.frozen? ⟨g, i, none⟩ = false := by
  obtain ⟨r, h1, h2⟩ := h
  exact frozen_of_row w g i _ _ h1

/-- 'make([]T, l, n)'. -/
theorem wpList_make_row {P : Program} (w : World) {ops : Array Oper} {rest : List Oper} {o : Oper} {a : Act} {Q : Exit → Act → World → Prop} (hg : o.guard = none)
    (l c : Operand) (t : TypeId) (hop : o.op = Op.makeSlice t l c) (e : TypeId) (i : TypeInfo) (z : Value) (size : Nat) (h1 : P.underlying t = some (.slice e)) (h2 : P.info? e = some i) (h3 : i.zero = some z)
    (h4 : i.size = size) (kl kc : IntKind) (L C : Int) (ln n : Nat) (hl : a.eval l = .int kl L) (hc : a.eval c = .int kc C) (hL : L = (ln : Int)) (hC : C = (n : Int)) (hle : ln ≤ n) (b2 : i.bytes * n ≤ 281474976710656) (b3 : n ≤ 9223372036854775807)
    (hK : ∀ w', Row w' w.heap.size e (n * size) (madeCells z.cells (n * size)).toList → w'.heap.size = w.heap.size + 1 → Below w.heap.size w w' →
      wpList P ops Q rest (a.put o.dst (.slice (some ⟨w.heap.size, 0, none⟩) ln n)) w') : wpList P ops Q (o :: rest) a w := by
  refine wpList_plain hg fun K hK' => ?_
  subst hL hC
  have hb2 : ((i.bytes : Nat) : Int) * (n : Int) ≤ 281474976710656 := by
    have : ((i.bytes * n : Nat) : Int) ≤ 281474976710656 := by omega
    simpa using this
  have hrun := run_make (P := P) w t e i z h1 h2 h3 kl kc (ln : Int) (n : Int) (by omega) (by omega) hb2 (by omega)
  unfold Oper.wp
  simp [execOp, hop, hl, hc, hrun, Result.andThen]
  refine hK' _ _ (hK _ ⟨[], ?_, ?_⟩ (by simp) ((Below.refl _ _).alloc (Nat.le_refl _) _))
  · rw [h4]
    show (w.heap.push _)[w.heap.size]? = _
    simp
  · simp [size_madeCells]

theorem row_put2 {w : World} {g : Nat} {e : TypeId} {cap : Nat} {xs : List Value} (h : Row w g e cap xs) (a b : Value) (hl : xs.length + 2 ≤ cap) (o : Nat) (ho : o = xs.length) :
    Row ((w.setCell ⟨g, o, none⟩ a).setCell ⟨g, o + 1, none⟩ b) g e cap (xs ++ [a, b]) := by
  subst ho
  obtain ⟨r, h1, h2⟩ := h
  have := heap_setCells g [a, b] xs r w h1 (by simp at h2 ⊢; omega)
  refine ⟨r.drop 2, this, ?_⟩
  simp at h2 ⊢
  omega
theorem Row.old {w : World} {g : Nat} {e : TypeId} {cap : Nat} {xs : List Value} (h : Row w g e cap xs) (i : Nat) (hi : i < cap) : ∃ v, w.cell? ⟨g, i, none⟩ = some v :=
  Option.isSome_iff_exists.1 (h.cells_some i hi)
theorem take_snoc {α : Type} (l : List α) (k : Nat) (t : α) (h : l[k]? = some t) : l.take (k + 1) = l.take k ++ [t] := by
  rw [List.take_add_one, h]; rfl


theorem Try.info9 : (Try.prog.info? 9).map (fun i => (i.zero, i.size, i.bytes)) = some (some (.string ⟨#[]⟩), 1, 16) := by kernel_rfl
theorem Try.info46 : (Try.prog.info? 46).map (fun i => (i.zero, i.size, i.bytes)) = some (some (.agg #[.string ⟨#[]⟩, .string ⟨#[]⟩]), 2, 32) := by kernel_rfl
theorem row_put1 {w : World} {g : Nat} {e : TypeId} {cap : Nat} {xs : List Value} (h : Row w g e cap xs) (a : Value) (hl : xs.length + 1 ≤ cap) (o : Nat) (ho : o = xs.length) :
    Row (w.setCell ⟨g, o, none⟩ a) g e cap (xs ++ [a]) := by
  subst ho
  obtain ⟨r, h1, h2⟩ := h
  have := heap_setCells g [a] xs r w h1 (by simp at h2 ⊢; omega)
  refine ⟨r.drop 1, this, ?_⟩
  simp at h2 ⊢
  omega
theorem Row.strs {w : World} {g : Nat} {e : TypeId} {cap : Nat} {ss : List ByteArray} (h : Row w g e cap (ss.map .string)) {len : Nat} (hl : ss.length = len) : StrsIn w (some ⟨g, 0, none⟩) len ss :=
  ⟨hl, fun _ => ⟨g, 0, rfl, h.lt, fun i s hs => by rw [Nat.zero_add]; exact h.cell i _ (by rw [List.getElem?_map, hs]; rfl)⟩⟩
theorem Row.mbs {w : World} {g : Nat} {e : TypeId} {cap : Nat} {ms : List Mb} (h : Row w g e cap (flatM ms)) {len : Nat} (hl : ms.length = len) : MbsIn w (some ⟨g, 0, none⟩) len ms :=
  ⟨hl, fun _ => ⟨g, 0, rfl, h.lt, fun i m hm => by rw [Nat.zero_add]; exact ⟨h.cell _ _ (flatM_get ms i m hm).1, h.cell _ _ (flatM_get ms i m hm).2⟩⟩⟩

/-- A slice came out that holds those strings. -/
def StrsOut (lo len : Nat) (ss : List ByteArray) (e : Ending) (w' : World) : Prop := ∃ a cap, e = .returned (.slice a len cap) ∧ StrsIn w' a len ss ∧ (a = none → len = 0 ∧ cap = 0) ∧ ∀ x, a = some x → lo ≤ x.block
/-- A slice came out that holds those members. -/
def MbsOut (lo len : Nat) (ms : List Mb) (e : Ending) (w' : World) : Prop := ∃ a cap, e = .returned (.slice a len cap) ∧ MbsIn w' a len ms ∧ (a = none → len = 0 ∧ cap = 0) ∧ ∀ x, a = some x → ∃ g, x = ⟨g, 0, none⟩ ∧ lo ≤ g

set_option maxRecDepth 100000 in
set_option maxHeartbeats 1000000 in
/-- 'zzCloneStrings'. -/
theorem cloneStrings_any (a : Option Addr) (len cap : Nat) (ss : List ByteArray) (w : World) (h : StrsIn w a len ss) (hm : len ≤ 1048576) (hq : a = none → len = 0 ∧ cap = 0) :
    Calls Try.prog 17 #[.slice a len cap] w fun e w' => StrsOut w.heap.size len ss e w' ∧ Below w.heap.size w w' := by
  cases a with
  | none =>
    obtain ⟨rfl, rfl⟩ := hq rfl
    have he : ∀ w : World, (binOp .eql 29 (.slice none 0 0) (.slice none 0 0)).run Try.prog w = .ok (.bool true) w := fun _ => rfl
    go_enter Try.func17, Try.ntmps17
    go_wp2_with fail
    go_ret
    exact ⟨⟨none, 0, rfl, h, fun _ => ⟨rfl, rfl⟩, fun x hx => by cases hx⟩, Below.refl _ _⟩
  | some A =>
    have he : ∀ w : World, (binOp .eql 29 (.slice (some A) len cap) (.slice none 0 0)).run Try.prog w = .ok (.bool false) w := fun _ => rfl
    obtain ⟨i0, hi0, hz0, hz1, hz2⟩ := info_parts Try.info9
    clear hq
    go_enter Try.func17, Try.ntmps17
    go_wp2_with (at_make; refine wpList_make_row _ rfl (.tmp 8) (.tmp 8) 29 rfl 9 i0 _ 1 Try.underlying29 hi0 hz0 hz1 .i64 .i64 _ _ len len rfl rfl rfl rfl (Nat.le_refl _) (by rw [hz2]; omega) (by omega) ?_; intro w1 hr1 hs1 hb1; replace hr1 := hr1.nil)
    go_loopw [4] (fun v wr => ∃ k : Nat, k ≤ len ∧ v = .int .i64 (k : Int) ∧ Row wr w.heap.size 9 (len * 1) ((ss.take k).map .string) ∧ Below w.heap.size w wr) (fun v _ => len - (intOf v).toNat)
    case atStart => exact ⟨0, Nat.zero_le _, rfl, hr1, hb1⟩
    case round =>
      obtain ⟨k, hk, rfl, hr, hb⟩ := hrel
      clear hr1 hs1 hb1
      have hg := hr.lt
      by_cases hlt : k < len
      · have t1 : (k : Int) < (len : Int) := by omega
        obtain ⟨b, o, e, h1, hc⟩ := h.isAt (by omega)
        cases e
        obtain ⟨u, hu⟩ : ∃ u, ss[k]? = some u := ⟨_, List.getElem?_eq_getElem (by rw [h.len_eq]; exact hlt)⟩
        have d0 : wr.cell? ⟨b, o + k, none⟩ = some (.string u) := by rw [hb.cell (by simpa using h1)]; exact hc k u hu
        have hx : ((ss.take k).map Value.string).length = k := by simp; have := h.len_eq; omega
        have HU : Hid (ss[k]? = some u ∧ ((ss.take k).map Value.string).length = k) := ⟨hu, hx⟩
        obtain ⟨v0, g0⟩ := hr.old k (by omega)
        have f0 := hr.free k
        clear hc hu hx
        go_wp2_with fail
        go_roundw
        case rel => exact ⟨k + 1, by omega, by go_num, by rw [take_snoc ss k u HU.out.1, List.map_append]; exact row_put1 hr _ (by rw [HU.out.2]; omega) _ HU.out.2.symm, hb.trans ((Touch.setCell _ _ _ _).below (Nat.le_refl _))⟩
        case measure => simp [intOf]; omega
      · have t1 : ¬ (k : Int) < (len : Int) := by omega
        have HK : Hid (ss.take k = ss) := List.take_of_length_le (by have := h.len_eq; omega)
        go_wp2_with fail
        go_ret
        exact ⟨⟨_, _, rfl, by rw [HK.out] at hr; exact hr.strs h.len_eq, (fun h => by cases h), fun x hx => by cases hx; exact Nat.le_refl _⟩, hb⟩

set_option maxRecDepth 100000 in
set_option maxHeartbeats 1000000 in
/-- 'zzCloneMembersIn'. -/
theorem cloneMembers_any (a : Option Addr) (len cap : Nat) (ms : List Mb) (w : World) (h : MbsIn w a len ms) (hm : len ≤ 1048576) (hq : a = none → len = 0 ∧ cap = 0) :
    Calls Try.prog 23 #[.slice a len cap] w fun e w' => MbsOut w.heap.size len ms e w' ∧ Below w.heap.size w w' := by
  cases a with
  | none =>
    obtain ⟨rfl, rfl⟩ := hq rfl
    have he : ∀ w : World, (binOp .eql 31 (.slice none 0 0) (.slice none 0 0)).run Try.prog w = .ok (.bool true) w := fun _ => rfl
    go_enter Try.func23, Try.ntmps23
    go_wp2_with fail
    go_ret
    exact ⟨⟨none, 0, rfl, h, fun _ => ⟨rfl, rfl⟩, fun x hx => by cases hx⟩, Below.refl _ _⟩
  | some A =>
    have he : ∀ w : World, (binOp .eql 31 (.slice (some A) len cap) (.slice none 0 0)).run Try.prog w = .ok (.bool false) w := fun _ => rfl
    obtain ⟨i0, hi0, hz0, hz1, hz2⟩ := info_parts Try.info46
    clear hq
    go_enter Try.func23, Try.ntmps23
    go_wp2_with (at_make; refine wpList_make_row _ rfl (.tmp 8) (.tmp 8) 31 rfl 46 i0 _ 2 Try.underlying31 hi0 hz0 hz1 .i64 .i64 _ _ len len rfl rfl rfl rfl (Nat.le_refl _) (by rw [hz2]; omega) (by omega) ?_; intro w1 hr1 hs1 hb1; replace hr1 := hr1.nil)
    go_loopw [4] (fun v wr => ∃ k : Nat, k ≤ len ∧ v = .int .i64 (k : Int) ∧ Row wr w.heap.size 46 (len * 2) (flatM (ms.take k)) ∧ Below w.heap.size w wr) (fun v _ => len - (intOf v).toNat)
    case atStart => exact ⟨0, Nat.zero_le _, rfl, hr1, hb1⟩
    case round =>
      obtain ⟨k, hk, rfl, hr, hb⟩ := hrel
      clear hr1 hs1 hb1
      have hg := hr.lt
      by_cases hlt : k < len
      · have t1 : (k : Int) < (len : Int) := by omega
        obtain ⟨b, o, e, h1, hc⟩ := h.isAt (by omega)
        cases e
        obtain ⟨u, hu⟩ : ∃ u, ms[k]? = some u := ⟨_, List.getElem?_eq_getElem (by rw [h.len_eq]; exact hlt)⟩
        have d0 : wr.cell? ⟨b, o + k * 2, none⟩ = some (.string u.1) := by rw [hb.cell (by simpa using h1)]; exact (hc k u hu).1
        have d1 : wr.cell? ⟨b, o + k * 2 + 1, none⟩ = some (.string u.2) := by rw [hb.cell (by simpa using h1)]; exact (hc k u hu).2
        have hx : (flatM (ms.take k)).length = k * 2 := by rw [flatM_length]; simp; have := h.len_eq; omega
        have HU : Hid (ms[k]? = some u ∧ (flatM (ms.take k)).length = k * 2) := ⟨hu, hx⟩
        obtain ⟨v0, g0⟩ := hr.old (k * 2) (by omega)
        obtain ⟨v1, g1⟩ := hr.old (k * 2 + 1) (by omega)
        have f0 := hr.free (k * 2)
        have f1 := hr.free (k * 2 + 1)
        clear hc hu hx
        go_wp2_with fail
        go_roundw
        case rel => exact ⟨k + 1, by omega, by go_num, by rw [take_snoc ms k u HU.out.1, flatM_append]; exact row_put2 hr _ _ (by rw [HU.out.2]; omega) _ HU.out.2.symm, hb.trans ((touch_put2 _ _ _ _ _).below (Nat.le_refl _))⟩
        case measure => simp [intOf]; omega
      · have t1 : ¬ (k : Int) < (len : Int) := by omega
        have HK : Hid (ms.take k = ms) := List.take_of_length_le (by have := h.len_eq; omega)
        go_wp2_with fail
        go_ret
        exact ⟨⟨_, _, rfl, by rw [HK.out] at hr; exact hr.mbs h.len_eq, (fun h => by cases h), fun x hx => by cases hx; exact ⟨_, rfl, Nat.le_refl _⟩⟩, hb⟩

set_option maxRecDepth 100000 in
set_option maxHeartbeats 1000000 in
/-- 'zzMembers'. -/
theorem members_any (a : Option Addr) (len cap : Nat) (ms : List Mb) (w : World) (h : MbsIn w a len ms) (hm : len ≤ 1048576) (hq : a = none → len = 0 ∧ cap = 0) :
    Calls Try.prog 25 #[.slice a len cap] w fun e w' => MbsOut w.heap.size len ms e w' ∧ Below w.heap.size w w' := by
  cases a with
  | none =>
    obtain ⟨rfl, rfl⟩ := hq rfl
    have he : ∀ w : World, (binOp .eql 31 (.slice none 0 0) (.slice none 0 0)).run Try.prog w = .ok (.bool true) w := fun _ => rfl
    go_enter Try.func25, Try.ntmps25
    go_wp2_with fail
    go_ret
    exact ⟨⟨none, 0, rfl, h, fun _ => ⟨rfl, rfl⟩, fun x hx => by cases hx⟩, Below.refl _ _⟩
  | some A =>
    have he : ∀ w : World, (binOp .eql 31 (.slice (some A) len cap) (.slice none 0 0)).run Try.prog w = .ok (.bool false) w := fun _ => rfl
    obtain ⟨i0, hi0, hz0, hz1, hz2⟩ := info_parts Try.info62
    clear hq
    go_enter Try.func25, Try.ntmps25
    go_wp2_with (at_make; refine wpList_make_row _ rfl (.tmp 8) (.tmp 8) 54 rfl 62 i0 _ 2 Try.underlying54 hi0 hz0 hz1 .i64 .i64 _ _ len len rfl rfl rfl rfl (Nat.le_refl _) (by rw [hz2]; omega) (by omega) ?_; intro w1 hr1 hs1 hb1; replace hr1 := hr1.nil)
    go_loopw [4] (fun v wr => ∃ k : Nat, k ≤ len ∧ v = .int .i64 (k : Int) ∧ Row wr w.heap.size 62 (len * 2) (flatM (ms.take k)) ∧ Below w.heap.size w wr) (fun v _ => len - (intOf v).toNat)
    case atStart => exact ⟨0, Nat.zero_le _, rfl, hr1, hb1⟩
    case round =>
      obtain ⟨k, hk, rfl, hr, hb⟩ := hrel
      clear hr1 hs1 hb1
      have hg := hr.lt
      by_cases hlt : k < len
      · have t1 : (k : Int) < (len : Int) := by omega
        obtain ⟨b, o, e, h1, hc⟩ := h.isAt (by omega)
        cases e
        obtain ⟨u, hu⟩ : ∃ u, ms[k]? = some u := ⟨_, List.getElem?_eq_getElem (by rw [h.len_eq]; exact hlt)⟩
        have d0 : wr.cell? ⟨b, o + k * 2, none⟩ = some (.string u.1) := by rw [hb.cell (by simpa using h1)]; exact (hc k u hu).1
        have d1 : wr.cell? ⟨b, o + k * 2 + 1, none⟩ = some (.string u.2) := by rw [hb.cell (by simpa using h1)]; exact (hc k u hu).2
        have hx : (flatM (ms.take k)).length = k * 2 := by rw [flatM_length]; simp; have := h.len_eq; omega
        have HU : Hid (ms[k]? = some u ∧ (flatM (ms.take k)).length = k * 2) := ⟨hu, hx⟩
        obtain ⟨v0, g0⟩ := hr.old (k * 2) (by omega)
        obtain ⟨v1, g1⟩ := hr.old (k * 2 + 1) (by omega)
        have f0 := hr.free (k * 2)
        have f1 := hr.free (k * 2 + 1)
        clear hc hu hx
        go_wp2_with fail
        go_region
        all_goals
          go_wp2_with fail
          go_roundw
          case rel => exact ⟨k + 1, by omega, by go_num, by rw [take_snoc ms k u HU.out.1, flatM_append]; exact row_put2 hr.drew _ _ (by rw [HU.out.2]; omega) _ HU.out.2.symm, hb.drew.trans ((touch_put2 _ _ _ _ _).below (Nat.le_refl _))⟩
          case measure => simp [intOf]; omega
      · have t1 : ¬ (k : Int) < (len : Int) := by omega
        have HK : Hid (ms.take k = ms) := List.take_of_length_le (by have := h.len_eq; omega)
        go_wp2_with fail
        go_ret
        exact ⟨⟨_, _, rfl, by rw [HK.out] at hr; exact hr.mbs h.len_eq, (fun h => by cases h), fun x hx => by cases hx; exact ⟨_, rfl, Nat.le_refl _⟩⟩, hb⟩

/-- A pointer to a float came out, or none. -/
def FlOut (lo : Nat) (e : Ending) (w' : World) : Prop := ∃ p, e = .returned (.pointer p) ∧ FlIn w' p ∧ ∀ x, p = some x → lo ≤ x.block
set_option maxRecDepth 100000 in
set_option maxHeartbeats 1000000 in
/-- 'zzCloneFloat'. -/
theorem cloneFloat_any (p : Option Addr) (w : World) (h : FlIn w p) :
    Calls Try.prog 22 #[.pointer p] w fun e w' => FlOut w.heap.size e w' ∧ Below w.heap.size w w' := by
  rcases h with rfl | ⟨b, o, k, x, rfl, h1, h2⟩
  · go_enter Try.func22, Try.ntmps22
    go_wp2_with fail
    go_ret
    exact ⟨⟨none, rfl, .inl rfl, fun x hx => by cases hx⟩, Below.refl _ _⟩
  · have hst : ∀ (a : Addr) (w : World), (store a (.float k x)).run Try.prog w = stored Try.prog w a (.float k x) _ := fun a w => run_store Try.prog w a _ _ rfl
    go_enter Try.func22, Try.ntmps22
    go_wp2_with fail
    go_ret
    exact ⟨⟨_, rfl, .inr ⟨w.heap.size, 0, k, x, rfl, by simp, World.cell?_alloc_at _ _ _ _ rfl⟩, fun x hx => by cases hx; exact Nat.le_refl _⟩, balloc _ _⟩
end Go.Proofs.Qxb6603645a
