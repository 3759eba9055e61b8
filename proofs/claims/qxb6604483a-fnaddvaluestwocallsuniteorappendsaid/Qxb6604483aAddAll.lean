import Derived.Test.Qxb6604483aAdd2
namespace Go.Proofs.Qxb6604483a
open Go.RowKit
set_option linter.unusedSimpArgs false
set_option linter.unusedVariables false

/-- The terms of a list added one after the other. -/
def addL (r : Bool × List Tm) (ts : List Tm) : Bool × List Tm := ts.foldl (fun r t => (addS r.1 r.2 t).1) r
/-- What 'addAll' does to a set. -/
def addA (r : Bool × List Tm) (x : Bool × List Tm) : Bool × List Tm := if x.1 = true then (true, []) else addL r x.2

theorem addS_le {any : Bool} {ts : List Tm} {t : Tm} (h : ts.length ≤ 16) : (addS any ts t).1.2.length ≤ 16 := by
  unfold addS
  split
  · exact h
  · split
    · simp
    · simp; omega
theorem addL_le : ∀ (ts : List Tm) (r : Bool × List Tm), r.2.length ≤ 16 → (addL r ts).2.length ≤ 16
  | [], _, h => h
  | t :: ts, r, h => addL_le ts _ (addS_le h)
theorem addL_snoc (r : Bool × List Tm) (ts : List Tm) (k : Nat) (t : Tm) (h : ts[k]? = some t) : addL r (ts.take (k + 1)) = (addS (addL r (ts.take k)).1 (addL r (ts.take k)).2 t).1 := by
  rw [take_snoc ts k t h]
  unfold addL
  rw [List.foldl_append]
  rfl

theorem setset (cs : List Value) (o : Nat) (a b c d : Value) : ((((cs.set o a).set (o + 1) b).set o c).set (o + 1) d) = (cs.set o c).set (o + 1) d := by
  rw [List.set_comm _ _ (show o + 1 ≠ o by omega), List.set_set, List.set_set]

theorem SetAt.trans {w w1 w2 : World} {A o : Nat} {cs : List Value} {v v1 : Value} {r1 r2 : Bool × List Tm}
    (hv : v1.ownBlock = none ∨ v1.ownBlock = v.ownBlock ∨ ∃ g, v1.ownBlock = some g ∧ w.heap.size ≤ g) (hm : Mod A v.ownBlock w w1)
    (h2 : SetAt w1 w2 A o ((cs.set o (.bool r1.1)).set (o + 1) v1) v1 r2) : SetAt w w2 A o cs v r2 := by
  obtain ⟨v2, g1, g2, g3, g4⟩ := h2
  refine ⟨v2, by rw [← setset cs o (.bool r1.1) v1]; exact g1, g2, ?_, g4.os.trans hm.os, g4.tape.trans hm.tape, g4.output.trans hm.output, Nat.le_trans hm.size g4.size, fun k hk ha hr => ?_⟩
  · rcases g3 with h | h | ⟨g, h, hg⟩
    · exact .inl h
    · rw [h]; exact hv
    · exact .inr (.inr ⟨g, h, Nat.le_trans hm.size hg⟩)
  · refine (g4.block k (Nat.lt_of_lt_of_le hk hm.size) ha ?_).trans (hm.block k hk ha hr)
    rcases hv with h | h | ⟨g, h, hg⟩
    · rw [h]; simp
    · rw [h]; exact hr
    · rw [h]
      intro e
      cases e
      omega

theorem SetAt.below {w w1 w2 : World} {A o : Nat} {cs : List Value} {v : Value} {r : Bool × List Tm} (hA : A < w.heap.size) (h : SetAt w w1 A o cs v r) (hb : Below w1.heap.size w1 w2) : SetAt w w2 A o cs v r := by
  obtain ⟨v1, g1, g2, g3, g4⟩ := h
  refine ⟨v1, ?_, own_below g2 hb, g3, g4.trans (Mod.of_below hb)⟩
  rw [hb.block A (Nat.lt_of_lt_of_le hA g4.size)]
  exact g1

/-- The source's blocks stay as they were: they are neither A nor the set's own row. -/
theorem SetAt.source {w w1 : World} {A o : Nat} {cs : List Value} {v : Value} {r : Bool × List Tm} (h : SetAt w w1 A o cs v r) {lo hi : Nat} (hA : A < lo ∨ hi ≤ A) (hv : ∀ g, v.ownBlock = some g → g < lo ∨ hi ≤ g) (hhi : hi ≤ w.heap.size) :
    SameIn lo hi w w1 := by
  obtain ⟨_, _, _, _, g4⟩ := h
  intro k h1 h2
  refine g4.block k (by omega) (by omega) (fun e => ?_)
  have := hv k e.symm
  omega

/-- Did one of the terms make the set grow? -/
def addF (r : Bool × List Tm) (ts : List Tm) : (Bool × List Tm) × Bool := ts.foldl (fun s t => ((addS s.1.1 s.1.2 t).1, (addS s.1.1 s.1.2 t).2 || s.2)) (r, false)
theorem addF_fst (r : Bool × List Tm) (ts : List Tm) : (addF r ts).1 = addL r ts := by
  unfold addF addL
  suffices h : ∀ (ts : List Tm) (s : (Bool × List Tm) × Bool), (ts.foldl (fun s t => ((addS s.1.1 s.1.2 t).1, (addS s.1.1 s.1.2 t).2 || s.2)) s).1 = ts.foldl (fun r t => (addS r.1 r.2 t).1) s.1 from h ts (r, false)
  intro ts
  induction ts with
  | nil => intro s; rfl
  | cons t ts ih => intro s; exact ih _
theorem addF_snoc (r : Bool × List Tm) (ts : List Tm) (k : Nat) (t : Tm) (h : ts[k]? = some t) : (addF r (ts.take (k + 1))).2 = ((addS (addL r (ts.take k)).1 (addL r (ts.take k)).2 t).2 || (addF r (ts.take k)).2) := by
  rw [← addF_fst, take_snoc ts k t h]
  unfold addF
  rw [List.foldl_append]
  rfl
/-- What 'addAll' returns. -/
def addG (r : Bool × List Tm) (x : Bool × List Tm) : Bool := if x.1 = true then !r.1 else (addF r x.2).2

set_option maxHeartbeats 1000000 in
theorem addAll_any (A o : Nat) (cs : List Value) (v : Value) (any : Bool) (ts : List Tm) (wa : Option Addr) (wn wc : Nat) (w : World) (hA : w.heap[A]? = some (.cells cs.toArray 63 (0, 0))) (h0 : cs[o]? = some (.bool any)) (h1 : cs[o + 1]? = some v) :
    Calls Try.prog 49 #[.pointer (some ⟨A, o, none⟩), .agg #[.bool true, .slice wa wn wc]] w fun e w' => e = .returned (.bool (!any)) ∧ SetAt w w' A o cs v (true, []) := by
  have S := fun w2 => SetAt.full (w2 := w2) (o := o) (v := v) (ts := ts) hA
  have c0 := at_cell hA h0
  have c1 := at_cell hA h1
  have hlt : A < w.heap.size := (Array.getElem?_eq_some_iff.1 hA).1
  have f0 := frozen_of_row w A o _ _ hA
  have f1 := frozen_of_row w A (o + 1) _ _ hA
  clear hA h0 h1
  have HS : Hid (∀ w2, Below w.heap.size w w2 → SetAt w ((w2.setCell ⟨A, o, none⟩ (.bool true)).setCell ⟨A, o + 1, none⟩ (.slice none 0 0)) A o cs v (true, [])) := S
  clear S
  go_enter Try.func49, Try.ntmps49
  go_wp2_with fail
  go_ret
  exact ⟨rfl, (HS.out w (Below.refl _ _)).below hlt (balloc _ _)⟩

theorem set2_0 (cs : List Value) (o : Nat) (a b : Value) (h : o + 1 < cs.length) : ((cs.set o a).set (o + 1) b)[o]? = some a := by
  rw [List.getElem?_set_ne (by omega), List.getElem?_set_self (by omega)]
theorem set2_1 (cs : List Value) (o : Nat) (a b : Value) (h : o + 1 < cs.length) : ((cs.set o a).set (o + 1) b)[o + 1]? = some b := by
  rw [List.getElem?_set_self (by simpa using h)]

set_option maxRecDepth 100000 in
set_option maxHeartbeats 2000000 in
theorem addAll_terms (A o lo hi : Nat) (cs : List Value) (v : Value) (any : Bool) (ts wts : List Tm) (wa : Option Addr) (wn wc : Nat) (w : World) (hA : w.heap[A]? = some (.cells cs.toArray 63 (0, 0))) (h0 : cs[o]? = some (.bool any)) (h1 : cs[o + 1]? = some v)
    (hown : w.ownsRow 0 86 3 v ts.length (flatT ts)) (hl : ts.length ≤ 16) (hT : TsIn lo hi w wa wn wts) (hAs : A < lo ∨ hi ≤ A) (hvs : ∀ g, v.ownBlock = some g → g < lo ∨ hi ≤ g) (hhi : hi ≤ w.heap.size) (hwn : wn ≤ 1048576) :
    Calls Try.prog 49 #[.pointer (some ⟨A, o, none⟩), .agg #[.bool false, .slice wa wn wc]] w fun e w' => e = .returned (.bool (addF (any, ts) wts).2) ∧ SetAt w w' A o cs v (addL (any, ts) wts) := by
  have hlt : A < w.heap.size := (Array.getElem?_eq_some_iff.1 hA).1
  have S0 := SetAt.same hA h0 h1 hown (balloc w (.cells #[.bool false, .slice wa wn wc] 63))
  have hcl : o + 1 < cs.length := (List.getElem?_eq_some_iff.1 h1).1
  clear hA h0 h1 hown
  go_enter Try.func49, Try.ntmps49
  go_wp2_with fail
  go_loopw [6, 23] (fun gr i wr => ∃ (k : Nat) (b : Bool), k ≤ wn ∧ i = .int .i64 (k : Int) ∧ b = (addF (any, ts) (wts.take k)).2 ∧ gr = .bool b ∧ SetAt w wr A o cs v (addL (any, ts) (wts.take k))) (fun _ i _ => wn - (intOf i).toNat)
  case atStart => exact ⟨0, false, Nat.zero_le _, rfl, rfl, rfl, S0⟩
  case round =>
    clear S0
    obtain ⟨k, b, hk, rfl, hb, rfl, hS⟩ := hrel
    have HBB : Hid (b = (addF (any, ts) (wts.take k)).2) := hb
    clear hb
    by_cases hlt2 : k < wn
    · have hsrc := hS.source hAs hvs hhi
      obtain ⟨bb, oo, rfl, q1, q2, hc⟩ := (hT.same hsrc).isAt (by omega)
      obtain ⟨t, ht⟩ : ∃ t, wts[k]? = some t := ⟨_, List.getElem?_eq_getElem (by rw [hT.len_eq]; exact hlt2)⟩
      obtain ⟨d0, d1, d2⟩ := hc k t ht
      have HT : Hid (wts[k]? = some t) := ht
      obtain ⟨v1, g1, g2, g3, g4⟩ := hS
      have hbl : bb < wr.heap.size := by have := g4.size; omega
      have hl1 := addL_le (wts.take k) (any, ts) hl
      clear hc ht hsrc
      have HG : Hid (wr.heap[A]? = some (.cells ((cs.set o (.bool (addL (any, ts) (wts.take k)).1)).set (o + 1) v1).toArray 63 (0, 0)) ∧ wr.ownsRow 0 86 3 v1 (addL (any, ts) (wts.take k)).2.length (flatT (addL (any, ts) (wts.take k)).2)) := ⟨g1, g2⟩
      clear g1 g2
      obtain ⟨r, hr⟩ : ∃ r, r = addL (any, ts) (wts.take k) := ⟨_, rfl⟩
      rw [← hr] at HG hl1
      have HR : Hid (r = addL (any, ts) (wts.take k)) := hr
      clear hr
      have bA : A < wr.heap.size := by have := g4.size; omega
      have b1 := balloc wr (.cells #[.int .u8 t.1, .int .i32 t.2.1, .string t.2.2] 86)
      have K1 : (wr.alloc (.cells #[.int .u8 t.1, .int .i32 t.2.1, .string t.2.2] 86)).heap[A]? = some (.cells ((cs.set o (.bool r.1)).set (o + 1) v1).toArray 63 (0, 0)) := by rw [b1.block A bA]; exact HG.out.1
      have K2 := own_below HG.out.2 b1
      have HK : Hid _ := And.intro K1 K2
      clear K1 K2
      have g5 : Mod A v.ownBlock w (wr.alloc (.cells #[.int .u8 t.1, .int .i32 t.2.1, .string t.2.2] 86)) := g4.trans (Mod.of_below b1)
      go_wp2_with fail
      refine (add_all A o _ v1 r.1 r.2 t _ HK.out.1 (set2_0 cs o _ _ hcl) (set2_1 cs o _ _ hcl) HK.out.2 hl1).mono ?_
      rintro e w2 ⟨rfl, hS2⟩
      have hS3 : SetAt w w2 A o cs v (addL (any, ts) (wts.take (k + 1))) := by
        rw [addL_snoc _ _ _ _ HT.out, ← HR.out]
        exact SetAt.trans g3 g5 hS2
      clear hS2 d0 d1 d2
      have HSN : Hid ((addF (any, ts) (wts.take (k + 1))).2 = ((addS r.1 r.2 t).2 || b)) := by
        show _ = _
        rw [addF_snoc _ _ _ _ HT.out, ← HR.out, ← HBB.out]
      generalize (addS r.1 r.2 t).2 = gb at *
      cases gb
      all_goals
        go_wp2_with fail
        go_roundw
        case rel => exact ⟨k + 1, _, by omega, by go_num, by rw [HSN.out]; rfl, rfl, hS3⟩
        case measure => simp [intOf]; omega
    · have HK : Hid (wts.take k = wts) := by show _ = _; exact List.take_of_length_le (by have := hT.len_eq; omega)
      go_wp2_with fail
      go_ret
      exact ⟨by rw [HBB.out, HK.out]; rfl, by rw [HK.out] at hS; exact hS⟩

/-- THE CONTRACT of 'addAll', every case. -/
theorem addAll_all (A o lo hi : Nat) (cs : List Value) (v : Value) (any wany : Bool) (ts wts : List Tm) (wa : Option Addr) (wn wc : Nat) (w : World) (hA : w.heap[A]? = some (.cells cs.toArray 63 (0, 0))) (h0 : cs[o]? = some (.bool any)) (h1 : cs[o + 1]? = some v)
    (hown : w.ownsRow 0 86 3 v ts.length (flatT ts)) (hl : ts.length ≤ 16) (hT : TsIn lo hi w wa wn wts) (hAs : A < lo ∨ hi ≤ A) (hvs : ∀ g, v.ownBlock = some g → g < lo ∨ hi ≤ g) (hhi : hi ≤ w.heap.size) (hwn : wn ≤ 1048576) :
    Calls Try.prog 49 #[.pointer (some ⟨A, o, none⟩), .agg #[.bool wany, .slice wa wn wc]] w fun e w' => e = .returned (.bool (addG (any, ts) (wany, wts))) ∧ SetAt w w' A o cs v (addA (any, ts) (wany, wts)) := by
  unfold addA addG
  cases wany with
  | true => exact addAll_any A o cs v any ts wa wn wc w hA h0 h1
  | false => exact addAll_terms A o lo hi cs v any ts wts wa wn wc w hA h0 h1 hown hl hT hAs hvs hhi hwn
end Go.Proofs.Qxb6604483a
