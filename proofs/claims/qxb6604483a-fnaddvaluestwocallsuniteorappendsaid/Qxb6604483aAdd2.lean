import Derived.Test.Qxb6604483aAdd
namespace Go.Proofs.Qxb6604483a
open Go.RowKit
set_option linter.unusedSimpArgs false
set_option linter.unusedVariables false

theorem own_ne {w : World} {v : Value} {n : Nat} {xs : List Value} {A : Nat} {cs : List Value} (h : w.ownsRow 0 86 3 v n xs) (hA : w.heap[A]? = some (.cells cs.toArray 63 (0, 0))) : some A ≠ v.ownBlock := by
  intro e
  rcases h.2 with ⟨h', _⟩ | ⟨g, cap, cur, h', _, hg, _⟩
  · rw [h'] at e; cases e
  · rw [h'] at e
    simp [Value.ownBlock] at e
    subst e
    rw [hA] at hg
    simp at hg
theorem grown_touch {g : Nat} {w w' : World} (h : Touch g w w') : w.grownBy w' (some g) := ⟨h.os, h.tape, h.output, Nat.le_of_eq h.size.symm, fun k _ hr => h.block k (fun e => hr (by rw [e]))⟩
theorem own_below {w w' : World} {v : Value} {n : Nat} {xs : List Value} {base : Nat} {e : TypeId} {size : Nat} (h : w.ownsRow base e size v n xs) (hb : Below w.heap.size w w') : w'.ownsRow base e size v n xs :=
  h.kept (row := none) ⟨hb.os, hb.tape, hb.output, hb.size, fun k hk _ => hb.block k hk⟩ (by cases hv : v.ownBlock <;> simp)

/-- 'add' of a new term to fewer than sixteen. -/
theorem SetAt.new {w w2 w3 : World} {A o g cap : Nat} {cs : List Value} {v : Value} {ts : List Tm} {t : Tm} (hA : w.heap[A]? = some (.cells cs.toArray 63 (0, 0))) (h0 : cs[o]? = some (.bool false)) (hown : w.ownsRow 0 86 3 v ts.length (flatT ts))
    (hb : Below w.heap.size w w2) (hown3 : w3.ownsRow 0 86 3 (.slice (some ⟨g, 0, none⟩) (ts.length + 1) cap) (ts.length + 1) (flatT ts ++ tmC t)) (hg : w2.grownBy w3 v.ownBlock) (hat : v.ownBlock = some g ∨ g = w2.heap.size) :
    SetAt w (w3.setCell ⟨A, o + 1, none⟩ (.slice (some ⟨g, 0, none⟩) (ts.length + 1) cap)) A o cs v (false, ts ++ [t]) := by
  have hlt : A < w.heap.size := (Array.getElem?_eq_some_iff.1 hA).1
  have hne := own_ne hown hA
  have h2 : w2.heap[A]? = some (.cells cs.toArray 63 (0, 0)) := by rw [hb.block A hlt]; exact hA
  have h3 : w3.heap[A]? = some (.cells cs.toArray 63 (0, 0)) := by rw [hg.block A (Nat.lt_of_lt_of_le hlt hb.size) hne]; exact h2
  have htc := Touch.setCell w3 A (o + 1) (.slice (some ⟨g, 0, none⟩) (ts.length + 1) cap)
  refine ⟨.slice (some ⟨g, 0, none⟩) (ts.length + 1) cap, ?_, ?_, ?_, ((Mod.of_below hb).trans (Mod.of_grown hg)).trans (Mod.of_touch htc)⟩
  · rw [setCell_eq_setRow _ A (o + 1) _ _ _ _ h3, setRow_heap _ A _ _ _ _ h3]
    have e : cs.set o (.bool false) = cs := by
      obtain ⟨hi, he⟩ := List.getElem?_eq_some_iff.1 h0
      rw [← he]
      exact List.set_getElem_self hi
    simp [e]
  · have hl : (ts ++ [t]).length = ts.length + 1 := by simp
    rw [hl, flatT_append]
    exact hown3.kept (grown_touch htc) (.inr (fun e => own_ne hown3 h3 e.symm))
  · rcases hat with h | h
    · exact .inr (.inl h.symm)
    · exact .inr (.inr ⟨g, rfl, by rw [h]; exact hb.size⟩)

theorem tmC_one (t : Tm) : ∀ u ∈ tmC t, u.oneCell' = true := by
  intro u hu
  simp [tmC] at hu
  rcases hu with rfl | rfl | rfl <;> rfl
theorem tmC_news (w : World) (t : Tm) : ∀ j u, (tmC t)[j]? = some u → (w.alloc (.cells #[.int .u8 t.1, .int .i32 t.2.1, .string t.2.2] 86)).drew.cell? ((⟨w.heap.size, 0, none⟩ : Addr).add j) = some u := by
  intro j u hj
  rw [Addr.add_lit, Nat.zero_add]
  show (w.alloc (.cells #[.int .u8 t.1, .int .i32 t.2.1, .string t.2.2] 86)).cell? _ = _
  rw [World.cell?_alloc_at (w := w) _ _ _ _ rfl]
  simpa [tmC] using hj

set_option maxHeartbeats 2000000 in
theorem add_new (A o : Nat) (cs : List Value) (v : Value) (ts : List Tm) (t : Tm) (w : World) (hA : w.heap[A]? = some (.cells cs.toArray 63 (0, 0))) (h0 : cs[o]? = some (.bool false)) (h1 : cs[o + 1]? = some v)
    (hown : w.ownsRow 0 86 3 v ts.length (flatT ts)) (hl : ts.length < 16) (hh : hasB ts t = false) :
    Calls Try.prog 61 #[.pointer (some ⟨A, o, none⟩), tmV t] w fun e w' => e = .returned (.bool true) ∧ SetAt w w' A o cs v (false, ts ++ [t]) := by
  obtain ⟨i0, hi0, hz0, hz1, hz2⟩ := info_parts Try.info86
  have S := fun w2 w3 g cap => SetAt.new (w2 := w2) (w3 := w3) (g := g) (cap := cap) (t := t) hA h0 hown
  have hne := own_ne hown hA
  obtain ⟨a, c, hv⟩ := own_shape hown
  subst hv
  have hT := own_tsIn hown rfl
  have c0 := at_cell hA h0
  have c1 := at_cell hA h1
  have hlt : A < w.heap.size := (Array.getElem?_eq_some_iff.1 hA).1
  have f1 := frozen_of_row w A (o + 1) _ _ hA
  clear hA h0 h1
  have HS : Hid _ := And.intro S hh
  clear S hh
  unfold tmV
  have hT2 : TsIn 0 w.heap.size (w.alloc (.cells #[.int .u8 t.1, .int .i32 t.2.1, .string t.2.2] 86)) a ts.length ts := hT.below (balloc _ _) (Nat.le_refl _)
  have t16 : ((ts.length : Int) == 16) = false := by rw [beq_eq_false_iff_ne]; omega
  go_enter Try.func61, Try.ntmps61
  go_wp2_with fail
  go_region_with (go_at_call 65; refine (has_terms 0 w.heap.size a ts.length c ts t (w.alloc (.cells #[.int .u8 t.1, .int .i32 t.2.1, .string t.2.2] 86)).drew (by simp) hT2.drew (by omega)).mono ?_; rintro e w2 ⟨rfl, hb2⟩; rw [HS.out.2])
  all_goals
    have b2 : Below w.heap.size w w2 := btd (balloc _ _) hb2 (by simp)
    have c1' : w2.cell? ⟨A, o + 1, none⟩ = some (.slice a ts.length c) := by rw [b2.cell hlt]; exact c1
    have f1' : w2.frozen? ⟨A, o + 1, none⟩ = false := by rw [b2.frozen hlt]; exact f1
    have g0 : w2.cell? ⟨w.heap.size, 0, none⟩ = some (.int .u8 t.1) := by rw [hb2.cell (by simp)]; show (w.alloc _).cell? _ = _; rw [World.cell?_alloc_at (w := w) _ _ _ _ rfl]; rfl
    have g1 : w2.cell? ⟨w.heap.size, 1, none⟩ = some (.int .i32 t.2.1) := by rw [hb2.cell (by simp)]; show (w.alloc _).cell? _ = _; rw [World.cell?_alloc_at (w := w) _ _ _ _ rfl]; rfl
    have g2 : w2.cell? ⟨w.heap.size, 2, none⟩ = some (.string t.2.2) := by rw [hb2.cell (by simp)]; show (w.alloc _).cell? _ = _; rw [World.cell?_alloc_at (w := w) _ _ _ _ rfl]; rfl
    have l2 : w.heap.size < w2.heap.size := balloc_size (w := w) (o := .cells #[.int .u8 t.1, .int .i32 t.2.1, .string t.2.2] 86) (B := 0) ⟨hb2.os, hb2.tape, hb2.output, hb2.size, fun k hk => absurd hk (Nat.not_lt_zero _)⟩
    have hlt2 : A < w2.heap.size := by omega
    have hown2 := own_below hown b2
    clear c0 c1 f1
    have b3 : Below w.heap.size w (w2.alloc (.cells #[.int .u8 t.1, .int .i32 t.2.1, .string t.2.2] 86)).drew := (b2.alloc b2.size _).drew
    have hown4 : (w2.alloc (.cells #[.int .u8 t.1, .int .i32 t.2.1, .string t.2.2] 86)).drew.ownsRow 0 86 3 (.slice a ts.length c) ts.length (flatT ts) := (hown2.alloc _).drew
    go_wp2_with fail
    go_region_law (refine step_append_lies _ rfl (.tmp 23) (.tmp 25) 61 rfl 0 86 i0 _ 3 24 Try.underlying61 hi0 hz0 hz1 hz2 rfl (by decide) (.slice a ts.length c) ts.length (flatT ts) rfl hown4 ⟨w2.heap.size, 0, none⟩ 1 1 (tmC t) rfl rfl (tmC_news w2 t) (tmC_one t) (by decide) (by unfold maxLen; omega) (by omega) (Nat.zero_le _) _ rfl ?_; intro g cap w3 hown3 hgrow hat hlt3; have q1 : w3.cell? ⟨A, o + 1, none⟩ = some (.slice a ts.length c) := (by rw [hgrow.cell_far _ (by simp; omega) hne]; show (w2.alloc _).cell? _ = _; rw [World.cell?_alloc_lt _ _ _ hlt2]; exact c1'); have q2 : w3.frozen? ⟨A, o + 1, none⟩ = false := (by rw [hgrow.frozen_far _ (by simp; omega) hne]; show (w2.alloc _).frozen? _ = _; rw [World.frozen?_alloc_past (w := w2) _ _ _ hlt2]; exact f1'))
    all_goals
      clear q1 q2 c1' f1' g0 g1 g2
      go_wp2_with fail
      go_ret
      exact ⟨rfl, HS.out.1 _ w3 g cap b3 hown3 hgrow hat⟩

/-- THE CONTRACT of 'add', every case. -/
theorem add_all (A o : Nat) (cs : List Value) (v : Value) (any : Bool) (ts : List Tm) (t : Tm) (w : World) (hA : w.heap[A]? = some (.cells cs.toArray 63 (0, 0))) (h0 : cs[o]? = some (.bool any)) (h1 : cs[o + 1]? = some v)
    (hown : w.ownsRow 0 86 3 v ts.length (flatT ts)) (hl : ts.length ≤ 16) :
    Calls Try.prog 61 #[.pointer (some ⟨A, o, none⟩), tmV t] w fun e w' => e = .returned (.bool (addS any ts t).2) ∧ SetAt w w' A o cs v (addS any ts t).1 := by
  unfold addS
  cases any with
  | true =>
    rw [if_pos (.inl rfl)]
    exact add_any A o cs v ts t w hA h0 h1 hown
  | false =>
    by_cases hh : hasB ts t = true
    · rw [if_pos (.inr hh)]
      exact add_hit A o cs v ts t w hA h0 h1 hown hl hh
    · rw [if_neg (by simp [hh])]
      by_cases h16 : ts.length = 16
      · rw [if_pos h16]
        exact add_full A o cs v ts t w hA h0 h1 hown h16 (by simpa using hh)
      · rw [if_neg h16]
        exact add_new A o cs v ts t w hA h0 h1 hown (by omega) (by simpa using hh)
end Go.Proofs.Qxb6604483a
