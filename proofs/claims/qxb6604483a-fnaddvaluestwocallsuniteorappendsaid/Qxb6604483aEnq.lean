import Derived.Test.Qxb6604483aInsert
namespace Go.Proofs.Qxb6604483a
open Go.RowKit Go.Maps
set_option linter.unusedSimpArgs false
set_option linter.unusedVariables false

theorem own_set {w : World} {base : Nat} {e : TypeId} {size n g cap i : Nat} {xs : List Value} (h : w.ownsRow base e size (.slice (some ⟨g, 0, none⟩) n cap) n xs) (u : Value) :
    (w.setCell ⟨g, i, none⟩ u).ownsRow base e size (.slice (some ⟨g, 0, none⟩) n cap) n (xs.set i u) := by
  obtain ⟨h1, h2⟩ := h
  refine ⟨by simpa using h1, .inr ?_⟩
  rcases h2 with ⟨h2, _⟩ | ⟨g', cap', cur, hv, hb, hg, hn, hc, hs, ht⟩
  · cases h2
  · cases hv
    refine ⟨g, cap, cur.setIfInBounds i u, rfl, hb, ?_, hn, hc, by simpa using hs, ?_⟩
    · rw [setCell_eq_setRow _ g i _ _ _ _ hg, setRow_heap _ g _ _ _ _ hg]
    · rw [← ht, Array.toList_setIfInBounds, List.take_set]

theorem flatE_set : ∀ (es : List En) (i : Nat) (e : En), es[i]? = some e → flatE (es.set i (e.1, e.2.1, e.2.2.1, true)) = (flatE es).set (i * 3 + 2) (.bool true)
  | [], i, e, h => by simp at h
  | u :: es, 0, e, h => by
    simp at h
    subst h
    simp [flatE, enC]
  | u :: es, i + 1, e, h => by
    have := flatE_set es i e (by simpa using h)
    have q : ∀ l, flatE (u :: l) = enC u ++ flatE l := fun l => by simp [flatE]
    rw [List.set_cons_succ, q, q, this, List.set_append_right _ _ (by simp [enC]; omega)]
    congr 2
    simp [enC]
    omega

theorem Try.info3 : (Try.prog.info? 3).map (fun i => (i.zero, i.size, i.bytes)) = some (some (.int .i64 0), 1, 8) := by kernel_rfl

set_option maxRecDepth 100000 in
set_option maxHeartbeats 2000000 in
/-- An entry that is queued: nothing happens. -/
theorem enq_old (S : Nat) (m : Option Nat) (pr q : Value) (es : List En) (i : Nat) (e : En) (w : World) (hH : HeadIs w S m pr q) (hP : w.ownsRow 0 34 3 pr es.length (flatE es)) (he : es[i]? = some e) (hq : e.2.2.2 = true) (hes : es.length ≤ 5) :
    Calls Try.prog 50 #[.pointer (some ⟨S, 0, none⟩), .int .i64 (i : Int)] w fun e w' => e = .returned (.tuple #[]) ∧ w' = w := by
  obtain ⟨c0, c1, c2, c3, hlt, hf⟩ := hH.cells
  have hn : i < es.length := (List.getElem?_eq_some_iff.1 he).1
  obtain ⟨g, cap, rfl, hg, _, hc⟩ := preds_at hP (by omega)
  have d2 := hc _ _ (flatE_get es i e he).2.2
  rw [hq] at d2
  clear hH hP he hc hf
  generalize es.length = n at *
  go_enter Try.func50, Try.ntmps50
  go_wp2_with fail
  go_end0
  exact ⟨rfl, rfl⟩

theorem one_news (w : World) (B : Nat) (u : Value) (hB : w.heap.size = B) (t : TypeId) : ∀ j x, [u][j]? = some x → (w.alloc (.cells #[u] t)).cell? ((⟨B, 0, none⟩ : Addr).add j) = some x := by
  intro j x hj
  subst hB
  rw [Addr.add_lit, Nat.zero_add, World.cell?_alloc_at (w := w) _ _ _ _ rfl]
  simpa using hj

set_option maxRecDepth 100000 in
set_option maxHeartbeats 2000000 in
/-- An entry that is not queued: its flag is set, its place joins the queue. -/
theorem enq_new (S : Nat) (m : Option Nat) (pr q : Value) (es : List En) (qs : List Int) (i : Nat) (e : En) (w : World) (hH : HeadIs w S m pr q) (hP : w.ownsRow 0 34 3 pr es.length (flatE es)) (hQ : w.ownsRow 0 3 1 q qs.length (qs.map (.int .i64 ·))) (he : es[i]? = some e) (hq : e.2.2.2 = false) (hes : es.length ≤ 5) (hqs : qs.length ≤ 5) :
    Calls Try.prog 50 #[.pointer (some ⟨S, 0, none⟩), .int .i64 (i : Int)] w fun o w' => o = .returned (.tuple #[]) ∧ ∃ q', HeadIs w' S m pr q' ∧ w'.ownsRow 0 34 3 pr es.length (flatE (es.set i (e.1, e.2.1, e.2.2.1, true))) ∧ w'.ownsRow 0 3 1 q' (qs.length + 1) ((qs ++ [(i : Int)]).map (.int .i64 ·)) ∧
      Fr (fun k => k = S ∨ some k = pr.ownBlock ∨ some k = q.ownBlock) w w' ∧ ∀ k, q'.ownBlock = some k → q.ownBlock = some k ∨ w.heap.size ≤ k := by
  obtain ⟨i0, hi0, hz0, hz1, hz2⟩ := info_parts Try.info3
  obtain ⟨c0, c1, c2, c3, hlt, hf⟩ := hH.cells
  have hn : i < es.length := (List.getElem?_eq_some_iff.1 he).1
  obtain ⟨g, cap, rfl, hg, hgf, hc⟩ := preds_at hP (by omega)
  have d2 := hc _ _ (flatE_get es i e he).2.2
  rw [hq] at d2
  have hSg : S ≠ g := fun e => head_ne_row hH hP (by decide) (by rw [e]; rfl)
  have hqg : q.ownBlock ≠ some g := fun e => by
    obtain ⟨cur, h1⟩ := own_block hQ e
    obtain ⟨cur', h2⟩ := own_block (k := g) hP rfl
    rw [h1] at h2
    simp at h2
  have hSq := head_ne_row hH hQ (by decide)
  have hH1 : HeadIs (w.setCell ⟨g, i * 3 + 2, none⟩ (.bool true)) S m (.slice (some ⟨g, 0, none⟩) es.length cap) q := hH.of ((Touch.setCell w g _ _).block S hSg)
  have hP1 := own_set (i := i * 3 + 2) hP (.bool true)
  rw [← flatE_set es i e he] at hP1
  have hQ1 : (w.setCell ⟨g, i * 3 + 2, none⟩ (.bool true)).ownsRow 0 3 1 q qs.length (qs.map (.int .i64 ·)) := ownsRow_setCell_other hQ hqg _
  have ff := hgf (i * 3 + 2)
  have hQ2 := hQ1.alloc (.cells #[.int .i64 (i : Int)] 3)
  obtain ⟨e0, e1, e2, e3, hlt1, hf1⟩ := hH1.cells
  have hw1 : (w.setCell ⟨g, i * 3 + 2, none⟩ (.bool true)).heap.size = w.heap.size := (Touch.setCell w g _ _).size
  have f2 := hf1 2
  have Hq : Hid (q.ownBlock ≠ some g ∧ some S ≠ q.ownBlock) := ⟨hqg, hSq⟩
  clear hc hf hgf hf1 hqg hSq
  generalize hN : es.length = n at *
  go_enter Try.func50, Try.ntmps50
  go_wp2_with (at_builtin; refine wpList_append_lies _ rfl (.tmp 24) (.tmp 26) 35 rfl 0 3 i0 _ 1 8 Try.underlying35 hi0 hz0 hz1 hz2 rfl (by decide) q qs.length (qs.map (.int .i64 ·)) rfl hQ2 ⟨w.heap.size, 0, none⟩ 1 1 [.int .i64 (i : Int)] rfl rfl (one_news _ _ _ hw1 _) (by simp [Value.oneCell']) (by decide) (by unfold maxLen; omega) (by omega) (Nat.zero_le _) _ rfl ?_; intro g2 cap2 w3 hown3 hgrow hat hlt3; have q1 : w3.cell? ⟨S, 2, none⟩ = some q := (by rw [hgrow.cell_far _ (by simp; omega) Hq.out.2, World.cell?_alloc_lt _ _ _ hlt1]; exact e2); have q2 : w3.frozen? ⟨S, 2, none⟩ = false := (by rw [hgrow.frozen_far _ (by simp; omega) Hq.out.2, World.frozen?_alloc_past _ _ _ hlt1]; exact f2))
  go_end0
  have hS3 : w3.heap[S]? = (w.setCell ⟨g, i * 3 + 2, none⟩ (.bool true)).heap[S]? := by
    rw [hgrow.block S (by simp; omega) Hq.out.2]
    exact Below.heap_alloc _ _ _ hlt1
  have hH3 := hH1.of hS3
  have hP3 := ((hP1.alloc (.cells #[.int .i64 (i : Int)] 3)).kept hgrow (.inr (fun e => Hq.out.1 e.symm)))
  have hT := Touch.setCell w3 S 2 (.slice (some ⟨g2, 0, none⟩) (qs.length + 1) cap2)
  refine ⟨rfl, _, hH3.set2 _, hP3.kept (grown_touch hT) (.inr (fun e => head_ne_row hH3 hP3 (by decide) e.symm)), ?_, ?_, ?_⟩
  · rw [List.map_append]
    exact hown3.kept (grown_touch hT) (.inr (fun e => head_ne_row hH3 hown3 (by decide) e.symm))
  · have f1 : Fr (fun k => k = S ∨ some k = some g ∨ some k = q.ownBlock) w (w.setCell ⟨g, i * 3 + 2, none⟩ (.bool true)) := Fr.of_touch (Touch.setCell w g _ _) (.inr (.inl rfl))
    have f2 := Fr.trans f1 (Fr.of_below (X := fun _ => False) (balloc _ (.cells #[.int .i64 (i : Int)] 3))) (fun i hi e => e.elim)
    have f3 := Fr.trans f2 (Fr.of_grown (X := fun k => some k = q.ownBlock) hgrow (fun k hk => hk)) (fun i hi e => .inr (.inr e))
    exact Fr.trans f3 (Fr.of_touch (X := fun k => k = S) hT rfl) (fun i hi e => .inl e)
  · intro k hk
    simp [Value.ownBlock] at hk
    subst hk
    rcases hat with h | h
    · exact .inl h
    · right
      rw [h]
      simp
end Go.Proofs.Qxb6604483a
