import Derived.Test.Qxb6604483aFind
import Derived.Deep.DeepCutAuto
namespace Go.Proofs.Qxb6604483a
open Go.RowKit Go.Maps
set_option linter.unusedSimpArgs false
set_option linter.unusedVariables false

/-- The world w' is w but for the blocks of X, and for new ones. -/
structure Fr (X : Nat → Prop) (w w' : World) : Prop where
  os : w'.os = w.os
  tape : w'.tape = w.tape
  output : w'.output = w.output
  size : w.heap.size ≤ w'.heap.size
  block : ∀ k, k < w.heap.size → ¬ X k → w'.heap[k]? = w.heap[k]?
theorem Fr.refl (X : Nat → Prop) (w : World) : Fr X w w := ⟨rfl, rfl, rfl, Nat.le_refl _, fun _ _ _ => rfl⟩
theorem Fr.of_below {X : Nat → Prop} {w w' : World} (h : Below w.heap.size w w') : Fr X w w' := ⟨h.os, h.tape, h.output, h.size, fun k hk _ => h.block k hk⟩
theorem Fr.of_grown {X : Nat → Prop} {row : Option Nat} {w w' : World} (h : w.grownBy w' row) (hX : ∀ k, some k = row → X k) : Fr X w w' := ⟨h.os, h.tape, h.output, h.size, fun k hk hr => h.block k hk (fun e => hr (hX k e))⟩
theorem Fr.of_touch {X : Nat → Prop} {A : Nat} {w w' : World} (h : Touch A w w') (hX : X A) : Fr X w w' := ⟨h.os, h.tape, h.output, Nat.le_of_eq h.size.symm, fun k _ ha => h.block k (fun e => ha (e ▸ hX))⟩
theorem Fr.of_drewN {X : Nat → Prop} (w : World) (n : Nat) : Fr X w (w.drewN n) := ⟨rfl, rfl, rfl, Nat.le_refl _, fun _ _ _ => rfl⟩
theorem Fr.drew {X : Nat → Prop} {a w : World} (h : Fr X a w) : Fr X a w.drew := ⟨h.os, h.tape, h.output, h.size, h.block⟩
/-- Two steps; what the second may turn beyond X is new. -/
theorem Fr.trans {X Y : Nat → Prop} {a b c : World} (h : Fr X a b) (k : Fr Y b c) (hY : ∀ i, i < a.heap.size → Y i → X i) : Fr X a c :=
  ⟨k.os.trans h.os, k.tape.trans h.tape, k.output.trans h.output, Nat.le_trans h.size k.size, fun i hi hx => (k.block i (Nat.lt_of_lt_of_le hi h.size) (fun y => hx (hY i hi y))).trans (h.block i hi hx)⟩

theorem Try.info34 : (Try.prog.info? 34).map (fun i => (i.zero, i.size, i.bytes)) = some (some (.agg #[.int .i64 0, .slice none 0 0, .bool false]), 3, 40) := by kernel_rfl

/-- A store into the struct's block. -/
theorem HeadIs.set0 {w : World} {S : Nat} {m : Option Nat} {pr q : Value} (h : HeadIs w S m pr q) (m' : Option Nat) : HeadIs (w.setCell ⟨S, 0, none⟩ (.map m')) S m' pr q := by
  show _ = _
  rw [setCell_eq_setRow w S 0 _ _ _ _ h, setRow_heap w S _ _ _ _ h]
  rfl
theorem HeadIs.set1 {w : World} {S : Nat} {m : Option Nat} {pr q : Value} (h : HeadIs w S m pr q) (pr' : Value) : HeadIs (w.setCell ⟨S, 1, none⟩ pr') S m pr' q := by
  show _ = _
  rw [setCell_eq_setRow w S 1 _ _ _ _ h, setRow_heap w S _ _ _ _ h]
  rfl
theorem HeadIs.set2 {w : World} {S : Nat} {m : Option Nat} {pr q : Value} (h : HeadIs w S m pr q) (q' : Value) : HeadIs (w.setCell ⟨S, 2, none⟩ q') S m pr q' := by
  show _ = _
  rw [setCell_eq_setRow w S 2 _ _ _ _ h, setRow_heap w S _ _ _ _ h]
  rfl
theorem HeadIs.of {w w' : World} {S : Nat} {m : Option Nat} {pr q : Value} (h : HeadIs w S m pr q) (hb : w'.heap[S]? = w.heap[S]?) : HeadIs w' S m pr q := hb.trans h

/-- The empty sets that 'make([]values, n)' lays. -/
def empties (n : Nat) : List Vr := List.replicate n (false, none, 0, [])
theorem flatV_empties (n : Nat) : (madeCells (Value.agg #[.bool false, .slice none 0 0]).cells (n * 2)).toList = flatV (empties n) := by
  apply List.ext_getElem?
  intro i
  by_cases hi : i < n * 2
  · have h1 : (madeCells (Value.agg #[.bool false, .slice none 0 0]).cells (n * 2)).toList[i]? = some (#[Value.bool false, Value.slice none 0 0][i % 2]!) := by
      simp [madeCells, hi, Value.cells]
    rw [h1]
    have h2 := flatV_get (empties n) (i / 2) (false, none, 0, []) (by simp [empties, List.getElem?_replicate]; omega)
    rcases Nat.mod_two_eq_zero_or_one i with h | h
    · rw [h, show i = i / 2 * 2 by omega, h2.1]; rfl
    · rw [h, show i = i / 2 * 2 + 1 by omega, h2.2]; rfl
  · rw [List.getElem?_eq_none (by simp [size_madeCells]; omega), List.getElem?_eq_none (by rw [flatV_length]; simp [empties]; omega)]

theorem made_map {w : World} {S : Nat} {pr q : Value} (h : HeadIs w S none pr q) :
    HeadIs ((w.setCell ⟨S, 0, none⟩ (.map (some w.heap.size))).alloc (.map #[] 0)) S (some w.heap.size) pr q ∧
      ((w.setCell ⟨S, 0, none⟩ (.map (some w.heap.size))).alloc (.map #[] 0)).ownsMap Try.prog 3 (plainElem (H := Unit) Try.prog 3) w.heap.size 0 (.map []) ∧
      Fr (fun k => k = S) w ((w.setCell ⟨S, 0, none⟩ (.map (some w.heap.size))).alloc (.map #[] 0)) := by
  have hlt : S < w.heap.size := (Array.getElem?_eq_some_iff.1 h).1
  have hz : (w.setCell ⟨S, 0, none⟩ (.map (some w.heap.size))).heap.size = w.heap.size := (Touch.setCell w S 0 _).size
  refine ⟨?_, ?_, ?_⟩
  · exact (h.set0 (some w.heap.size)).of (Below.heap_alloc _ _ _ (by rw [hz]; exact hlt))
  · have := World.ownsMap_made (H := Unit) (w.setCell ⟨S, 0, none⟩ (.map (some w.heap.size))) Try.prog 3 (plainElem Try.prog 3)
    rw [hz] at this
    exact this
  · exact Fr.trans (X := fun k => k = S) (Y := fun k => k = S) (Fr.of_touch (Touch.setCell w S 0 _) rfl) (Fr.of_below (balloc _ _)) (fun i _ h => h)

theorem enC_one (t : En) : ∀ u ∈ enC t, u.oneCell' = true := by
  intro u hu
  simp [enC] at hu
  rcases hu with rfl | rfl | rfl <;> rfl
theorem enC_news (w : World) (O : Obj) (t : En) : ∀ j u, (enC t)[j]? = some u → ((w.alloc O).alloc (.cells #[.int .i64 t.1, .slice (some ⟨t.2.1, 0, none⟩) t.2.2.1 t.2.2.1, .bool t.2.2.2] 34)).drew.cell? ((⟨w.heap.size + 1, 0, none⟩ : Addr).add j) = some u := by
  intro j u hj
  rw [Addr.add_lit, Nat.zero_add]
  show ((w.alloc O).alloc (.cells #[.int .i64 t.1, .slice (some ⟨t.2.1, 0, none⟩) t.2.2.1 t.2.2.1, .bool t.2.2.2] 34)).cell? _ = _
  rw [World.cell?_alloc_at _ _ _ _ (by simp)]
  simpa [enC] using hj

/-- Blocks of different kinds are different blocks. -/
theorem head_ne_map {H : Type} {w : World} {S M n : Nat} {m : Option Nat} {pr q : Value} {D : DataW H} (h : HeadIs w S m pr q) (hM : w.ownsMap Try.prog 3 (plainElem Try.prog 3) M n D) : S ≠ M := by
  intro e
  obtain ⟨es, clock, hb, _⟩ := hM
  rw [← e, show w.heap[S]? = _ from h] at hb
  cases hb
theorem own_block {w : World} {base : Nat} {e : TypeId} {size n : Nat} {v : Value} {xs : List Value} (h : w.ownsRow base e size v n xs) {k : Nat} (hk : v.ownBlock = some k) : ∃ cur, w.heap[k]? = some (.cells cur e (0, 0)) := by
  rcases h.2 with ⟨h', _⟩ | ⟨g, cap, cur, h', _, hg, _⟩
  · rw [h'] at hk; cases hk
  · rw [h'] at hk
    simp [Value.ownBlock] at hk
    subst hk
    exact ⟨cur, hg⟩
theorem head_ne_row {w : World} {S : Nat} {m : Option Nat} {pr q : Value} {base : Nat} {e : TypeId} {size n : Nat} {v : Value} {xs : List Value} (h : HeadIs w S m pr q) (hv : w.ownsRow base e size v n xs) (he : e ≠ 59) : some S ≠ v.ownBlock := by
  intro hk
  obtain ⟨cur, hc⟩ := own_block hv hk.symm
  rw [show w.heap[S]? = _ from h] at hc
  simp at hc
  exact he hc.2.symm
theorem map_ne_row {H : Type} {w : World} {M nM : Nat} {D : DataW H} {base : Nat} {e : TypeId} {size n : Nat} {v : Value} {xs : List Value} (hM : w.ownsMap Try.prog 3 (plainElem Try.prog 3) M nM D) (hv : w.ownsRow base e size v n xs) : some M ≠ v.ownBlock := by
  intro hk
  obtain ⟨cur, hc⟩ := own_block hv hk.symm
  obtain ⟨es, clock, hb, _⟩ := hM
  rw [hb] at hc
  cases hc

theorem own_fr {X : Nat → Prop} {w w' : World} {base : Nat} {e : TypeId} {size n : Nat} {v : Value} {xs : List Value} (h : w.ownsRow base e size v n xs) (hF : Fr X w w') (hX : ∀ k, v.ownBlock = some k → ¬ X k) : w'.ownsRow base e size v n xs := by
  obtain ⟨h1, h2⟩ := h
  refine ⟨h1, ?_⟩
  rcases h2 with h2 | ⟨g, cap, cur, hv, hg, hh, r⟩
  · exact .inl h2
  · refine .inr ⟨g, cap, cur, hv, hg, ?_, r⟩
    rw [hF.block g (Array.getElem?_eq_some_iff.1 hh).1 (hX g (by rw [hv]; rfl))]
    exact hh

/-- The world after 'insert': assembled. -/
theorem insert_end {S M nM1 g cap n : Nat} {m : Option Nat} {pr q : Value} {es : List En} {p : Int} {D1 : DataW Unit} {w wc w1 w3 : World} {pa : Option Addr} {pc : Nat} (hpr : pr = .slice pa es.length pc)
    (hH : HeadIs w S m pr q) (hP : w.ownsRow 0 34 3 pr es.length (flatE es)) (hF1 : Fr (fun k => k = S) w wc) (hMor : m = some M ∨ w.heap.size ≤ M) (hg1 : wc.drew.grownBy w1 (some M))
    (hH2 : HeadIs w1 S (some M) pr q) (hP2 : w1.ownsRow 0 34 3 pr es.length (flatE es)) (hM2 : w1.ownsMap Try.prog 3 (plainElem Try.prog 3) M nM1 D1)
    (hown3 : w3.ownsRow 0 34 3 (.slice (some ⟨g, 0, none⟩) (es.length + 1) cap) (es.length + 1) (flatE es ++ enC (p, w1.heap.size, n, false)))
    (hgrow : ((w1.alloc (.cells (flatV (empties n)).toArray 63)).alloc (.cells #[.int .i64 p, .slice (some ⟨w1.heap.size, 0, none⟩) n n, .bool false] 34)).drew.grownBy w3 pr.ownBlock)
    (hat : pr.ownBlock = some g ∨ g = ((w1.alloc (.cells (flatV (empties n)).toArray 63)).alloc (.cells #[.int .i64 p, .slice (some ⟨w1.heap.size, 0, none⟩) n n, .bool false] 34)).drew.heap.size) :
    ∃ M A pr', HeadIs (w3.setCell ⟨S, 1, none⟩ (.slice (some ⟨g, 0, none⟩) (es.length + 1) cap)) S (some M) pr' q ∧ (w3.setCell ⟨S, 1, none⟩ (.slice (some ⟨g, 0, none⟩) (es.length + 1) cap)).ownsMap Try.prog 3 (plainElem Try.prog 3) M nM1 D1 ∧ (w3.setCell ⟨S, 1, none⟩ (.slice (some ⟨g, 0, none⟩) (es.length + 1) cap)).ownsRow 0 34 3 pr' (es.length + 1) (flatE (es ++ [(p, A, n, false)])) ∧
      (w3.setCell ⟨S, 1, none⟩ (.slice (some ⟨g, 0, none⟩) (es.length + 1) cap)).heap[A]? = some (.cells (flatV (empties n)).toArray 63 (0, 0)) ∧ w.heap.size ≤ A ∧ Fr (fun k => k = S ∨ some k = m ∨ some k = pr.ownBlock) w (w3.setCell ⟨S, 1, none⟩ (.slice (some ⟨g, 0, none⟩) (es.length + 1) cap)) ∧ (m = some M ∨ w.heap.size ≤ M) ∧ ∀ k, pr'.ownBlock = some k → pr.ownBlock = some k ∨ w.heap.size ≤ k := by
  have hne := head_ne_row hH2 hP2 (by decide)
  have hlt2 : S < w1.heap.size := (Array.getElem?_eq_some_iff.1 hH2).1
  have hSM : S ≠ M := head_ne_map hH2 hM2
  have hH3 : HeadIs w3 S (some M) pr q := by
    refine (show HeadIs ((w1.alloc (.cells (flatV (empties n)).toArray 63)).alloc (.cells #[.int .i64 p, .slice (some ⟨w1.heap.size, 0, none⟩) n n, .bool false] 34)).drew S (some M) pr q from ?_).of (hgrow.block S (by simp; omega) hne)
    show HeadIs ((w1.alloc _).alloc _) S (some M) pr q
    exact (hH2.of (Below.heap_alloc _ _ _ hlt2)).of (Below.heap_alloc _ _ _ (by simp; omega))
  have hw1 : w.heap.size ≤ w1.heap.size := Nat.le_trans hF1.size hg1.size
  have hM3 := ((hM2.alloc (.cells (flatV (empties n)).toArray 63)).alloc (.cells #[.int .i64 p, .slice (some ⟨w1.heap.size, 0, none⟩) n n, .bool false] 34)).drew.kept hgrow (map_ne_row hM2 hP2)
  have hPg : ∀ k, pr.ownBlock = some k → k < w1.heap.size := fun k hk => by
    obtain ⟨cur, hc⟩ := own_block hP2 hk
    exact (Array.getElem?_eq_some_iff.1 hc).1
  refine ⟨M, w1.heap.size, .slice (some ⟨g, 0, none⟩) (es.length + 1) cap, hH3.set1 _, hM3.setCell (Ne.symm hSM) _, ?_, ?_, hw1, ?_, hMor, ?_⟩
  · rw [flatE_append]
    have : flatE [(p, w1.heap.size, n, false)] = enC (p, w1.heap.size, n, false) := by simp [flatE]
    rw [this]
    exact hown3.kept (grown_touch (Touch.setCell w3 S 1 _)) (.inr (fun e => head_ne_row hH3 hown3 (by decide) e.symm))
  · rw [(Touch.setCell w3 S 1 _).block _ (by omega), hgrow.block w1.heap.size (by simp; omega) (fun e => by have := hPg _ e.symm; omega)]
    show ((w1.alloc _).alloc _).heap[w1.heap.size]? = _
    rw [Below.heap_alloc _ _ _ (by simp)]
    show (w1.heap.push _)[w1.heap.size]? = _
    simp
  · have hrow : ∀ k, some k = pr.ownBlock → (fun k => k = S ∨ some k = m ∨ some k = pr.ownBlock) k := fun k hk => .inr (.inr hk)
    have f1 : Fr (fun k => k = S ∨ some k = m ∨ some k = pr.ownBlock) w wc := ⟨hF1.os, hF1.tape, hF1.output, hF1.size, fun i hi hx => hF1.block i hi (fun e => hx (.inl e))⟩
    have f2 : Fr (fun k => k = M) wc w1 := Fr.of_grown (w := wc) (row := some M) ⟨hg1.os, hg1.tape, hg1.output, hg1.size, hg1.block⟩ (fun k hk => by simpa using hk)
    have f3 := Fr.trans f1 f2 (fun i hi e => by
      rcases hMor with h | h
      · exact .inr (.inl (by rw [h, e]))
      · omega)
    have b : Below w1.heap.size w1 ((w1.alloc (.cells (flatV (empties n)).toArray 63)).alloc (.cells #[.int .i64 p, .slice (some ⟨w1.heap.size, 0, none⟩) n n, .bool false] 34)).drew := ((balloc w1 _).alloc (by simp) _).drew
    have f4 := Fr.trans f3 (Fr.of_below (X := fun _ => False) b) (fun i hi e => e.elim)
    have f5 := Fr.trans f4 (Fr.of_grown (X := fun k => some k = pr.ownBlock) hgrow (fun k hk => hk)) (fun i hi e => .inr (.inr e))
    exact Fr.trans f5 (Fr.of_touch (X := fun k => k = S) (Touch.setCell w3 S 1 _) rfl) (fun i hi e => .inl e)
  · intro k hk
    simp [Value.ownBlock] at hk
    subst hk
    rcases hat with h | h
    · exact .inl h
    · right
      rw [h]
      show _ ≤ ((w1.alloc _).alloc _).heap.size
      simp
      omega

set_option maxRecDepth 100000 in
set_option maxHeartbeats 4000000 in
theorem insert_any (S : Nat) (m : Option Nat) (nM : Nat) (pa : Option Addr) (pc : Nat) (q : Value) (es : List En) (p : Int) (n : Nat) (D : DataW Unit) (w : World) (hp : (Lit.int .i64 p).wf = true) (hH : HeadIs w S m (.slice pa es.length pc) q) (hP : w.ownsRow 0 34 3 (.slice pa es.length pc) es.length (flatE es)) (hes : es.length ≤ 5)
    (hM : MapIs w m nM D) (hnM : nM ≤ 5) (hn : n ≤ 4096) :
    Calls Try.prog 48 #[.pointer (some ⟨S, 0, none⟩), .int .i64 p, .int .i64 (n : Int)] w fun e w' => e = .returned (.int .i64 (es.length : Int)) ∧
      ∃ M A pr', HeadIs w' S (some M) pr' q ∧ w'.ownsMap Try.prog 3 (plainElem Try.prog 3) M (nM + 1) (D.put (.int .i64 p) (.lit (.int .i64 es.length))) ∧ w'.ownsRow 0 34 3 pr' (es.length + 1) (flatE (es ++ [(p, A, n, false)])) ∧
        w'.heap[A]? = some (.cells (flatV (empties n)).toArray 63 (0, 0)) ∧ w.heap.size ≤ A ∧ Fr (fun k => k = S ∨ some k = m ∨ some k = (Value.slice pa es.length pc).ownBlock) w w' ∧ (m = some M ∨ w.heap.size ≤ M) ∧ ∀ k, pr'.ownBlock = some k → (Value.slice pa es.length pc).ownBlock = some k ∨ w.heap.size ≤ k := by
  have heq := fun w => run_eql_map_nil (P := Try.prog) w 37 3 3 m Try.underlying37
  have hmm := @run_makeMap Try.prog
  obtain ⟨c0, c1, c2, c3, hlt, hf⟩ := hH.cells
  have f0 := hf 0
  go_enter Try.func48, Try.ntmps48
  go_upto_if 11 with fail
  go_cut [0] (fun s wx => s = .pointer (some ⟨S, 0, none⟩) ∧ ∃ M, HeadIs wx S (some M) (.slice pa es.length pc) q ∧ wx.ownsMap Try.prog 3 (plainElem Try.prog 3) M nM D ∧ (m = some M ∨ w.heap.size ≤ M) ∧ Fr (fun k => k = S) w wx)
  case first =>
    cases m with
    | none =>
      obtain ⟨m1, m2, m3⟩ := made_map hH
      obtain ⟨rfl, rfl⟩ : D = .map [] ∧ nM = 0 := by
        rcases hM with ⟨_, h1, h2⟩ | ⟨M, h, _⟩
        · exact ⟨h1, h2⟩
        · cases h
      go_wp2_with fail
      go_meet
      case rel => exact ⟨rfl, _, m1, m2, .inr (Nat.le_refl _), m3⟩
    | some M =>
      have hM' : w.ownsMap Try.prog 3 (plainElem Try.prog 3) M nM D := by
        rcases hM with ⟨h, _⟩ | ⟨M', h, h'⟩
        · cases h
        · cases h; exact h'
      go_wp2_with fail
      go_meet
      case rel => exact ⟨rfl, M, hH, hM', .inl rfl, Fr.refl _ _⟩
  case rest =>
    clear c0 c1 c2 c3 f0 hf heq hmm
    obtain ⟨rfl, M, hH1, hM1, hMor, hF1⟩ := hcut
    have hP1 := own_fr hP hF1 (fun k hk e => head_ne_row hH hP (by decide) (by rw [hk, e]))
    obtain ⟨i0, hi0, hz0, hz1, hz2⟩ := info_parts Try.info34
    obtain ⟨i1, hi1, hy0, hy1, hy2⟩ := info_parts Try.info63
    have hmk : ∀ W : World, (Instr.makeSlice 28 (.int .i64 (n : Int)) (.int .i64 (n : Int))).run Try.prog W = .ok (.slice (some ⟨W.heap.size, 0, none⟩) n n) (W.alloc (.cells (flatV (empties n)).toArray 63)) := by
      intro W
      have := run_make (P := Try.prog) W 28 63 i1 _ Try.underlying28 hi1 hy0 .i64 .i64 (n : Int) (n : Int) (by omega) (by omega) (by rw [hy2]; omega) (by omega)
      rw [hy1, Int.toNat_natCast] at this
      rw [this, ← flatV_empties]
    have hwf : (Lit.int .i64 (es.length : Int)).wf = true := WalkArith.wf_i64 (by omega)
    obtain ⟨w1, hrun, hown1, hg1⟩ := (hM1.drew).update law Try.underlying37 (by unfold maxLen; omega) (keyOf_int_mk Try.underlying3 hp) (plainElem_int (a := (es.length : Int)) Try.underlying3 hwf)
    obtain ⟨c0, c1, c2, c3, hlt1, hf⟩ := hH1.cells
    go_wp2_with fail
    go_region
    have hSM : S ≠ M := head_ne_map hH1 hM1
    have hH2 : HeadIs w1 S (some M) (.slice pa es.length pc) q := hH1.of (hg1.block S hlt1 (by simpa using hSM))
    have hP2 : w1.ownsRow 0 34 3 (.slice pa es.length pc) es.length (flatE es) := hP1.drew.kept hg1 (.inr (fun e => map_ne_row hM1 hP1 e.symm))
    clear c0 c1 c2 c3 hf hrun
    obtain ⟨c0, c1, c2, c3, hlt2, hf⟩ := hH2.cells
    have hne2 := head_ne_row hH2 hP2 (by decide)
    have f1 := hf 1
    have hP4 : ((w1.alloc (.cells (flatV (empties n)).toArray 63)).alloc (.cells #[.int .i64 p, .slice (some ⟨w1.heap.size, 0, none⟩) n n, .bool false] 34)).drew.ownsRow 0 34 3 (.slice pa es.length pc) es.length (flatE es) := ((hP2.alloc _).alloc _).drew
    clear hf
    go_wp2_with fail
    go_region_law (refine step_append_lies _ rfl (.tmp 30) (.tmp 35) 30 rfl 0 34 i0 _ 3 40 Try.underlying30 hi0 hz0 hz1 hz2 rfl (by decide) (.slice pa es.length pc) es.length (flatE es) rfl hP4 ⟨w1.heap.size + 1, 0, none⟩ 1 1 (enC (p, w1.heap.size, n, false)) rfl rfl (enC_news w1 _ (p, w1.heap.size, n, false)) (enC_one _) (by decide) (by unfold maxLen; omega) (by omega) (Nat.zero_le _) _ rfl ?_; intro g cap w3 hown3 hgrow hat hlt3; have q1 : w3.cell? ⟨S, 1, none⟩ = some (.slice pa es.length pc) := (by rw [hgrow.cell_far _ (by simp; omega) hne2]; show ((w1.alloc _).alloc _).cell? _ = _; rw [World.cell?_alloc_lt _ _ _ (by simp; omega), World.cell?_alloc_lt _ _ _ hlt2]; exact c1); have q2 : w3.frozen? ⟨S, 1, none⟩ = false := (by rw [hgrow.frozen_far _ (by simp; omega) hne2]; show ((w1.alloc _).alloc _).frozen? _ = _; rw [World.frozen?_alloc_past _ _ _ (by simp; omega), World.frozen?_alloc_past (w := w1) _ _ _ hlt2]; exact f1))
    all_goals
      have E := insert_end rfl hH hP hF1 hMor hg1 hH2 hP2 hown1 hown3 hgrow hat
      have HE : Hid _ := E
      clear q2 E
      go_wp2_with fail
      go_ret
      exact ⟨by congr 2, HE.out⟩
end Go.Proofs.Qxb6604483a
