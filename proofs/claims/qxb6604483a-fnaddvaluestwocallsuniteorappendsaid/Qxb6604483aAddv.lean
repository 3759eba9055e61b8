import Derived.Test.Qxb6604483aEnt
namespace Go.Proofs.Qxb6604483a
open Go.RowKit Go.Maps
set_option linter.unusedSimpArgs false
set_option linter.unusedVariables false

/-- The struct with its map, its entries, its queue; its entry at place i, and that entry's sets. -/
structure Mid (w : World) (S : Nat) (m : Option Nat) (nM : Nat) (D : DataW Unit) (pr q : Value) (es : List En) (qs : List Int) (i A n : Nat) (rs : List Vr) (p : Int) (f : Bool) : Prop where
  head : HeadIs w S m pr q
  map : MapIs w m nM D
  preds : w.ownsRow 0 34 3 pr es.length (flatE es)
  queue : w.ownsRow 0 3 1 q qs.length (qs.map (.int .i64 ·))
  ent : es[i]? = some (p, A, n, f)
  ok : EntOk w A rs
  len : rs.length = n
  few : es.length ≤ 5 ∧ qs.length ≤ 5

/-- A block of another kind is not one of the entry's. -/
theorem EntOk.not {w : World} {A k : Nat} {rs : List Vr} (h : EntOk w A rs) {cur : Array Value} {t : TypeId} {fr : Nat × Nat} (hk : w.heap[k]? = some (.cells cur t fr)) (h1 : t ≠ 63) (h2 : t ≠ 86) : ¬ (k = A ∨ RowOf rs k) := by
  rintro (e | e)
  · rw [e, h.block] at hk
    simp at hk
    exact h1 hk.2.1.symm
  · obtain ⟨c, hc⟩ := h.row e
    rw [hc] at hk
    simp at hk
    exact h2 hk.2.1.symm
theorem EntOk.notMap {w : World} {A k : Nat} {rs : List Vr} (h : EntOk w A rs) {es : Array MapEntry} {c : Nat} (hk : w.heap[k]? = some (.map es c)) : ¬ (k = A ∨ RowOf rs k) := by
  rintro (e | e)
  · rw [e, h.block] at hk
    cases hk
  · obtain ⟨c, hc⟩ := h.row e
    rw [hc] at hk
    cases hk

theorem MapIs.fr {X : Nat → Prop} {w w' : World} {m : Option Nat} {n : Nat} {D : DataW Unit} (h : MapIs w m n D) (hF : Fr X w w') (hX : ∀ M es c, m = some M → w.heap[M]? = some (.map es c) → ¬ X M) : MapIs w' m n D := by
  rcases h with h | ⟨M, rfl, es, c, hb, hr⟩
  · exact .inl h
  · refine .inr ⟨M, rfl, es, c, ?_, hr⟩
    rw [hF.block M (Array.getElem?_eq_some_iff.1 hb).1 (hX M es c rfl hb)]
    exact hb

theorem Mid.keep {w w' : World} {S : Nat} {m : Option Nat} {nM : Nat} {D : DataW Unit} {pr q : Value} {es : List En} {qs : List Int} {i A n : Nat} {rs0 rs : List Vr} {p : Int} {f : Bool} (h : Mid w S m nM D pr q es qs i A n rs0 p f) (hS : EntStep w w' A rs0 rs) : Mid w' S m nM D pr q es qs i A n rs p f where
  head := h.head.of (hS.fr.block S (Array.getElem?_eq_some_iff.1 h.head).1 (h.ok.not h.head (by decide) (by decide)))
  map := h.map.fr hS.fr (fun M es c _ hb => h.ok.notMap hb)
  preds := own_fr h.preds hS.fr (fun k hk => by
    obtain ⟨cur, hc⟩ := own_block h.preds hk
    exact h.ok.not hc (by decide) (by decide))
  queue := own_fr h.queue hS.fr (fun k hk => by
    obtain ⟨cur, hc⟩ := own_block h.queue hk
    exact h.ok.not hc (by decide) (by decide))
  ent := h.ent
  ok := hS.ok
  len := hS.len.trans h.len
  few := h.few

/-- Behind 'enqueue' of an entry that was not queued. -/
theorem Mid.enq {w w' : World} {S : Nat} {m : Option Nat} {nM : Nat} {D : DataW Unit} {pr q q' : Value} {es : List En} {qs : List Int} {i A n : Nat} {rs : List Vr} {p : Int} (h : Mid w S m nM D pr q es qs i A n rs p false) (hq : qs.length ≤ 4)
    (h1 : HeadIs w' S m pr q') (h2 : w'.ownsRow 0 34 3 pr es.length (flatE (es.set i (p, A, n, true)))) (h3 : w'.ownsRow 0 3 1 q' (qs.length + 1) ((qs ++ [(i : Int)]).map (.int .i64 ·))) (hF : Fr (fun k => k = S ∨ some k = pr.ownBlock ∨ some k = q.ownBlock) w w') :
    Mid w' S m nM D pr q' (es.set i (p, A, n, true)) (qs ++ [(i : Int)]) i A n rs p true := by
  have hX : ∀ k, (k = A ∨ RowOf rs k) → ¬ (k = S ∨ some k = pr.ownBlock ∨ some k = q.ownBlock) := by
    rintro k hk (e | e | e)
    · exact h.ok.not (e ▸ h.head) (by decide) (by decide) hk
    · obtain ⟨cur, hc⟩ := own_block h.preds e.symm
      exact h.ok.not hc (by decide) (by decide) hk
    · obtain ⟨cur, hc⟩ := own_block h.queue e.symm
      exact h.ok.not hc (by decide) (by decide) hk
  refine ⟨h1, h.map.fr hF ?_, by rw [List.length_set]; exact h2, by rw [List.length_append]; exact h3, ?_, h.ok.fr hF (hX A (.inl rfl)) (fun g hg => hX g (.inr hg)), h.len, by rw [List.length_set]; exact h.few.1, by rw [List.length_append]; simp; omega⟩
  · rintro M es c rfl hb (e | e | e)
    · rw [e, show w.heap[S]? = _ from h.head] at hb
      cases hb
    · obtain ⟨cur, hc⟩ := own_block h.preds e.symm
      rw [hc] at hb
      cases hb
    · obtain ⟨cur, hc⟩ := own_block h.queue e.symm
      rw [hc] at hb
      cases hb
  · have hin : i < es.length := (List.getElem?_eq_some_iff.1 h.ent).1
    rw [List.getElem?_set_self hin]

/-- What stands ahead of the loop. -/
def AtCut (R : World → Option Nat → Value → Value → Nat → List Vr → List En → Prop) (lo hi : Nat) (a : Option Addr) (len : Nat) (vs : List Vr) (S nM : Nat) (D : DataW Unit) (qs : List Int) (i n : Nat) (p : Int) (f : Bool) (w : World) : Prop :=
  ∃ m pr q A rs es, Mid w S m nM D pr q es qs i A n rs p f ∧ VsIn lo hi w a len vs ∧ hi ≤ w.heap.size ∧ (A < lo ∨ hi ≤ A) ∧ (∀ g, RowOf rs g → g < lo ∨ hi ≤ g) ∧ R w m pr q A rs es

/-- What stands behind it. -/
def AtEnd (R : World → Option Nat → Value → Value → Nat → List Vr → List En → Prop) (vs : List Vr) (S nM : Nat) (D : DataW Unit) (qs : List Int) (i n : Nat) (p : Int) (f : Bool) (w' : World) : Prop :=
  ∃ w m pr q A rs0 es, R w m pr q A rs0 es ∧ Mid w S m nM D pr q es qs i A n rs0 p f ∧ ∃ q' es' qs' rs, Mid w' S m nM D pr q' es' qs' i A n rs p true ∧ (f = true → es' = es ∧ qs' = qs) ∧ (f = false → es' = es.set i (p, A, n, true) ∧ qs' = qs ++ [(i : Int)]) ∧
    (∀ (j : Nat) (r r0 : Vr), rs[j]? = some r → rs0[j]? = some r0 → datV r = addA (datV r0) (bAt vs j)) ∧ Fr (fun k => k = S ∨ some k = pr.ownBlock ∨ some k = q.ownBlock ∨ k = A ∨ RowOf rs0 k) w w' ∧ (∀ k, q'.ownBlock = some k → q.ownBlock = some k ∨ w.heap.size ≤ k) ∧ ∀ g, RowOf rs g → RowOf rs0 g ∨ w.heap.size ≤ g

/-- The call of find. -/
def Found (i : Nat) (f : Bool) (w : World) (e : Ending) (w' : World) : Prop := (∃ c : Int, e = .returned (.tuple #[.int .i64 c, .bool f]) ∧ (f = true → c = (i : Int))) ∧ ∃ k, w' = w.drewN k

set_option maxRecDepth 100000 in
set_option maxHeartbeats 4000000 in
theorem addv (R : World → Option Nat → Value → Value → Nat → List Vr → List En → Prop) (lo hi : Nat) (a : Option Addr) (len cap : Nat) (vs : List Vr) (S nM : Nat) (D : DataW Unit) (qs : List Int) (i n : Nat) (p : Int) (f : Bool) (w : World)
    (hfind : Calls Try.prog 47 #[.pointer (some ⟨S, 0, none⟩), .int .i64 p] w (Found i f w))
    (hold : f = true → ∀ k, AtCut R lo hi a len vs S nM D qs i n p true (w.drewN k))
    (hnew : f = false → ∀ k, Calls Try.prog 48 #[.pointer (some ⟨S, 0, none⟩), .int .i64 p, .int .i64 (len : Int)] (w.drewN k) fun e w' => e = .returned (.int .i64 (i : Int)) ∧ AtCut R lo hi a len vs S nM D qs i n p false w')
    (hln : len ≤ n) (hn : n ≤ 4096) (hi5 : i ≤ 5) (hqs : qs.length ≤ 4) (fV : ∀ (i : Nat) (x : Vr), vs[i]? = some x → x.2.2.2.length ≤ 1048576) :
    Calls Try.prog 29 #[.pointer (some ⟨S, 0, none⟩), .int .i64 p, .slice a len cap] w fun e w' => e = .returned (.tuple #[]) ∧ AtEnd R vs S nM D qs i n p f w' := by
  go_enter Try.func29, Try.ntmps29
  go_upto_if 19 with (go_at_call 47; refine hfind.mono ?_; rintro e w1 ⟨⟨c0, rfl, hc0⟩, k1, rfl⟩)
  go_cut [6] (fun s wx => s = .int .i64 (i : Int) ∧ AtCut R lo hi a len vs S nM D qs i n p f wx)
  case first =>
    cases f with
    | false =>
      go_wp2_with (go_at_call 48; refine (hnew rfl k1).mono ?_; rintro e w2 ⟨rfl, hC⟩)
      go_meet
      case rel => exact ⟨rfl, hC⟩
    | true =>
      have hC := hold rfl k1
      have hci := hc0 rfl
      subst hci
      clear hold hnew hc0
      go_wp2_with fail
      go_meet
      case rel => exact ⟨rfl, hC⟩
  case rest =>
    clear hnew hold hfind hc0
    obtain ⟨rfl, m, pr, q, A, rs0, es, hM, hV, hhi, hAo, hRo, hR⟩ := hcut
    obtain ⟨e0, e1, e2, e3, hSlt, _⟩ := hM.head.cells
    have hin : i < es.length := (List.getElem?_eq_some_iff.1 hM.ent).1
    obtain ⟨g, pcap, rfl, hg, _, hc⟩ := preds_at hM.preds (by omega)
    have d1 := hc _ _ (flatE_get es i _ hM.ent).2.1
    simp only at d1
    have hfew := hM.few.1
    have hrl := hM.len
    have HM : Hid _ := hM
    clear hc hM
    go_wp2_with fail
    go_loopw [8, 37] (fun gr iv wr => ∃ (k : Nat) (b : Bool) (rs : List Vr), k ≤ len ∧ iv = .int .i64 (k : Int) ∧ gr = .bool b ∧ (f = false → b = true) ∧ EntStep wc wr A rs0 rs ∧ Dat k rs0 vs rs) (fun _ iv _ => len - (intOf iv).toNat)
    case atStart => exact ⟨0, !f, rs0, Nat.zero_le _, rfl, rfl, fun e => by rw [e]; rfl, EntStep.refl HM.out.ok, Dat.refl _ _⟩
    case round =>
      clear d1 e0 e1 e2 e3
      obtain ⟨k, b, rs, hk, rfl, rfl, hb, hS, hD⟩ := hrel
      by_cases hkl : k < len
      · have hVr := hV.same (hS.source hAo hRo hhi)
        obtain ⟨bb, oo, rfl, q1, q2, hc⟩ := hVr.isAt (by omega)
        obtain ⟨x, hx⟩ : ∃ x, vs[k]? = some x := ⟨_, List.getElem?_eq_getElem (by rw [hV.len_eq]; exact hkl)⟩
        obtain ⟨r, hr⟩ : ∃ r, rs[k]? = some r := ⟨_, List.getElem?_eq_getElem (by rw [hS.len, hrl]; omega)⟩
        obtain ⟨d0, d1⟩ := hc k x hx
        have hT := hVr.terms k x hx
        have hx6 := fV k x hx
        have hsz := hS.fr.size
        have hbl : bb < wr.heap.size := by omega
        have hro : ∀ g, (vrS r).ownBlock = some g → g < lo ∨ hi ≤ g := fun g hg => by
          rcases hS.src g ⟨k, r, hr, hg⟩ with e | e
          · exact hRo g e
          · omega
        have hS1 := hS.below ((balloc wr (.cells #[.bool x.1, .slice x.2.1 x.2.2.2.length x.2.2.1] 63)).drew)
        have hT1 := (hT.below (balloc wr (.cells #[.bool x.1, .slice x.2.1 x.2.2.2.length x.2.2.1] 63)) (by omega)).drew
        have hall := addAll_all A (k * 2) lo hi (flatV rs) (vrS r) r.1 x.1 r.2.2.2 x.2.2.2 x.2.1 x.2.2.2.length x.2.2.1 _ hS1.ok.block (flatV_get rs k r hr).1 (flatV_get rs k r hr).2 (hS1.ok.own k r hr).1 (hS1.ok.own k r hr).2 hT1 hAo hro (by simp; omega) hx6
        have HX : Hid (vs[k]? = some x ∧ rs[k]? = some r) := ⟨hx, hr⟩
        have HB : Hid (f = false → b = true) := hb
        have hl16 := addA_le (r := (r.1, r.2.2.2)) (x := (x.1, x.2.2.2)) (hS1.ok.own k r hr).2
        clear hc hx hr hT1 hT hb fV
        generalize addG (r.1, r.2.2.2) (x.1, x.2.2.2) = gb at hall
        cases gb
        all_goals
          go_wp2_with fail
          first | go_region_with (go_at_call 49; refine hall.mono ?_; rintro e w2 ⟨rfl, hS2⟩) | fail
          all_goals
            obtain ⟨r', hr', hS3⟩ := hS1.step HX.out.2 hl16 hS2
            have hD3 := hD.step HX.out.2 HX.out.1 hS.len hr'
            clear hall hS2 d0 d1
            go_wp2_with fail
            go_roundw
            case rel => first | exact ⟨k + 1, b, rs.set k r', by omega, by go_num, rfl, HB.out, hS3, hD3⟩ | exact ⟨k + 1, true, rs.set k r', by omega, by go_num, rfl, fun _ => rfl, hS3, hD3⟩
            case measure => simp [intOf]; omega
      · have hM1 := HM.out.keep hS
        have hD1 : Hid (∀ (j : Nat) (r r0 : Vr), rs[j]? = some r → rs0[j]? = some r0 → datV r = addA (datV r0) (bAt vs j)) := Dat.all (by
          have : k = vs.length := by have := hV.len_eq; omega
          rw [← this]
          exact hD)
        have hq4 := hqs
        have HB : Hid (f = false → b = true) := hb
        clear hb fV hD
        have F1 : Fr (fun k => k = S ∨ some k = (Value.slice (some ⟨g, 0, none⟩) es.length pcap).ownBlock ∨ some k = q.ownBlock ∨ k = A ∨ RowOf rs0 k) wc wr := ⟨hS.fr.os, hS.fr.tape, hS.fr.output, hS.fr.size, fun j hj hx => hS.fr.block j hj (fun e => hx (.inr (.inr (.inr e))))⟩
        cases f with
        | true =>
          have hE := enq_old S m _ q es i (p, A, n, true) wr hM1.head hM1.preds hM1.ent rfl hfew
          cases b
          · go_wp2_with fail
            go_end0
            exact ⟨rfl, wc, m, _, q, A, rs0, es, hR, HM.out, q, es, qs, rs, hM1, fun _ => ⟨rfl, rfl⟩, (by intro h; cases h), hD1.out, F1, fun _ h => .inl h, hS.src⟩
          · go_wp2_with (go_at_call 50; refine hE.mono ?_; rintro e w2 ⟨rfl, rfl⟩)
            go_end0
            exact ⟨rfl, wc, m, _, q, A, rs0, es, hR, HM.out, q, es, qs, rs, hM1, fun _ => ⟨rfl, rfl⟩, (by intro h; cases h), hD1.out, F1, fun _ h => .inl h, hS.src⟩
        | false =>
          obtain rfl : b = true := HB.out rfl
          have hE := enq_new S m _ q es qs i (p, A, n, false) wr hM1.head hM1.preds hM1.queue hM1.ent rfl hfew hM1.few.2
          go_wp2_with (go_at_call 50; refine hE.mono ?_; rintro e w2 ⟨rfl, q', k1, k2, k3, k4, k5⟩)
          go_end0
          refine ⟨rfl, wc, m, _, q, A, rs0, es, hR, HM.out, q', _, _, rs, hM1.enq hq4 k1 k2 k3 k4, (by intro h; cases h), fun _ => ⟨rfl, rfl⟩, hD1.out, ?_⟩
          refine ⟨Fr.trans F1 k4 (fun j hj e => by
            rcases e with e | e | e
            · exact .inl e
            · exact .inr (.inl e)
            · exact .inr (.inr (.inl e))), fun k hk => ?_, hS.src⟩
          have := hS.fr.size
          rcases k5 k hk with h | h
          · exact .inl h
          · exact .inr (by omega)
end Go.Proofs.Qxb6604483a
