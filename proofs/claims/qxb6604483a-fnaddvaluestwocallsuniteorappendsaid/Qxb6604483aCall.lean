import Derived.Test.Qxb6604483aAddv
import Derived.Test.Qxb6604483aPlain2
namespace Go.Proofs.Qxb6604483a
open Go.RowKit Go.Maps
set_option linter.unusedSimpArgs false
set_option linter.unusedVariables false

/-- The struct, all its blocks from B on. -/
structure St (B : Nat) (w : World) (S : Nat) (m : Option Nat) (nM : Nat) (D : DataW Unit) (pr q : Value) (es : List En) (qs : List Int) : Prop where
  head : HeadIs w S m pr q
  map : MapIs w m nM D
  preds : w.ownsRow 0 34 3 pr es.length (flatE es)
  queue : w.ownsRow 0 3 1 q qs.length (qs.map (.int .i64 ·))
  hiS : B ≤ S
  hiM : ∀ k, some k = m → B ≤ k
  hiP : ∀ k, some k = pr.ownBlock → B ≤ k
  hiQ : ∀ k, some k = q.ownBlock → B ≤ k

/-- An entry's sets, all their blocks from B on. -/
structure Ent (B : Nat) (w : World) (A n : Nat) (rs : List Vr) : Prop where
  ok : EntOk w A rs
  len : rs.length = n
  hiA : B ≤ A
  hiR : ∀ g, RowOf rs g → B ≤ g

theorem Fr.toBelow {X : Nat → Prop} {w w' : World} {B : Nat} (h : Fr X w w') (hX : ∀ k, X k → B ≤ k) (hB : B ≤ w.heap.size) : Below B w w' :=
  ⟨h.os, h.tape, h.output, h.size, fun k hk => h.block k (by omega) (fun e => by have := hX k e; omega)⟩
theorem Fr.same {X : Nat → Prop} {w w' : World} {lo hi : Nat} (h : Fr X w w') (hX : ∀ k, X k → k < lo ∨ hi ≤ k) (hB : hi ≤ w.heap.size) : SameIn lo hi w w' := fun k h1 h2 => h.block k (by omega) (fun e => by have := hX k e; omega)

theorem rowOf_empties {n g : Nat} (h : RowOf (empties n) g) : False := by
  obtain ⟨i, r, hr, hg⟩ := h
  have : r = (false, none, 0, []) := by
    unfold empties at hr
    rw [List.getElem?_replicate] at hr
    split at hr
    · exact (Option.some.inj hr).symm
    · cases hr
  rw [this] at hg
  cases hg
theorem empties_at {n j : Nat} {r : Vr} (hr : (empties n)[j]? = some r) : r = (false, none, 0, []) := by
  unfold empties at hr
  rw [List.getElem?_replicate] at hr
  split at hr
  · exact (Option.some.inj hr).symm
  · cases hr
theorem empties_ok {w : World} {A n : Nat} (h : w.heap[A]? = some (.cells (flatV (empties n)).toArray 63 (0, 0))) : EntOk w A (empties n) where
  block := h
  own := fun j r hr => by
    rw [empties_at hr]
    exact ⟨⟨rfl, .inl ⟨rfl, rfl⟩⟩, by simp⟩
  apart := fun i j ri rj _ hi _ g hg => (rowOf_empties ⟨i, ri, hi, hg⟩).elim

/-- The blocks of the struct. -/
def Own (S : Nat) (m : Option Nat) (pr q : Value) (k : Nat) : Prop := k = S ∨ some k = m ∨ some k = pr.ownBlock ∨ some k = q.ownBlock

theorem St.own_lt {B : Nat} {w : World} {S : Nat} {m : Option Nat} {nM : Nat} {D : DataW Unit} {pr q : Value} {es : List En} {qs : List Int} (h : St B w S m nM D pr q es qs) {k : Nat} (hk : Own S m pr q k) : k < w.heap.size ∧ B ≤ k := by
  rcases hk with e | e | e | e
  · exact ⟨e ▸ (Array.getElem?_eq_some_iff.1 h.head).1, e ▸ h.hiS⟩
  · refine ⟨?_, h.hiM k e⟩
    rcases h.map with ⟨h, _⟩ | ⟨M, hM, es, c, hb, _⟩
    · rw [h] at e; cases e
    · rw [hM] at e; cases e
      exact (Array.getElem?_eq_some_iff.1 hb).1
  · obtain ⟨cur, hc⟩ := own_block h.preds e.symm
    exact ⟨(Array.getElem?_eq_some_iff.1 hc).1, h.hiP k e⟩
  · obtain ⟨cur, hc⟩ := own_block h.queue e.symm
    exact ⟨(Array.getElem?_eq_some_iff.1 hc).1, h.hiQ k e⟩

/-- An entry's blocks are none of the struct's. -/
theorem St.not_ent {B : Nat} {w : World} {S : Nat} {m : Option Nat} {nM : Nat} {D : DataW Unit} {pr q : Value} {es : List En} {qs : List Int} (h : St B w S m nM D pr q es qs) {A k : Nat} {rs : List Vr} (he : EntOk w A rs) (hk : k = A ∨ RowOf rs k) : ¬ Own S m pr q k := by
  rintro (e | e | e | e)
  · exact he.not (e ▸ h.head) (by decide) (by decide) hk
  · rcases h.map with ⟨h, _⟩ | ⟨M, hM, es, c, hb, _⟩
    · rw [h] at e; cases e
    · rw [hM] at e; cases e
      exact he.notMap hb hk
  · obtain ⟨cur, hc⟩ := own_block h.preds e.symm
    exact he.not hc (by decide) (by decide) hk
  · obtain ⟨cur, hc⟩ := own_block h.queue e.symm
    exact he.not hc (by decide) (by decide) hk

/-- A frame over the struct's blocks keeps an entry's. -/
theorem Ent.keep {B : Nat} {w w' : World} {S : Nat} {m : Option Nat} {nM : Nat} {D : DataW Unit} {pr q : Value} {es : List En} {qs : List Int} {A n : Nat} {rs : List Vr} (h : Ent B w A n rs) (hs : St B w S m nM D pr q es qs) (hF : Fr (Own S m pr q) w w') : Ent B w' A n rs :=
  ⟨h.ok.fr hF (hs.not_ent h.ok (.inl rfl)) (fun g hg => hs.not_ent h.ok (.inr hg)), h.len, h.hiA, h.hiR⟩

/-- What a call for a new predicate leaves. -/
def Newly (B : Nat) (w : World) (S : Nat) (m : Option Nat) (nM : Nat) (D : DataW Unit) (pr q : Value) (es : List En) (qs : List Int) (p : Int) (n : Nat) (vs : List Vr) (w' : World) : Prop :=
  ∃ m' pr' q' A rs, St B w' S m' (nM + 1) (D.put (.int .i64 p) (.lit (.int .i64 es.length))) pr' q' (es ++ [(p, A, n, true)]) (qs ++ [(es.length : Int)]) ∧ Ent B w' A n rs ∧ (∀ (j : Nat) (r : Vr), rs[j]? = some r → datV r = addA (false, []) (bAt vs j)) ∧ Fr (Own S m pr q) w w'

set_option maxHeartbeats 1000000 in
theorem call_new (B lo hi : Nat) (a : Option Addr) (n cap : Nat) (vs : List Vr) (S : Nat) (m : Option Nat) (nM : Nat) (D : DataW Unit) (pr q : Value) (es : List En) (qs : List Int) (p : Int) (w : World) (hp : (Lit.int .i64 p).wf = true)
    (h : St B w S m nM D pr q es qs) (hfind : Calls Try.prog 47 #[.pointer (some ⟨S, 0, none⟩), .int .i64 p] w fun e w' => (∃ c : Int, e = .returned (.tuple #[.int .i64 c, .bool false])) ∧ ∃ k, w' = w.drewN k)
    (hV : VsIn lo hi w a n vs) (hhi : hi ≤ w.heap.size) (hout : ∀ k, Own S m pr q k → k < lo ∨ hi ≤ k) (hn : n ≤ 4096) (hes : es.length ≤ 2) (hqs : qs.length ≤ 2) (hnM : nM ≤ 2) (fV : ∀ (i : Nat) (x : Vr), vs[i]? = some x → x.2.2.2.length ≤ 1048576) :
    Calls Try.prog 29 #[.pointer (some ⟨S, 0, none⟩), .int .i64 p, .slice a n cap] w fun e w' => e = .returned (.tuple #[]) ∧ Newly B w S m nM D pr q es qs p n vs w' := by
  obtain ⟨pa, pc, rfl⟩ : ∃ a c, pr = .slice a es.length c := by
    rcases h.preds.2 with ⟨h1, h2⟩ | ⟨g, c, cur, h1, _⟩
    · exact ⟨none, 0, by rw [h1, h2]⟩
    · exact ⟨_, _, h1⟩
  have hB : B ≤ w.heap.size := by have := h.own_lt (k := S) (.inl rfl); omega
  refine (addv (fun wx m' pr' q' A rs es' => q' = q ∧ es' = es ++ [(p, A, n, false)] ∧ rs = empties n ∧ w.heap.size ≤ A ∧ Fr (Own S m (.slice pa es.length pc) q) w wx ∧ (∀ k, some k = m' → B ≤ k ∧ (some k = m ∨ w.heap.size ≤ k)) ∧ ∀ k, some k = pr'.ownBlock → B ≤ k ∧ (some k = (Value.slice pa es.length pc).ownBlock ∨ w.heap.size ≤ k)) lo hi a n cap vs S (nM + 1) (D.put (.int .i64 p) (.lit (.int .i64 es.length))) qs es.length n p false w ?_ (by intro h; cases h) ?_ (Nat.le_refl _) hn (by omega) (by omega) fV).mono ?_
  · refine hfind.mono ?_
    rintro e w' ⟨⟨c, rfl⟩, hk⟩
    exact ⟨⟨c, rfl, by intro h; cases h⟩, hk⟩
  · intro _ k
    refine (insert_any S m nM pa pc q es p n D (w.drewN k) hp h.head h.preds (by omega) h.map (by omega) hn).mono ?_
    rintro e w' ⟨rfl, M, A, pr', g1, g2, g3, g4, g5, g6, g7, g8⟩
    refine ⟨rfl, some M, pr', q, A, empties n, es ++ [(p, A, n, false)], ⟨g1, .inr ⟨M, rfl, g2⟩, by rw [List.length_append]; exact g3, ?_, by simp, empties_ok g4, by simp [empties], by rw [List.length_append]; simp; omega, by omega⟩, ?_, ?_, ?_, ?_, ?_⟩
    · refine own_fr (w := w.drewN k) h.queue g6 ?_
      rintro j hj (e | e | e)
      · exact head_ne_row h.head h.queue (by decide) (by rw [hj, e])
      · rcases h.map with ⟨h0, _⟩ | ⟨M0, hM0, h0⟩
        · rw [h0] at e; cases e
        · rw [hM0] at e; cases e
          exact map_ne_row h0 h.queue hj.symm
      · obtain ⟨cur, hc⟩ := own_block h.queue hj
        obtain ⟨cur', hc'⟩ := own_block h.preds e.symm
        rw [hc] at hc'
        simp at hc'
    all_goals have hF : Fr (Own S m (.slice pa es.length pc) q) w w' := Fr.trans (Fr.of_drewN w k) g6 (fun j hj e => by
        rcases e with e | e | e
        · exact .inl e
        · exact .inr (.inl e)
        · exact .inr (.inr (.inl e)))
    · exact hV.same (hF.same hout hhi)
    · exact Nat.le_trans hhi hF.size
    · exact .inr (Nat.le_trans hhi g5)
    · intro g hg
      exact (rowOf_empties hg).elim
    · refine ⟨rfl, rfl, rfl, g5, hF, ?_, ?_⟩
      · intro j hj
        cases hj
        rcases g7 with e | e
        · exact ⟨h.hiM _ e.symm, .inl e.symm⟩
        · exact ⟨Nat.le_trans hB e, .inr e⟩
      · intro j hj
        rcases g8 j hj.symm with e | e
        · exact ⟨h.hiP _ e.symm, .inl e.symm⟩
        · exact ⟨Nat.le_trans hB e, .inr e⟩
  · rintro e w' ⟨rfl, wx, m', pr', q1, A, rs0, es', ⟨rfl, rfl, rfl, hA, hF, hm, hpr⟩, hM0, q', es2, qs2, rs, hM, _, hf, hd, hF2, hq', hsrc⟩
    obtain ⟨rfl, rfl⟩ := hf rfl
    refine ⟨rfl, m', pr', q', A, rs, ⟨hM.head, hM.map, ?_, hM.queue, h.hiS, fun k hk => (hm k hk).1, fun k hk => (hpr k hk).1, ?_⟩, ⟨hM.ok, hM.len, Nat.le_trans hB hA, ?_⟩, ?_, ?_⟩
    · have e : (es ++ [(p, A, n, false)]).set es.length (p, A, n, true) = es ++ [(p, A, n, true)] := by simp
      have := hM.preds
      rw [e] at this
      exact this
    · intro k hk
      rcases hq' k hk.symm with e | e
      · exact h.hiQ k e.symm
      · exact Nat.le_trans hB (Nat.le_trans hF.size e)
    · intro g hg
      rcases hsrc g hg with e | e
      · exact (rowOf_empties e).elim
      · exact Nat.le_trans hB (Nat.le_trans hF.size e)
    · intro j r hr
      have hj : j < (empties n).length := by
        have := (List.getElem?_eq_some_iff.1 hr).1
        have h2 := hM.len
        simp [empties]
        omega
      obtain ⟨r0, hr0⟩ : ∃ r0, (empties n)[j]? = some r0 := ⟨_, List.getElem?_eq_getElem hj⟩
      rw [hd j r r0 hr hr0, empties_at hr0]
      rfl
    · refine Fr.trans hF hF2 ?_
      rintro k hk (e | e | e | e | e)
      · exact .inl e
      · rcases (hpr k e).2 with e | e
        · exact .inr (.inr (.inl e))
        · omega
      · exact .inr (.inr (.inr e))
      · omega
      · exact (rowOf_empties e).elim

/-- What a second call for the first predicate leaves. -/
def Grown2 (B : Nat) (w : World) (S : Nat) (m : Option Nat) (nM : Nat) (D : DataW Unit) (pr : Value) (es : List En) (qs : List Int) (A n : Nat) (rs0 : List Vr) (vs : List Vr) (w' : World) : Prop :=
  ∃ q' rs, St B w' S m nM D pr q' es qs ∧ Ent B w' A n rs ∧ (∀ (j : Nat) (r r0 : Vr), rs[j]? = some r → rs0[j]? = some r0 → datV r = addA (datV r0) (bAt vs j)) ∧ Below B w w'

set_option maxHeartbeats 1000000 in
theorem call_old (B lo hi : Nat) (a : Option Addr) (len n cap : Nat) (vs rs0 : List Vr) (S A : Nat) (m : Option Nat) (nM : Nat) (D : DataW Unit) (pr q : Value) (es : List En) (qs : List Int) (p : Int) (w : World)
    (h : St B w S m nM D pr q es qs) (hE : Ent B w A n rs0) (he : es[0]? = some (p, A, n, true)) (hout : A < lo ∧ ∀ g, RowOf rs0 g → g < lo)
    (hV : VsIn lo hi w a len vs) (hhi : hi ≤ w.heap.size) (hln : len ≤ n) (hn : n ≤ 4096) (hes : es.length ≤ 2) (hqs : qs.length ≤ 2) (fV : ∀ (i : Nat) (x : Vr), vs[i]? = some x → x.2.2.2.length ≤ 1048576) :
    Calls Try.prog 29 #[.pointer (some ⟨S, 0, none⟩), .int .i64 p, .slice a len cap] w fun e w' => e = .returned (.tuple #[]) ∧ Grown2 B w S m nM D pr es qs A n rs0 vs w' := by
  have hB : B ≤ w.heap.size := by have := h.own_lt (k := S) (.inl rfl); omega
  refine (addv (fun wx m' pr' q' A' rs es' => m' = m ∧ pr' = pr ∧ q' = q ∧ A' = A ∧ rs = rs0 ∧ es' = es ∧ ∃ k, wx = w.drewN k) lo hi a len cap vs S nM D qs 0 n p true w ?_ ?_ (by intro h; cases h) hln hn (by omega) (by omega) fV).mono ?_
  · refine (find_first S m pr q es (p, A, n, true) p w h.head h.preds he rfl (by omega)).mono ?_
    rintro e w' ⟨rfl, hk⟩
    exact ⟨⟨0, rfl, fun _ => rfl⟩, hk⟩
  · intro _ k
    exact ⟨m, pr, q, A, rs0, es, ⟨h.head, h.map, h.preds, h.queue, he, ⟨hE.ok.block, hE.ok.own, hE.ok.apart⟩, hE.len, by omega, by omega⟩, hV.same (fun _ _ _ => rfl), hhi, .inl hout.1, fun g hg => .inl (hout.2 g hg), rfl, rfl, rfl, rfl, rfl, rfl, k, rfl⟩
  · rintro e w' ⟨rfl, wx, m', pr', q1, A', rs1, es', ⟨rfl, rfl, rfl, rfl, rfl, rfl, k, rfl⟩, hM0, q', es2, qs2, rs, hM, ht, _, hd, hF2, hq', hsrc⟩
    obtain ⟨rfl, rfl⟩ := ht rfl
    refine ⟨rfl, q', rs, ⟨hM.head, hM.map, hM.preds, hM.queue, h.hiS, h.hiM, h.hiP, ?_⟩, ⟨hM.ok, hM.len, hE.hiA, ?_⟩, hd, ?_⟩
    · intro j hj
      rcases hq' j hj.symm with e | e
      · exact h.hiQ j e.symm
      · exact Nat.le_trans hB e
    · intro g hg
      rcases hsrc g hg with e | e
      · exact hE.hiR g e
      · exact Nat.le_trans hB e
    · have := hF2.toBelow (B := B) (by
        rintro j (e | e | e | e | e)
        · exact e ▸ h.hiS
        · exact h.hiP j e
        · exact h.hiQ j e
        · exact e ▸ hE.hiA
        · exact hE.hiR j e) hB
      exact ⟨this.os, this.tape, this.output, this.size, this.block⟩
end Go.Proofs.Qxb6604483a
