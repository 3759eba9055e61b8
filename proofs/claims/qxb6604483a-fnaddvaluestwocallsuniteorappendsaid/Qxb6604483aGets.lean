import Derived.Test.Qxb6604483aCall
import Derived.Test.Qxb6604483aTo2
import Derived.Test.Qxb6604483aZz
namespace Go.Proofs.Qxb6604483a
open Go.RowKit Go.Maps
set_option linter.unusedSimpArgs false
set_option linter.unusedVariables false

/-- The empty struct. -/
def emptyAv : Obj := .cells #[.map none, .slice none 0 0, .slice none 0 0, .int .i64 0] 59

theorem new_any (w : World) : Calls Try.prog 9 #[] w fun e w' => e = .returned (.pointer (some ⟨w.heap.size, 0, none⟩)) ∧ w' = w.alloc emptyAv := by
  unfold emptyAv
  go_enter Try.func9, Try.ntmps9
  go_wp2_with fail
  go_ret
  exact ⟨rfl, rfl⟩

theorem add10 {s p v : Value} {w : World} {P : World → Prop} (h : Calls Try.prog 29 #[s, p, v] w fun e w' => e = .returned (.tuple #[]) ∧ P w') : Calls Try.prog 10 #[s, p, v] w fun e w' => e = .returned (.tuple #[]) ∧ P w' := by
  go_enter Try.func10, Try.ntmps10
  go_wp2_with (go_at_call 29; refine h.mono ?_; rintro e w' ⟨rfl, hP⟩)
  go_end0
  exact ⟨rfl, hP⟩

theorem get12 {w : World} {S : Nat} {m : Option Nat} {pr q : Value} (h : HeadIs w S m pr q) : Calls Try.prog 12 #[.pointer (some ⟨S, 0, none⟩)] w fun e w' => e = .returned pr ∧ w' = w := by
  obtain ⟨c0, c1, c2, c3, _⟩ := h.cells
  go_enter Try.func12, Try.ntmps12
  go_wp2_with fail
  go_ret
  exact ⟨rfl, rfl⟩
theorem get14 {w : World} {S : Nat} {m : Option Nat} {pr q : Value} (h : HeadIs w S m pr q) : Calls Try.prog 14 #[.pointer (some ⟨S, 0, none⟩)] w fun e w' => e = .returned q ∧ w' = w := by
  obtain ⟨c0, c1, c2, c3, _⟩ := h.cells
  go_enter Try.func14, Try.ntmps14
  go_wp2_with fail
  go_ret
  exact ⟨rfl, rfl⟩
theorem get15 {w : World} {S : Nat} {m : Option Nat} {pr q : Value} (h : HeadIs w S m pr q) : Calls Try.prog 15 #[.pointer (some ⟨S, 0, none⟩)] w fun e w' => e = .returned (.map m) ∧ w' = w := by
  obtain ⟨c0, c1, c2, c3, _⟩ := h.cells
  go_enter Try.func15, Try.ntmps15
  go_wp2_with fail
  go_ret
  exact ⟨rfl, rfl⟩
theorem get16 {w : World} {S : Nat} {m : Option Nat} {pr q : Value} (h : HeadIs w S m pr q) : Calls Try.prog 16 #[.pointer (some ⟨S, 0, none⟩)] w fun e w' => e = .returned (.int .i64 0) ∧ w' = w := by
  obtain ⟨c0, c1, c2, c3, _⟩ := h.cells
  go_enter Try.func16, Try.ntmps16
  go_wp2_with fail
  go_ret
  exact ⟨rfl, rfl⟩

theorem VsIn.wide {lo hi lo' hi' : Nat} {w : World} {a : Option Addr} {len : Nat} {vs : List Vr} (h : VsIn lo hi w a len vs) (h1 : lo' ≤ lo) (h2 : hi ≤ hi') : VsIn lo' hi' w a len vs where
  len_eq := h.len_eq
  isAt := fun hp => by
    obtain ⟨b, o, e, g1, g2, g3⟩ := h.isAt hp
    exact ⟨b, o, e, by omega, by omega, g3⟩
  terms := fun i x hx => (h.terms i x hx).wide h1 h2

theorem EntOk.vsIn {w : World} {A : Nat} {rs : List Vr} (h : EntOk w A rs) : VsIn 0 w.heap.size w (some ⟨A, 0, none⟩) rs.length rs where
  len_eq := rfl
  isAt := fun _ => ⟨A, 0, rfl, Nat.zero_le _, h.lt, fun i x hx => by
    obtain ⟨g0, g1⟩ := flatV_get rs i x hx
    rw [Nat.zero_add]
    exact ⟨at_cell h.block g0, at_cell h.block g1⟩⟩
  terms := fun i x hx => own_tsIn (h.own i x hx).1 rfl

theorem St.below {B : Nat} {w w' : World} {S : Nat} {m : Option Nat} {nM : Nat} {D : DataW Unit} {pr q : Value} {es : List En} {qs : List Int} (h : St B w S m nM D pr q es qs) (hb : Below w.heap.size w w') : St B w' S m nM D pr q es qs where
  head := h.head.of (hb.block S (h.own_lt (.inl rfl)).1)
  map := h.map.fr (Fr.of_below (X := fun _ => False) hb) (fun _ _ _ _ _ e => e)
  preds := own_below h.preds hb
  queue := own_below h.queue hb
  hiS := h.hiS
  hiM := h.hiM
  hiP := h.hiP
  hiQ := h.hiQ

theorem Ent.below {B : Nat} {w w' : World} {A n : Nat} {rs : List Vr} (h : Ent B w A n rs) (hb : Below w.heap.size w w') : Ent B w' A n rs :=
  ⟨h.ok.fr (Fr.of_below (X := fun _ => False) hb) (fun e => e) (fun _ _ e => e), h.len, h.hiA, h.hiR⟩

/-- The empty struct, new. -/
theorem St.start (w : World) : St w.heap.size (w.alloc emptyAv) w.heap.size none 0 (.map []) (.slice none 0 0) (.slice none 0 0) [] [] where
  head := by
    show (w.heap.push _)[w.heap.size]? = _
    simp [emptyAv]
  map := .inl ⟨rfl, rfl, rfl⟩
  preds := ⟨rfl, .inl ⟨rfl, rfl⟩⟩
  queue := ⟨rfl, .inl ⟨rfl, rfl⟩⟩
  hiS := Nat.le_refl _
  hiM := fun k hk => by cases hk
  hiP := fun k hk => by cases hk
  hiQ := fun k hk => by cases hk

/-- The cells of the entries. -/
theorem St.cellsP {B : Nat} {w : World} {S : Nat} {m : Option Nat} {nM : Nat} {D : DataW Unit} {pr q : Value} {es : List En} {qs : List Int} (h : St B w S m nM D pr q es qs) (hn : 0 < es.length) :
    ∃ g cap, pr = .slice (some ⟨g, 0, none⟩) es.length cap ∧ ∀ i e, es[i]? = some e → w.cell? ⟨g, i * 3, none⟩ = some (.int .i64 e.1) ∧ w.cell? ⟨g, i * 3 + 1, none⟩ = some (.slice (some ⟨e.2.1, 0, none⟩) e.2.2.1 e.2.2.1) ∧ w.cell? ⟨g, i * 3 + 2, none⟩ = some (.bool e.2.2.2) := by
  obtain ⟨g, cap, e, _, _, hc⟩ := preds_at h.preds hn
  exact ⟨g, cap, e, fun i e he => ⟨hc _ _ (flatE_get es i e he).1, hc _ _ (flatE_get es i e he).2.1, hc _ _ (flatE_get es i e he).2.2⟩⟩
/-- The cells of the queue. -/
theorem St.cellsQ {B : Nat} {w : World} {S : Nat} {m : Option Nat} {nM : Nat} {D : DataW Unit} {pr q : Value} {es : List En} {qs : List Int} (h : St B w S m nM D pr q es qs) (hn : 0 < qs.length) :
    ∃ g cap, q = .slice (some ⟨g, 0, none⟩) qs.length cap ∧ ∀ i x, qs[i]? = some x → w.cell? ⟨g, i, none⟩ = some (.int .i64 x) := by
  rcases h.queue.2 with ⟨_, h0⟩ | ⟨g, cap, cur, hv, _, hg, _, _, _, ht⟩
  · omega
  · refine ⟨g, cap, hv, fun i x hx => ?_⟩
    have hj : (qs.map (Value.int .i64 ·))[i]? = some (.int .i64 x) := by simp [hx]
    rw [← ht, List.getElem?_take] at hj
    simp only [World.cell?, hg]
    split at hj
    · simpa using hj
    · cases hj
/-- The map. -/
theorem St.mapLook {B : Nat} {w : World} {S : Nat} {m : Option Nat} {nM : Nat} {D : DataW Unit} {pr q : Value} {es : List En} {qs : List Int} (h : St B w S m nM D pr q es qs) (p : Int) (hp : (Lit.int .i64 p).wf = true) (c : Int) (hc : D.atKey (.int .i64 p) (.lit (.int .i64 0)) = .lit (.int .i64 c)) (hh : Maps.has D (.int .i64 p) = true) :
    (Instr.lookup 37 (.map m) (.int .i64 p) true).run Try.prog w = .ok (.tuple #[.int .i64 c, .bool true]) w := by
  obtain ⟨c', hr, hc'⟩ := h.map.look p hp
  rw [hc] at hc'
  cases hc'
  rw [hr, hh]
theorem St.mapLen {B : Nat} {w : World} {S : Nat} {m : Option Nat} {nM : Nat} {D : DataW Unit} {pr q : Value} {es : List En} {qs : List Int} (h : St B w S m nM D pr q es qs) (hn : 0 < Maps.size D) (ty : TypeId) :
    (Builtin.len_ #[37] ty #[.map m]).run Try.prog w = .ok (.int .i64 (Maps.size D)) w := by
  rcases h.map with ⟨_, h1, _⟩ | ⟨M, rfl, hM⟩
  · rw [h1] at hn
    cases hn
  · exact hM.len Try.underlying37 ty
end Go.Proofs.Qxb6604483a
