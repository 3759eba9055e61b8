import Derived.Test.Qxb6604483aUnion
import Derived.Test.Qxb6604483aVals
import Derived.Deep.RegionHeld3
namespace Go.Proofs.Qxb6604483a
open Go.RowKit
set_option linter.unusedSimpArgs false
set_option linter.unusedVariables false

/-- The block that a term's copy takes. -/
def tmBox (t : Tm) : Obj := .cells #[.int .u8 t.1, .int .i32 t.2.1, .string t.2.2] 86

set_option maxHeartbeats 400000 in
theorem kind_any (t : Tm) (w : World) : Calls Try.prog 53 #[tmV t] w fun e w' => e = .returned (.int .u8 t.1) ∧ w' = w.alloc (.cells #[.int .u8 t.1, .int .i32 t.2.1, .string t.2.2] 86) := by
  unfold tmV
  go_enter Try.func53, Try.ntmps53
  go_wp2
  go_ret
  exact ⟨rfl, rfl⟩
set_option maxHeartbeats 400000 in
theorem num_any (t : Tm) (w : World) : Calls Try.prog 54 #[tmV t] w fun e w' => e = .returned (.int .i32 t.2.1) ∧ w' = w.alloc (.cells #[.int .u8 t.1, .int .i32 t.2.1, .string t.2.2] 86) := by
  unfold tmV
  go_enter Try.func54, Try.ntmps54
  go_wp2
  go_ret
  exact ⟨rfl, rfl⟩
set_option maxHeartbeats 400000 in
theorem text_any (t : Tm) (w : World) : Calls Try.prog 55 #[tmV t] w fun e w' => e = .returned (.string t.2.2) ∧ w' = w.alloc (.cells #[.int .u8 t.1, .int .i32 t.2.1, .string t.2.2] 86) := by
  unfold tmV
  go_enter Try.func55, Try.ntmps55
  go_wp2
  go_ret
  exact ⟨rfl, rfl⟩
set_option maxHeartbeats 400000 in
theorem vany_any (b : Bool) (a : Option Addr) (n c : Nat) (w : World) : Calls Try.prog 51 #[.agg #[.bool b, .slice a n c]] w fun e w' => e = .returned (.bool b) ∧ Below w.heap.size w w' := by
  go_enter Try.func51, Try.ntmps51
  go_wp2
  go_ret
  exact ⟨rfl, balloc _ _⟩
set_option maxHeartbeats 400000 in
theorem vterms_any (b : Bool) (a : Option Addr) (n c : Nat) (w : World) : Calls Try.prog 52 #[.agg #[.bool b, .slice a n c]] w fun e w' => e = .returned (.slice a n c) ∧ Below w.heap.size w w' := by
  go_enter Try.func52, Try.ntmps52
  go_wp2
  go_ret
  exact ⟨rfl, balloc _ _⟩

theorem held6 {X : World} {o : Obj} {p1 p2 p3 p4 p5 p6 : Addr} {v1 v2 v3 v4 v5 v6 : Value}
    (h : X.cell? p1 = some v1 ∧ X.cell? p2 = some v2 ∧ X.cell? p3 = some v3 ∧ X.cell? p4 = some v4 ∧ X.cell? p5 = some v5 ∧ X.cell? p6 = some v6) :
    (X.alloc o).drew.cell? p1 = some v1 ∧ (X.alloc o).drew.cell? p2 = some v2 ∧ (X.alloc o).drew.cell? p3 = some v3 ∧ (X.alloc o).drew.cell? p4 = some v4 ∧ (X.alloc o).drew.cell? p5 = some v5 ∧ (X.alloc o).drew.cell? p6 = some v6 := by
  have k : ∀ (p : Addr) (v : Value), X.cell? p = some v → (X.alloc o).drew.cell? p = some v := fun p v hp => by
    show (X.alloc o).cell? p = some v
    rw [World.cell?_alloc_lt _ _ _ (block_lt_of_cell hp)]
    exact hp
  exact ⟨k _ _ h.1, k _ _ h.2.1, k _ _ h.2.2.1, k _ _ h.2.2.2.1, k _ _ h.2.2.2.2.1, k _ _ h.2.2.2.2.2⟩

set_option maxRecDepth 100000 in
set_option maxHeartbeats 4000000 in
theorem match_yes (lo hi : Nat) (any : Bool) (a1 a2 : Option Addr) (n c1 c2 : Nat) (ts : List Tm) (w : World) (hhi : hi ≤ w.heap.size) (h1 : TsIn lo hi w a1 n ts) (h2 : TsIn lo hi w a2 n ts) (hn : n ≤ 1048576) :
    Calls Try.prog 36 #[.agg #[.bool any, .slice a1 n c1], .bool any, .slice a2 n c2] w fun e w' => e = .returned (.bool true) ∧ Below w.heap.size w w' := by
  have t0 : (any != any) = false := by simp
  have t1 : ((n : Int) != (n : Int)) = false := by simp
  go_enter Try.func36, Try.ntmps36
  go_wp2_with (first | (go_at_call 51; refine (vany_any _ _ _ _ _).mono ?_; rintro e w1 ⟨rfl, hb1⟩; have f0 : w1.cell? ⟨w.heap.size, 0, none⟩ = some (.bool any) := (by rw [hb1.cell (by simp), World.cell?_alloc_at (w := w) _ _ _ _ rfl]; rfl); have f1 : w1.cell? ⟨w.heap.size, 1, none⟩ = some (.slice a1 n c1) := (by rw [hb1.cell (by simp), World.cell?_alloc_at (w := w) _ _ _ _ rfl]; rfl)) | (go_at_call 52; refine (vterms_any _ _ _ _ _).mono ?_; rintro e w2 ⟨rfl, hb2⟩))
  have hb : Below w.heap.size w w2 := bt (bt (balloc _ _) hb1 (by simp)) hb2 (Nat.le_of_succ_le (balloc_size hb1))
  clear f0 f1 
  go_loopw [8] (fun v wr => ∃ k : Nat, k ≤ n ∧ v = .int .i64 (k : Int) ∧ Below w.heap.size w wr) (fun v _ => n - (intOf v).toNat)
  case atStart => exact ⟨0, Nat.zero_le _, rfl, hb⟩
  case round =>
    clear hb hb1 hb2
    obtain ⟨k, hk, rfl, hb⟩ := hrel
    by_cases hlt : k < n
    · obtain ⟨b, o, rfl, q1, q2, hc⟩ := h1.isAt (by omega)
      obtain ⟨b', o', rfl, q1', q2', hc'⟩ := h2.isAt (by omega)
      obtain ⟨t, ht⟩ : ∃ t, ts[k]? = some t := ⟨_, List.getElem?_eq_getElem (by rw [h1.len_eq]; exact hlt)⟩
      obtain ⟨d0, d1, d2⟩ := hc k t ht
      obtain ⟨e0, e1, e2⟩ := hc' k t ht
      obtain ⟨tk, tn, tt⟩ := t
      have g0 : wr.cell? ⟨b, o + k * 3, none⟩ = some (.int .u8 tk) := by rw [hb.cell (by simp; omega)]; exact d0
      have g1 : wr.cell? ⟨b, o + k * 3 + 1, none⟩ = some (.int .i32 tn) := by rw [hb.cell (by simp; omega)]; exact d1
      have g2 : wr.cell? ⟨b, o + k * 3 + 2, none⟩ = some (.string tt) := by rw [hb.cell (by simp; omega)]; exact d2
      have g0' : wr.cell? ⟨b', o' + k * 3, none⟩ = some (.int .u8 tk) := by rw [hb.cell (by simp; omega)]; exact e0
      have g1' : wr.cell? ⟨b', o' + k * 3 + 1, none⟩ = some (.int .i32 tn) := by rw [hb.cell (by simp; omega)]; exact e1
      have g2' : wr.cell? ⟨b', o' + k * 3 + 2, none⟩ = some (.string tt) := by rw [hb.cell (by simp; omega)]; exact e2
      have l1 : b < wr.heap.size := by have := hb.size; omega
      have l2 : b' < wr.heap.size := by have := hb.size; omega
      clear hc hc' ht d0 d1 d2 e0 e1 e2
      go_wp2_with fail
      go_region_held3 (fun w' => w'.cell? ⟨b, o + k * 3, none⟩ = some (.int .u8 tk) ∧ w'.cell? ⟨b, o + k * 3 + 1, none⟩ = some (.int .i32 tn) ∧ w'.cell? ⟨b, o + k * 3 + 2, none⟩ = some (.string tt) ∧ w'.cell? ⟨b', o' + k * 3, none⟩ = some (.int .u8 tk) ∧ w'.cell? ⟨b', o' + k * 3 + 1, none⟩ = some (.int .i32 tn) ∧ w'.cell? ⟨b', o' + k * 3 + 2, none⟩ = some (.string tt)) (first | exact held6 (by assumption) | go_keep)
        (first | (go_at_call 53; refine (kind_any (tk, tn, tt) _).mono ?_; rintro e wx ⟨rfl, rfl⟩) | (go_at_call 54; refine (num_any (tk, tn, tt) _).mono ?_; rintro e wx ⟨rfl, rfl⟩) | (go_at_call 55; refine (text_any (tk, tn, tt) _).mono ?_; rintro e wx ⟨rfl, rfl⟩))
      clear g0 g1 g2 g0' g1' g2'
      go_wp2_with fail
      go_roundw
      case rel => exact ⟨k + 1, by omega, by go_num, (((hb.alloc hb.size _).alloc (by have := hb.size; simp; omega) _).alloc (by have := hb.size; simp; omega) _).drew⟩
      case measure => simp [intOf]; omega
    · go_wp2_with fail
      go_ret
      exact ⟨rfl, hb⟩
end Go.Proofs.Qxb6604483a
