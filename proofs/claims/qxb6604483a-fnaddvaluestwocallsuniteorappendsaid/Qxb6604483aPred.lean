import Derived.Test.Qxb6604483aMatch
import Derived.Deep.DeepCutAuto
namespace Go.Proofs.Qxb6604483a
open Go.RowKit
set_option linter.unusedSimpArgs false
set_option linter.unusedVariables false

theorem union_all (lo hi : Nat) (a1 a2 : Option Addr) (l1 c1 l2 c2 : Nat) (anyA anyB : Bool) (ta tb : List Tm) (w : World) (hhi : hi ≤ w.heap.size) (h1 : TsIn lo hi w a1 l1 ta) (h2 : TsIn lo hi w a2 l2 tb) (m1 : l1 ≤ 1048576) (m2 : l2 ≤ 1048576) :
    Calls Try.prog 35 #[.bool anyA, .slice a1 l1 c1, .bool anyB, .slice a2 l2 c2] w fun e w' => UniSaid w w' e (uniR anyA ta anyB tb) ∧ Below w.heap.size w w' := by
  cases anyA with
  | true => exact union_any1 a1 a2 l1 c1 l2 c2 anyB ta tb w
  | false =>
    cases anyB with
    | true => exact union_any2 a1 a2 l1 c1 l2 c2 ta tb w
    | false => exact union_none lo hi a1 a2 l1 c1 l2 c2 ta tb w hhi h1 h2 m1 m2

set_option maxHeartbeats 400000 in
theorem pvp_any (p : Int) (a : Option Addr) (n c : Nat) (q : Bool) (w : World) : Calls Try.prog 32 #[.agg #[.int .i64 p, .slice a n c, .bool q]] w fun e w' => e = .returned (.int .i64 p) ∧ Below w.heap.size w w' := by
  go_enter Try.func32, Try.ntmps32
  go_wp2
  go_ret
  exact ⟨rfl, balloc _ _⟩
set_option maxHeartbeats 400000 in
theorem pvq_any (p : Int) (a : Option Addr) (n c : Nat) (q : Bool) (w : World) : Calls Try.prog 33 #[.agg #[.int .i64 p, .slice a n c, .bool q]] w fun e w' => e = .returned (.bool q) ∧ Below w.heap.size w w' := by
  go_enter Try.func33, Try.ntmps33
  go_wp2
  go_ret
  exact ⟨rfl, balloc _ _⟩
set_option maxHeartbeats 400000 in
theorem pva_any (p : Int) (a : Option Addr) (n c : Nat) (q : Bool) (w : World) : Calls Try.prog 34 #[.agg #[.int .i64 p, .slice a n c, .bool q]] w fun e w' => e = .returned (.slice a n c) ∧ Below w.heap.size w w' := by
  go_enter Try.func34, Try.ntmps34
  go_wp2
  go_ret
  exact ⟨rfl, balloc _ _⟩

/-- The k-th set of a list; the empty one where there is none. -/
def bAt (vs : List Vr) (k : Nat) : Bool × List Tm := match vs[k]? with | some y => datV y | none => (false, [])

/-- The box of a struct of three cells, seen later. -/
theorem box3 {w w1 : World} {a b c : Value} {t : TypeId} {B : Nat} (hb : Below B (w.alloc (.cells #[a, b, c] t)) w1) (hB : w.heap.size < B) :
    w1.cell? ⟨w.heap.size, 0, none⟩ = some a ∧ w1.cell? ⟨w.heap.size, 1, none⟩ = some b ∧ w1.cell? ⟨w.heap.size, 2, none⟩ = some c := by
  refine ⟨?_, ?_, ?_⟩
  all_goals rw [hb.cell hB, World.cell?_alloc_at (w := w) _ _ _ _ rfl]; rfl

set_option maxRecDepth 100000 in
set_option maxHeartbeats 4000000 in
theorem pred_yes (lo hi : Nat) (p : Int) (aA a b : Option Addr) (n cA ca lb cb : Nat) (rs vs vb : List Vr) (w : World) (hhi : hi ≤ w.heap.size)
    (hR : VsIn lo hi w aA n rs) (hV : VsIn lo hi w a n vs) (hB : VsIn lo hi w b lb vb) (hn : n ≤ 1048576) (hlb : lb ≤ 1048576)
    (fV : ∀ (i : Nat) (x : Vr), vs[i]? = some x → x.2.2.2.length ≤ 1048576) (fB : ∀ (i : Nat) (x : Vr), vb[i]? = some x → x.2.2.2.length ≤ 1048576) (fR : ∀ (i : Nat) (x : Vr), rs[i]? = some x → x.2.2.2.length ≤ 1048576)
    (hyes : ∀ (i : Nat) (x r : Vr), vs[i]? = some x → rs[i]? = some r → datV r = uniR x.1 x.2.2.2 (bAt vb i).1 (bAt vb i).2) :
    Calls Try.prog 13 #[.agg #[.int .i64 p, .slice aA n cA, .bool true], .int .i64 p, .slice a n ca, .slice b lb cb] w fun e w' => e = .returned (.bool true) ∧ Below w.heap.size w w' := by
  have t0 : (p != p) = false := by simp
  have t1 : ((n : Int) != (n : Int)) = false := by simp
  go_enter Try.func13, Try.ntmps13
  go_wp2_with (first | (go_at_call 32; refine (pvp_any _ _ _ _ _ _).mono ?_; rintro e w1 ⟨rfl, hb1⟩; obtain ⟨f0, f1, f2⟩ := box3 hb1 (by simp); have z1 := balloc_size hb1) | (go_at_call 33; refine (pvq_any _ _ _ _ _ _).mono ?_; rintro e w2 ⟨rfl, hb2⟩; have g0 : w2.cell? ⟨w.heap.size, 0, none⟩ = _ := (hb2.cell (by simp; omega)).trans f0; have g1 : w2.cell? ⟨w.heap.size, 1, none⟩ = _ := (hb2.cell (by simp; omega)).trans f1; have g2 : w2.cell? ⟨w.heap.size, 2, none⟩ = _ := (hb2.cell (by simp; omega)).trans f2) | (go_at_call 34; refine (pva_any _ _ _ _ _ _).mono ?_; rintro e w3 ⟨rfl, hb3⟩))
  have l2 := hb2.size
  have hb : Below w.heap.size w w3 := bt (bt (bt (balloc _ _) hb1 (by simp)) hb2 (by omega)) hb3 (by omega)
  clear f0 f1 f2 g0 g1 g2
  go_loopw [10] (fun v wr => ∃ k : Nat, k ≤ n ∧ v = .int .i64 (k : Int) ∧ Below w.heap.size w wr) (fun v _ => n - (intOf v).toNat)
  case atStart => exact ⟨0, Nat.zero_le _, rfl, hb⟩
  case round =>
    clear hb hb1 hb2 hb3 z1 l2
    obtain ⟨k, hk, rfl, hb⟩ := hrel
    have hz := hb.size
    by_cases hlt : k < n
    · go_upto_if 40 with fail
      go_cut [11, 12] (fun u v wx => wx = wr ∧ ∃ bo cc, u = .bool (bAt vb k).1 ∧ v = .slice bo (bAt vb k).2.length cc ∧ TsIn lo hi w bo (bAt vb k).2.length (bAt vb k).2 ∧ (bAt vb k).2.length ≤ 1048576)
      case first =>
        by_cases hkb : k < lb
        · obtain ⟨b0, o0, rfl, q1, q2, hc⟩ := hB.isAt (by omega)
          obtain ⟨y, hy⟩ : ∃ y, vb[k]? = some y := ⟨_, List.getElem?_eq_getElem (by rw [hB.len_eq]; exact hkb)⟩
          obtain ⟨d0, d1⟩ := hc k y hy
          have HH : Hid (bAt vb k = datV y) := by show _ = _; unfold bAt; rw [hy]
          have hT := hB.terms k y hy
          have hF := fB k y hy
          have e0 : wr.cell? ⟨b0, o0 + k * 2, none⟩ = some (.bool y.1) := by rw [hb.cell (by simp; omega)]; exact d0
          have e1 : wr.cell? ⟨b0, o0 + k * 2 + 1, none⟩ = some (.slice y.2.1 y.2.2.2.length y.2.2.1) := by rw [hb.cell (by simp; omega)]; exact d1
          clear hc hy d0 d1
          generalize bAt vb k = bk at *
          go_wp2_with fail
          go_meet
          case rel => exact ⟨rfl, y.2.1, y.2.2.1, by rw [HH.out]; rfl, by rw [HH.out]; rfl, by rw [HH.out]; exact hT, by rw [HH.out]; exact hF⟩
        · have HH : Hid (bAt vb k = (false, [])) := by
            show _ = _
            unfold bAt
            rw [List.getElem?_eq_none (by rw [hB.len_eq]; omega)]
          generalize bAt vb k = bk at *
          go_wp2_with fail
          go_meet
          case rel => exact ⟨rfl, none, 0, by rw [HH.out], by rw [HH.out]; rfl, by rw [HH.out]; exact TsIn.nil _ _ _ _, by rw [HH.out]; simp⟩
      case rest =>
        obtain ⟨hw, bo, cc, rfl, rfl, hTB, hFB⟩ := hcut
        subst wc
        obtain ⟨b0, o0, rfl, q1, q2, hc⟩ := hV.isAt (by omega)
        obtain ⟨x, hx⟩ : ∃ x, vs[k]? = some x := ⟨_, List.getElem?_eq_getElem (by rw [hV.len_eq]; exact hlt)⟩
        obtain ⟨d0, d1⟩ := hc k x hx
        obtain ⟨b1, o1, rfl, p1, p2, hc'⟩ := hR.isAt (by omega)
        obtain ⟨r, hr⟩ : ∃ r, rs[k]? = some r := ⟨_, List.getElem?_eq_getElem (by rw [hR.len_eq]; exact hlt)⟩
        obtain ⟨d2, d3⟩ := hc' k r hr
        have HY : Hid (datV r = uniR x.1 x.2.2.2 (bAt vb k).1 (bAt vb k).2) := hyes k x r hx hr
        have hTx := (hV.terms k x hx).below hb hhi
        have hFx := fV k x hx
        have hTr := hR.terms k r hr
        have hFr := fR k r hr
        have e0 : wr.cell? ⟨b0, o0 + k * 2, none⟩ = some (.bool x.1) := by rw [hb.cell (by simp; omega)]; exact d0
        have e1 : wr.cell? ⟨b0, o0 + k * 2 + 1, none⟩ = some (.slice x.2.1 x.2.2.2.length x.2.2.1) := by rw [hb.cell (by simp; omega)]; exact d1
        clear hc hc' hx hr d0 d1
        have hTB' := hTB.below hb hhi
        have hhi' : hi ≤ wr.heap.size := by omega
        generalize hbk : bAt vb k = bk at *
        have Hbk : Hid (bAt vb k = bk) := hbk
        clear hbk
        go_wp2_with fail
        go_region_with (go_at_call 35; refine (union_all lo hi x.2.1 bo _ _ _ _ x.1 bk.1 x.2.2.2 bk.2 wr.drew hhi' hTx.drew hTB'.drew hFx hFB).mono ?_; rintro e w2 ⟨⟨wa, wn, wcp, rfl, hTw, hwn⟩, hb2⟩)
        all_goals
          have l2 : wr.heap.size ≤ w2.heap.size := hb2.size
          have hb02 : Below w.heap.size w w2 := btd hb hb2 hz
          have f2 : w2.cell? ⟨b1, o1 + k * 2, none⟩ = some (.bool r.1) := by rw [hb02.cell (by simp; omega)]; exact d2
          have f3 : w2.cell? ⟨b1, o1 + k * 2 + 1, none⟩ = some (.slice r.2.1 r.2.2.2.length r.2.2.1) := by rw [hb02.cell (by simp; omega)]; exact d3
          have hTr2 := (hTr.below hb02 hhi).wide (Nat.zero_le _) (show hi ≤ w2.heap.size by omega)
          have hTw2 := hTw.wide (Nat.zero_le _) (Nat.le_refl _)
          have E1 : r.1 = (uniR x.1 x.2.2.2 bk.1 bk.2).1 := congrArg Prod.fst HY.out
          have E2 : r.2.2.2 = (uniR x.1 x.2.2.2 bk.1 bk.2).2 := congrArg Prod.snd HY.out
          have E3 : wn = r.2.2.2.length := by rw [E2]; exact hTw.len_eq.symm
          rw [← E1, E3]
          rw [← E2, E3] at hTw2
          have HTW : Hid (TsIn 0 w2.heap.size w2 wa r.2.2.2.length r.2.2.2) := hTw2
          clear E1 E2 E3 hTw hTw2 e0 e1
          go_wp2_with fail
          refine (match_yes 0 w2.heap.size r.1 r.2.1 wa r.2.2.2.length _ _ r.2.2.2 _ (Nat.le_refl _) hTr2 HTW.out hFr).mono ?_
          rintro e w4 ⟨rfl, hb4⟩
          go_wp2_with fail
          go_roundw
          case rel => exact ⟨k + 1, by omega, by go_num, bt hb02 hb4 (by omega)⟩
          case measure => simp [intOf]; omega
    · go_wp2_with fail
      go_ret
      exact ⟨rfl, hb⟩
end Go.Proofs.Qxb6604483a
