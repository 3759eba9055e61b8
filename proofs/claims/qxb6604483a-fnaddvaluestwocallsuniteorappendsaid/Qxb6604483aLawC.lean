import Derived.Test.Qxb6604483aLawB
namespace Go.Proofs.Qxb6604483a
open Go.RowKit Go.Maps
set_option linter.unusedSimpArgs false
set_option linter.unusedVariables false

theorem bz {B : Nat} {a b c : World} (h : Below B a b) (k : Below b.heap.size b c) (hB : B ≤ b.heap.size) : Below B a c := h.trans ⟨k.os, k.tape, k.output, k.size, fun i hi => k.block i (by omega)⟩

set_option maxRecDepth 100000 in
set_option maxHeartbeats 8000000 in
theorem lawB (p : Int) (a : Option Addr) (len cap : Nat) (va : List Vr) (p2 : Int) (b : Option Addr) (lb cb : Nat) (vb : List Vr) (w : World) (hp : (Lit.int .i64 p).wf = true) (hp2 : (Lit.int .i64 p2).wf = true)
    (hV : VsIn 0 w.heap.size w a len va) (hm : len ≤ 9223372036854775807) (hm2 : ∀ (i : Nat) (x : Vr), va[i]? = some x → x.2.2.2.length ≤ 9223372036854775807)
    (hVb : VsIn 0 w.heap.size w b lb vb) (hmb : lb ≤ 9223372036854775807) (hmb2 : ∀ (i : Nat) (x : Vr), vb[i]? = some x → x.2.2.2.length ≤ 9223372036854775807) :
    Calls Try.prog 4 #[.int .i64 p, .slice a len cap, .int .i64 p2, .slice b lb cb] w fun e w' => e = .returned (.bool true) ∧ Below w.heap.size w w' := by
  go_enter Try.func4, Try.ntmps4
  go_wp2_with fail
  refine (zz17_any p p2 0 w.heap.size a b len cap lb cb va vb w hV hm hm2 hVb hmb hmb2).mono ?_
  rintro e w1 ⟨⟨bb, rfl, hb⟩, rfl⟩
  cases bb
  case false =>
    go_wp2_with fail
    go_ret
    exact ⟨rfl, Below.refl _ _⟩
  case true =>
    have HV : Hid _ := And.intro (And.intro hV hm2) (And.intro (And.intro hVb hmb2) (hb rfl))
    clear hV hm2 hb hVb hmb2
    by_cases h4 : len ≤ 4096
    case neg =>
      go_wp2_with fail
      all_goals
        go_ret
        exact ⟨rfl, Below.refl _ _⟩
    case pos =>
      by_cases h4b : lb ≤ 4096
      case neg =>
        go_wp2_with fail
        all_goals
          go_ret
          exact ⟨rfl, Below.refl _ _⟩
      case pos =>
        have g1 : decide ((4096 : Int) < (len : Int)) = false := by simp; omega
        have g2 : decide ((4096 : Int) < (lb : Int)) = false := by simp; omega
        go_wp2_with fail
        refine (valsBytes_any 0 w1.heap.size a len cap va w1 HV.out.1.1 hm HV.out.1.2).mono ?_
        rintro e w2 ⟨⟨r, hr0, hr1, rfl⟩, rfl⟩
        go_wp2_with fail
        refine (valsBytes_any 0 w2.heap.size b lb cb vb w2 HV.out.2.1.1 hmb HV.out.2.1.2).mono ?_
        rintro e w3 ⟨⟨r2, hr2, hr3, rfl⟩, rfl⟩
        by_cases hg : r ≤ 1048576 ∧ r2 ≤ 1048576 ∧ r + r2 ≤ 1048576
        case neg =>
          go_wp2_with fail
          all_goals
            go_ret
            exact ⟨rfl, Below.refl _ _⟩
        case pos =>
          obtain ⟨hg1, hg2, hg3⟩ := hg
          have g3 : decide ((1048576 : Int) < r) = false := by simp; omega
          have g4 : decide ((1048576 : Int) < r2) = false := by simp; omega
          have g5 : decide ((1048576 : Int) < r + r2) = false := by simp; omega
          by_cases hpp : p = p2
          case pos =>
            subst hpp
            have t1 : (p == p) = true := by simp
            by_cases hl : lb ≤ len
            case neg =>
              have t2 : decide ((len : Int) < (lb : Int)) = true := by simp; omega
              go_wp2_with fail
              go_ret
              exact ⟨rfl, Below.refl _ _⟩
            case pos =>
              have t2 : decide ((len : Int) < (lb : Int)) = false := by simp; omega
              go_wp2_with (go_at_call 9; refine (new_any _).mono ?_; rintro e w4 ⟨rfl, rfl⟩)
              refine (toValues_any 0 w3.heap.size a len cap va (w3.alloc emptyAv) (by simp) (HV.out.1.1.below (balloc _ _) (Nat.le_refl _)) (by omega) HV.out.2.2.1.2).mono ?_
              rintro e w4 ⟨rfl, ⟨va', hd', hV'⟩, hb4⟩
              have hC := first_call _ _ len va va' p w3 _ w4 hp rfl hb4 hd' hV' h4 HV.out.2.2.1.2
              rw [show (w3.alloc emptyAv).heap.size = w3.heap.size + 1 by simp] at hC
              clear hd' hV' hb4
              go_wp2_with fail
              refine hC.mono ?_
              rintro e w5 ⟨rfl, hS1, hb5⟩
              clear hC
              go_wp2_with fail
              refine (toValues_any 0 w3.heap.size b lb cb vb w5 hb5.size (HV.out.2.1.1.below hb5 (Nat.le_refl _)) (by omega) HV.out.2.2.2.2).mono ?_
              rintro e w6 ⟨rfl, ⟨vb', hd', hV'⟩, hb6⟩
              have hC := second_same w3.heap.size _ lb len lb va vb vb' w3.heap.size p w5 w6 hp hS1 hb6 hd' hV' hl h4 HV.out.2.2.2.2
              have b6 : Below w3.heap.size w3 w6 := bz hb5 hb6 hb5.size
              clear hd' hV' hb6 hS1 hb5
              go_wp2_with fail
              refine hC.mono ?_
              rintro e w7 ⟨rfl, ⟨m, pr, q, A, rs, hS, hE, hdat⟩, hb7⟩
              have b7 : Below w3.heap.size w3 w7 := b6.trans hb7
              clear hC b6 hb7
              obtain ⟨g, pc, rfl, hcP⟩ := hS.cellsP (by simp)
              obtain ⟨gq, qc, rfl, hcQ⟩ := hS.cellsQ (by simp)
              obtain ⟨d0, d1, d2⟩ := hcP 0 _ rfl
              simp only [Nat.zero_mul, Nat.zero_add] at d0 d1 d2
              have hPred := pred_two w3.heap.size p a b A len cap lb cb rs va vb w3 w7 HV.out.1.1 HV.out.2.1.1 b7 hE hdat h4 h4b HV.out.2.2.1.2 HV.out.2.2.2.2
              have HS : Hid _ := hS
              have hH := hS.head
              clear hS hE hdat hcP hcQ
              go_wp2_with (first | (go_at_call 12; refine (get12 hH).mono ?_; rintro e w8 ⟨rfl, rfl⟩) | (go_at_call 14; refine (get14 hH).mono ?_; rintro e w8 ⟨rfl, rfl⟩) | (go_at_call 15; refine (get15 hH).mono ?_; rintro e w8 ⟨rfl, rfl⟩) | (go_at_call 16; refine (get16 hH).mono ?_; rintro e w8 ⟨rfl, rfl⟩))
              refine hPred.mono ?_
              rintro e w9 ⟨rfl, hb9⟩
              have hS9 := HS.out.below hb9
              have b9 : Below w3.heap.size w3 w9 := bz b7 hb9 b7.size
              have hq0 : w9.cell? ⟨gq, 0, none⟩ = some (.int .i64 0) := by
                obtain ⟨gq', qc', e, hc⟩ := hS9.cellsQ (by simp)
                simp at e
                obtain ⟨rfl, rfl⟩ := e
                exact hc 0 0 rfl
              have hlook := hS9.mapLook p hp 0 (map1 p).2.1 (map1 p).1
              have hlen := hS9.mapLen (by rw [(map1 p).2.2]; decide)
              rw [(map1 p).2.2] at hlen
              clear hS9 d0 d1 d2 hPred hb9 HS
              go_wp2_with fail
              go_ret
              exact ⟨rfl, b9⟩
          case neg =>
            have t1 : (p == p2) = false := by simp [hpp]
            go_wp2_with (go_at_call 9; refine (new_any _).mono ?_; rintro e w4 ⟨rfl, rfl⟩)
            refine (toValues_any 0 w3.heap.size a len cap va (w3.alloc emptyAv) (by simp) (HV.out.1.1.below (balloc _ _) (Nat.le_refl _)) (by omega) HV.out.2.2.1.2).mono ?_
            rintro e w4 ⟨rfl, ⟨va', hd', hV'⟩, hb4⟩
            have hC := first_call _ _ len va va' p w3 _ w4 hp rfl hb4 hd' hV' h4 HV.out.2.2.1.2
            rw [show (w3.alloc emptyAv).heap.size = w3.heap.size + 1 by simp] at hC
            clear hd' hV' hb4
            go_wp2_with fail
            refine hC.mono ?_
            rintro e w5 ⟨rfl, hS1, hb5⟩
            clear hC
            go_wp2_with fail
            refine (toValues_any 0 w3.heap.size b lb cb vb w5 hb5.size (HV.out.2.1.1.below hb5 (Nat.le_refl _)) (by omega) HV.out.2.2.2.2).mono ?_
            rintro e w6 ⟨rfl, ⟨vb', hd', hV'⟩, hb6⟩
            have hC := second_other w3.heap.size _ lb len lb va vb vb' w3.heap.size p p2 hpp w5 w6 hp2 hS1 hb6 hd' hV' h4b HV.out.2.2.2.2
            have b6 : Below w3.heap.size w3 w6 := bz hb5 hb6 hb5.size
            clear hd' hV' hb6 hS1 hb5
            go_wp2_with fail
            refine hC.mono ?_
            rintro e w7 ⟨rfl, ⟨m, pr, q, A, A2, rs, rs2, hS, hE, hE2, hdat, hdat2⟩, hb7⟩
            have b7 : Below w3.heap.size w3 w7 := b6.trans hb7
            clear hC b6 hb7
            obtain ⟨g, pc, rfl, hcP⟩ := hS.cellsP (by simp)
            obtain ⟨gq, qc, rfl, hcQ⟩ := hS.cellsQ (by simp)
            obtain ⟨d0, d1, d2⟩ := hcP 0 _ rfl
            simp only [Nat.zero_mul, Nat.zero_add] at d0 d1 d2
            have hPred := pred_one w3.heap.size 0 p a A len cap rs va w3 w7 HV.out.1.1 b7 hE hdat h4 HV.out.2.2.1.2
            have HS : Hid _ := And.intro hS (And.intro hE2 hdat2)
            have hH := hS.head
            clear hS hE hE2 hdat hdat2 hcP hcQ
            go_wp2_with (first | (go_at_call 12; refine (get12 hH).mono ?_; rintro e w8 ⟨rfl, rfl⟩) | (go_at_call 14; refine (get14 hH).mono ?_; rintro e w8 ⟨rfl, rfl⟩) | (go_at_call 15; refine (get15 hH).mono ?_; rintro e w8 ⟨rfl, rfl⟩) | (go_at_call 16; refine (get16 hH).mono ?_; rintro e w8 ⟨rfl, rfl⟩))
            refine hPred.mono ?_
            rintro e w9 ⟨rfl, hb9⟩
            have hS9 := HS.out.1.below hb9
            have b9 : Below w3.heap.size w3 w9 := bz b7 hb9 b7.size
            have hPred2 := pred_one w3.heap.size 0 p2 b A2 lb cb rs2 vb w3 w9 HV.out.2.1.1 b9 (HS.out.2.1.below hb9) HS.out.2.2 h4b HV.out.2.2.2.2
            obtain ⟨d3, d4, d5⟩ : w9.cell? ⟨g, 3, none⟩ = some (.int .i64 p2) ∧ w9.cell? ⟨g, 4, none⟩ = some (.slice (some ⟨A2, 0, none⟩) lb lb) ∧ w9.cell? ⟨g, 5, none⟩ = some (.bool true) := by
              obtain ⟨g', pc', e, hc⟩ := hS9.cellsP (by simp)
              simp at e
              obtain ⟨rfl, rfl⟩ := e
              exact hc 1 _ rfl
            have HS9 : Hid _ := hS9
            clear hS9 d0 d1 d2 hPred hb9 HS
            go_wp2_with fail
            refine hPred2.mono ?_
            rintro e w10 ⟨rfl, hb10⟩
            have hS10 := HS9.out.below hb10
            have b10 : Below w3.heap.size w3 w10 := bz b9 hb10 b9.size
            obtain ⟨hq0, hq1⟩ : w10.cell? ⟨gq, 0, none⟩ = some (.int .i64 0) ∧ w10.cell? ⟨gq, 1, none⟩ = some (.int .i64 1) := by
              obtain ⟨gq', qc', e, hc⟩ := hS10.cellsQ (by simp)
              simp at e
              obtain ⟨rfl, rfl⟩ := e
              exact ⟨hc 0 0 rfl, hc 1 1 rfl⟩
            obtain ⟨_, M1, M2, M3, M4, M5⟩ := map2 p p2 hpp
            have hlook := hS10.mapLook p hp 0 M2 M1
            have hlook2 := hS10.mapLook p2 hp2 1 M4 M3
            have hlen := hS10.mapLen (by rw [M5]; decide)
            rw [M5] at hlen
            clear hS10 d3 d4 d5 hPred2 hb10 HS9 M1 M2 M3 M4 M5
            go_wp2_with fail
            go_ret
            exact ⟨rfl, b10⟩
end Go.Proofs.Qxb6604483a
