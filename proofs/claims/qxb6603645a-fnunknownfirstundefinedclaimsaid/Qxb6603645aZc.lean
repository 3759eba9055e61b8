import Derived.Test.Qxb6603645aCc
namespace Go.Proofs.Qxb6603645a
open Go.RowKit
set_option linter.unusedSimpArgs false
set_option linter.unusedVariables false

set_option maxRecDepth 100000 in
set_option maxHeartbeats 1000000 in
/-- 'ZZnewClaims'. -/
theorem newClaims_any (x0 x1 x2 x3 x4 x5 x6 x7 x8 x9 x10 x11 x12 x13 : Value) (a : Option Addr) (len cap : Nat) (w : World) :
    Calls Try.prog 24 #[.agg #[x0, x1, x2, x3, x4, x5, x6, x7, x8, x9, x10, x11, x12, x13], .slice a len cap] w fun e w' => e = .returned (.pointer (some ⟨w.heap.size, 0, none⟩)) ∧ w'.cell? ⟨w.heap.size, 13, none⟩ = some (.slice a len cap) ∧ w.heap.size < w'.heap.size ∧ Below w.heap.size w w' := by
  go_enter Try.func24, Try.ntmps24
  go_wp2_with fail
  go_ret
  refine ⟨rfl, ?_, ?_, ?_⟩
  · simp
  · simp
  · exact balloc _ _

/-- Fourteen cells are written. -/
theorem full14 {w : World} {g : Nat} {xs : List Value} {n : Nat} (h : Row w g 56 n xs) (hn : n = 14) (v0 v1 v2 v3 v4 v5 v6 v7 v8 v9 v10 v11 v12 v13 : Value) :
    CellsAt (((((((((((((((w.setCell ⟨g, 0, none⟩ v0).setCell ⟨g, 1, none⟩ v1).setCell ⟨g, 2, none⟩ v2).setCell ⟨g, 3, none⟩ v3).setCell ⟨g, 4, none⟩ v4).setCell ⟨g, 5, none⟩ v5).setCell ⟨g, 6, none⟩ v6).setCell ⟨g, 7, none⟩ v7).setCell ⟨g, 8, none⟩ v8).setCell ⟨g, 9, none⟩ v9).setCell ⟨g, 10, none⟩ v10).setCell ⟨g, 11, none⟩ v11).setCell ⟨g, 12, none⟩ v12).setCell ⟨g, 13, none⟩ v13)) g #[v0, v1, v2, v3, v4, v5, v6, v7, v8, v9, v10, v11, v12, v13] ∧ Touch g w (((((((((((((((w.setCell ⟨g, 0, none⟩ v0).setCell ⟨g, 1, none⟩ v1).setCell ⟨g, 2, none⟩ v2).setCell ⟨g, 3, none⟩ v3).setCell ⟨g, 4, none⟩ v4).setCell ⟨g, 5, none⟩ v5).setCell ⟨g, 6, none⟩ v6).setCell ⟨g, 7, none⟩ v7).setCell ⟨g, 8, none⟩ v8).setCell ⟨g, 9, none⟩ v9).setCell ⟨g, 10, none⟩ v10).setCell ⟨g, 11, none⟩ v11).setCell ⟨g, 12, none⟩ v12).setCell ⟨g, 13, none⟩ v13)) := by
  have e : ((((((((((((((w.setCell ⟨g, 0, none⟩ v0).setCell ⟨g, 1, none⟩ v1).setCell ⟨g, 2, none⟩ v2).setCell ⟨g, 3, none⟩ v3).setCell ⟨g, 4, none⟩ v4).setCell ⟨g, 5, none⟩ v5).setCell ⟨g, 6, none⟩ v6).setCell ⟨g, 7, none⟩ v7).setCell ⟨g, 8, none⟩ v8).setCell ⟨g, 9, none⟩ v9).setCell ⟨g, 10, none⟩ v10).setCell ⟨g, 11, none⟩ v11).setCell ⟨g, 12, none⟩ v12).setCell ⟨g, 13, none⟩ v13) = w.setCells g 0 [v0, v1, v2, v3, v4, v5, v6, v7, v8, v9, v10, v11, v12, v13] := rfl
  rw [e]
  obtain ⟨r, h1, h2⟩ := h.nil
  simp only [List.nil_append] at h2
  have h3 := heap_setCells g [v0, v1, v2, v3, v4, v5, v6, v7, v8, v9, v10, v11, v12, v13] [] r w h1 (by simp; omega)
  rw [List.drop_eq_nil_of_le (by simp; omega)] at h3
  have hR : Row (w.setCells g 0 [v0, v1, v2, v3, v4, v5, v6, v7, v8, v9, v10, v11, v12, v13]) g 56 14 [v0, v1, v2, v3, v4, v5, v6, v7, v8, v9, v10, v11, v12, v13] := ⟨[], by simpa using h3, rfl⟩
  exact ⟨⟨hR.lt, fun i v hi => hR.cell i v (by simpa using hi)⟩, Touch.setCells g _ 0 w⟩
theorem fourteen {cs : Array Value} (h : cs.size = 14) : ∃ v0 v1 v2 v3 v4 v5 v6 v7 v8 v9 v10 v11 v12 v13, cs = #[v0, v1, v2, v3, v4, v5, v6, v7, v8, v9, v10, v11, v12, v13] := by
  obtain ⟨l⟩ := cs
  match l, h with
  | [v0, v1, v2, v3, v4, v5, v6, v7, v8, v9, v10, v11, v12, v13], _ => exact ⟨v0, v1, v2, v3, v4, v5, v6, v7, v8, v9, v10, v11, v12, v13, rfl⟩
/-- What the loads read, in every world above. -/
theorem SS_of {w0 w' : World} {bx : Nat} {c : Cl} (h : CellsAt w0 bx c.cs) (hb : Below w0.heap.size w0 w') : w'.cell? ⟨bx, 0, none⟩ = some (.string c.s0) ∧ w'.cell? ⟨bx, 1, none⟩ = some (.string c.s1) ∧ w'.cell? ⟨bx, 2, none⟩ = some (.slice c.a2 c.l2 c.c2) ∧ w'.cell? ⟨bx, 3, none⟩ = some (.pointer c.p3) ∧ w'.cell? ⟨bx, 4, none⟩ = some (.pointer c.p4) ∧ w'.cell? ⟨bx, 5, none⟩ = some (.pointer c.p5) ∧ w'.cell? ⟨bx, 6, none⟩ = some (.string c.s6) ∧ w'.cell? ⟨bx, 7, none⟩ = some (.string c.s7) ∧ w'.cell? ⟨bx, 8, none⟩ = some (.slice c.a8 c.l8 c.c8) ∧ w'.cell? ⟨bx, 9, none⟩ = some (.string c.s9) ∧ w'.cell? ⟨bx, 10, none⟩ = some (.string c.s10) ∧ w'.cell? ⟨bx, 11, none⟩ = some (.slice c.a11 c.l11 c.c11) := Cl.at (h.below hb)
theorem SS2_of {w1 w' : World} {ba bx : Nat} {x0 x1 x2 x3 x4 x5 x6 x7 x8 x9 x10 x11 x12 x13 : Value} {c : Cl} (h : CellsAt w1 ba #[x0, x1, x2, x3, x4, x5, x6, x7, x8, x9, x10, x11, x12, x13]) (h2 : CellsAt w1 bx c.cs) (hb : Below w1.heap.size w1 w') : w'.cell? ⟨ba, 0, none⟩ = some x0 ∧ w'.cell? ⟨ba, 1, none⟩ = some x1 ∧ w'.cell? ⟨ba, 2, none⟩ = some x2 ∧ w'.cell? ⟨ba, 3, none⟩ = some x3 ∧ w'.cell? ⟨ba, 4, none⟩ = some x4 ∧ w'.cell? ⟨ba, 5, none⟩ = some x5 ∧ w'.cell? ⟨ba, 6, none⟩ = some x6 ∧ w'.cell? ⟨ba, 7, none⟩ = some x7 ∧ w'.cell? ⟨ba, 8, none⟩ = some x8 ∧ w'.cell? ⟨ba, 9, none⟩ = some x9 ∧ w'.cell? ⟨ba, 10, none⟩ = some x10 ∧ w'.cell? ⟨ba, 11, none⟩ = some x11 ∧ w'.cell? ⟨ba, 12, none⟩ = some x12 ∧ w'.cell? ⟨ba, 13, none⟩ = some x13 ∧ w'.cell? ⟨bx, 11, none⟩ = some (.slice c.a11 c.l11 c.c11) := by
  have h3 := h.below hb
  exact ⟨h3.2 0 _ rfl, h3.2 1 _ rfl, h3.2 2 _ rfl, h3.2 3 _ rfl, h3.2 4 _ rfl, h3.2 5 _ rfl, h3.2 6 _ rfl, h3.2 7 _ rfl, h3.2 8 _ rfl, h3.2 9 _ rfl, h3.2 10 _ rfl, h3.2 11 _ rfl, h3.2 12 _ rfl, h3.2 13 _ rfl, (h2.below hb).2 11 _ rfl⟩
set_option maxRecDepth 100000 in
set_option maxHeartbeats 4000000 in
/-- 'zzClaims'. -/
theorem zzClaims_any (c : Cl) (A G : List ByteArray) (ms : List Mb) (w : World) (h : ClIn w c A G ms) (m2 : c.l2 ≤ 1048576) (m8 : c.l8 ≤ 1048576) (m11 : c.l11 ≤ 1048576) :
    Calls Try.prog 18 #[.agg c.cs] w fun e w' => (∃ gc a cap, e = .returned (.pointer (some ⟨gc, 0, none⟩)) ∧ gc < w'.heap.size ∧ w'.cell? ⟨gc, 13, none⟩ = some (.slice a c.l11 cap) ∧ MbsIn w' a c.l11 ms ∧ ((a = none ∧ cap = 0) ∨ ∃ b o, a = some ⟨b, o, none⟩)) ∧ Below w.heap.size w w' := by
  obtain ⟨w0, hw0⟩ : ∃ w0, w0 = w.alloc (.cells c.cs 33) := ⟨_, rfl⟩
  have hb0 : Below w.heap.size w w0 := by rw [hw0]; exact balloc _ _
  have hC : CellsAt w0 w.heap.size c.cs := by rw [hw0]; exact cellsAt_new _ _ _
  have hI := h.below hb0
  have HW : Hid (w0 = w.alloc (.cells c.cs 33)) := hw0
  have HI : Hid (CellsAt w0 w.heap.size c.cs ∧ ClIn w0 c A G ms) := ⟨hC, hI⟩
  obtain ⟨f0, f1, f2, f3, f4, f5, f6, f7, f8, f9, f10, f11⟩ := Cl.at hC
  clear hw0 h hI hC
  unfold Cl.cs at HW ⊢
  go_enter Try.func18, Try.ntmps18
  go_upto_region 1 with fail
  rw [← HW.out]
  have hBel : Below w0.heap.size w0 w0.drew := (Below.refl _ _).drew
  clear f0 f1 f2 f3 f4 f5 f6 f7 f8 f9 f10 f11
  go_cut [3] (fun v wx => ∃ ba cs, cs.size = 14 ∧ v = .pointer (some ⟨ba, 0, none⟩) ∧ CellsAt wx ba cs ∧ Below w0.heap.size w0 wx)
  case first =>
    go_region_held3 (fun w' => w'.cell? ⟨w.heap.size, 0, none⟩ = some (.string c.s0) ∧ w'.cell? ⟨w.heap.size, 1, none⟩ = some (.string c.s1) ∧ w'.cell? ⟨w.heap.size, 2, none⟩ = some (.slice c.a2 c.l2 c.c2) ∧ w'.cell? ⟨w.heap.size, 3, none⟩ = some (.pointer c.p3) ∧ w'.cell? ⟨w.heap.size, 4, none⟩ = some (.pointer c.p4) ∧ w'.cell? ⟨w.heap.size, 5, none⟩ = some (.pointer c.p5) ∧ w'.cell? ⟨w.heap.size, 6, none⟩ = some (.string c.s6) ∧ w'.cell? ⟨w.heap.size, 7, none⟩ = some (.string c.s7) ∧ w'.cell? ⟨w.heap.size, 8, none⟩ = some (.slice c.a8 c.l8 c.c8) ∧ w'.cell? ⟨w.heap.size, 9, none⟩ = some (.string c.s9) ∧ w'.cell? ⟨w.heap.size, 10, none⟩ = some (.string c.s10) ∧ w'.cell? ⟨w.heap.size, 11, none⟩ = some (.slice c.a11 c.l11 c.c11)) (first | ((with_reducible (show (World.alloc _ _).cell? _ = _ ∧ _)); exact SS_of HI.out.1 (hBel.alloc hBel.size _)) | ((with_reducible (show (World.setCell _ _ _).cell? _ = _ ∧ _)); exact SS_of HI.out.1 (hBel.trans ((full14 hR rfl _ _ _ _ _ _ _ _ _ _ _ _ _ _).2.below hlo))) | exact SS_of HI.out.1 hBel | exact SS_of HI.out.1 ((balloc w0 _).drew))
      (first
      | (go_at_call_of 17 c.a2; refine (cloneStrings_any c.a2 c.l2 c.c2 A _ ?_ m2 HI.out.2.q2).mono ?_; (first | (have hBe := hBel; with_reducible (exact HI.out.2.aud.below hBe)) | (exact HI.out.2.aud.below (hBel.alloc hBel.size _)) | (exact HI.out.2.aud.below ((balloc w0 _).drew))); rintro e wx2 ⟨⟨a2', c2', rfl, s2, q2, fr2⟩, hk⟩; (first | (have hk2 := bt (hBel.alloc hBel.size _) hk (hBel.alloc hBel.size _).size; have hR := Row.below (row_new _ _ 56) hk (by simp); have hlo := hBel.size; replace hBel := hk2; clear hk2) | (have hk2 := bt hBel hk hBel.size; replace hBel := hk2; clear hk2) | (have hk2 := bt ((balloc w0 _).drew) hk (by simp); have hR := Row.below (Row.drew (row_new w0 _ 56)) hk (by simp); have hlo := Nat.le_refl w0.heap.size; replace hBel := hk2; clear hk2)); (try (replace hR := Row.below hR hk hR.lt)))
      | (go_at_call_of 22 c.p3; refine (cloneFloat_any c.p3 _ ?_).mono ?_; (first | (have hBe := hBel; with_reducible (exact HI.out.2.f3.below hBe)) | (exact HI.out.2.f3.below (hBel.alloc hBel.size _)) | (exact HI.out.2.f3.below ((balloc w0 _).drew))); rintro e wx3 ⟨⟨p3', rfl, s3, fr3⟩, hk⟩; (first | (have hk2 := bt (hBel.alloc hBel.size _) hk (hBel.alloc hBel.size _).size; have hR := Row.below (row_new _ _ 56) hk (by simp); have hlo := hBel.size; replace hBel := hk2; clear hk2) | (have hk2 := bt hBel hk hBel.size; replace hBel := hk2; clear hk2) | (have hk2 := bt ((balloc w0 _).drew) hk (by simp); have hR := Row.below (Row.drew (row_new w0 _ 56)) hk (by simp); have hlo := Nat.le_refl w0.heap.size; replace hBel := hk2; clear hk2)); (try (replace hR := Row.below hR hk hR.lt)))
      | (go_at_call_of 22 c.p4; refine (cloneFloat_any c.p4 _ ?_).mono ?_; (first | (have hBe := hBel; with_reducible (exact HI.out.2.f4.below hBe)) | (exact HI.out.2.f4.below (hBel.alloc hBel.size _)) | (exact HI.out.2.f4.below ((balloc w0 _).drew))); rintro e wx4 ⟨⟨p4', rfl, s4, fr4⟩, hk⟩; (first | (have hk2 := bt (hBel.alloc hBel.size _) hk (hBel.alloc hBel.size _).size; have hR := Row.below (row_new _ _ 56) hk (by simp); have hlo := hBel.size; replace hBel := hk2; clear hk2) | (have hk2 := bt hBel hk hBel.size; replace hBel := hk2; clear hk2) | (have hk2 := bt ((balloc w0 _).drew) hk (by simp); have hR := Row.below (Row.drew (row_new w0 _ 56)) hk (by simp); have hlo := Nat.le_refl w0.heap.size; replace hBel := hk2; clear hk2)); (try (replace hR := Row.below hR hk hR.lt)))
      | (go_at_call_of 22 c.p5; refine (cloneFloat_any c.p5 _ ?_).mono ?_; (first | (have hBe := hBel; with_reducible (exact HI.out.2.f5.below hBe)) | (exact HI.out.2.f5.below (hBel.alloc hBel.size _)) | (exact HI.out.2.f5.below ((balloc w0 _).drew))); rintro e wx5 ⟨⟨p5', rfl, s5, fr5⟩, hk⟩; (first | (have hk2 := bt (hBel.alloc hBel.size _) hk (hBel.alloc hBel.size _).size; have hR := Row.below (row_new _ _ 56) hk (by simp); have hlo := hBel.size; replace hBel := hk2; clear hk2) | (have hk2 := bt hBel hk hBel.size; replace hBel := hk2; clear hk2) | (have hk2 := bt ((balloc w0 _).drew) hk (by simp); have hR := Row.below (Row.drew (row_new w0 _ 56)) hk (by simp); have hlo := Nat.le_refl w0.heap.size; replace hBel := hk2; clear hk2)); (try (replace hR := Row.below hR hk hR.lt)))
      | (go_at_call_of 17 c.a8; refine (cloneStrings_any c.a8 c.l8 c.c8 G _ ?_ m8 HI.out.2.q8).mono ?_; (first | (have hBe := hBel; with_reducible (exact HI.out.2.grp.below hBe)) | (exact HI.out.2.grp.below (hBel.alloc hBel.size _)) | (exact HI.out.2.grp.below ((balloc w0 _).drew))); rintro e wx8 ⟨⟨a8', c8', rfl, s8, q8, fr8⟩, hk⟩; (first | (have hk2 := bt (hBel.alloc hBel.size _) hk (hBel.alloc hBel.size _).size; have hR := Row.below (row_new _ _ 56) hk (by simp); have hlo := hBel.size; replace hBel := hk2; clear hk2) | (have hk2 := bt hBel hk hBel.size; replace hBel := hk2; clear hk2) | (have hk2 := bt ((balloc w0 _).drew) hk (by simp); have hR := Row.below (Row.drew (row_new w0 _ 56)) hk (by simp); have hlo := Nat.le_refl w0.heap.size; replace hBel := hk2; clear hk2)); (try (replace hR := Row.below hR hk hR.lt)); (first | (fail_if_success (have := hR)) | (obtain ⟨o0, b0⟩ := hR.old 0 (by first | decide | simp | omega); have d0 := hR.free 0; obtain ⟨o1, b1⟩ := hR.old 1 (by first | decide | simp | omega); have d1 := hR.free 1; obtain ⟨o2, b2⟩ := hR.old 2 (by first | decide | simp | omega); have d2 := hR.free 2; obtain ⟨o3, b3⟩ := hR.old 3 (by first | decide | simp | omega); have d3 := hR.free 3; obtain ⟨o4, b4⟩ := hR.old 4 (by first | decide | simp | omega); have d4 := hR.free 4; obtain ⟨o5, b5⟩ := hR.old 5 (by first | decide | simp | omega); have d5 := hR.free 5; obtain ⟨o6, b6⟩ := hR.old 6 (by first | decide | simp | omega); have d6 := hR.free 6; obtain ⟨o7, b7⟩ := hR.old 7 (by first | decide | simp | omega); have d7 := hR.free 7; obtain ⟨o8, b8⟩ := hR.old 8 (by first | decide | simp | omega); have d8 := hR.free 8; obtain ⟨o9, b9⟩ := hR.old 9 (by first | decide | simp | omega); have d9 := hR.free 9; obtain ⟨o10, b10⟩ := hR.old 10 (by first | decide | simp | omega); have d10 := hR.free 10; obtain ⟨o11, b11⟩ := hR.old 11 (by first | decide | simp | omega); have d11 := hR.free 11; obtain ⟨o12, b12⟩ := hR.old 12 (by first | decide | simp | omega); have d12 := hR.free 12; obtain ⟨o13, b13⟩ := hR.old 13 (by first | decide | simp | omega); have d13 := hR.free 13))))
    all_goals
      go_wp2_with fail
      go_meet
      case rel => first | exact ⟨_, _, rfl, rfl, (full14 hR rfl _ _ _ _ _ _ _ _ _ _ _ _ _ _).1, hBel.trans ((full14 hR rfl _ _ _ _ _ _ _ _ _ _ _ _ _ _).2.below hlo)⟩ | exact ⟨_, _, rfl, rfl, cellsAt_new _ _ _, hBel.alloc hBel.size _⟩
  case rest =>
    obtain ⟨ba, cs, hcs, rfl, hC1, hB1⟩ := hcut
    obtain ⟨x0, x1, x2, x3, x4, x5, x6, x7, x8, x9, x10, x11, x12, x13, rfl⟩ := fourteen hcs
    clear hcs
    have HJ : Hid (CellsAt wc ba #[x0, x1, x2, x3, x4, x5, x6, x7, x8, x9, x10, x11, x12, x13] ∧ CellsAt wc w.heap.size c.cs ∧ ClIn wc c A G ms) := ⟨hC1, HI.out.1.below hB1, HI.out.2.below hB1⟩
    have hBz : Below wc.heap.size wc wc.drew := (Below.refl _ _).drew
    have HM : Hid (c.l11 ≤ 1048576) := m11
    clear hC1
    go_wp2_with fail
    go_region_held3 (fun w' => w'.cell? ⟨ba, 0, none⟩ = some x0 ∧ w'.cell? ⟨ba, 1, none⟩ = some x1 ∧ w'.cell? ⟨ba, 2, none⟩ = some x2 ∧ w'.cell? ⟨ba, 3, none⟩ = some x3 ∧ w'.cell? ⟨ba, 4, none⟩ = some x4 ∧ w'.cell? ⟨ba, 5, none⟩ = some x5 ∧ w'.cell? ⟨ba, 6, none⟩ = some x6 ∧ w'.cell? ⟨ba, 7, none⟩ = some x7 ∧ w'.cell? ⟨ba, 8, none⟩ = some x8 ∧ w'.cell? ⟨ba, 9, none⟩ = some x9 ∧ w'.cell? ⟨ba, 10, none⟩ = some x10 ∧ w'.cell? ⟨ba, 11, none⟩ = some x11 ∧ w'.cell? ⟨ba, 12, none⟩ = some x12 ∧ w'.cell? ⟨ba, 13, none⟩ = some x13 ∧ w'.cell? ⟨w.heap.size, 11, none⟩ = some (.slice c.a11 c.l11 c.c11)) (exact SS2_of HJ.out.1 HJ.out.2.1 hBz)
      (first
      | (go_at_call 25; refine (members_any c.a11 c.l11 c.c11 ms _ ?_ HM.out HJ.out.2.2.q11).mono ?_; (exact HJ.out.2.2.mem.below hBz); rintro e w5 ⟨⟨a', cap', rfl, t1, t2, t3⟩, hk⟩; replace hBz := bt hBz hk hBz.size)
      | (go_at_call 24; refine (newClaims_any _ _ _ _ _ _ _ _ _ _ _ _ _ _ _ _ _ _).mono ?_; rintro e w6 ⟨rfl, r1, r2, hk6⟩; replace hBz := bt hBz hk6 hBz.size))
    go_wp2_with fail
    go_ret
    refine ⟨⟨_, a', cap', rfl, r2, r1, t1.below hk6, ?_⟩, bt (bt hb0 hB1 hb0.size) hBz (Nat.le_trans hb0.size hB1.size)⟩
    cases a' with
    | none => exact .inl ⟨rfl, (t2 rfl).2⟩
    | some x =>
      obtain ⟨g, rfl, _⟩ := t3 x rfl
      exact .inr ⟨g, 0, rfl⟩
end Go.Proofs.Qxb6603645a
