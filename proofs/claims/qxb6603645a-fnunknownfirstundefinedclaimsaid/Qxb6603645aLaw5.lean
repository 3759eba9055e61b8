import Derived.Test.Qxb6603645aZc
import Derived.Test.Qxb6603645aGt
namespace Go.Proofs.Qxb6603645a
open Go.RowKit
set_option linter.unusedSimpArgs false
set_option linter.unusedVariables false

set_option maxRecDepth 100000 in
set_option maxHeartbeats 1000000 in
/-- 'ZZunknown'. -/
theorem zzunknown_any (gc : Nat) (a : Option Addr) (len cap : Nat) (ms : List Mb) (a2 : Option Addr) (len2 cap2 : Nat) (ds : List ByteArray) (w : World) (hc : w.cell? ⟨gc, 13, none⟩ = some (.slice a len cap)) (hgc : gc < w.heap.size)
    (ha : (a = none ∧ cap = 0) ∨ ∃ b o, a = some ⟨b, o, none⟩) (h : MbsIn w a len ms) (hm : len ≤ 4096) (h2 : StrsIn w a2 len2 ds) (hm2 : len2 ≤ 4096) :
    Calls Try.prog 19 #[.pointer (some ⟨gc, 0, none⟩), .slice a2 len2 cap2] w fun e w' => TwoRes (Best ms ds len) e ∧ Below w.heap.size w w' := by
  have D : Hid _ := unk_loop gc a len cap ms a2 len2 cap2 ds w hc hgc ha h hm h2 hm2
  clear hc hgc ha h h2
  go_enter Try.func19, Try.ntmps19
  go_wp2_with fail
  refine Calls.mono D.out ?_
  rintro e w' ⟨⟨n, f, rfl, hB⟩, hb⟩
  have HB : Hid _ := hB
  clear hB
  go_wp2_with fail
  go_ret2
  exact ⟨⟨n, f, rfl, HB.out⟩, hb⟩

set_option maxRecDepth 100000 in
set_option maxHeartbeats 4000000 in
/-- THE LAW. -/
theorem law_any (c : Cl) (A G D : List ByteArray) (ms : List Mb) (a1 : Option Addr) (l1 c1 : Nat) (w : World) (h : ClIn w c A G ms) (hd : StrsIn w a1 l1 D) (hl1 : l1 ≤ 9223372036854775807) (hq1 : a1 = none → l1 = 0 ∧ c1 = 0) :
    Calls Try.prog 5 #[.agg c.cs, .slice a1 l1 c1] w fun e w' => e = .returned (.bool true) ∧ Below w.heap.size w w' := by
  obtain ⟨w0, hw0⟩ : ∃ w0, w0 = w.alloc (.cells c.cs 33) := ⟨_, rfl⟩
  have hb0 : Below w.heap.size w w0 := by rw [hw0]; exact balloc _ _
  have R0 : Row w0 w.heap.size 33 12 c.cs.toList := by rw [hw0]; exact row_new w c.cs 33
  have HW : Hid (w0 = w.alloc (.cells c.cs 33)) := hw0
  have HI : Hid (ClIn w0 c A G ms ∧ StrsIn w0 a1 l1 D) := ⟨h.below hb0, hd.below hb0⟩
  have HQ : Hid (a1 = none → l1 = 0 ∧ c1 = 0) := hq1
  have HD0 : Hid (StrsIn w a1 l1 D) := hd
  obtain ⟨f0, f1, f2, f3, f4, f5, f6, f7, f8, f9, f10, f11⟩ := R0.at33
  have D12 : Hid _ := gate_any c A G D ms a1 l1 c1 w0 HI.out.1 HI.out.2 hl1
  have b11 := h.b11
  clear hw0 h hd hq1
  unfold Cl.cs at HW D12 ⊢
  go_enter Try.func5, Try.ntmps5
  go_upto_region 1 with fail
  rw [← HW.out]
  go_wp2_with fail
  refine Calls.mono D12.out ?_
  rintro e w1 ⟨⟨bv, rfl, hg⟩, k1⟩
  have hb1 := bt hb0 k1 hb0.size
  have R1 := R0.below k1 R0.lt
  have HI1 : Hid (ClIn w1 c A G ms ∧ StrsIn w1 a1 l1 D) := ⟨HI.out.1.below k1, HI.out.2.below k1⟩
  have HG : Hid (bv = true → c.l2 ≤ 1048576 ∧ c.l8 ≤ 1048576 ∧ ∀ x ∈ ms, x.1.size ≤ 1048576) := hg
  clear hg D12 f0 f1 f2 f3 f4 f5 f6 f7 f8 f9 f10 f11
  cases bv with
  | false =>
    go_wp2_with fail
    go_ret
    exact ⟨rfl, hb1⟩
  | true =>
    have HG2 := HG.out rfl
    have m2 := HG2.1
    have m8 := HG2.2.1
    have HSZ : Hid (∀ x ∈ ms, x.1.size ≤ 2000000) := fun x hx => Nat.le_trans (HG2.2.2 x hx) (by omega)
    clear HG HG2
    obtain ⟨f0, f1, f2, f3, f4, f5, f6, f7, f8, f9, f10, f11⟩ := R1.at33
    by_cases g1 : c.l11 > 4096
    · have t1 : (c.l11 : Int) > 4096 := by omega
      go_wp2_with fail
      go_ret
      exact ⟨rfl, hb1⟩
    · have t1 : ¬ (c.l11 : Int) > 4096 := by omega
      by_cases g2 : l1 > 4096
      · have t2 : (l1 : Int) > 4096 := by omega
        go_wp2_with fail
        go_ret
        exact ⟨rfl, hb1⟩
      · have t2 : ¬ (l1 : Int) > 4096 := by omega
        have D14 : Hid _ := claimsBytes_any c A G ms w1 HI1.out.1
        unfold Cl.cs at D14
        go_wp2_with fail
        refine Calls.mono D14.out ?_
        rintro e w2 ⟨⟨z2, rfl⟩, k2⟩
        have hb2 := bt hb1 k2 hb1.size
        have R2 := R1.below k2 R1.lt
        have HI2 : Hid (ClIn w2 c A G ms ∧ StrsIn w2 a1 l1 D) := ⟨HI1.out.1.below k2, HI1.out.2.below k2⟩
        clear D14 f0 f1 f2 f3 f4 f5 f6 f7 f8 f9 f10 f11
        go_wp2_with fail
        refine (stringsBytes_any a1 l1 c1 D w2 HI2.out.2 hl1).mono ?_
        rintro e w3 ⟨⟨z3, rfl⟩, k3⟩
        have hb3 := bt hb2 k3 hb2.size
        have R3 := R2.below k3 R2.lt
        have HI3 : Hid (ClIn w3 c A G ms ∧ StrsIn w3 a1 l1 D) := ⟨HI2.out.1.below k3, HI2.out.2.below k3⟩
        go_wp2_with fail
        refine (zzAdd_any _ _ _).mono ?_
        rintro e wx ⟨⟨z4, rfl⟩, rfl⟩
        by_cases g3 : z4 > 1048576
        · go_wp2_with fail
          go_ret
          exact ⟨rfl, hb3⟩
        · obtain ⟨f0, f1, f2, f3, f4, f5, f6, f7, f8, f9, f10, f11⟩ := R3.at33
          have D16 : Hid _ := cloneClaims_any c A G ms w3 HI3.out.1 m2 m8 (by omega)
          unfold Cl.cs at D16
          go_wp2_with fail
          refine Calls.mono D16.out ?_
          rintro e w4 ⟨⟨c', rfl, hC4, hF4, e2, e8, e11⟩, k4⟩
          have hb4 := bt hb3 k4 hb3.size
          have R4 := R3.below k4 R3.lt
          have lt3 := R3.lt
          clear D16 f0 f1 f2 f3 f4 f5 f6 f7 f8 f9 f10 f11
          have HF : Row ((((((((((((w4.setCell ⟨w.heap.size, 0, none⟩ (.string c'.s0)).setCell ⟨w.heap.size, 1, none⟩ (.string c'.s1)).setCell ⟨w.heap.size, 2, none⟩ (.slice c'.a2 c'.l2 c'.c2)).setCell ⟨w.heap.size, 3, none⟩ (.pointer c'.p3)).setCell ⟨w.heap.size, 4, none⟩ (.pointer c'.p4)).setCell ⟨w.heap.size, 5, none⟩ (.pointer c'.p5)).setCell ⟨w.heap.size, 6, none⟩ (.string c'.s6)).setCell ⟨w.heap.size, 7, none⟩ (.string c'.s7)).setCell ⟨w.heap.size, 8, none⟩ (.slice c'.a8 c'.l8 c'.c8)).setCell ⟨w.heap.size, 9, none⟩ (.string c'.s9)).setCell ⟨w.heap.size, 10, none⟩ (.string c'.s10)).setCell ⟨w.heap.size, 11, none⟩ (.slice c'.a11 c'.l11 c'.c11)) w.heap.size 33 12 (Cl.cs c').toList ∧ Touch w.heap.size w4 ((((((((((((w4.setCell ⟨w.heap.size, 0, none⟩ (.string c'.s0)).setCell ⟨w.heap.size, 1, none⟩ (.string c'.s1)).setCell ⟨w.heap.size, 2, none⟩ (.slice c'.a2 c'.l2 c'.c2)).setCell ⟨w.heap.size, 3, none⟩ (.pointer c'.p3)).setCell ⟨w.heap.size, 4, none⟩ (.pointer c'.p4)).setCell ⟨w.heap.size, 5, none⟩ (.pointer c'.p5)).setCell ⟨w.heap.size, 6, none⟩ (.string c'.s6)).setCell ⟨w.heap.size, 7, none⟩ (.string c'.s7)).setCell ⟨w.heap.size, 8, none⟩ (.slice c'.a8 c'.l8 c'.c8)).setCell ⟨w.heap.size, 9, none⟩ (.string c'.s9)).setCell ⟨w.heap.size, 10, none⟩ (.string c'.s10)).setCell ⟨w.heap.size, 11, none⟩ (.slice c'.a11 c'.l11 c'.c11)) := full_store R4 _ rfl
          have HI4 : Hid (ClIn w4 c' A G ms ∧ Fresh w3.heap.size c' ∧ StrsIn w4 a1 l1 D) := ⟨hC4, hF4, HI3.out.2.below k4⟩
          have HE : Hid (c'.l2 = c.l2 ∧ c'.l8 = c.l8 ∧ c'.l11 = c.l11) := ⟨e2, e8, e11⟩
          clear hC4 hF4 e2 e8 e11
          obtain ⟨⟨o0, y0⟩, ⟨o1, y1⟩, ⟨o2, y2⟩, ⟨o3, y3⟩, ⟨o4, y4⟩, ⟨o5, y5⟩, ⟨o6, y6⟩, ⟨o7, y7⟩, ⟨o8, y8⟩, ⟨o9, y9⟩, ⟨o10, y10⟩, ⟨o11, y11⟩⟩ : (∃ o, w4.cell? ⟨w.heap.size, 0, none⟩ = some o) ∧ (∃ o, w4.cell? ⟨w.heap.size, 1, none⟩ = some o) ∧ (∃ o, w4.cell? ⟨w.heap.size, 2, none⟩ = some o) ∧ (∃ o, w4.cell? ⟨w.heap.size, 3, none⟩ = some o) ∧ (∃ o, w4.cell? ⟨w.heap.size, 4, none⟩ = some o) ∧ (∃ o, w4.cell? ⟨w.heap.size, 5, none⟩ = some o) ∧ (∃ o, w4.cell? ⟨w.heap.size, 6, none⟩ = some o) ∧ (∃ o, w4.cell? ⟨w.heap.size, 7, none⟩ = some o) ∧ (∃ o, w4.cell? ⟨w.heap.size, 8, none⟩ = some o) ∧ (∃ o, w4.cell? ⟨w.heap.size, 9, none⟩ = some o) ∧ (∃ o, w4.cell? ⟨w.heap.size, 10, none⟩ = some o) ∧ (∃ o, w4.cell? ⟨w.heap.size, 11, none⟩ = some o) := ⟨R4.old 0 (by omega), R4.old 1 (by omega), R4.old 2 (by omega), R4.old 3 (by omega), R4.old 4 (by omega), R4.old 5 (by omega), R4.old 6 (by omega), R4.old 7 (by omega), R4.old 8 (by omega), R4.old 9 (by omega), R4.old 10 (by omega), R4.old 11 (by omega)⟩
          have d0 := R4.free 0
          have d1 := R4.free 1
          have d2 := R4.free 2
          have d3 := R4.free 3
          have d4 := R4.free 4
          have d5 := R4.free 5
          have d6 := R4.free 6
          have d7 := R4.free 7
          have d8 := R4.free 8
          have d9 := R4.free 9
          have d10 := R4.free 10
          have d11 := R4.free 11
          unfold Cl.cs
          go_wp2_with fail
          clear y0 d0 y1 d1 y2 d2 y3 d3 y4 d4 y5 d5 y6 d6 y7 d7 y8 d8 y9 d9 y10 d10 y11 d11
          generalize ((((((((((((w4.setCell ⟨w.heap.size, 0, none⟩ (.string c'.s0)).setCell ⟨w.heap.size, 1, none⟩ (.string c'.s1)).setCell ⟨w.heap.size, 2, none⟩ (.slice c'.a2 c'.l2 c'.c2)).setCell ⟨w.heap.size, 3, none⟩ (.pointer c'.p3)).setCell ⟨w.heap.size, 4, none⟩ (.pointer c'.p4)).setCell ⟨w.heap.size, 5, none⟩ (.pointer c'.p5)).setCell ⟨w.heap.size, 6, none⟩ (.string c'.s6)).setCell ⟨w.heap.size, 7, none⟩ (.string c'.s7)).setCell ⟨w.heap.size, 8, none⟩ (.slice c'.a8 c'.l8 c'.c8)).setCell ⟨w.heap.size, 9, none⟩ (.string c'.s9)).setCell ⟨w.heap.size, 10, none⟩ (.string c'.s10)).setCell ⟨w.heap.size, 11, none⟩ (.slice c'.a11 c'.l11 c'.c11)) = W5 at HF ⊢
          have hb5 : Below w.heap.size w W5 := hb4.trans (HF.2.below (Nat.le_refl _))
          have HI5 : Hid (ClIn W5 c' A G ms) := HI4.out.1.hi HI4.out.2.1 (Hi.of_touch HF.2 lt3)
          have R5 : Row W5 w.heap.size 33 12 c'.cs.toList := HF.1
          clear HF
          refine (cloneStrings_any a1 l1 c1 D W5 (HD0.out.below hb5) (by omega) HQ.out).mono ?_
          rintro e w6 ⟨⟨a1', c1', rfl, hs6, hq6, -⟩, k6⟩
          have hb6 := bt hb5 k6 hb5.size
          have R6 := R5.below k6 R5.lt
          have HI6 : Hid (ClIn w6 c' A G ms) := HI5.out.below k6
          have HE2 := HE.out
          have D18 : Hid _ := zzClaims_any c' A G ms w6 HI6.out (by omega) (by omega) (by omega)
          have n11 : c'.l11 ≤ 4096 := by omega
          clear HE2
          unfold Cl.cs at D18
          obtain ⟨f0, f1, f2, f3, f4, f5, f6, f7, f8, f9, f10, f11⟩ := R6.at33
          go_wp2_with fail
          refine Calls.mono D18.out ?_
          rintro e w7 ⟨⟨gc, a7, cap7, rfl, g7, q7, m7, p7⟩, k7⟩
          have hb7 := bt hb6 k7 hb6.size
          have R7 := R6.below k7 R6.lt
          have HI7 : Hid (ClIn w7 c' A G ms ∧ StrsIn w7 a1' l1 D) := ⟨HI6.out.below k7, hs6.below k7⟩
          have D19 : Hid _ := zzunknown_any gc a7 c'.l11 cap7 ms a1' l1 c1' D w7 q7 g7 p7 m7 n11 HI7.out.2 (by omega)
          clear D18 f0 f1 f2 f3 f4 f5 f6 f7 f8 f9 f10 f11 q7 m7 p7
          go_wp2_with fail
          refine Calls.mono D19.out ?_
          rintro e w8 ⟨⟨n8, b8, rfl, B8⟩, k8⟩
          have hb8 := bt hb7 k8 hb7.size
          have R8 := R7.below k8 R7.lt
          have HI8 : Hid (ClIn w8 c' A G ms ∧ StrsIn w8 a1' l1 D) := ⟨HI7.out.1.below k8, HI7.out.2.below k8⟩
          have D20 : Hid _ := model_any c'.a11 c'.l11 c'.c11 ms a1' l1 c1' D w8 HI8.out.1.mem n11 HI8.out.2 (by omega) HSZ.out
          have f11 := R8.cell 11 (.slice c'.a11 c'.l11 c'.c11) rfl
          have HB8 : Hid (Best ms D c'.l11 n8 b8) := B8
          clear D19 B8
          go_wp2_with fail
          refine Calls.mono D20.out ?_
          rintro e w9 ⟨⟨n9, b9, rfl, B9⟩, k9⟩
          have hb9 := bt hb8 k9 hb8.size
          have E : n8.data.toList = n9.data.toList ∧ b8 = b9 := by
            have hx := HB8.out
            have hy := B9
            rw [← HI8.out.1.mem.len_eq] at hx hy
            exact Best.one hx hy
          have E1 : (n8.toList == n9.toList) = true := by rw [beq_iff_eq, ByteArray.toList_eq, ByteArray.toList_eq]; exact E.1
          obtain rfl := E.2
          clear E HB8 B9 D20 f11
          go_wp2_with fail
          go_ret
          exact ⟨ret_bool (by simp), hb9⟩
end Go.Proofs.Qxb6603645a
