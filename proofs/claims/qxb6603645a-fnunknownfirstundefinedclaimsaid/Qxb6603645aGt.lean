import Derived.Test.Qxb6603645aCl
namespace Go.Proofs.Qxb6603645a
open Go.RowKit
set_option linter.unusedSimpArgs false
set_option linter.unusedVariables false

/-- What the first gate tells. -/
def GateOut (c : Cl) (ms : List Mb) (e : Ending) : Prop := ∃ b : Bool, e = .returned (.bool b) ∧ (b = true → c.l2 ≤ 1048576 ∧ c.l8 ≤ 1048576 ∧ ∀ x ∈ ms, x.1.size ≤ 1048576)
theorem gate_no (c : Cl) (ms : List Mb) : GateOut c ms (.returned (.bool false)) := ⟨false, rfl, fun h => by cases h⟩

set_option maxRecDepth 100000 in
set_option maxHeartbeats 2000000 in
theorem gate_any (c : Cl) (A G D : List ByteArray) (ms : List Mb) (a1 : Option Addr) (l1 c1 : Nat) (w : World) (h : ClIn w c A G ms) (hd : StrsIn w a1 l1 D) (hl1 : l1 ≤ 9223372036854775807) :
    Calls Try.prog 12 #[.agg c.cs, .slice a1 l1 c1] w fun e w' => GateOut c ms e ∧ Below w.heap.size w w' := by
  obtain ⟨w0, hw0⟩ : ∃ w0, w0 = w.alloc (.cells c.cs 33) := ⟨_, rfl⟩
  have hb0 : Below w.heap.size w w0 := by rw [hw0]; exact balloc _ _
  have hC : CellsAt w0 w.heap.size c.cs := by rw [hw0]; exact cellsAt_new _ _ _
  have hI := h.below hb0
  have hD := hd.below hb0
  have HW : Hid (w0 = w.alloc (.cells c.cs 33)) := hw0
  have HI : Hid (CellsAt w0 w.heap.size c.cs ∧ ClIn w0 c A G ms ∧ StrsIn w0 a1 l1 D) := ⟨hC, hI, hD⟩
  obtain ⟨f0, f1, f2, -, -, -, f6, f7, f8, f9, f10, f11⟩ := Cl.at hC
  have b2 := h.b2
  have b8 := h.b8
  have b11 := h.b11
  clear hw0 h hI hC hd hD
  unfold Cl.cs at HW ⊢
  go_enter Try.func12, Try.ntmps12
  go_upto_region 2 with fail
  rw [← HW.out]
  go_upto_region 17 with fail
  all_goals try (go_ret; exact ⟨gate_no c ms, hb0⟩)
  have hF2 : c.l2 ≤ 1048576 := by omega
  go_wp2_with fail
  go_loopw [5, 6] (fun nv v wr => ∃ (z : Int) (k : Nat), k ≤ c.l2 ∧ nv = .int .i64 z ∧ v = .int .i64 (k : Int) ∧ 0 ≤ z ∧ z ≤ 1048576 ∧ wr = w0) (fun _ v _ => c.l2 - (intOf v).toNat)
  case atStart => exact ⟨_, 0, Nat.zero_le _, rfl, rfl, by omega, by omega, rfl⟩
  case round =>
    obtain ⟨z, k, hk, rfl, rfl, hz0, hz1, hw⟩ := hrel
    have hw' : w0 = wr := hw.symm
    subst hw'
    by_cases hlt : k < c.l2
    · have t1 : (k : Int) < (c.l2 : Int) := by omega
      obtain ⟨b, o, u, ea, d0⟩ : ∃ b o u, c.a2 = some ⟨b, o, none⟩ ∧ w0.cell? ⟨b, o + k, none⟩ = some (.string u) := by
        obtain ⟨b, o, e, h1, hc⟩ := HI.out.2.1.aud.isAt (by omega)
        obtain ⟨u, hu⟩ : ∃ u, A[k]? = some u := ⟨_, List.getElem?_eq_getElem (by rw [HI.out.2.1.aud.len_eq]; exact hlt)⟩
        exact ⟨b, o, u, e, hc k u hu⟩
      rw [ea] at f2
      go_wp2_with fail
      all_goals try (go_ret; exact ⟨gate_no c ms, hb0⟩)
      go_roundw
      case rel => exact ⟨z + u.size, k + 1, by omega, rfl, by go_num, by omega, by omega, by first | rfl | trivial⟩
      case measure => simp [intOf]; omega
    · have t1 : ¬ (k : Int) < (c.l2 : Int) := by omega
      go_upto_region 40 with fail
      all_goals try (go_ret; exact ⟨gate_no c ms, hb0⟩)
      have hF8 : c.l8 ≤ 1048576 := by omega
      go_wp2_with fail
      go_loopw [5, 7] (fun nv v wr => ∃ (z : Int) (k : Nat), k ≤ c.l8 ∧ nv = .int .i64 z ∧ v = .int .i64 (k : Int) ∧ 0 ≤ z ∧ z ≤ 1048576 ∧ wr = w0) (fun _ v _ => c.l8 - (intOf v).toNat)
      case atStart => exact ⟨_, 0, Nat.zero_le _, rfl, rfl, by omega, by omega, rfl⟩
      case round =>
        obtain ⟨z, k, hk, rfl, rfl, hz0, hz1, hw⟩ := hrel
        have hw' : w0 = wr := hw.symm
        subst hw'
        by_cases hlt : k < c.l8
        · have t1 : (k : Int) < (c.l8 : Int) := by omega
          obtain ⟨b, o, u, ea, d0⟩ : ∃ b o u, c.a8 = some ⟨b, o, none⟩ ∧ w0.cell? ⟨b, o + k, none⟩ = some (.string u) := by
            obtain ⟨b, o, e, h1, hc⟩ := HI.out.2.1.grp.isAt (by omega)
            obtain ⟨u, hu⟩ : ∃ u, G[k]? = some u := ⟨_, List.getElem?_eq_getElem (by rw [HI.out.2.1.grp.len_eq]; exact hlt)⟩
            exact ⟨b, o, u, e, hc k u hu⟩
          rw [ea] at f8
          go_wp2_with fail
          all_goals try (go_ret; exact ⟨gate_no c ms, hb0⟩)
          go_roundw
          case rel => exact ⟨z + u.size, k + 1, by omega, rfl, by go_num, by omega, by omega, by first | rfl | trivial⟩
          case measure => simp [intOf]; omega
        · have t1 : ¬ (k : Int) < (c.l8 : Int) := by omega
          go_upto_region 63 with fail
          all_goals try (go_ret; exact ⟨gate_no c ms, hb0⟩)
          go_wp2_with fail
          go_loopw [5, 8] (fun nv v wr => ∃ (z : Int) (k : Nat), k ≤ c.l11 ∧ nv = .int .i64 z ∧ v = .int .i64 (k : Int) ∧ 0 ≤ z ∧ z ≤ 1048576 ∧ (∀ j x, j < k → ms[j]? = some x → x.1.size ≤ 1048576) ∧ wr = w0) (fun _ v _ => c.l11 - (intOf v).toNat)
          case atStart => exact ⟨_, 0, Nat.zero_le _, rfl, rfl, by omega, by omega, fun j x h => absurd h (Nat.not_lt_zero _), rfl⟩
          case round =>
            obtain ⟨z, k, hk, rfl, rfl, hz0, hz1, hal, hw⟩ := hrel
            have HA : Hid (∀ j x, j < k → ms[j]? = some x → x.1.size ≤ 1048576) := hal
            clear hal
            have hw' : w0 = wr := hw.symm
            subst hw'
            by_cases hlt : k < c.l11
            · have t1 : (k : Int) < (c.l11 : Int) := by omega
              obtain ⟨b, o, u, ea, d0, d1, hu⟩ : ∃ b o u, c.a11 = some ⟨b, o, none⟩ ∧ w0.cell? ⟨b, o + k * 2, none⟩ = some (.string u.1) ∧ w0.cell? ⟨b, o + k * 2 + 1, none⟩ = some (.string u.2) ∧ ms[k]? = some u := by
                obtain ⟨b, o, e, h1, hc⟩ := HI.out.2.1.mem.isAt (by omega)
                obtain ⟨u, hu⟩ : ∃ u, ms[k]? = some u := ⟨_, List.getElem?_eq_getElem (by rw [HI.out.2.1.mem.len_eq]; exact hlt)⟩
                exact ⟨b, o, u, e, (hc k u hu).1, (hc k u hu).2, hu⟩
              have HU : Hid (ms[k]? = some u) := hu
              clear hu
              rw [ea] at f11
              go_wp2_with fail
              all_goals try (go_ret; exact ⟨gate_no c ms, hb0⟩)
              go_roundw
              case rel => exact ⟨z + u.1.size + u.2.size, k + 1, by omega, rfl, by go_num, by omega, by omega, step_lt (P := fun j x => x.1.size ≤ 1048576) HA.out HU.out (by omega), by first | rfl | trivial⟩
              case measure => simp [intOf]; omega
            · have t1 : ¬ (k : Int) < (c.l11 : Int) := by omega
              have HF : Hid (c.l2 ≤ 1048576 ∧ c.l8 ≤ 1048576 ∧ ∀ x ∈ ms, x.1.size ≤ 1048576) := ⟨hF2, hF8, fun x hx => by
                obtain ⟨j, hj⟩ := List.mem_iff_getElem?.1 hx
                have := (List.getElem?_eq_some_iff.1 hj).1
                rw [HI.out.2.1.mem.len_eq] at this
                exact HA.out j x (by omega) hj⟩
              clear HA
              go_upto_region 81 with fail
              all_goals try (go_ret; exact ⟨gate_no c ms, hb0⟩)
              go_wp2_with fail
              go_loopw [5, 9] (fun nv v wr => ∃ (z : Int) (k : Nat), k ≤ l1 ∧ nv = .int .i64 z ∧ v = .int .i64 (k : Int) ∧ 0 ≤ z ∧ z ≤ 1048576 ∧ wr = w0) (fun _ v _ => l1 - (intOf v).toNat)
              case atStart => exact ⟨_, 0, Nat.zero_le _, rfl, rfl, by omega, by omega, rfl⟩
              case round =>
                obtain ⟨z, k, hk, rfl, rfl, hz0, hz1, hw⟩ := hrel
                have hw' : w0 = wr := hw.symm
                subst hw'
                by_cases hlt : k < l1
                · have t1 : (k : Int) < (l1 : Int) := by omega
                  obtain ⟨b, o, u, ea, d0⟩ : ∃ b o u, a1 = some ⟨b, o, none⟩ ∧ w0.cell? ⟨b, o + k, none⟩ = some (.string u) := by
                    obtain ⟨b, o, e, h1, hc⟩ := HI.out.2.2.isAt (by omega)
                    obtain ⟨u, hu⟩ : ∃ u, D[k]? = some u := ⟨_, List.getElem?_eq_getElem (by rw [HI.out.2.2.len_eq]; exact hlt)⟩
                    exact ⟨b, o, u, e, hc k u hu⟩
                  cases ea
                  go_wp2_with fail
                  all_goals try (go_ret; exact ⟨gate_no c ms, hb0⟩)
                  go_roundw
                  case rel => exact ⟨z + u.size, k + 1, by omega, rfl, by go_num, by omega, by omega, by first | rfl | trivial⟩
                  case measure => simp [intOf]; omega
                · have t1 : ¬ (k : Int) < (l1 : Int) := by omega
                  go_wp2_with fail
                  go_ret
                  exact ⟨⟨true, rfl, fun _ => HF.out⟩, hb0⟩
end Go.Proofs.Qxb6603645a
