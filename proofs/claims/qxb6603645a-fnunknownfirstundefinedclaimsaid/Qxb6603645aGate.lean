import Derived.Test.Qxb6603645aUnk
namespace Go.Proofs.Qxb6603645a
open Go.RowKit
set_option linter.unusedSimpArgs false
set_option linter.unusedVariables false

/-- It answers some number. -/
def SomeInt (e : Ending) : Prop := ∃ z : Int, e = .returned (.int .i64 z)
def SomeBool (e : Ending) : Prop := ∃ b : Bool, e = .returned (.bool b)

/-- What 'zzAdd' answers. -/
def addV (a b : Int) : Int := if a > 1048576 then 1048577 else if b > 1048576 then 1048577 else if IntKind.i64.wrap (a + b) > 1048576 then 1048577 else IntKind.i64.wrap (a + b)
theorem ret_int {a b : Int} (h : a = b) : Ending.returned (.int .i64 a) = .returned (.int .i64 b) := by rw [h]
set_option maxRecDepth 100000 in
set_option maxHeartbeats 1000000 in
/-- 'zzAdd'. -/
theorem zzAdd_all (a b : Int) (w : World) : Calls Try.prog 13 #[.int .i64 a, .int .i64 b] w fun e w' => e = .returned (.int .i64 (addV a b)) ∧ w' = w := by
  have HV : Hid (addV a b = if a > 1048576 then 1048577 else if b > 1048576 then 1048577 else if IntKind.i64.wrap (a + b) > 1048576 then 1048577 else IntKind.i64.wrap (a + b)) := rfl
  by_cases h1 : a > 1048576
  · go_enter Try.func13, Try.ntmps13
    go_wp2_with fail
    go_ret
    exact ⟨ret_int (by rw [HV.out, if_pos (by omega)]), rfl⟩
  · by_cases h2 : b > 1048576
    · go_enter Try.func13, Try.ntmps13
      go_wp2_with fail
      go_ret
      exact ⟨ret_int (by rw [HV.out, if_neg (by omega), if_pos (by omega)]), rfl⟩
    · obtain ⟨s, hs⟩ : ∃ s, IntKind.i64.wrap (a + b) = s := ⟨_, rfl⟩
      have HS : Hid (IntKind.i64.wrap (a + b) = s) := hs
      by_cases h3 : s > 1048576
      · go_enter Try.func13, Try.ntmps13
        go_wp2_with fail
        go_ret
        exact ⟨ret_int (by rw [HV.out, if_neg (by omega), if_neg (by omega), HS.out, if_pos (by omega)]), rfl⟩
      · go_enter Try.func13, Try.ntmps13
        go_wp2_with fail
        go_ret
        exact ⟨ret_int (by rw [HV.out, if_neg (by omega), if_neg (by omega), HS.out, if_neg (by omega)]), rfl⟩
theorem zzAdd_any (a b : Int) (w : World) : Calls Try.prog 13 #[.int .i64 a, .int .i64 b] w fun e w' => SomeInt e ∧ w = w' :=
  (zzAdd_all a b w).mono fun e w' ⟨h1, h2⟩ => ⟨⟨_, h1⟩, h2.symm⟩

set_option maxRecDepth 100000 in
set_option maxHeartbeats 1000000 in
/-- 'zzStringsBytes'. -/
theorem stringsBytes_any (a : Option Addr) (len cap : Nat) (ss : List ByteArray) (w : World) (h : StrsIn w a len ss) (hm : len ≤ 9223372036854775807) :
    Calls Try.prog 15 #[.slice a len cap] w fun e w' => SomeInt e ∧ Below w.heap.size w w' := by
  go_enter Try.func15, Try.ntmps15
  go_wp2_with fail
  go_loopw [3, 4] (fun nv v wr => ∃ (z : Int) (k : Nat), k ≤ len ∧ nv = .int .i64 z ∧ v = .int .i64 (k : Int) ∧ Below w.heap.size w wr) (fun _ v _ => len - (intOf v).toNat)
  case atStart => exact ⟨0, 0, Nat.zero_le _, rfl, rfl, Below.refl _ _⟩
  case round =>
    obtain ⟨z, k, hk, rfl, rfl, hb⟩ := hrel
    by_cases hlt : k < len
    · have t1 : (k : Int) < (len : Int) := by omega
      obtain ⟨b, o, rfl, h1, hc⟩ := h.isAt (by omega)
      obtain ⟨u, hu⟩ : ∃ u, ss[k]? = some u := ⟨_, List.getElem?_eq_getElem (by rw [h.len_eq]; exact hlt)⟩
      have d0 : wr.cell? ⟨b, o + k, none⟩ = some (.string u) := by rw [hb.cell (by simpa using h1)]; exact hc k u hu
      clear hc hu
      go_wp2_with fail
      refine (zzAdd_any _ _ _).mono ?_
      rintro e w1 ⟨⟨z1, rfl⟩, rfl⟩
      go_wp2_with fail
      refine (zzAdd_any _ _ _).mono ?_
      rintro e w1 ⟨⟨z2, rfl⟩, rfl⟩
      by_cases hz : z2 > 1048576
      · go_wp2_with fail
        go_ret
        exact ⟨⟨_, rfl⟩, hb⟩
      · go_wp2_with fail
        go_roundw
        case rel => exact ⟨z2, k + 1, by omega, rfl, by go_num, hb⟩
        case measure => simp [intOf]; omega
    · have t1 : ¬ (k : Int) < (len : Int) := by omega
      go_wp2_with fail
      go_ret
      exact ⟨⟨_, rfl⟩, hb⟩

set_option maxRecDepth 100000 in
set_option maxHeartbeats 1000000 in
/-- 'zzMembersBytes'. -/
theorem membersBytes_any (a : Option Addr) (len cap : Nat) (ms : List Mb) (w : World) (h : MbsIn w a len ms) (hm : len ≤ 9223372036854775807) :
    Calls Try.prog 21 #[.slice a len cap] w fun e w' => SomeInt e ∧ Below w.heap.size w w' := by
  go_enter Try.func21, Try.ntmps21
  go_wp2_with fail
  go_loopw [3, 4] (fun nv v wr => ∃ (z : Int) (k : Nat), k ≤ len ∧ nv = .int .i64 z ∧ v = .int .i64 (k : Int) ∧ Below w.heap.size w wr) (fun _ v _ => len - (intOf v).toNat)
  case atStart => exact ⟨0, 0, Nat.zero_le _, rfl, rfl, Below.refl _ _⟩
  case round =>
    obtain ⟨z, k, hk, rfl, rfl, hb⟩ := hrel
    by_cases hlt : k < len
    · have t1 : (k : Int) < (len : Int) := by omega
      obtain ⟨b, o, rfl, h1, hc⟩ := h.isAt (by omega)
      obtain ⟨u, hu⟩ : ∃ u, ms[k]? = some u := ⟨_, List.getElem?_eq_getElem (by rw [h.len_eq]; exact hlt)⟩
      have d0 : wr.cell? ⟨b, o + k * 2, none⟩ = some (.string u.1) := by rw [hb.cell (by simpa using h1)]; exact (hc k u hu).1
      have d1 : wr.cell? ⟨b, o + k * 2 + 1, none⟩ = some (.string u.2) := by rw [hb.cell (by simpa using h1)]; exact (hc k u hu).2
      have hg : b < wr.heap.size := Nat.lt_of_lt_of_le h1 hb.size
      clear hc hu
      go_wp2_with fail
      go_quiet (first | (go_at_call 13; refine Calls.quiet_of_same (zzAdd_all _ _ _)))
      obtain ⟨z2, hz2⟩ : ∃ z2, addV z (addV 32 (addV (u.1.size : Int) (u.2.size : Int))) = z2 := ⟨_, rfl⟩
      have hbq : Below w.heap.size w (wr.drewN nq) := hb.trans (drewN_below _ _ _)
      by_cases hz : z2 > 1048576
      · go_wp2_with fail
        go_ret
        exact ⟨⟨_, rfl⟩, hbq⟩
      · go_wp2_with fail
        go_roundw
        case rel => exact ⟨_, k + 1, by omega, rfl, by go_num, hbq⟩
        case measure => simp [intOf]; omega
    · have t1 : ¬ (k : Int) < (len : Int) := by omega
      go_wp2_with fail
      go_ret
      exact ⟨⟨_, rfl⟩, hb⟩
end Go.Proofs.Qxb6603645a
