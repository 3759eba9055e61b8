import Derived.Test.Qxb6603645aStab
namespace Go.Proofs.Qxb6603645a
open Go.RowKit
set_option linter.unusedSimpArgs false
set_option linter.unusedVariables false

/-- Strings in memory. -/
structure StrsIn (w : World) (a : Option Addr) (len : Nat) (ss : List ByteArray) : Prop where
  len_eq : ss.length = len
  isAt : 0 < len → ∃ b o, a = some ⟨b, o, none⟩ ∧ b < w.heap.size ∧ ∀ i s, ss[i]? = some s → w.cell? ⟨b, o + i, none⟩ = some (.string s)
/-- Members in memory. -/
structure MbsIn (w : World) (a : Option Addr) (len : Nat) (ms : List Mb) : Prop where
  len_eq : ms.length = len
  isAt : 0 < len → ∃ b o, a = some ⟨b, o, none⟩ ∧ b < w.heap.size ∧ ∀ i m, ms[i]? = some m → w.cell? ⟨b, o + i * 2, none⟩ = some (.string m.1) ∧ w.cell? ⟨b, o + i * 2 + 1, none⟩ = some (.string m.2)
theorem StrsIn.below {w w' : World} {a : Option Addr} {len : Nat} {ss : List ByteArray} (h : StrsIn w a len ss) (hb : Below w.heap.size w w') : StrsIn w' a len ss := ⟨h.len_eq, fun hp => by
  obtain ⟨b, o, rfl, h1, h2⟩ := h.isAt hp
  exact ⟨b, o, rfl, Nat.lt_of_lt_of_le h1 hb.size, fun i s hs => by rw [hb.cell (by simpa using h1)]; exact h2 i s hs⟩⟩
theorem MbsIn.below {w w' : World} {a : Option Addr} {len : Nat} {ms : List Mb} (h : MbsIn w a len ms) (hb : Below w.heap.size w w') : MbsIn w' a len ms := ⟨h.len_eq, fun hp => by
  obtain ⟨b, o, rfl, h1, h2⟩ := h.isAt hp
  exact ⟨b, o, rfl, Nat.lt_of_lt_of_le h1 hb.size, fun i s hs => by rw [hb.cell (by simpa using h1), hb.cell (by simpa using h1)]; exact h2 i s hs⟩⟩
theorem StrsIn.nil (w : World) (a : Option Addr) : StrsIn w a 0 [] := ⟨rfl, fun h => absurd h (Nat.not_lt_zero _)⟩
theorem MbsIn.nil (w : World) (a : Option Addr) : MbsIn w a 0 [] := ⟨rfl, fun h => absurd h (Nat.not_lt_zero _)⟩

/-- Is it one of them? -/
def isIn (ss : List ByteArray) (n : List UInt8) : Bool := ss.any fun d => d.toList == n
theorem isIn_yes {ss : List ByteArray} {n : List UInt8} {i : Nat} {d : ByteArray} (h : ss[i]? = some d) (e : d.toList = n) : isIn ss n = true := List.any_eq_true.2 ⟨d, List.mem_of_getElem? h, by simpa using e⟩
theorem isIn_no {ss : List ByteArray} {n : List UInt8} (h : ∀ i d, i < ss.length → ss[i]? = some d → d.toList ≠ n) : isIn ss n = false := by
  unfold isIn
  rw [List.any_eq_false]
  intro d hd
  obtain ⟨i, hi⟩ := List.mem_iff_getElem?.1 hd
  have := h i d (List.getElem?_eq_some_iff.1 hi).1 hi
  simpa using this
theorem ret_bool {a b : Bool} (h : a = b) : Ending.returned (.bool a) = .returned (.bool b) := by rw [h]

set_option maxHeartbeats 1000000 in
/-- 'zzContains'. -/
theorem zzContains_any (a : Option Addr) (len cap : Nat) (ss : List ByteArray) (s : ByteArray) (w : World) (h : StrsIn w a len ss) (hm : len ≤ 3000000) :
    Calls Try.prog 35 #[.slice a len cap, .string s] w fun e w' => e = .returned (.bool (isIn ss s.toList)) ∧ Below w.heap.size w w' := by
  go_enter Try.func35, Try.ntmps35
  go_wp2_with fail
  go_loopw [5] (fun v wr => ∃ k : Nat, k ≤ len ∧ v = .int .i64 (k : Int) ∧ (∀ j d, j < k → ss[j]? = some d → d.toList ≠ s.toList) ∧ Below w.heap.size w wr) (fun v _ => len - (intOf v).toNat)
  case atStart => exact ⟨0, Nat.zero_le _, rfl, fun j u h => absurd h (Nat.not_lt_zero _), Below.refl _ _⟩
  case round =>
    obtain ⟨k, hk, rfl, hne, hb⟩ := hrel
    have HN : Hid (∀ j d, j < k → ss[j]? = some d → d.toList ≠ s.toList) := hne
    clear hne
    by_cases hlt : k < len
    · obtain ⟨b, o, rfl, h1, hc⟩ := h.isAt (by omega)
      obtain ⟨u, hu⟩ : ∃ u, ss[k]? = some u := ⟨_, List.getElem?_eq_getElem (by rw [h.len_eq]; exact hlt)⟩
      have d0 : wr.cell? ⟨b, o + k, none⟩ = some (.string u) := by rw [hb.cell (by simpa using h1)]; exact hc k u hu
      have HU : Hid (ss[k]? = some u) := hu
      clear hc hu
      have t1 : (k : Int) < (len : Int) := by omega
      by_cases he : u.toList = s.toList
      · have hq : (u.toList == s.toList) = true := by simpa using he
        have HE : Hid (u.toList = s.toList) := he
        clear he
        go_wp2_with fail
        go_ret
        exact ⟨ret_bool (isIn_yes HU.out HE.out).symm, hb⟩
      · have hq : (u.toList == s.toList) = false := by simpa using he
        go_wp2_with fail
        go_roundw
        case rel => exact ⟨k + 1, by omega, by go_num, fun j v hj hv => by
            by_cases e : j = k
            · subst e; rw [HU.out] at hv; cases hv; exact he
            · exact HN.out j v (by omega) hv, hb⟩
        case measure => simp [intOf]; omega
    · have t1 : ¬ (k : Int) < (len : Int) := by omega
      go_wp2_with fail
      go_ret
      exact ⟨ret_bool (isIn_no fun i d hi hd => HN.out i d (by rw [h.len_eq] at hi; omega) hd).symm, hb⟩

set_option maxHeartbeats 1000000 in
/-- 'slices.Index' at strings. -/
theorem index_any (a : Option Addr) (len cap : Nat) (ss : List ByteArray) (s : ByteArray) (w : World) (h : StrsIn w a len ss) (hm : len ≤ 3000000) :
    Calls Try.prog 38 #[.slice a len cap, .string s] w fun e w' => ∃ z : Int, e = .returned (.int .i64 z) ∧ (decide (0 ≤ z) = isIn ss s.toList) ∧ Below w.heap.size w w' := by
  go_enter Try.func38, Try.ntmps38
  go_wp2_with fail
  go_loopw [5, 8] (fun _ v wr => ∃ k : Nat, k ≤ len ∧ v = .int .i64 (k : Int) ∧ (∀ j d, j < k → ss[j]? = some d → d.toList ≠ s.toList) ∧ Below w.heap.size w wr) (fun _ v _ => len - (intOf v).toNat)
  case atStart => exact ⟨0, Nat.zero_le _, rfl, fun j u h => absurd h (Nat.not_lt_zero _), Below.refl _ _⟩
  case round =>
    obtain ⟨k, hk, rfl, hne, hb⟩ := hrel
    have HN : Hid (∀ j d, j < k → ss[j]? = some d → d.toList ≠ s.toList) := hne
    clear hne
    by_cases hlt : k < len
    · obtain ⟨b, o, rfl, h1, hc⟩ := h.isAt (by omega)
      obtain ⟨u, hu⟩ : ∃ u, ss[k]? = some u := ⟨_, List.getElem?_eq_getElem (by rw [h.len_eq]; exact hlt)⟩
      have d0 : wr.cell? ⟨b, o + k, none⟩ = some (.string u) := by rw [hb.cell (by simpa using h1)]; exact hc k u hu
      have HU : Hid (ss[k]? = some u) := hu
      clear hc hu
      have t1 : (k : Int) < (len : Int) := by omega
      by_cases he : u.toList = s.toList
      · have HE : Hid (u.toList = s.toList) := he
        have hq : (s.toList == u.toList) = true := by simpa using he.symm
        clear he
        go_wp2_with fail
        go_ret
        exact ⟨_, rfl, by rw [isIn_yes HU.out HE.out]; simp, hb⟩
      · have HE : Hid (¬ u.toList = s.toList) := he
        have hq : (s.toList == u.toList) = false := by simpa using fun h => he h.symm
        clear he
        go_wp2_with fail
        go_roundw
        case rel => exact ⟨k + 1, by omega, by go_num, fun j v hj hv => by
            by_cases e : j = k
            · subst e; rw [HU.out] at hv; cases hv; exact HE.out
            · exact HN.out j v (by omega) hv, hb⟩
        case measure => simp [intOf]; omega
    · have t1 : ¬ (k : Int) < (len : Int) := by omega
      go_wp2_with fail
      go_ret
      exact ⟨_, rfl, by rw [isIn_no fun i d hi hd => HN.out i d (by rw [h.len_eq] at hi; omega) hd]; simp, hb⟩

set_option maxHeartbeats 1000000 in
/-- 'slices.Contains' at strings. -/
theorem contains_any (a : Option Addr) (len cap : Nat) (ss : List ByteArray) (s : ByteArray) (w : World) (h : StrsIn w a len ss) (hm : len ≤ 3000000) :
    Calls Try.prog 33 #[.slice a len cap, .string s] w fun e w' => e = .returned (.bool (isIn ss s.toList)) ∧ Below w.heap.size w w' := by
  go_enter Try.func33, Try.ntmps33
  go_wp2_with (go_at_call 38; refine (index_any _ _ _ ss s _ h hm).mono ?_; rintro e w' ⟨z, rfl, hz, hb⟩)
  go_ret
  exact ⟨ret_bool (by rw [← hz]; try simp), hb⟩
end Go.Proofs.Qxb6603645a
