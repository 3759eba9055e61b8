import Derived.Test.Qxb6603645aSl
namespace Go.Proofs.Qxb6603645a
open Go.RowKit
set_option linter.unusedSimpArgs false
set_option linter.unusedVariables false

theorem lt_front : ∀ (p a b : List UInt8), Lt (p ++ a) (p ++ b) ↔ Lt a b
  | [], a, b => Iff.rfl
  | x :: p, a, b => by
    rw [List.cons_append, List.cons_append, lt_cons, lt_front p a b]
    constructor
    · rintro (h | ⟨_, h⟩)
      · exact absurd h (UInt8.lt_irrefl x)
      · exact h
    · intro h; exact .inr ⟨rfl, h⟩
theorem drewN_below (w : World) (B q : Nat) : Below B w (w.drewN q) := ⟨rfl, rfl, rfl, Nat.le_refl _, fun _ _ => rfl⟩
theorem ba_len (a : ByteArray) : a.data.toList.length = a.size := by simp
theorem ba_get (a : ByteArray) (k : Nat) (h : k < a.size) : a.data.toList[k]? = some a[k] := by
  rw [List.getElem?_eq_getElem (by rw [ba_len]; exact h)]
  simp [ByteArray.getElem_eq_getElem_data]

theorem less_at {a b : List UInt8} {k : Nat} {x y : UInt8} (h : a.take k = b.take k) (ha : a[k]? = some x) (hb : b[k]? = some y) (hne : x ≠ y) : Lt a b ↔ x < y := by
  obtain ⟨ha1, rfl⟩ := List.getElem?_eq_some_iff.1 ha
  obtain ⟨hb1, rfl⟩ := List.getElem?_eq_some_iff.1 hb
  have e1 : a = a.take k ++ a[k] :: a.drop (k + 1) := by rw [← List.drop_eq_getElem_cons, List.take_append_drop]
  have e2 : b = a.take k ++ b[k] :: b.drop (k + 1) := by rw [h, ← List.drop_eq_getElem_cons, List.take_append_drop]
  have : Lt (a.take k ++ a[k] :: a.drop (k + 1)) (a.take k ++ b[k] :: b.drop (k + 1)) ↔ a[k] < b[k] := by
    rw [lt_front, lt_cons]
    constructor
    · rintro (h | ⟨h, _⟩)
      · exact h
      · exact absurd h hne
    · exact .inl
  rwa [← e1, ← e2] at this
theorem lt_nil (y : UInt8) (b : List UInt8) : Lt [] (y :: b) := by
  rcases Lt.tri [] (y :: b) with h | h | h
  · exact h
  · cases h
  · exfalso
    revert h
    simp [Lt, Lib.compareBytes]
theorem not_lt_nil (a : List UInt8) : ¬ Lt a [] := by
  cases a with
  | nil => exact Lt.irrefl _
  | cons x a => exact (lt_nil x a).asymm
theorem less_end {a b : List UInt8} {k : Nat} (h : a.take k = b.take k) (h2 : a.length ≤ k ∨ b.length ≤ k) (ha : k ≤ a.length) (hb : k ≤ b.length) : Lt a b ↔ a.length < b.length := by
  rcases h2 with h2 | h2
  · rw [List.take_of_length_le h2] at h
    have e : b = a ++ b.drop k := by rw [h, List.take_append_drop]
    have l : (b.drop k).length = b.length - k := by simp
    have : Lt (a ++ []) (a ++ b.drop k) ↔ a.length < b.length := by
      rw [lt_front]
      cases hd : b.drop k with
      | nil => rw [hd] at l; simp at l; constructor
               · exact fun h => absurd h (Lt.irrefl _)
               · omega
      | cons y t => rw [hd] at l; simp at l; constructor
                    · omega
                    · exact fun _ => lt_nil _ _
    rwa [List.append_nil, ← e] at this
  · rw [List.take_of_length_le h2] at h
    have e : a = b ++ a.drop k := by rw [← h, List.take_append_drop]
    have : Lt (b ++ a.drop k) (b ++ []) ↔ a.length < b.length := by
      rw [lt_front]
      constructor
      · exact fun h => absurd h (not_lt_nil _)
      · omega
    rwa [List.append_nil, ← e] at this

noncomputable instance (a b : List UInt8) : Decidable (Lt a b) := by unfold Lt; infer_instance

set_option maxRecDepth 100000 in
set_option maxHeartbeats 1000000 in
/-- 'zzLess'. -/
theorem zzLess_any (a b : ByteArray) (w : World) (ha : a.size ≤ 2000000) (hb : b.size ≤ 2000000) :
    Calls Try.prog 28 #[.string a, .string b] w fun e w' => e = .returned (.bool (decide (Lt a.data.toList b.data.toList))) ∧ Below w.heap.size w w' := by
  go_enter Try.func28, Try.ntmps28
  go_upto_if 12 with fail
  go_cut [5] (fun v wx => w = wx ∧ ∃ n : Nat, v = .int .i64 (n : Int) ∧ n ≤ a.size ∧ n ≤ b.size ∧ (a.size ≤ n ∨ b.size ≤ n))
  case first =>
    by_cases hlt : b.size < a.size
    · have t : (b.size : Int) < (a.size : Int) := by omega
      go_wp2_with fail
      go_meet
      case rel => exact ⟨rfl, b.size, rfl, by omega, by omega, .inr (by omega)⟩
    · have t : ¬ (b.size : Int) < (a.size : Int) := by omega
      go_wp2_with fail
      go_meet
      case rel => exact ⟨rfl, a.size, rfl, by omega, by omega, .inl (by omega)⟩
  case rest =>
    obtain ⟨rfl, n, rfl, hn1, hn2, hn3⟩ := hcut
    go_wp2_with fail
    go_loopw [6] (fun v wr => ∃ k q : Nat, k ≤ n ∧ v = .int .i64 (k : Int) ∧ a.data.toList.take k = b.data.toList.take k ∧ wr = w.drewN q) (fun v _ => n - (intOf v).toNat)
    case atStart => exact ⟨0, 0, Nat.zero_le _, rfl, rfl, rfl⟩
    case round =>
      obtain ⟨k, q, hk, rfl, ht, hw⟩ := hrel
      have HT : Hid (a.data.toList.take k = b.data.toList.take k) := ht
      clear ht
      subst hw
      by_cases hlt : k < n
      · have t1 : (k : Int) < (n : Int) := by omega
        have l1 : k < a.size := by omega
        have l2 : k < b.size := by omega
        by_cases he : a[k] = b[k]
        · have hq : (((a[k].toNat : Nat) : Int) != ((b[k].toNat : Nat) : Int)) = false := by rw [he]; simp
          have HE : Hid (a[k] = b[k]) := he
          clear he
          go_wp2_with fail
          go_quiet (fail)
          go_wp2_with fail
          go_roundw
          case rel =>
            refine ⟨k + 1, q + nq, by omega, by go_num, ?_, rfl⟩
            rw [List.take_add_one, List.take_add_one, HT.out, ba_get a k l1, ba_get b k l2, HE.out]
          case measure => simp [intOf]; omega
        · have hq : (((a[k].toNat : Nat) : Int) != ((b[k].toNat : Nat) : Int)) = true := by
            rw [bne_iff_ne]
            intro h
            exact he (UInt8.toNat_inj.1 (by omega))
          have HE : Hid (a[k] ≠ b[k]) := he
          clear he
          have L := less_at HT.out (ba_get a k l1) (ba_get b k l2) HE.out
          have HL : Hid (Lt a.data.toList b.data.toList ↔ a[k].toNat < b[k].toNat) := by
            show Lt a.data.toList b.data.toList ↔ _
            rw [L, UInt8.lt_iff_toNat_lt]
          clear L
          go_wp2_with fail
          go_quiet (fail)
          go_wp2_with fail
          go_quiet (fail)
          go_wp2_with fail
          go_ret
          exact ⟨ret_bool (by rw [decide_eq_decide]; exact HL.out.symm), ((drewN_below _ _ _).trans (drewN_below _ _ _)).trans (drewN_below _ _ _)⟩
      · have t1 : ¬ (k : Int) < (n : Int) := by omega
        have L := less_end HT.out (by rw [ba_len, ba_len]; omega) (by rw [ba_len]; omega) (by rw [ba_len]; omega)
        rw [ba_len, ba_len] at L
        have HL : Hid (Lt a.data.toList b.data.toList ↔ a.size < b.size) := by
            show Lt a.data.toList b.data.toList ↔ _
            rw [L]
        clear L
        go_wp2_with fail
        go_ret
        exact ⟨ret_bool (by rw [decide_eq_decide]; exact HL.out.symm), drewN_below _ _ _⟩
end Go.Proofs.Qxb6603645a
