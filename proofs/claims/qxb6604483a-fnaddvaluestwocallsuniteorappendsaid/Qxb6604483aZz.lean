import Derived.Test.Qxb6604483aBytes
namespace Go.Proofs.Qxb6604483a
open Go.RowKit
set_option linter.unusedSimpArgs false
set_option linter.unusedVariables false

/-- What the bound on the bytes says of a slice of sets of terms. -/
def Few (len : Nat) (vs : List Vr) : Prop := len ≤ 1048576 ∧ ∀ (i : Nat) (x : Vr), vs[i]? = some x → x.2.2.2.length ≤ 1048576

/-- The call returns a bool; where it is true, P holds. -/
def Zz (e : Ending) (P : Prop) : Prop := ∃ b : Bool, e = .returned (.bool b) ∧ (b = true → P)
theorem Zz.no (P : Prop) : Zz (.returned (.bool false)) P := ⟨false, rfl, fun h => by cases h⟩
theorem Zz.yes {P : Prop} (h : P) : Zz (.returned (.bool true)) P := ⟨true, rfl, fun _ => h⟩

set_option maxRecDepth 100000 in
set_option maxHeartbeats 2000000 in
theorem zz7_any (p : Int) (lo hi : Nat) (a : Option Addr) (len cap : Nat) (vs : List Vr) (w : World) (h : VsIn lo hi w a len vs) (hm : len ≤ 9223372036854775807) (hm2 : ∀ (i : Nat) (x : Vr), vs[i]? = some x → x.2.2.2.length ≤ 9223372036854775807) :
    Calls Try.prog 7 #[.int .i64 p, .slice a len cap] w fun e w' => Zz e (Few len vs) ∧ w' = w := by
  by_cases hl : len ≤ 1048576
  case neg =>
    go_enter Try.func7, Try.ntmps7
    go_wp2
    go_ret
    exact ⟨Zz.no _, rfl⟩
  go_enter Try.func7, Try.ntmps7
  go_wp2
  go_loop [5, 6] (fun n v => ∃ (k : Nat) (m : Int), k ≤ len ∧ v = .int .i64 (k : Int) ∧ n = .int .i64 m ∧ 0 ≤ m ∧ m ≤ 1048576 ∧ (∀ (i : Nat) (x : Vr), i < k → vs[i]? = some x → x.2.2.2.length ≤ 1048576)) (fun _ v => len - (intOf v).toNat)
  case atStart => exact ⟨0, _, Nat.zero_le _, rfl, rfl, by omega, by omega, fun i x hi => absurd hi (Nat.not_lt_zero _)⟩
  case round =>
    obtain ⟨k, m, hk, rfl, rfl, hm1, hm2', hall⟩ := hrel
    have HA : Hid (∀ (i : Nat) (x : Vr), i < k → vs[i]? = some x → x.2.2.2.length ≤ 1048576) := hall
    clear hall
    by_cases hlt : k < len
    · obtain ⟨b, o, rfl, h1, h2, hc⟩ := h.isAt (by omega)
      obtain ⟨u, hu⟩ : ∃ u, vs[k]? = some u := ⟨_, List.getElem?_eq_getElem (by rw [h.len_eq]; exact hlt)⟩
      obtain ⟨_, c1⟩ := hc k u hu
      have hT := h.terms k u hu
      have hul := hm2 k u hu
      have HU : Hid (vs[k]? = some u) := hu
      clear hc hu
      obtain ⟨ua, uaddr, ucap, us⟩ := u
      by_cases hs : us.length ≤ 1048576
      · by_cases ht : m + us.length ≤ 1048576
        · go_wp2_with fail
          go_loop [5, 7] (fun n v => ∃ (j : Nat) (m : Int), j ≤ us.length ∧ v = .int .i64 (j : Int) ∧ n = .int .i64 m ∧ 0 ≤ m ∧ m ≤ 1048576) (fun _ v => us.length - (intOf v).toNat)
          case atStart => exact ⟨0, _, Nat.zero_le _, rfl, rfl, by omega, by omega⟩
          case round =>
            obtain ⟨j, m', hj, rfl, rfl, hm3, hm4⟩ := hrel
            by_cases hjl : j < us.length
            · obtain ⟨b2, o2, rfl, g1, g2, hc2⟩ := hT.isAt (by omega)
              obtain ⟨t, htt⟩ : ∃ t, us[j]? = some t := ⟨_, List.getElem?_eq_getElem hjl⟩
              obtain ⟨_, _, c2⟩ := hc2 j t htt
              obtain ⟨tk, tn, tt⟩ := t
              clear hc2 htt
              by_cases hz : tt.size ≤ 1048576
              · by_cases hy : m' + tt.size ≤ 1048576
                · go_wp2_with fail
                  go_round
                  case rel => exact ⟨j + 1, m' + tt.size, by omega, by go_num, rfl, by omega, by omega⟩
                  case measure => simp [intOf]; omega
                · go_wp2_with fail
                  go_ret
                  exact ⟨Zz.no _, rfl⟩
              · go_wp2_with fail
                go_ret
                exact ⟨Zz.no _, rfl⟩
            · go_wp2_with fail
              go_round
              case rel => exact ⟨k + 1, m', by omega, by go_num, rfl, by omega, by omega, fun i x hi hx => by
                by_cases e : i = k
                · subst e; rw [HU.out] at hx; cases hx; exact hs
                · exact HA.out i x (by omega) hx⟩
              case measure => simp [intOf]; omega
        · go_wp2_with fail
          go_ret
          exact ⟨Zz.no _, rfl⟩
      · go_wp2_with fail
        go_ret
        exact ⟨Zz.no _, rfl⟩
    · go_wp2_with fail
      go_ret
      exact ⟨Zz.yes ⟨hl, fun i x hx => HA.out i x (by have := (List.getElem?_eq_some_iff.1 hx).1; have := h.len_eq; omega) hx⟩, rfl⟩
set_option maxRecDepth 100000 in
set_option maxHeartbeats 4000000 in
theorem zz17_any (p p2 : Int) (lo hi : Nat) (a a2 : Option Addr) (len cap len2 cap2 : Nat) (vs vs2 : List Vr) (w : World) (h : VsIn lo hi w a len vs) (hm : len ≤ 9223372036854775807) (hm2 : ∀ (i : Nat) (x : Vr), vs[i]? = some x → x.2.2.2.length ≤ 9223372036854775807)
    (h' : VsIn lo hi w a2 len2 vs2) (hm' : len2 ≤ 9223372036854775807) (hm2b : ∀ (i : Nat) (x : Vr), vs2[i]? = some x → x.2.2.2.length ≤ 9223372036854775807) :
    Calls Try.prog 17 #[.int .i64 p, .slice a len cap, .int .i64 p2, .slice a2 len2 cap2] w fun e w' => Zz e (Few len vs ∧ Few len2 vs2) ∧ w' = w := by
  by_cases hl : len ≤ 1048576
  case neg =>
    go_enter Try.func17, Try.ntmps17
    go_wp2
    go_ret
    exact ⟨Zz.no _, rfl⟩
  go_enter Try.func17, Try.ntmps17
  go_wp2
  go_loop [9, 10] (fun n v => ∃ (k : Nat) (m : Int), k ≤ len ∧ v = .int .i64 (k : Int) ∧ n = .int .i64 m ∧ 0 ≤ m ∧ m ≤ 1048576 ∧ (∀ (i : Nat) (x : Vr), i < k → vs[i]? = some x → x.2.2.2.length ≤ 1048576)) (fun _ v => len - (intOf v).toNat)
  case atStart => exact ⟨0, _, Nat.zero_le _, rfl, rfl, by omega, by omega, fun i x hi => absurd hi (Nat.not_lt_zero _)⟩
  case round =>
    obtain ⟨k, m, hk, rfl, rfl, hm1, hm2', hall⟩ := hrel
    have HA : Hid (∀ (i : Nat) (x : Vr), i < k → vs[i]? = some x → x.2.2.2.length ≤ 1048576) := hall
    clear hall
    by_cases hlt : k < len
    · obtain ⟨b, o, rfl, h1, h2, hc⟩ := h.isAt (by omega)
      obtain ⟨u, hu⟩ : ∃ u, vs[k]? = some u := ⟨_, List.getElem?_eq_getElem (by rw [h.len_eq]; exact hlt)⟩
      obtain ⟨_, c1⟩ := hc k u hu
      have hT := h.terms k u hu
      have hul := hm2 k u hu
      have HU : Hid (vs[k]? = some u) := hu
      clear hc hu
      obtain ⟨ua, uaddr, ucap, us⟩ := u
      by_cases hs : us.length ≤ 1048576
      · by_cases ht : m + us.length ≤ 1048576
        · go_wp2_with fail
          go_loop [9, 11] (fun n v => ∃ (j : Nat) (m : Int), j ≤ us.length ∧ v = .int .i64 (j : Int) ∧ n = .int .i64 m ∧ 0 ≤ m ∧ m ≤ 1048576) (fun _ v => us.length - (intOf v).toNat)
          case atStart => exact ⟨0, _, Nat.zero_le _, rfl, rfl, by omega, by omega⟩
          case round =>
            obtain ⟨j, m', hj, rfl, rfl, hm3, hm4⟩ := hrel
            by_cases hjl : j < us.length
            · obtain ⟨b2, o2, rfl, g1, g2, hc2⟩ := hT.isAt (by omega)
              obtain ⟨t, htt⟩ : ∃ t, us[j]? = some t := ⟨_, List.getElem?_eq_getElem hjl⟩
              obtain ⟨_, _, c2⟩ := hc2 j t htt
              obtain ⟨tk, tn, tt⟩ := t
              clear hc2 htt
              by_cases hz : tt.size ≤ 1048576
              · by_cases hy : m' + tt.size ≤ 1048576
                · go_wp2_with fail
                  go_round
                  case rel => exact ⟨j + 1, m' + tt.size, by omega, by go_num, rfl, by omega, by omega⟩
                  case measure => simp [intOf]; omega
                · go_wp2_with fail
                  go_ret
                  exact ⟨Zz.no _, rfl⟩
              · go_wp2_with fail
                go_ret
                exact ⟨Zz.no _, rfl⟩
            · go_wp2_with fail
              go_round
              case rel => exact ⟨k + 1, m', by omega, by go_num, rfl, by omega, by omega, fun i x hi hx => by
                by_cases e : i = k
                · subst e; rw [HU.out] at hx; cases hx; exact hs
                · exact HA.out i x (by omega) hx⟩
              case measure => simp [intOf]; omega
        · go_wp2_with fail
          go_ret
          exact ⟨Zz.no _, rfl⟩
      · go_wp2_with fail
        go_ret
        exact ⟨Zz.no _, rfl⟩
    · have hF : Hid (Few len vs) := ⟨hl, fun i x hx => HA.out i x (by have := (List.getElem?_eq_some_iff.1 hx).1; have := h.len_eq; omega) hx⟩
      clear HA
      by_cases hl2 : len2 ≤ 1048576
      case neg =>
        go_wp2_with fail
        go_ret
        exact ⟨Zz.no _, rfl⟩
      by_cases hl3 : m + len2 ≤ 1048576
      case neg =>
        go_wp2_with fail
        go_ret
        exact ⟨Zz.no _, rfl⟩
      go_wp2_with fail
      go_loop [9, 12] (fun n v => ∃ (k : Nat) (m : Int), k ≤ len2 ∧ v = .int .i64 (k : Int) ∧ n = .int .i64 m ∧ 0 ≤ m ∧ m ≤ 1048576 ∧ (∀ (i : Nat) (x : Vr), i < k → vs2[i]? = some x → x.2.2.2.length ≤ 1048576)) (fun _ v => len2 - (intOf v).toNat)
      case atStart => exact ⟨0, _, Nat.zero_le _, rfl, rfl, by omega, by omega, fun i x hi => absurd hi (Nat.not_lt_zero _)⟩
      case round =>
        obtain ⟨kq, mq, hkq, rfl, rfl, hm1q, hm2'q, hall2⟩ := hrel
        have HB : Hid (∀ (i : Nat) (x : Vr), i < kq → vs2[i]? = some x → x.2.2.2.length ≤ 1048576) := hall2
        clear hall2
        by_cases hltq : kq < len2
        · obtain ⟨bq, oq, rfl, h1q, h2q, hcq⟩ := h'.isAt (by omega)
          obtain ⟨uq, huq⟩ : ∃ uq, vs2[kq]? = some uq := ⟨_, List.getElem?_eq_getElem (by rw [h'.len_eq]; exact hltq)⟩
          obtain ⟨_, c1q⟩ := hcq kq uq huq
          have hTq := h'.terms kq uq huq
          have hulq := hm2b kq uq huq
          have HUq : Hid (vs2[kq]? = some uq) := huq
          clear hcq huq
          obtain ⟨uaq, uaddrq, ucapq, usq⟩ := uq
          by_cases hsq : usq.length ≤ 1048576
          · by_cases htq : mq + usq.length ≤ 1048576
            · go_wp2_with fail
              go_loop [9, 13] (fun n v => ∃ (jq : Nat) (mq : Int), jq ≤ usq.length ∧ v = .int .i64 (jq : Int) ∧ n = .int .i64 mq ∧ 0 ≤ mq ∧ mq ≤ 1048576) (fun _ v => usq.length - (intOf v).toNat)
              case atStart => exact ⟨0, _, Nat.zero_le _, rfl, rfl, by omega, by omega⟩
              case round =>
                obtain ⟨jq, m'q, hjq, rfl, rfl, hm3q, hm4q⟩ := hrel
                by_cases hjlq : jq < usq.length
                · obtain ⟨b2q, o2q, rfl, g1q, g2q, hc2q⟩ := hTq.isAt (by omega)
                  obtain ⟨tq, httq⟩ : ∃ tq, usq[jq]? = some tq := ⟨_, List.getElem?_eq_getElem hjlq⟩
                  obtain ⟨_, _, c2q⟩ := hc2q jq tq httq
                  obtain ⟨tkq, tnq, ttq⟩ := tq
                  clear hc2q httq
                  by_cases hzq : ttq.size ≤ 1048576
                  · by_cases hyq : m'q + ttq.size ≤ 1048576
                    · go_wp2_with fail
                      go_round
                      case rel => exact ⟨jq + 1, m'q + ttq.size, by omega, by go_num, rfl, by omega, by omega⟩
                      case measure => simp [intOf]; omega
                    · go_wp2_with fail
                      go_ret
                      exact ⟨Zz.no _, rfl⟩
                  · go_wp2_with fail
                    go_ret
                    exact ⟨Zz.no _, rfl⟩
                · go_wp2_with fail
                  go_round
                  case rel => exact ⟨kq + 1, m'q, by omega, by go_num, rfl, by omega, by omega, fun i x hi hx => by
                    by_cases e : i = kq
                    · subst e; rw [HUq.out] at hx; cases hx; exact hsq
                    · exact HB.out i x (by omega) hx⟩
                  case measure => simp [intOf]; omega
            · go_wp2_with fail
              go_ret
              exact ⟨Zz.no _, rfl⟩
          · go_wp2_with fail
            go_ret
            exact ⟨Zz.no _, rfl⟩
        · go_wp2_with fail
          go_ret
          exact ⟨Zz.yes ⟨hF.out, hl2, fun i x hx => HB.out i x (by have := (List.getElem?_eq_some_iff.1 hx).1; have := h'.len_eq; omega) hx⟩, rfl⟩
end Go.Proofs.Qxb6604483a
