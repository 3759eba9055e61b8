import Derived.Test.Qxb6603645aLess
namespace Go.Proofs.Qxb6603645a
open Go.RowKit
set_option linter.unusedSimpArgs false
set_option linter.unusedVariables false

/-- No later member bears the name. -/
def lastAt (ms : List Mb) (i : Nat) (n : List UInt8) : Bool := (ms.drop (i + 1)).all fun m => !(nm m == n)
theorem lastAt_no {ms : List Mb} {i j : Nat} {n : List UInt8} {d : Mb} (hij : i < j) (hj : ms[j]? = some d) (he : nm d = n) : lastAt ms i n = false := by
  unfold lastAt
  rw [List.all_eq_false]
  refine ⟨d, ?_, by simp [he]⟩
  refine List.mem_iff_getElem?.2 ⟨j - (i + 1), ?_⟩
  rw [List.getElem?_drop, show i + 1 + (j - (i + 1)) = j by omega]
  exact hj
theorem lastAt_yes {ms : List Mb} {i : Nat} {n : List UInt8} (h : ∀ j d, i < j → ms[j]? = some d → nm d ≠ n) : lastAt ms i n = true := by
  unfold lastAt
  rw [List.all_eq_true]
  intro d hd
  obtain ⟨j, hj⟩ := List.mem_iff_getElem?.1 hd
  rw [List.getElem?_drop] at hj
  simpa using h _ d (by omega) hj

set_option maxRecDepth 100000 in
set_option maxHeartbeats 1000000 in
/-- 'zzIsLast'. -/
theorem zzIsLast_any (a : Option Addr) (len cap : Nat) (ms : List Mb) (i : Nat) (x : Mb) (w : World) (h : MbsIn w a len ms) (hm : len ≤ 4096) (hx : ms[i]? = some x) :
    Calls Try.prog 34 #[.slice a len cap, .int .i64 (i : Int)] w fun e w' => e = .returned (.bool (lastAt ms i (nm x))) ∧ Below w.heap.size w w' := by
  have hi : i < len := by rw [← h.len_eq]; exact (List.getElem?_eq_some_iff.1 hx).1
  obtain ⟨b, o, rfl, h1, hc⟩ := h.isAt (by omega)
  have c0 := (hc i x hx).1
  have HC : Hid (∀ i m, ms[i]? = some m → w.cell? ⟨b, o + i * 2, none⟩ = some (.string m.1)) := fun i m hm => (hc i m hm).1
  have HL : Hid (ms.length = len ∧ ms[i]? = some x) := ⟨h.len_eq, hx⟩
  clear h hc hx
  go_enter Try.func34, Try.ntmps34
  go_wp2_with fail
  go_loopw [5] (fun v wr => ∃ k q : Nat, i < k ∧ k ≤ len ∧ v = .int .i64 (k : Int) ∧ (∀ j d, i < j → j < k → ms[j]? = some d → nm d ≠ nm x) ∧ wr = w.drewN q) (fun v _ => len - (intOf v).toNat)
  case atStart => exact ⟨i + 1, 0, by omega, by omega, by go_num, fun j u h1 h2 => by omega, rfl⟩
  case round =>
    obtain ⟨k, q, hk0, hk, rfl, hne, hw⟩ := hrel
    have HN : Hid (∀ j d, i < j → j < k → ms[j]? = some d → nm d ≠ nm x) := hne
    clear hne
    subst hw
    have t2 : (i : Int) < (len : Int) := by omega
    by_cases hlt : k < len
    · obtain ⟨u, hu⟩ : ∃ u, ms[k]? = some u := ⟨_, List.getElem?_eq_getElem (by rw [HL.out.1]; exact hlt)⟩
      have d0 := HC.out k u hu
      have HU : Hid (ms[k]? = some u) := hu
      clear hu
      have t1 : (k : Int) < (len : Int) := by omega
      by_cases he : nm u = nm x
      · have hq : (u.1.toList == x.1.toList) = true := by rw [beq_iff_eq, ByteArray.toList_eq, ByteArray.toList_eq]; exact he
        have HE : Hid (nm u = nm x) := he
        clear he
        go_wp2_with fail
        go_quiet (fail)
        go_wp2_with fail
        go_ret
        exact ⟨ret_bool (lastAt_no hk0 HU.out HE.out).symm, (drewN_below _ _ _).trans (drewN_below _ _ _)⟩
      · have hq : (u.1.toList == x.1.toList) = false := by rw [beq_eq_false_iff_ne, ByteArray.toList_eq, ByteArray.toList_eq]; exact he
        have HE : Hid (¬ nm u = nm x) := he
        clear he
        go_wp2_with fail
        go_quiet (fail)
        go_wp2_with fail
        go_roundw
        case rel => exact ⟨k + 1, q + nq, by omega, by omega, by go_num, fun j v hj hj2 hv => by
            by_cases e : j = k
            · subst e; rw [HU.out] at hv; cases hv; exact HE.out
            · exact HN.out j v hj (by omega) hv, rfl⟩
        case measure => simp [intOf]; omega
    · have t1 : ¬ (k : Int) < (len : Int) := by omega
      go_wp2_with fail
      go_ret
      exact ⟨ret_bool (lastAt_yes fun j d hi hd => HN.out j d hi (by have := (List.getElem?_eq_some_iff.1 hd).1; rw [HL.out.1] at this; omega) hd).symm, drewN_below _ _ _⟩

/-- Is the value 'null'? -/
def isNull (x : Mb) : Bool := x.2.toList == [110, 117, 108, 108]
/-- Is member i, which is x, a claim that is not defined? -/
def cand (ms : List Mb) (ds : List ByteArray) (i : Nat) (x : Mb) : Bool := lastAt ms i (nm x) && !isNull x && !isIn ds (nm x)

set_option maxRecDepth 100000 in
set_option maxHeartbeats 1000000 in
/-- 'zzUndefinedAt'. -/
theorem undefinedAt_any (a : Option Addr) (len cap : Nat) (ms : List Mb) (a2 : Option Addr) (len2 cap2 : Nat) (ds : List ByteArray) (i : Nat) (x : Mb) (w : World) (h : MbsIn w a len ms) (hm : len ≤ 4096) (h2 : StrsIn w a2 len2 ds) (hm2 : len2 ≤ 4096) (hx : ms[i]? = some x) :
    Calls Try.prog 27 #[.slice a len cap, .slice a2 len2 cap2, .int .i64 (i : Int)] w fun e w' => e = .returned (.bool (cand ms ds i x)) ∧ Below w.heap.size w w' := by
  have hi : i < len := by rw [← h.len_eq]; exact (List.getElem?_eq_some_iff.1 hx).1
  have D1 : Hid _ := zzIsLast_any a len cap ms i x w h hm hx
  obtain ⟨b, o, rfl, h1, hc⟩ := h.isAt (by omega)
  obtain ⟨c0, c1⟩ := hc i x hx
  have t2 : (i : Int) < (len : Int) := by omega
  have HS : Hid (StrsIn w a2 len2 ds) := h2
  have HO : Hid (b < w.heap.size) := h1
  have HM : Hid (len2 ≤ 3000000) := (by omega : len2 ≤ 3000000)
  clear h hc hx h2 hm2
  have HC : Hid (cand ms ds i x = (lastAt ms i (nm x) && !isNull x && !isIn ds (nm x))) := rfl
  obtain ⟨l, hl⟩ : ∃ l, l = lastAt ms i (nm x) := ⟨_, rfl⟩
  rw [← hl] at D1 HC
  clear hl
  go_enter Try.func27, Try.ntmps27
  go_wp2_with fail
  refine Calls.mono D1.out ?_
  rintro e w1 ⟨rfl, hb⟩
  have e0 : w1.cell? ⟨b, o + i * 2, none⟩ = some (.string x.1) := by rw [hb.cell (by simpa using h1)]; exact c0
  have e1 : w1.cell? ⟨b, o + i * 2 + 1, none⟩ = some (.string x.2) := by rw [hb.cell (by simpa using h1)]; exact c1
  clear c0 c1
  cases l with
  | false =>
    go_wp2_with fail
    go_ret
    exact ⟨ret_bool (by rw [HC.out]; rfl), hb⟩
  | true =>
    have HK : Hid (isNull x = (x.2.toList == [110, 117, 108, 108])) := rfl
    by_cases hnu : x.2.toList = [110, 117, 108, 108]
    · have hq : (x.2.toList == [110, 117, 108, 108]) = true := by simpa using hnu
      go_wp2_with fail
      go_ret
      exact ⟨ret_bool (by rw [HC.out, HK.out, hq]; rfl), hb⟩
    · have hq : (x.2.toList == [110, 117, 108, 108]) = false := by simpa using hnu
      go_wp2_with fail
      refine (zzContains_any a2 len2 cap2 ds x.1 w1 (HS.out.below hb) HM.out).mono ?_
      rintro e w2 ⟨rfl, hb2⟩
      go_wp2_with fail
      go_ret
      exact ⟨ret_bool (by rw [HC.out, HK.out, hq, nm, ← ByteArray.toList_eq]; simp), bt hb hb2 hb.size⟩

theorem isNull_snd {x y : Mb} (h : x = y) : isNull x = isNull y := by rw [h]

/-- The least of the candidates among the first k: '' and false where there is none. -/
def Best (ms : List Mb) (ds : List ByteArray) (k : Nat) (n : ByteArray) (f : Bool) : Prop :=
  (f = false ∧ n = ⟨#[]⟩ ∧ ∀ i x, i < k → ms[i]? = some x → cand ms ds i x = false) ∨
  (f = true ∧ (∃ i x, i < k ∧ ms[i]? = some x ∧ cand ms ds i x = true ∧ x.1 = n) ∧ ∀ i x, i < k → ms[i]? = some x → cand ms ds i x = true → Le n.data.toList (nm x))

theorem step_lt {ms : List Mb} {k : Nat} {P : Nat → Mb → Prop} (h : ∀ i x, i < k → ms[i]? = some x → P i x) {x : Mb} (hx : ms[k]? = some x) (hP : P k x) : ∀ i x, i < k + 1 → ms[i]? = some x → P i x := by
  intro i y hi hy
  by_cases e : i = k
  · subst e; rw [hx] at hy; cases hy; exact hP
  · exact h i y (by omega) hy
theorem best_skip {ms : List Mb} {ds : List ByteArray} {k : Nat} {n : ByteArray} {f : Bool} {x : Mb} (h : Best ms ds k n f) (hx : ms[k]? = some x) (hc : cand ms ds k x = false) : Best ms ds (k + 1) n f := by
  rcases h with ⟨h1, h2, h3⟩ | ⟨h1, ⟨i, y, h2, h3, h4, h5⟩, h6⟩
  · exact .inl ⟨h1, h2, step_lt h3 hx hc⟩
  · exact .inr ⟨h1, ⟨i, y, by omega, h3, h4, h5⟩, step_lt (P := fun i x => cand ms ds i x = true → Le n.data.toList (nm x)) h6 hx (fun h => by rw [hc] at h; cases h)⟩
theorem best_first {ms : List Mb} {ds : List ByteArray} {k : Nat} {n : ByteArray} {x : Mb} (h : Best ms ds k n false) (hx : ms[k]? = some x) (hc : cand ms ds k x = true) : Best ms ds (k + 1) x.1 true := by
  rcases h with ⟨h1, h2, h3⟩ | ⟨h1, _⟩
  · exact .inr ⟨rfl, ⟨k, x, by omega, hx, hc, rfl⟩, step_lt (P := fun i y => cand ms ds i y = true → Le x.1.data.toList (nm y)) (fun i y hi hy h => by rw [h3 i y hi hy] at h; cases h) hx (fun _ => Le.refl _)⟩
  · cases h1
theorem best_less {ms : List Mb} {ds : List ByteArray} {k : Nat} {n : ByteArray} {x : Mb} (h : Best ms ds k n true) (hx : ms[k]? = some x) (hc : cand ms ds k x = true) (hl : Lt x.1.data.toList n.data.toList) : Best ms ds (k + 1) x.1 true := by
  rcases h with ⟨h1, _⟩ | ⟨h1, _, h6⟩
  · cases h1
  · exact .inr ⟨rfl, ⟨k, x, by omega, hx, hc, rfl⟩, step_lt (P := fun i y => cand ms ds i y = true → Le x.1.data.toList (nm y)) (fun i y hi hy h => hl.le.trans (h6 i y hi hy h)) hx (fun _ => Le.refl _)⟩
theorem best_keep {ms : List Mb} {ds : List ByteArray} {k : Nat} {n : ByteArray} {x : Mb} (h : Best ms ds k n true) (hx : ms[k]? = some x) (hl : ¬ Lt x.1.data.toList n.data.toList) : Best ms ds (k + 1) n true := by
  rcases h with ⟨h1, _⟩ | ⟨h1, ⟨i, y, h2, h3, h4, h5⟩, h6⟩
  · cases h1
  · exact .inr ⟨rfl, ⟨i, y, by omega, h3, h4, h5⟩, step_lt (P := fun i x => cand ms ds i x = true → Le n.data.toList (nm x)) h6 hx (fun _ => hl)⟩
theorem best_size {ms : List Mb} {ds : List ByteArray} {k : Nat} {n : ByteArray} (h : Best ms ds k n true) (hs : ∀ x ∈ ms, x.1.size ≤ 2000000) : n.size ≤ 2000000 := by
  rcases h with ⟨h1, _⟩ | ⟨h1, ⟨i, y, h2, h3, h4, rfl⟩, h6⟩
  · cases h1
  · exact hs y (List.mem_of_getElem? h3)
/-- It answers a name and a bool, of which P holds. -/
def TwoRes (P : ByteArray → Bool → Prop) (e : Ending) : Prop := ∃ n f, e = .returned (.tuple #[.string n, .bool f]) ∧ P n f

set_option maxRecDepth 100000 in
set_option maxHeartbeats 1000000 in
/-- 'zzUnknownModel'. -/
theorem model_any (a : Option Addr) (len cap : Nat) (ms : List Mb) (a2 : Option Addr) (len2 cap2 : Nat) (ds : List ByteArray) (w : World) (h : MbsIn w a len ms) (hm : len ≤ 4096) (h2 : StrsIn w a2 len2 ds) (hm2 : len2 ≤ 4096) (hsz : ∀ x ∈ ms, x.1.size ≤ 2000000) :
    Calls Try.prog 20 #[.slice a len cap, .slice a2 len2 cap2] w fun e w' => TwoRes (Best ms ds len) e ∧ Below w.heap.size w w' := by
  go_enter Try.func20, Try.ntmps20
  go_wp2_with fail
  go_loopw [6, 7, 8] (fun nv fv v wr => ∃ (n : ByteArray) (f : Bool) (k : Nat), k ≤ len ∧ nv = .string n ∧ fv = .bool f ∧ v = .int .i64 (k : Int) ∧ Best ms ds k n f ∧ Below w.heap.size w wr) (fun _ _ v _ => len - (intOf v).toNat)
  case atStart => exact ⟨_, _, 0, Nat.zero_le _, rfl, rfl, rfl, .inl ⟨rfl, rfl, fun i x h => absurd h (Nat.not_lt_zero _)⟩, Below.refl _ _⟩
  case round =>
    obtain ⟨n, f, k, hk, rfl, rfl, rfl, hbest, hb⟩ := hrel
    have HB : Hid (Best ms ds k n f) := hbest
    clear hbest
    by_cases hlt : k < len
    · obtain ⟨x, hx⟩ : ∃ u, ms[k]? = some u := ⟨_, List.getElem?_eq_getElem (by rw [h.len_eq]; exact hlt)⟩
      have t1 : (k : Int) < (len : Int) := by omega
      have D1 : Hid _ := undefinedAt_any a len cap ms a2 len2 cap2 ds k x wr (h.below hb) hm (h2.below hb) hm2 hx
      obtain ⟨b, o, rfl, h1, hc⟩ := h.isAt (by omega)
      have c0 : w.cell? ⟨b, o + k * 2, none⟩ = some (.string x.1) := (hc k x hx).1
      have HX : Hid (ms[k]? = some x) := hx
      clear hc hx
      obtain ⟨cv, hcv⟩ : ∃ cv, cv = cand ms ds k x := ⟨_, rfl⟩
      have HCV : Hid (cv = cand ms ds k x) := hcv
      rw [← hcv] at D1
      clear hcv
      go_wp2_with fail
      refine Calls.mono D1.out ?_
      rintro e w1 ⟨rfl, hb1⟩
      have hb1' : Below w.heap.size w w1 := bt hb hb1 hb.size
      have e0 : w1.cell? ⟨b, o + k * 2, none⟩ = some (.string x.1) := by rw [hb1'.cell (by simpa using h1)]; exact c0
      cases cv with
      | false =>
        go_wp2_with fail
        go_roundw
        case rel => exact ⟨n, f, k + 1, by omega, rfl, rfl, by go_num, best_skip HB.out HX.out HCV.out.symm, hb1'⟩
        case measure => simp [intOf]; omega
      | true =>
        cases f with
        | false =>
          go_wp2_with fail
          go_roundw
          case rel => exact ⟨x.1, true, k + 1, by omega, rfl, rfl, by go_num, best_first HB.out HX.out HCV.out.symm, hb1'⟩
          case measure => simp [intOf]; omega
        | true =>
          have D2 : Hid _ := zzLess_any x.1 n w1 (hsz x (List.mem_of_getElem? HX.out)) (best_size HB.out hsz)
          obtain ⟨lv, hlv⟩ : ∃ lv, lv = decide (Lt x.1.data.toList n.data.toList) := ⟨_, rfl⟩
          have HLV : Hid (lv = decide (Lt x.1.data.toList n.data.toList)) := hlv
          rw [← hlv] at D2
          clear hlv
          go_wp2_with fail
          refine Calls.mono D2.out ?_
          rintro e w2 ⟨rfl, hb2⟩
          have hb2' : Below w.heap.size w w2 := bt hb1' hb2 hb1'.size
          have e2 : w2.cell? ⟨b, o + k * 2, none⟩ = some (.string x.1) := by rw [hb2'.cell (by simpa using h1)]; exact c0
          cases lv with
          | true =>
            go_wp2_with fail
            go_roundw
            case rel => exact ⟨x.1, true, k + 1, by omega, rfl, rfl, by go_num, best_less HB.out HX.out HCV.out.symm (of_decide_eq_true HLV.out.symm), hb2'⟩
            case measure => simp [intOf]; omega
          | false =>
            go_wp2_with fail
            go_roundw
            case rel => exact ⟨n, true, k + 1, by omega, rfl, rfl, by go_num, best_keep HB.out HX.out (of_decide_eq_false HLV.out.symm), hb2'⟩
            case measure => simp [intOf]; omega
    · have t1 : ¬ (k : Int) < (len : Int) := by omega
      go_wp2_with fail
      go_ret2
      exact ⟨⟨n, f, rfl, by have e : k = len := by omega
                            subst e; exact HB.out⟩, hb⟩
end Go.Proofs.Qxb6603645a
