import Derived.Test.Qxb6604449aIklAll
import Derived.Test.Qxb6604449aRowLaws
import Derived.Deep.DeepCutAuto
namespace Go.Proofs.Qxb6604449a
open Go.RowKit
set_option linter.unusedSimpArgs false
set_option linter.unusedVariables false

/-- A byte slice that came in. -/
structure ArgB (w : World) (a : Option Addr) (len cap : Nat) (xs : List Int) : Prop where
  isNil : a = none → len = 0 ∧ cap = 0
  isAt : 0 < len → ∃ b off, a = some ⟨b, off, none⟩ ∧ ∀ i, i < len → w.cell? ⟨b, off + i, none⟩ = some (.int .u8 (xs.getD i 0))
  size : xs.length = len
  fits : len ≤ cap
  range : ∀ x ∈ xs, 0 ≤ x ∧ x ≤ 255

set_option maxHeartbeats 400000 in
theorem bytes_ok (a0 : Bool) (a1 a2 : Option Addr) (len1 cap1 len2 cap2 : Nat) (w : World) (h : len1 + len2 ≤ 1048576) :
    Calls Try.prog 8 #[.bool a0, .slice a1 len1 cap1, .slice a2 len2 cap2] w fun e w' => e = .returned (.bool true) ∧ w' = w := by
  go_enter Try.func8, Try.ntmps8
  go_wp2
  go_ret
  exact ⟨rfl, rfl⟩

set_option maxHeartbeats 400000 in
theorem bytes_no (a0 : Bool) (a1 a2 : Option Addr) (len1 cap1 len2 cap2 : Nat) (w : World) (h : ¬ len1 + len2 ≤ 1048576) (m1 : len1 ≤ 9223372036854775807) (m2 : len2 ≤ 9223372036854775807) :
    Calls Try.prog 8 #[.bool a0, .slice a1 len1 cap1, .slice a2 len2 cap2] w fun e w' => e = .returned (.bool false) ∧ w' = w := by
  by_cases h1 : len1 ≤ 1048576
  · by_cases h2 : len2 ≤ 1048576
    · go_enter Try.func8, Try.ntmps8
      go_wp2
      go_ret
      exact ⟨rfl, rfl⟩
    · go_enter Try.func8, Try.ntmps8
      go_wp2
      go_ret
      exact ⟨rfl, rfl⟩
  · go_enter Try.func8, Try.ntmps8
    go_wp2
    go_ret
    exact ⟨rfl, rfl⟩

theorem Try.info5 : (Try.prog.info? 5).map (fun i => (i.zero, i.size, i.bytes)) = some (some (.int .u8 0), 1, 1) := by kernel_rfl
theorem info5_size : (Try.prog.info? 5).map (·.size) = some 1 := by kernel_rfl

theorem ArgB.src {w w1 : World} {a : Option Addr} {len cap : Nat} {xs : List Int} (h : ArgB w a len cap xs) (hb : Below w.heap.size w w1) :
    0 < len → ∃ ad, a = some ad ∧ ∀ j v, (xs.map (Value.int .u8))[j]? = some v → w1.cell? (ad.add j) = some v := by
  intro hp
  obtain ⟨b, off, rfl, hc⟩ := h.isAt hp
  refine ⟨_, rfl, fun j v hj => ?_⟩
  have hl : j < xs.length := by have := (List.getElem?_eq_some_iff.1 hj).1; simpa using this
  rw [Addr.add_lit]
  have h1 := hc j (by rw [← h.size]; exact hl)
  rw [cell_later hb h1]
  simp [List.getElem?_eq_getElem hl] at hj
  simp [List.getD, List.getElem?_eq_getElem hl, hj]

/-- What the law's own copy of a byte slice is: nil, or a row of the call's own. -/
def Own (w : World) (a : Option Addr) (len cap : Nat) (xs : List Int) (B : Nat) : Prop :=
  (a = none ∧ len = 0 ∧ cap = 0) ∨ ∃ g, a = some ⟨g, 0, none⟩ ∧ B ≤ g ∧ Row w g 5 len (xs.map (Value.int .u8))

theorem Own.below {w w' : World} {a : Option Addr} {len cap B C : Nat} {xs : List Int} (h : Own w a len cap xs B) (hb : Below C w w') (hC : w.heap.size ≤ C) : Own w' a len cap xs B := by
  rcases h with h | ⟨g, h1, h2, h3⟩
  · exact .inl h
  · exact .inr ⟨g, h1, h2, h3.below hb (Nat.lt_of_lt_of_le h3.lt hC)⟩

theorem Own.src {w : World} {a : Option Addr} {len cap B : Nat} {xs : List Int} (h : Own w a len cap xs B) (hx : xs.length = len) :
    Src Try.prog 1 22 (.slice a len cap) len (xs.map (Value.int .u8)) w := by
  rcases h with ⟨rfl, rfl, rfl⟩ | ⟨g, rfl, h2, h3⟩
  · obtain rfl : xs = [] := List.eq_nil_of_length_eq_zero hx
    exact Src.ofNil w Try.underlying22 0
  · refine Src.ofSlice w Try.underlying22 _ len cap _ (by simp [hx]) (fun j u hj => ?_) (ints_oneCell _ _)
    rw [Addr.add_lit, Nat.zero_add]
    exact h3.cell j u hj

theorem Row.src {w : World} {g n cap c : Nat} {xs : List Int} (h : Row w g 5 c (xs.map (Value.int .u8))) (hx : xs.length = n) :
    Src Try.prog 1 22 (.slice (some ⟨g, 0, none⟩) n cap) n (xs.map (Value.int .u8)) w := by
  refine Src.ofSlice w Try.underlying22 _ n cap _ (by simp [hx]) (fun j u hj => ?_) (ints_oneCell _ _)
  rw [Addr.add_lit, Nat.zero_add]
  exact h.cell j u hj

/-- The key's string and its bytes. -/
structure KeyIs (ks : ByteArray) (key : List Int) : Prop where
  bytes : byteCells ks = key.map (Value.int .u8)
  which : key = keyA ∨ key = keyB
theorem KeyIs.size {ks : ByteArray} {key : List Int} (h : KeyIs ks key) : key.length = ks.size := by
  have := congrArg List.length h.bytes
  rw [byteCells_length] at this
  simpa using this.symm
theorem KeyIs.le {ks : ByteArray} {key : List Int} (h : KeyIs ks key) : ks.size ≤ 7 := by
  rw [← h.size]
  rcases h.which with rfl | rfl <;> decide
theorem KeyIs.src {ks : ByteArray} {key : List Int} (h : KeyIs ks key) (w : World) : Src Try.prog 1 9 (.string ks) ks.size (key.map (Value.int .u8)) w := by
  rw [← h.bytes]
  exact Src.ofString w Try.underlying9 ks

theorem Row.ints {w : World} {g c n : Nat} {L : List Int} (h : Row w g 5 c (L.map (Value.int .u8))) (hn : L.length = n) : ∀ i, i < n → w.cell? ⟨g, 0 + i, none⟩ = some (.int .u8 (L.getD i 0)) := by
  intro i hi
  rw [Nat.zero_add]
  refine h.cell i _ ?_
  rw [List.getElem?_map, List.getElem?_eq_getElem (by omega)]
  simp [List.getD, List.getElem?_eq_getElem (show i < L.length by omega)]
theorem ws_of {xs : List Int} {n : Nat} (h : ∀ k, k < n → isWs (xs.getD k 0) = true) (hn : xs.length = n) : ∀ x ∈ xs, isWs x = true := by
  intro x hx
  obtain ⟨k, hk, rfl⟩ := List.getElem_of_mem hx
  have := h k (by omega)
  simpa [List.getD, List.getElem?_eq_getElem hk] using this
theorem KeyIs.range {ks : ByteArray} {key : List Int} (h : KeyIs ks key) : ∀ x ∈ key, 0 ≤ x ∧ x ≤ 255 := by
  rcases h.which with rfl | rfl <;> decide
theorem range2 {ks : ByteArray} {key xs : List Int} (h : KeyIs ks key) (h1 : ∀ x ∈ xs, 0 ≤ x ∧ x ≤ 255) : ∀ x ∈ key ++ xs, 0 ≤ x ∧ x ≤ 255 := by
  intro x hx
  rcases List.mem_append.1 hx with hx | hx
  · exact h.range x hx
  · exact h1 x hx
theorem range4 {ks : ByteArray} {key xs ys : List Int} (h : KeyIs ks key) (h1 : ∀ x ∈ xs, 0 ≤ x ∧ x ≤ 255) (h2 : ∀ x ∈ ys, 0 ≤ x ∧ x ≤ 255) : ∀ x ∈ key ++ xs ++ [58] ++ ys, 0 ≤ x ∧ x ≤ 255 := by
  intro x hx
  rcases List.mem_append.1 hx with hx | hx
  · rcases List.mem_append.1 hx with hx | hx
    · exact range2 h h1 x hx
    · simp at hx; subst hx; decide
  · exact h2 x hx
theorem colon_src (w : World) : Src Try.prog 1 22 (.slice (some ⟨w.heap.size, 0, none⟩) 1 1) 1 [.int .u8 58] (w.alloc (.cells #[.int .u8 58] 5)) :=
  Src.ofSlice _ Try.underlying22 _ 1 1 _ rfl (cell_one_new _ _ _) (fun u hu => by simp at hu; subst hu; rfl)
theorem colon_map (l : List Int) : l.map (Value.int .u8) ++ [.int .u8 58] = (l ++ [58]).map (Value.int .u8) := by simp

set_option maxRecDepth 100000 in
set_option maxHeartbeats 1000000 in
theorem built_walk (a0 : Bool) (a1 a2 : Option Addr) (len1 cap1 len2 cap2 : Nat) (xs ys : List Int) (w : World) (A1 : ArgB w a1 len1 cap1 xs) (A2 : ArgB w a2 len2 cap2 ys) 
    (m1 : len1 ≤ 9223372036854775807) (m2 : len2 ≤ 9223372036854775807) :
    Calls Try.prog 4 #[.bool a0, .slice a1 len1 cap1, .slice a2 len2 cap2] w fun e w' => e = .returned (.bool true) ∧ Below w.heap.size w w' := by
  obtain ⟨i0, hi, hz0, hz1, hz2⟩ := info_parts Try.info5
  have hsz := info5_size
  by_cases h : len1 + len2 ≤ 1048576
  case neg =>
    go_enter Try.func4, Try.ntmps4
    go_wp2_with (go_at_call 8; refine (bytes_no _ _ _ _ _ _ _ _ h m1 m2).mono ?_; rintro e w' ⟨rfl, hw⟩; subst w')
    go_ret
    exact ⟨rfl, Below.refl _ _⟩
  by_cases h1 : len1 ≤ 524288
  case neg =>
    go_enter Try.func4, Try.ntmps4
    go_wp2_with (go_at_call 8; refine (bytes_ok _ _ _ _ _ _ _ _ h).mono ?_; rintro e w' ⟨rfl, hw⟩; subst w')
    go_ret
    exact ⟨rfl, Below.refl _ _⟩
  by_cases h2 : len2 ≤ 524288
  case neg =>
    go_enter Try.func4, Try.ntmps4
    go_wp2_with (go_at_call 8; refine (bytes_ok _ _ _ _ _ _ _ _ h).mono ?_; rintro e w' ⟨rfl, hw⟩; subst w')
    go_ret
    exact ⟨rfl, Below.refl _ _⟩
  go_enter Try.func4, Try.ntmps4
  go_wp2_with (go_at_call 8; refine (bytes_ok _ _ _ _ _ _ _ _ h).mono ?_; rintro e w' ⟨rfl, hw⟩; subst w')
  go_loop [7] (fun v => ∃ j : Nat, j ≤ len1 ∧ v = .int .i64 (j : Int) ∧ ∀ k, k < j → isWs (xs.getD k 0) = true) (fun v => len1 - (intOf v).toNat)
  case atStart => exact ⟨0, Nat.zero_le _, rfl, fun k hk => absurd hk (Nat.not_lt_zero _)⟩
  case round =>
    obtain ⟨j, hj, rfl, hws⟩ := hrel
    have HW : Hid (∀ k, k < j → isWs (xs.getD k 0) = true) := hws
    clear hws
    by_cases hlt : j < len1
    · obtain ⟨b, off, rfl, hcs⟩ := A1.isAt (by omega)
      obtain ⟨z, hz⟩ : ∃ z, z = xs.getD j 0 := ⟨_, rfl⟩
      have hcell : w.cell? ⟨b, off + j, none⟩ = some (.int .u8 z) := by rw [hz]; exact hcs _ hlt
      have HZ : Hid (z = xs.getD j 0) := hz
      clear hz hcs
      by_cases h32 : z = 32
      · have t1 : (z != 32) = false := by simp [h32]
        have hn : isWs (xs.getD j 0) = true := by rw [← HZ.out, h32]; rfl
        have HN : Hid (isWs (xs.getD j 0) = true) := hn
        clear h32 hn
        go_wp2_with fail
        go_round
        case rel => exact ⟨j + 1, by omega, by go_num, fun k hk => by
          by_cases e : k = j
          · rw [e]; exact HN.out
          · exact HW.out k (by omega)⟩
        case measure => simp [intOf]; omega
      · have t1 : (z != 32) = true := by simp [h32]
        by_cases h9 : z = 9
        · have t2 : (z != 9) = false := by simp [h9]
          have hn : isWs (xs.getD j 0) = true := by rw [← HZ.out, h9]; rfl
          have HN : Hid (isWs (xs.getD j 0) = true) := hn
          clear h32 h9 hn
          go_wp2_with fail
          go_round
          case rel => exact ⟨j + 1, by omega, by go_num, fun k hk => by
            by_cases e : k = j
            · rw [e]; exact HN.out
            · exact HW.out k (by omega)⟩
          case measure => simp [intOf]; omega
        · have t2 : (z != 9) = true := by simp [h9]
          clear h32 h9
          go_wp2_with fail
          go_ret
          exact ⟨rfl, Below.refl _ _⟩
    · have hj' : len1 = j := by omega
      subst hj'
      go_upto_if 44 with fail
      go_cut [1] (fun v wx => ∃ ao c, v = .slice ao len1 c ∧ Own wx ao len1 c xs w.heap.size ∧ Below w.heap.size w wx)
      case first =>
        cases a1 with
        | none =>
          go_wp2_with fail
          go_meet
          case rel => exact ⟨none, cap1, rfl, .inl ⟨rfl, A1.isNil rfl⟩, Below.refl _ _⟩
        | some x =>
          go_wp2_with (first
            | (at_make; refine wpList_make_row _ rfl (.tmp 46) (.tmp 46) 22 rfl 5 i0 (.int .u8 0) 1 Try.underlying22 hi hz0 hz1 .i64 .i64 _ _ len1 len1 rfl rfl rfl rfl (Nat.le_refl _) (by rw [hz2]; omega) (by omega) ?_; intro w1 hr1 hs1 hb1; simp only [Nat.mul_one] at hr1)
            | (refine wpList_copy_row _ rfl (.tmp 48) (.tmp 49) 22 22 rfl 5 Try.underlying22 hsz w.heap.size len1 len1 (some x) cap1 rfl rfl _ (xs.map (.int .u8)) 5 hr1 (by simp [A1.size]) (A1.src hb1) (ints_oneCell _ _) ?_; intro w2 hr2 ht2))
          go_meet
          case rel => exact ⟨_, _, rfl, .inr ⟨_, rfl, Nat.le_refl _, hr2⟩, hb1.trans (ht2.below (Nat.le_refl _))⟩
      case rest =>
        obtain ⟨ao, c, rfl, ho, hb⟩ := hcut
        have hbs := hb.size
        go_upto_if 53 with fail
        go_cut [2] (fun v wx => ∃ ao2 c2, v = .slice ao2 len2 c2 ∧ Own wx ao2 len2 c2 ys wc.heap.size ∧ Below wc.heap.size wc wx)
        case first =>
          cases a2 with
          | none =>
            go_wp2_with fail
            go_meet
            case rel => exact ⟨none, cap2, rfl, .inl ⟨rfl, A2.isNil rfl⟩, Below.refl _ _⟩
          | some x =>
            go_wp2_with (first
              | (at_make; refine wpList_make_row _ rfl (.tmp 55) (.tmp 55) 22 rfl 5 i0 (.int .u8 0) 1 Try.underlying22 hi hz0 hz1 .i64 .i64 _ _ len2 len2 rfl rfl rfl rfl (Nat.le_refl _) (by rw [hz2]; omega) (by omega) ?_; intro w1 hr1 hs1 hb1; simp only [Nat.mul_one] at hr1)
              | (refine wpList_copy_row _ rfl (.tmp 57) (.tmp 58) 22 22 rfl 5 Try.underlying22 hsz wc.heap.size len2 len2 (some x) cap2 rfl rfl _ (ys.map (.int .u8)) 5 hr1 (by simp [A2.size]) (A2.src (hb.trans (hb1.mono hbs))) (ints_oneCell _ _) ?_; intro w2 hr2 ht2))
            go_meet
            case rel => exact ⟨_, _, rfl, .inr ⟨_, rfl, Nat.le_refl _, hr2⟩, hb1.trans (ht2.below (Nat.le_refl _))⟩
        case rest =>
          obtain ⟨ao2, c2, rfl, ho2, hb2⟩ := hcut
          have ho' := ho.below hb2 (Nat.le_refl _)
          have hb0 : Below w.heap.size w wc := hb.trans (hb2.mono hbs)
          have hbs0 := hb0.size
          clear hb hb2 ho hbs
          have hx1 := A1.size
          have hx2 := A2.size
          have HX : Hid (xs.length = len1 ∧ ys.length = len2) := ⟨hx1, hx2⟩
          clear hx1 hx2
          go_upto_if 61 with fail
          go_cut [10] (fun v wx => ∃ ks key, v = .string ks ∧ KeyIs ks key ∧ wx = wc)
          case first =>
            cases a0 with
            | true =>
              go_wp2_with fail
              go_meet
              case rel => exact ⟨_, keyB, rfl, ⟨rfl, .inr rfl⟩, rfl⟩
            | false =>
              go_wp2_with fail
              go_meet
              case rel => exact ⟨_, keyA, rfl, ⟨rfl, .inl rfl⟩, rfl⟩
          case rest =>
            obtain ⟨ks, key, rfl, hk, hw⟩ := hcut
            subst hw
            have hk1 := hk.size
            have hk2 := hk.le
            go_wp2_with (first
              | (at_make; refine wpList_make_row _ rfl (.const (.int .i64 0)) (.tmp 67) 22 rfl 5 i0 (.int .u8 0) 1 Try.underlying22 hi hz0 hz1 .i64 .i64 _ _ 0 (ks.size + len1) rfl rfl rfl (by omega) (Nat.zero_le _) (by rw [hz2]; omega) (by omega) ?_; intro w1 hr1 hs1 hb1; replace hr1 := hr1.nil)
              | (at_builtin; refine wpList_append_row _ rfl (.tmp 69) (.tmp 70) 22 9 rfl 5 i0 1 Try.underlying22 hi hz1 wc.heap.size 0 (ks.size + len1) [] rfl hr1 rfl _ ks.size (key.map (.int .u8)) rfl (hk.src _) (by omega) ?_; intro w2 hr2 ht2; simp only [List.nil_append] at hr2; have b2 := hb1.trans (ht2.below (Nat.le_refl _)))
              | (at_builtin; refine wpList_append_row _ rfl (.tmp 72) (.tmp 73) 22 22 rfl 5 i0 1 Try.underlying22 hi hz1 wc.heap.size ks.size (ks.size + len1) (key.map (.int .u8)) rfl hr2 (by simp [hk1]) _ len1 (xs.map (.int .u8)) rfl ((ho'.below b2 (Nat.le_refl _)).src HX.out.1) (by omega) ?_; intro w3 hr3 ht3; simp only [← List.map_append] at hr3; have b3 := b2.trans (ht3.below (Nat.le_refl _)))
              | (at_make; refine wpList_make_row _ rfl (.const (.int .i64 0)) (.tmp 79) 22 rfl 5 i0 (.int .u8 0) 1 Try.underlying22 hi hz0 hz1 .i64 .i64 _ _ 0 (ks.size + len1 + 1 + len2) rfl rfl rfl (by omega) (Nat.zero_le _) (by rw [hz2]; omega) (by omega) ?_; intro w4 hr4 hs4 hb4; replace hr4 := hr4.nil; have hg1 := hr3.lt; have hr3' := hr3.below hb4 hg1; have b4 := b3.trans (hb4.mono b3.size))
              | (at_builtin; refine wpList_append_row _ rfl (.tmp 81) (.tmp 82) 22 22 rfl 5 i0 1 Try.underlying22 hi hz1 w3.heap.size 0 (ks.size + len1 + 1 + len2) [] rfl hr4 rfl _ (ks.size + len1) ((key ++ xs).map (.int .u8)) rfl (hr3'.src (by simp [hk1, HX.out.1])) (by omega) ?_; intro w5 hr5 ht5; simp only [List.nil_append] at hr5; have hr3'' := hr3'.touch ht5 (Nat.ne_of_lt hg1); have b5 := b4.trans (ht5.below b3.size))
              | (at_builtin; refine wpList_append_row _ rfl (.tmp 84) (.tmp 85) 22 22 rfl 5 i0 1 Try.underlying22 hi hz1 w3.heap.size (ks.size + len1) (ks.size + len1 + 1 + len2) ((key ++ xs).map (.int .u8)) rfl (hr5.below (Below.alloc (Below.refl _ _) (Nat.le_refl _) _) hr5.lt) (by simp [hk1, HX.out.1]) _ 1 [.int .u8 58] rfl (colon_src w5) (by omega) ?_; intro w6 hr6 ht6; rw [colon_map] at hr6; have hr3a := (hr3''.below (Below.alloc (Below.refl _ _) (Nat.le_refl _) _) hr3''.lt).touch ht6 (Nat.ne_of_lt hg1); have b6 := (Below.alloc b5 b5.size _).trans (ht6.below b3.size))
              | (at_builtin; refine wpList_append_row _ rfl (.tmp 87) (.tmp 88) 22 22 rfl 5 i0 1 Try.underlying22 hi hz1 w3.heap.size (ks.size + len1 + 1) (ks.size + len1 + 1 + len2) ((key ++ xs ++ [58]).map (.int .u8)) rfl hr6 (by simp [hk1, HX.out.1]; omega) _ len2 (ys.map (.int .u8)) rfl ((ho2.below b6 (Nat.le_refl _)).src HX.out.2) (by omega) ?_; intro w7 hr7 ht7; rw [← List.map_append] at hr7; have hr3b := hr3a.touch ht7 (Nat.ne_of_lt hg1); have b7 := b6.trans (ht7.below b3.size)))
            have L1 := ikl_built key xs ys hk.which (ws_of HW.out HX.out.1)
            have L2 := ikl_cut key xs hk.which (ws_of HW.out HX.out.1)
            have HL : Hid (ikl (key ++ xs ++ [58] ++ ys) = (key.length : Int) + xs.length + 1 ∧ ikl (key ++ xs) = 0) := ⟨L1, L2⟩
            clear L1 L2
            refine (zzikl_row w3.heap.size 0 _ _ (key ++ xs ++ [58] ++ ys) _ (by simp [hk1, HX.out.1, HX.out.2]; omega) (Nat.le_refl _) (by omega) (hr7.ints (by simp [hk1, HX.out.1, HX.out.2]; omega)) (range4 hk A1.range A2.range)).mono ?_
            rintro e w8 ⟨rfl, hb8⟩
            rw [HL.out.1, hk1, HX.out.1]
            have hg2 := hr7.lt
            have hr3c := hr3b.below hb8 (Nat.lt_of_lt_of_le hg1 (Nat.le_of_lt hg2))
            go_wp2_with fail
            refine (zzikl_row wc.heap.size 0 _ _ (key ++ xs) _ (by simp [hk1, HX.out.1]) (Nat.le_refl _) (by omega) (hr3c.ints (by simp [hk1, HX.out.1])) (range2 hk A1.range)).mono ?_
            rintro e w9 ⟨rfl, hb9⟩
            rw [HL.out.2]
            go_wp2_with fail
            go_ret
            exact ⟨rfl, ((hb0.trans (b7.mono hbs0)).trans (hb8.mono (hb0.trans (b7.mono hbs0)).size)).trans (hb9.mono ((hb0.trans (b7.mono hbs0)).trans (hb8.mono (hb0.trans (b7.mono hbs0)).size)).size)⟩
end Go.Proofs.Qxb6604449a
