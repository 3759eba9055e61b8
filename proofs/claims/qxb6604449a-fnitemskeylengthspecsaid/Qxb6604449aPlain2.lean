import Derived.Test.Qxb6604449aPlain
namespace Go.Proofs.Qxb6604449a
set_option linter.unusedSimpArgs false
/-! THE PLAIN LAW, second part: the model of the law's own text, and that it answers as 'ikl'. -/
/-- How many elements stand ahead of the first ':'. -/
def colon (xs : List Int) : Nat := (xs.takeWhile (fun c => c != 58)).length
/-- The end of what is left of the first e elements once the spaces and tabs at their end are stripped. -/
def stripEnd (xs : List Int) : Nat → Nat
  | 0 => 0
  | e + 1 => if isWs (xs.getD e 0) = true then stripEnd xs e else e + 1
/-- What 'zzItemsKeyModel' computes. -/
def mdl (xs : List Int) : Int :=
  if colon xs < xs.length then (if xs.take (stripEnd xs (colon xs)) = keyA ∨ xs.take (stripEnd xs (colon xs)) = keyB then (colon xs : Int) + 1 else 0) else 0

theorem takeWhile_getD (p : Int → Bool) : ∀ (ys : List Int) (j : Nat), j < (ys.takeWhile p).length → p (ys.getD j 0) = true
  | [], j, h => by simp at h
  | y :: ys, j, h => by
    by_cases hy : p y = true
    · cases j with
      | zero => simpa [List.getD] using hy
      | succ j =>
        simp [hy] at h
        have := takeWhile_getD p ys j h
        simpa [List.getD] using this
    · simp [hy] at h

theorem takeWhile_le (p : Int → Bool) (ys : List Int) : (ys.takeWhile p).length ≤ ys.length := (List.takeWhile_sublist p (l := ys)).length_le

theorem colon_le (xs : List Int) : colon xs ≤ xs.length := takeWhile_le _ xs
theorem colon_ne (xs : List Int) (i : Nat) (h : i < colon xs) : xs.getD i 0 ≠ 58 := by
  have := takeWhile_getD _ xs i h
  simpa using this
theorem colon_at : ∀ (xs : List Int), colon xs < xs.length → xs.getD (colon xs) 0 = 58
  | [], h => by simp at h
  | x :: xs, h => by
    by_cases hx : x = 58
    · simp [colon, hx]
    · have e : colon (x :: xs) = colon xs + 1 := by simp [colon, hx]
      rw [e] at h ⊢
      have := colon_at xs (by simpa using h)
      simpa [List.getD] using this
theorem colon_eq (xs : List Int) (c : Nat) (h1 : ∀ i, i < c → xs.getD i 0 ≠ 58) (hc : c < xs.length) (h2 : xs.getD c 0 = 58) : colon xs = c := by
  rcases Nat.lt_trichotomy (colon xs) c with h | h | h
  · have := colon_at xs (by omega)
    exact absurd this (h1 _ h)
  · exact h
  · exact absurd h2 (colon_ne xs c h)

theorem strip_le (xs : List Int) : ∀ c, stripEnd xs c ≤ c
  | 0 => Nat.le_refl _
  | c + 1 => by
    unfold stripEnd
    split
    · exact Nat.le_trans (strip_le xs c) (Nat.le_succ c)
    · exact Nat.le_refl _
theorem strip_ws (xs : List Int) : ∀ c i, stripEnd xs c ≤ i → i < c → isWs (xs.getD i 0) = true
  | 0, i, _, h => absurd h (Nat.not_lt_zero _)
  | c + 1, i, h1, h2 => by
    unfold stripEnd at h1
    by_cases hw : isWs (xs.getD c 0) = true
    · rw [if_pos hw] at h1
      by_cases e : i = c
      · rw [e]; exact hw
      · exact strip_ws xs c i h1 (by omega)
    · rw [if_neg hw] at h1
      omega
theorem strip_down (xs : List Int) (k : Nat) : ∀ m, k ≤ m → (∀ i, k ≤ i → i < m → isWs (xs.getD i 0) = true) → stripEnd xs m = stripEnd xs k
  | 0, h, _ => by have : k = 0 := by omega
                  rw [this]
  | m + 1, h, hw => by
    by_cases e : k = m + 1
    · rw [e]
    · rw [stripEnd, if_pos (hw m (by omega) (by omega))]
      exact strip_down xs k m (by omega) (fun i h1 h2 => hw i h1 (by omega))

theorem ws_ge (xs : List Int) (k : Nat) : ∀ t, k + t ≤ xs.length → (∀ i, i < t → isWs (xs.getD (k + i) 0) = true) → t ≤ wsFrom xs k
  | 0, _, _ => Nat.zero_le _
  | t + 1, hl, hw => wsFrom_step xs k t (ws_ge xs k t (by omega) (fun i hi => hw i (by omega))) (by omega) (hw t (by omega))
theorem ws_at (xs : List Int) (k i : Nat) (h : i < wsFrom xs k) : isWs (xs.getD (k + i) 0) = true := by
  have := takeWhile_getD isWs (xs.drop k) i h
  simpa [List.getD, List.getElem?_drop] using this

theorem take_getD (xs key : List Int) (k : Nat) (h : xs.take k = key) (hk : key.length = k) (i : Nat) (hi : i < k) : xs.getD i 0 = key.getD i 0 := by
  subst h
  simp [List.getD, hi]

/-- The two keys: no ':' in them; the last is neither space nor tab. -/
theorem key_plain (key : List Int) (hk : key = keyA ∨ key = keyB) : (∀ i, i < key.length → key.getD i 0 ≠ 58) ∧ 0 < key.length ∧ isWs (key.getD (key.length - 1) 0) = false := by
  rcases hk with rfl | rfl <;> decide

theorem law_a (xs key : List Int) (k : Nat) (hk : key = keyA ∨ key = keyB) (hl : key.length = k) (ht : xs.take k = key) (hc : xs[k + wsFrom xs k]? = some 58) : mdl xs = ((k + wsFrom xs k : Nat) : Int) + 1 := by
  obtain ⟨p1, p2, p3⟩ := key_plain key hk
  have hlen : k + wsFrom xs k < xs.length := (List.getElem?_eq_some_iff.1 hc).1
  have h58 : xs.getD (k + wsFrom xs k) 0 = 58 := by simp [List.getD, hc]
  have hcol : colon xs = k + wsFrom xs k := by
    refine colon_eq xs _ (fun i hi => ?_) hlen h58
    by_cases h : i < k
    · rw [take_getD xs key k ht hl i h]
      exact p1 i (by omega)
    · have := ws_at xs k (i - k) (by omega)
      rw [show k + (i - k) = i by omega] at this
      intro e
      rw [e] at this
      exact absurd this (by decide)
  have hst : stripEnd xs (k + wsFrom xs k) = k := by
    rw [strip_down xs k _ (by omega) (fun i h1 h2 => by
      have := ws_at xs k (i - k) (by omega)
      rwa [show k + (i - k) = i by omega] at this)]
    obtain ⟨k', rfl⟩ : ∃ k', k = k' + 1 := ⟨k - 1, by omega⟩
    rw [stripEnd, if_neg]
    rw [take_getD xs key _ ht hl k' (by omega)]
    rw [hl] at p3
    simp at p3
    rw [List.getD, p3]
    decide
  unfold mdl
  rw [hcol, if_pos hlen, hst, ht, if_pos hk]

theorem law_b (xs : List Int) (hc : colon xs < xs.length) (hk : xs.take (stripEnd xs (colon xs)) = keyA ∨ xs.take (stripEnd xs (colon xs)) = keyB) : ikl xs = (colon xs : Int) + 1 := by
  have h1 := strip_le xs (colon xs)
  have h2 := strip_ws xs (colon xs)
  have h58 := colon_at xs hc
  have key : ∀ e, stripEnd xs (colon xs) = e → tailAt xs e = (colon xs : Int) + 1 := by
    intro e he
    rw [he] at h1 h2
    have g := ws_ge xs e (colon xs - e) (by omega) (fun i hi => h2 (e + i) (by omega) (by omega))
    have g2 := wsFrom_stop xs e (colon xs - e) g (fun _ => by rw [show e + (colon xs - e) = colon xs by omega, h58]; decide)
    unfold tailAt
    rw [← g2, show e + (colon xs - e) = colon xs by omega, if_pos]
    rw [List.getElem?_eq_getElem hc]
    simpa [List.getD, List.getElem?_eq_getElem hc] using h58
  have hl : (xs.take (stripEnd xs (colon xs))).length = stripEnd xs (colon xs) := by simp; omega
  unfold ikl
  rcases hk with hk | hk
  · rw [hk] at hl
    have e : stripEnd xs (colon xs) = 5 := hl.symm
    rw [e] at hk
    rw [if_pos hk, key 5 e]
  · rw [hk] at hl
    have e : stripEnd xs (colon xs) = 7 := hl.symm
    rw [e] at hk
    have n5 : ¬ xs.take 5 = keyA := by
      intro h5
      have := congrArg (fun l => l.take 5) hk
      rw [List.take_take] at this
      simp only [show min 5 7 = 5 from rfl] at this
      rw [h5] at this
      simp [keyA, keyB] at this
    rw [if_neg n5, if_pos hk, key 7 e]

theorem tail_some (xs : List Int) (k : Nat) (h : tailAt xs k ≠ 0) : xs[k + wsFrom xs k]? = some 58 ∧ tailAt xs k = ((k + wsFrom xs k : Nat) : Int) + 1 := by
  unfold tailAt at h ⊢
  split
  · exact ⟨by assumption, rfl⟩
  · rename_i h'
    rw [if_neg h'] at h
    exact absurd rfl h

theorem ikl_mdl (xs : List Int) : ikl xs = mdl xs := by
  by_cases h : ikl xs = 0
  · by_cases hc : colon xs < xs.length ∧ (xs.take (stripEnd xs (colon xs)) = keyA ∨ xs.take (stripEnd xs (colon xs)) = keyB)
    · have := law_b xs hc.1 hc.2
      omega
    · rw [h]
      unfold mdl
      split
      · rw [if_neg (fun h' => hc ⟨by assumption, h'⟩)]
      · rfl
  · by_cases h1 : xs.take 5 = keyA
    · have e : ikl xs = tailAt xs 5 := by unfold ikl; rw [if_pos h1]
      rw [e] at h
      obtain ⟨t1, t2⟩ := tail_some xs 5 h
      rw [e, t2, law_a xs keyA 5 (.inl rfl) rfl h1 t1]
    · by_cases h2 : xs.take 7 = keyB
      · have e : ikl xs = tailAt xs 7 := by unfold ikl; rw [if_neg h1, if_pos h2]
        rw [e] at h
        obtain ⟨t1, t2⟩ := tail_some xs 7 h
        rw [e, t2, law_a xs keyB 7 (.inr rfl) rfl h2 t1]
      · exfalso
        apply h
        unfold ikl
        rw [if_neg h1, if_neg h2]
end Go.Proofs.Qxb6604449a
