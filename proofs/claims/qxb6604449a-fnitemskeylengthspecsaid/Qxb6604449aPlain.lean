namespace Go.Proofs.Qxb6604449a
set_option linter.unusedSimpArgs false
/-! THE PLAIN LAW: no Go in sight. -/
def isWs (c : Int) : Bool := c == 32 || c == 9
def wsFrom (xs : List Int) (k : Nat) : Nat := ((xs.drop k).takeWhile isWs).length
def keyA : List Int := [105, 116, 101, 109, 115]
def keyB : List Int := [34, 105, 116, 101, 109, 115, 34]
/-- What the text behind the key comes to. -/
def tailAt (xs : List Int) (k : Nat) : Int := if xs[k + wsFrom xs k]? = some 58 then ((k + wsFrom xs k : Nat) : Int) + 1 else 0
/-- What 'itemsKeyLength' computes. -/
def ikl (xs : List Int) : Int := if xs.take 5 = keyA then tailAt xs 5 else if xs.take 7 = keyB then tailAt xs 7 else 0

theorem takeWhile_step (p : Int → Bool) : ∀ (ys : List Int) (j : Nat), j ≤ (ys.takeWhile p).length → (h : j < ys.length) → p ys[j] = true → j + 1 ≤ (ys.takeWhile p).length
  | [], j, _, h, _ => by simp at h
  | y :: ys, 0, _, _, hp => by simp at hp; simp [List.takeWhile_cons, hp]
  | y :: ys, j + 1, hj, h, hp => by
    by_cases hy : p y = true
    · simp [List.takeWhile_cons, hy] at hj ⊢
      exact takeWhile_step p ys j hj (by simpa using h) (by simpa using hp)
    · simp [List.takeWhile_cons, hy] at hj

theorem takeWhile_stop (p : Int → Bool) : ∀ (ys : List Int) (j : Nat), j ≤ (ys.takeWhile p).length → ((h : j < ys.length) → p ys[j] = false) → j = (ys.takeWhile p).length
  | [], j, hj, _ => by simp at hj; simp [hj]
  | y :: ys, 0, _, hp => by
    have := hp (by simp)
    simp at this
    simp [List.takeWhile_cons, this]
  | y :: ys, j + 1, hj, hp => by
    by_cases hy : p y = true
    · simp [List.takeWhile_cons, hy] at hj ⊢
      exact takeWhile_stop p ys j hj (fun h => hp (Nat.succ_lt_succ h))
    · simp [List.takeWhile_cons, hy] at hj

theorem wsFrom_le (xs : List Int) (k : Nat) (h : k ≤ xs.length) : k + wsFrom xs k ≤ xs.length := by
  have := (List.takeWhile_sublist isWs (l := xs.drop k)).length_le
  unfold wsFrom
  simp at this
  omega

theorem wsFrom_step (xs : List Int) (k j : Nat) (hj : j ≤ wsFrom xs k) (h : k + j < xs.length) (hp : isWs (xs.getD (k + j) 0) = true) : j + 1 ≤ wsFrom xs k := by
  refine takeWhile_step isWs (xs.drop k) j hj (by simp; omega) ?_
  simp [List.getD, h] at hp
  simpa using hp

theorem wsFrom_stop (xs : List Int) (k j : Nat) (hj : j ≤ wsFrom xs k) (hp : k + j < xs.length → isWs (xs.getD (k + j) 0) = false) : j = wsFrom xs k := by
  refine takeWhile_stop isWs (xs.drop k) j hj fun h => ?_
  have h' : k + j < xs.length := by simp at h; omega
  have := hp h'
  simp [List.getD, h'] at this
  simpa using this

theorem wsFrom_all (key xs tl : List Int) (hw : ∀ x ∈ xs, isWs x = true) (ht : tl.takeWhile isWs = []) : wsFrom (key ++ (xs ++ tl)) key.length = xs.length := by
  unfold wsFrom
  rw [List.drop_left, List.takeWhile_append_of_pos hw, ht]
  simp

theorem tail_built (key xs ys : List Int) (hw : ∀ x ∈ xs, isWs x = true) : tailAt (key ++ xs ++ [58] ++ ys) key.length = (key.length : Int) + xs.length + 1 := by
  unfold tailAt
  have e : key ++ xs ++ [58] ++ ys = key ++ (xs ++ (58 :: ys)) := by simp
  rw [e, wsFrom_all key xs (58 :: ys) hw (by rw [List.takeWhile_cons]; rfl)]
  rw [if_pos (by rw [← List.append_assoc, List.getElem?_append_right (by simp)]; simp)]
  simp

theorem tail_cut (key xs : List Int) (hw : ∀ x ∈ xs, isWs x = true) : tailAt (key ++ xs) key.length = 0 := by
  unfold tailAt
  have e := wsFrom_all key xs [] hw (by simp)
  rw [List.append_nil] at e
  rw [e, if_neg (by rw [List.getElem?_eq_none (by simp)]; simp)]

theorem ikl_of (key tl : List Int) (hk : key = keyA ∨ key = keyB) : ikl (key ++ tl) = tailAt (key ++ tl) key.length := by
  unfold ikl
  rcases hk with rfl | rfl
  · rw [if_pos (show (keyA ++ tl).take 5 = keyA from by simp [keyA])]
    rfl
  · rw [if_neg (show ¬ (keyB ++ tl).take 5 = keyA from by simp [keyA, keyB]), if_pos (show (keyB ++ tl).take 7 = keyB from by simp [keyB])]
    rfl

theorem ikl_built (key xs ys : List Int) (hk : key = keyA ∨ key = keyB) (hw : ∀ x ∈ xs, isWs x = true) : ikl (key ++ xs ++ [58] ++ ys) = (key.length : Int) + xs.length + 1 := by
  rw [← tail_built key xs ys hw, List.append_assoc, List.append_assoc, ikl_of key _ hk]

theorem ikl_cut (key xs : List Int) (hk : key = keyA ∨ key = keyB) (hw : ∀ x ∈ xs, isWs x = true) : ikl (key ++ xs) = 0 := by
  rw [ikl_of key _ hk, tail_cut key xs hw]
end Go.Proofs.Qxb6604449a
