import Derived.Lib.Bytealg
namespace Go.Proofs.Qxb6603645a
open Go.Lib (compareBytes)

/-! ### The byte order of names -/
/-- a before b, strictly. -/
def Lt (a b : List UInt8) : Prop := compareBytes a b < 0
/-- a not behind b. -/
def Le (a b : List UInt8) : Prop := ¬ Lt b a

theorem u8_lt {a b : UInt8} : a < b ↔ a.toNat < b.toNat := UInt8.lt_iff_toNat_lt
theorem u8_eq {a b : UInt8} (h : a.toNat = b.toNat) : a = b := UInt8.toNat_inj.1 h

theorem cb_self : ∀ a : List UInt8, compareBytes a a = 0
  | [] => rfl
  | x :: a => by
    unfold compareBytes
    rw [if_neg (UInt8.lt_irrefl x), if_neg (UInt8.lt_irrefl x)]
    exact cb_self a
theorem cb_zero : ∀ a b : List UInt8, compareBytes a b = 0 → a = b
  | [], [], _ => rfl
  | [], _ :: _, h => by simp [compareBytes] at h
  | _ :: _, [], h => by simp [compareBytes] at h
  | x :: a, y :: b, h => by
    unfold compareBytes at h
    by_cases h1 : x < y
    · rw [if_pos h1] at h; simp at h
    · rw [if_neg h1] at h
      by_cases h2 : y < x
      · rw [if_pos h2] at h; simp at h
      · rw [if_neg h2] at h
        rw [u8_lt] at h1 h2
        rw [u8_eq (show x.toNat = y.toNat by omega), cb_zero a b h]
theorem cb_swap : ∀ a b : List UInt8, compareBytes b a = - compareBytes a b
  | [], [] => rfl
  | [], _ :: _ => rfl
  | _ :: _, [] => rfl
  | x :: a, y :: b => by
    unfold compareBytes
    by_cases h1 : x < y
    · have h2 : ¬ y < x := by rw [u8_lt] at h1 ⊢; omega
      rw [if_neg h2, if_pos h1, if_pos h1]
      rfl
    · by_cases h2 : y < x
      · rw [if_pos h2, if_neg h1, if_pos h2]
      · rw [if_neg h2, if_neg h1, if_neg h1, if_neg h2]
        exact cb_swap a b
theorem Lt.irrefl (a : List UInt8) : ¬ Lt a a := by unfold Lt; rw [cb_self]; simp
theorem Lt.asymm {a b : List UInt8} (h : Lt a b) : ¬ Lt b a := by
  unfold Lt at h ⊢
  rw [cb_swap a b]
  omega
theorem Lt.tri (a b : List UInt8) : Lt a b ∨ a = b ∨ Lt b a := by
  unfold Lt
  rw [cb_swap a b]
  rcases Int.lt_trichotomy (compareBytes a b) 0 with h | h | h
  · exact .inl h
  · exact .inr (.inl (cb_zero a b h))
  · exact .inr (.inr (by omega))
theorem lt_cons (x y : UInt8) (a b : List UInt8) : Lt (x :: a) (y :: b) ↔ x < y ∨ (x = y ∧ Lt a b) := by
  unfold Lt
  rw [compareBytes]
  by_cases h1 : x < y
  · rw [if_pos h1]; simp [h1]
  · rw [if_neg h1]
    by_cases h2 : y < x
    · rw [if_pos h2]
      have : x ≠ y := by rintro rfl; exact UInt8.lt_irrefl _ h2
      simp [h1, this]
    · rw [if_neg h2]
      have : x = y := by rw [u8_lt] at h1 h2; exact u8_eq (by omega)
      simp [this]
theorem Lt.trans : ∀ {a b c : List UInt8}, Lt a b → Lt b c → Lt a c
  | [], [], _, h, _ => absurd h (Lt.irrefl _)
  | _ :: _, [], _, h, _ => by simp [Lt, compareBytes] at h
  | _, _ :: _, [], _, h => by simp [Lt, compareBytes] at h
  | [], _ :: _, _ :: _, _, _ => by simp [Lt, compareBytes]
  | x :: a, y :: b, z :: c, h, k => by
    rw [lt_cons] at h k ⊢
    rcases h with h | ⟨rfl, h⟩
    · rcases k with k | ⟨rfl, k⟩
      · left; rw [u8_lt] at h k ⊢; omega
      · exact .inl h
    · rcases k with k | ⟨rfl, k⟩
      · exact .inl k
      · exact .inr ⟨rfl, Lt.trans h k⟩
theorem Lt.ne {a b : List UInt8} (h : Lt a b) : a ≠ b := by rintro rfl; exact Lt.irrefl _ h
theorem Lt.le {a b : List UInt8} (h : Lt a b) : Le a b := h.asymm
theorem Le.refl (a : List UInt8) : Le a a := Lt.irrefl a
theorem Le.cases {a b : List UInt8} (h : Le a b) : Lt a b ∨ a = b := by
  rcases Lt.tri a b with k | k | k
  · exact .inl k
  · exact .inr k
  · exact absurd k h
theorem Le.trans {a b c : List UInt8} (h : Le a b) (k : Le b c) : Le a c := by
  rcases h.cases with h | rfl
  · rcases k.cases with k | rfl
    · exact (h.trans k).le
    · exact h.le
  · exact k
theorem Lt.of_lt_le {a b c : List UInt8} (h : Lt a b) (k : Le b c) : Lt a c := by
  rcases k.cases with k | rfl
  · exact h.trans k
  · exact h
theorem Lt.of_le_lt {a b c : List UInt8} (h : Le a b) (k : Lt b c) : Lt a c := by
  rcases h.cases with h | rfl
  · exact h.trans k
  · exact k
theorem Le.antisymm {a b : List UInt8} (h : Le a b) (k : Le b a) : a = b := by
  rcases h.cases with h | h
  · exact absurd h k
  · exact h

/-! ### Members -/
/-- A member: its name, its value. -/
abbrev Mb := ByteArray × ByteArray
def nm (m : Mb) : List UInt8 := m.1.data.toList
/-- Sorted by name. -/
def Srt (xs : List Mb) : Prop := xs.Pairwise fun a b => Le (nm a) (nm b)
/-- For each name the same members in the same order. -/
def Same (xs ys : List Mb) : Prop := ∀ n, ys.filter (fun m => nm m == n) = xs.filter (fun m => nm m == n)

theorem Same.refl (xs : List Mb) : Same xs xs := fun _ => rfl
theorem Same.trans {a b c : List Mb} (h : Same a b) (k : Same b c) : Same a c := fun n => (k n).trans (h n)
theorem Same.append {a a' b b' : List Mb} (h : Same a a') (k : Same b b') : Same (a ++ b) (a' ++ b') := fun n => by rw [List.filter_append, List.filter_append, h n, k n]
theorem Same.mem {a b : List Mb} (h : Same a b) {x : Mb} (hx : x ∈ b) : x ∈ a := by
  have : x ∈ b.filter (fun m => nm m == nm x) := List.mem_filter.2 ⟨hx, by simp⟩
  rw [h] at this
  exact (List.mem_filter.1 this).1
theorem Same.symm {a b : List Mb} (h : Same a b) : Same b a := fun n => (h n).symm
/-- Two neighbouring runs with no name in common may change places. -/
theorem Same.swap {a b : List Mb} (h : ∀ x ∈ a, ∀ y ∈ b, nm x ≠ nm y) : Same (a ++ b) (b ++ a) := fun n => by
  rw [List.filter_append, List.filter_append]
  by_cases ha : ∃ x ∈ a, nm x = n
  · obtain ⟨x, hx, hn⟩ := ha
    have : b.filter (fun m => nm m == n) = [] := List.filter_eq_nil_iff.2 (fun y hy => by
      have := h x hx y hy
      rw [hn] at this
      simpa using fun e => this e.symm)
    rw [this]
    simp
  · have : a.filter (fun m => nm m == n) = [] := List.filter_eq_nil_iff.2 (fun y hy => by
      simpa using fun e => ha ⟨y, hy, e⟩)
    rw [this]
    simp

theorem Srt.append {a b : List Mb} (ha : Srt a) (hb : Srt b) (h : ∀ x ∈ a, ∀ y ∈ b, Le (nm x) (nm y)) : Srt (a ++ b) := List.pairwise_append.2 ⟨ha, hb, h⟩
theorem Srt.left {a b : List Mb} (h : Srt (a ++ b)) : Srt a := (List.pairwise_append.1 h).1
theorem Srt.right {a b : List Mb} (h : Srt (a ++ b)) : Srt b := (List.pairwise_append.1 h).2.1
theorem Srt.across {a b : List Mb} (h : Srt (a ++ b)) : ∀ x ∈ a, ∀ y ∈ b, Le (nm x) (nm y) := (List.pairwise_append.1 h).2.2
theorem Srt.take {a : List Mb} (h : Srt a) (k : Nat) : Srt (a.take k) := by rw [← List.take_append_drop k a] at h; exact h.left
theorem Srt.drop {a : List Mb} (h : Srt a) (k : Nat) : Srt (a.drop k) := by rw [← List.take_append_drop k a] at h; exact h.right
theorem Srt.nil : Srt [] := List.Pairwise.nil
theorem Srt.one (x : Mb) : Srt [x] := List.pairwise_singleton _ _
theorem Srt.at {a : List Mb} (h : Srt a) {i j : Nat} {x y : Mb} (hx : a[i]? = some x) (hy : a[j]? = some y) (hij : i ≤ j) : Le (nm x) (nm y) := by
  rcases Nat.lt_or_ge i j with hlt | hge
  · obtain ⟨h1, rfl⟩ := List.getElem?_eq_some_iff.1 hx
    obtain ⟨h2, rfl⟩ := List.getElem?_eq_some_iff.1 hy
    exact List.pairwise_iff_getElem.1 h i j h1 h2 hlt
  · have : i = j := by omega
    subst this
    rw [hx] at hy
    cases hy
    exact Le.refl _
theorem Srt.of_at {a : List Mb} (h : ∀ (i j : Nat) (x y : Mb), i < j → a[i]? = some x → a[j]? = some y → Le (nm x) (nm y)) : Srt a :=
  List.pairwise_iff_getElem.2 fun i j h1 h2 hij => h i j _ _ hij (List.getElem?_eq_getElem h1) (List.getElem?_eq_getElem h2)

theorem mem_take {α : Type} {a : List α} {k : Nat} {y : α} (h : y ∈ a.take k) : ∃ i, i < k ∧ a[i]? = some y := by
  obtain ⟨i, hi⟩ := List.getElem?_of_mem h
  rw [List.getElem?_take] at hi
  split at hi
  · exact ⟨i, by assumption, hi⟩
  · cases hi
theorem mem_drop {α : Type} {a : List α} {k : Nat} {y : α} (h : y ∈ a.drop k) : ∃ i, k ≤ i ∧ a[i]? = some y := by
  obtain ⟨i, hi⟩ := List.getElem?_of_mem h
  rw [List.getElem?_drop] at hi
  exact ⟨k + i, by omega, hi⟩

/-! ### Splits of a sorted run -/
theorem Srt.below {b : List Mb} {x : List UInt8} {s : Nat} (h : Srt b) (hs : s = 0 ∨ ∃ y, b[s - 1]? = some y ∧ Lt (nm y) x) : ∀ y ∈ b.take s, Lt (nm y) x := by
  intro y hy
  obtain ⟨i, hi, hy⟩ := mem_take hy
  rcases hs with rfl | ⟨z, hz, hlt⟩
  · omega
  · exact Lt.of_le_lt (h.at hy hz (by omega)) hlt
theorem Srt.belowLe {b : List Mb} {x : List UInt8} {s : Nat} (h : Srt b) (hs : s = 0 ∨ ∃ y, b[s - 1]? = some y ∧ Le (nm y) x) : ∀ y ∈ b.take s, Le (nm y) x := by
  intro y hy
  obtain ⟨i, hi, hy⟩ := mem_take hy
  rcases hs with rfl | ⟨z, hz, hlt⟩
  · omega
  · exact (h.at hy hz (by omega)).trans hlt
theorem Srt.above {b : List Mb} {x : List UInt8} {s : Nat} (h : Srt b) (hs : b.length ≤ s ∨ ∃ y, b[s]? = some y ∧ Lt x (nm y)) : ∀ y ∈ b.drop s, Lt x (nm y) := by
  intro y hy
  obtain ⟨i, hi, hy⟩ := mem_drop hy
  rcases hs with hs | ⟨z, hz, hlt⟩
  · have := (List.getElem?_eq_some_iff.1 hy).1
    omega
  · exact Lt.of_lt_le hlt (h.at hz hy hi)
theorem Srt.aboveLe {b : List Mb} {x : List UInt8} {s : Nat} (h : Srt b) (hs : b.length ≤ s ∨ ∃ y, b[s]? = some y ∧ Le x (nm y)) : ∀ y ∈ b.drop s, Le x (nm y) := by
  intro y hy
  obtain ⟨i, hi, hy⟩ := mem_drop hy
  rcases hs with hs | ⟨z, hz, hlt⟩
  · have := (List.getElem?_eq_some_iff.1 hy).1
    omega
  · exact hlt.trans (h.at hz hy hi)

/-- One member goes into a sorted run from the left, behind the lesser ones. -/
theorem put_right {x : Mb} {b : List Mb} {s : Nat} (hb : Srt b) (h1 : s = 0 ∨ ∃ y, b[s - 1]? = some y ∧ Lt (nm y) (nm x)) (h2 : b.length ≤ s ∨ ∃ y, b[s]? = some y ∧ Le (nm x) (nm y)) :
    Srt (b.take s ++ x :: b.drop s) ∧ Same (x :: b) (b.take s ++ x :: b.drop s) := by
  have q1 := hb.below h1
  have q2 := hb.aboveLe h2
  constructor
  · refine Srt.append (hb.take s) (List.pairwise_cons.2 ⟨q2, hb.drop s⟩) ?_
    intro y hy z hz
    rcases List.mem_cons.1 hz with rfl | hz
    · exact (q1 y hy).le
    · exact ((q1 y hy).le).trans (q2 z hz)
  · have e : x :: b = ([x] ++ b.take s) ++ b.drop s := by rw [List.append_assoc, List.take_append_drop]; rfl
    have e2 : b.take s ++ x :: b.drop s = (b.take s ++ [x]) ++ b.drop s := by simp
    rw [e, e2]
    refine Same.append (Same.swap ?_) (Same.refl _)
    intro u hu v hv
    rw [List.mem_singleton.1 hu]
    exact (q1 v hv).ne.symm
/-- One member goes into a sorted run from the right, ahead of the greater ones. -/
theorem put_left {y : Mb} {a : List Mb} {s : Nat} (ha : Srt a) (h1 : s = 0 ∨ ∃ x, a[s - 1]? = some x ∧ Le (nm x) (nm y)) (h2 : a.length ≤ s ∨ ∃ x, a[s]? = some x ∧ Lt (nm y) (nm x)) :
    Srt (a.take s ++ y :: a.drop s) ∧ Same (a ++ [y]) (a.take s ++ y :: a.drop s) := by
  have q1 := ha.belowLe h1
  have q2 := ha.above h2
  constructor
  · refine Srt.append (ha.take s) (List.pairwise_cons.2 ⟨fun z hz => (q2 z hz).le, ha.drop s⟩) ?_
    intro u hu z hz
    rcases List.mem_cons.1 hz with rfl | hz
    · exact q1 u hu
    · exact (q1 u hu).trans (q2 z hz).le
  · have e : a ++ [y] = a.take s ++ (a.drop s ++ [y]) := by rw [← List.append_assoc, List.take_append_drop]
    have e2 : a.take s ++ y :: a.drop s = a.take s ++ ([y] ++ a.drop s) := by simp
    rw [e, e2]
    refine Same.append (Same.refl _) (Same.swap ?_)
    intro u hu v hv
    rw [List.mem_singleton.1 hv]
    exact (q2 u hu).ne.symm

/-- The symmetric step: both halves merged. -/
theorem sym_step {a b X Y : List Mb} {s e : Nat} (ha : Srt a) (hb : Srt b)
    (h1 : a.length ≤ s ∨ e = 0 ∨ ∃ u v, a[s]? = some u ∧ b[e - 1]? = some v ∧ Lt (nm v) (nm u)) (h2 : s = 0 ∨ b.length ≤ e ∨ ∃ u v, a[s - 1]? = some u ∧ b[e]? = some v ∧ Le (nm u) (nm v))
    (hX : Srt X) (sX : Same (a.take s ++ b.take e) X) (hY : Srt Y) (sY : Same (a.drop s ++ b.drop e) Y) : Srt (X ++ Y) ∧ Same (a ++ b) (X ++ Y) := by
  have qL : ∀ c ∈ b.take e, ∀ u ∈ a.drop s, Lt (nm c) (nm u) := by
    intro c hc u hu
    obtain ⟨i, hi, hc⟩ := mem_take hc
    obtain ⟨j, hj, hu⟩ := mem_drop hu
    rcases h1 with h | h | ⟨x, y, hx, hy, hlt⟩
    · have := (List.getElem?_eq_some_iff.1 hu).1
      omega
    · omega
    · exact Lt.of_lt_le (Lt.of_le_lt (hb.at hc hy (by omega)) hlt) (ha.at hx hu hj)
  have qD : ∀ u ∈ a.take s, ∀ d ∈ b.drop e, Le (nm u) (nm d) := by
    intro u hu d hd
    obtain ⟨i, hi, hu⟩ := mem_take hu
    obtain ⟨j, hj, hd⟩ := mem_drop hd
    rcases h2 with h | h | ⟨x, y, hx, hy, hle⟩
    · omega
    · have := (List.getElem?_eq_some_iff.1 hd).1
      omega
    · exact ((ha.at hu hx (by omega)).trans hle).trans (hb.at hy hd hj)
  have aA := Srt.across (a := a.take s) (b := a.drop s) (by rw [List.take_append_drop]; exact ha)
  have bB := Srt.across (a := b.take e) (b := b.drop e) (by rw [List.take_append_drop]; exact hb)
  constructor
  · refine Srt.append hX hY ?_
    intro x hx y hy
    rcases List.mem_append.1 (sX.mem hx) with h | h <;> rcases List.mem_append.1 (sY.mem hy) with k | k
    · exact aA x h y k
    · exact qD x h y k
    · exact (qL x h y k).le
    · exact bB x h y k
  · have e1 : a ++ b = a.take s ++ ((a.drop s ++ b.take e) ++ b.drop e) := by
      rw [List.append_assoc, List.take_append_drop, ← List.append_assoc, List.take_append_drop]
    have e2 : (a.take s ++ b.take e) ++ (a.drop s ++ b.drop e) = a.take s ++ ((b.take e ++ a.drop s) ++ b.drop e) := by simp
    have q := Same.append sX sY
    rw [e2] at q
    rw [e1]
    refine Same.trans ?_ q
    refine Same.append (Same.refl _) (Same.append (Same.swap ?_) (Same.refl _))
    intro u hu v hv
    exact (qL v hv u hu).ne.symm
end Go.Proofs.Qxb6603645a
