import Derived.Test.Qxb6603645aModel
import Derived.Deep.AppendLies
namespace Go.Proofs.Qxb6603645a
open Go.RowKit
set_option linter.unusedSimpArgs false
set_option linter.unusedVariables false
theorem heap_new (w : World) (o : Obj) : (w.alloc o).heap[w.heap.size]? = some o := by
  show (w.heap.push o)[w.heap.size]? = some o
  simp
theorem Try.info62 : (Try.prog.info? 62).map (fun i => (i.zero, i.size, i.bytes)) = some (some (.agg #[.string ⟨#[]⟩, .string ⟨#[]⟩]), 2, 32) := by kernel_rfl
set_option maxRecDepth 100000 in
set_option maxHeartbeats 1000000 in
theorem clone_nil (w : World) :
    Calls Try.prog 29 #[.slice none 0 0] w fun e w' => e = .returned (.slice none 0 0) ∧ Below w.heap.size w w' := by
  have he : ∀ w : World, (binOp .eql 54 (.slice none 0 0) (.slice none 0 0)).run Try.prog w = .ok (.bool true) w := fun _ => rfl
  go_enter Try.func29, Try.ntmps29
  go_wp2_with fail
  go_ret
  exact ⟨rfl, Below.refl _ _⟩
set_option maxRecDepth 100000 in
set_option maxHeartbeats 1000000 in
theorem clone_empty (b o cap : Nat) (w : World) :
    Calls Try.prog 29 #[.slice (some ⟨b, o, none⟩) 0 cap] w fun e w' => ∃ g cap2, e = .returned (.slice (some ⟨g, 0, none⟩) 0 cap2) ∧ Held w' g [] ∧ w.heap.size ≤ g ∧ Below w.heap.size w w' := by
  have he : ∀ w : World, (binOp .eql 54 (.slice (some ⟨b, o, none⟩) 0 cap) (.slice none 0 0)).run Try.prog w = .ok (.bool false) w := fun _ => rfl
  go_enter Try.func29, Try.ntmps29
  go_wp2_with fail
  go_ret
  exact ⟨_, _, rfl, ⟨[], heap_new _ _⟩, Nat.le_refl _, balloc _ _⟩
theorem fresh_row (w : World) : (w.alloc (.cells #[] 62)).ownsRow 0 62 2 (.slice (some ⟨w.heap.size, 0, none⟩) 0 0) 0 [] :=
  ⟨rfl, .inr ⟨w.heap.size, 0, #[], rfl, Nat.zero_le _, heap_new _ _, Nat.le_refl _, by unfold maxLen; omega, rfl, rfl⟩⟩
theorem held_of_row {w : World} {g len cap : Nat} {ms : List Mb} (h : w.ownsRow 0 62 2 (.slice (some ⟨g, 0, none⟩) len cap) len (flatM ms)) : Held w g ms := by
  rcases h.2 with ⟨h1, _⟩ | ⟨g', cap', cur, h1, _, hg, _, _, hs, ht⟩
  · cases h1
  · cases h1
    refine ⟨cur.toList.drop (len * 2), ?_⟩
    rw [hg, ← ht, List.take_append_drop]
theorem flatM_news {w : World} {b o len : Nat} {ms : List Mb} (h : MbsIn w (some ⟨b, o, none⟩) len ms) : ∀ j u, (flatM ms)[j]? = some u → (w.alloc (.cells #[] 62)).cell? ((⟨b, o, none⟩ : Addr).add j) = some u := by
  intro j u hj
  have hl : j < (flatM ms).length := (List.getElem?_eq_some_iff.1 hj).1
  rw [flatM_length] at hl
  have h0 : 0 < len := by rw [← h.len_eq]; omega
  obtain ⟨b', o', e, h1, hc⟩ := h.isAt h0
  cases e
  obtain ⟨m, hm⟩ : ∃ m, ms[j / 2]? = some m := ⟨_, List.getElem?_eq_getElem (by omega)⟩
  have hg := flatM_get ms (j / 2) m hm
  have hcc := hc (j / 2) m hm
  rw [Addr.add_lit, World.cell?_alloc_lt _ _ _ (by simpa using h1)]
  rcases Nat.mod_two_eq_zero_or_one j with e | e
  · have e2 : j / 2 * 2 = j := by omega
    rw [e2] at hg hcc
    rw [hg.1] at hj; cases hj; exact hcc.1
  · have e2 : j / 2 * 2 + 1 = j := by omega
    rw [e2] at hg
    rw [Nat.add_assoc, e2] at hcc
    rw [hg.2] at hj; cases hj; exact hcc.2
theorem flatM_one (ms : List Mb) : ∀ u ∈ flatM ms, u.oneCell' = true := by
  intro u hu
  obtain ⟨m, _, hm⟩ := List.mem_flatMap.1 hu
  simp [mbC] at hm
  rcases hm with rfl | rfl <;> rfl
set_option maxRecDepth 100000 in
set_option maxHeartbeats 1000000 in
theorem clone_some (b o len cap : Nat) (ms : List Mb) (w : World) (h : MbsIn w (some ⟨b, o, none⟩) len ms) (h0 : 0 < len) (hm : len ≤ 4096) :
    Calls Try.prog 29 #[.slice (some ⟨b, o, none⟩) len cap] w fun e w' => ∃ g cap2, e = .returned (.slice (some ⟨g, 0, none⟩) len cap2) ∧ Held w' g ms ∧ w.heap.size ≤ g ∧ Below w.heap.size w w' := by
  have he : ∀ w : World, (binOp .eql 54 (.slice (some ⟨b, o, none⟩) len cap) (.slice none 0 0)).run Try.prog w = .ok (.bool false) w := fun _ => rfl
  obtain ⟨i0, hi0, hz0, hz1, hz2⟩ := info_parts Try.info62
  have HN : Hid _ := flatM_news h
  have HL : Hid ((flatM ms).length = len * 2) := by show (flatM ms).length = len * 2; rw [flatM_length, h.len_eq]
  have HM : Hid (len ≤ 4096 ∧ 0 < len) := ⟨hm, h0⟩
  clear h
  go_enter Try.func29, Try.ntmps29
  go_wp2_with (at_builtin; refine wpList_append_lies _ rfl (.tmp 5) (.tmp 6) 54 rfl 0 62 i0 _ 2 32 Try.underlying54 hi0 hz0 hz1 hz2 rfl (by decide) (.slice (some ⟨w.heap.size, 0, none⟩) 0 0) 0 [] rfl (fresh_row w) ⟨b, o, none⟩ len cap (flatM ms) rfl HL.out HN.out (flatM_one ms) HM.out.2 (by have := HM.out.1; unfold maxLen; omega) (by have := HM.out.1; omega) (Nat.zero_le _) _ rfl ?_; intro g2 cap2 w3 hown3 hgrow hat hlt3)
  have HR : Hid _ := hown3
  have HG : Hid _ := hgrow
  have HA : Hid _ := hat
  clear hown3 hgrow hat
  go_wp2_with fail
  go_ret
  have HR2 : w3.ownsRow 0 62 2 (.slice (some ⟨g2, 0, none⟩) len cap2) len (flatM ms) := by
    have h := HR.out
    rw [Nat.zero_add, List.nil_append] at h
    exact h
  have hg : w.heap.size ≤ g2 := by
    rcases HA.out with h | h
    · simp [Value.ownBlock] at h; omega
    · simp at h; omega
  refine ⟨g2, cap2, by simp, held_of_row HR2, hg, ?_⟩
  refine (balloc w (.cells #[] 62)).trans ⟨HG.out.os, HG.out.tape, HG.out.output, HG.out.size, fun k hk => HG.out.block k (by simp; omega) (by simp [Value.ownBlock]; omega)⟩

set_option maxRecDepth 100000 in
set_option maxHeartbeats 1000000 in
theorem ins_nil (w : World) : Calls Try.prog 39 #[.slice none 0 0, .int .i64 0, .int .i64 0, .func (.func 31) #[] #[]] w fun e w' => e = .returned (.tuple #[]) ∧ Below w.heap.size w w' := by
  go_enter Try.func39, Try.ntmps39
  go_wp2_with fail
  go_loopw [8] (fun v wr => v = .int .i64 1 ∧ Below w.heap.size w wr) (fun _ _ => 0)
  case atStart => exact ⟨rfl, Below.refl _ _⟩
  case round =>
    obtain ⟨rfl, hb⟩ := hrel
    go_wp2_with fail
    go_end0
    exact ⟨rfl, hb⟩
set_option maxRecDepth 100000 in
set_option maxHeartbeats 1000000 in
theorem stable_nil (w : World) : Calls Try.prog 36 #[.slice none 0 0, .int .i64 0, .func (.func 31) #[] #[]] w fun e w' => e = .returned (.tuple #[]) ∧ Below w.heap.size w w' := by
  go_enter Try.func36, Try.ntmps36
  go_wp2_with fail
  go_loopw [7, 8] (fun av bv wr => av = .int .i64 0 ∧ bv = .int .i64 20 ∧ Below w.heap.size w wr) (fun _ _ _ => 0)
  case atStart => exact ⟨rfl, rfl, Below.refl _ _⟩
  case round =>
    obtain ⟨rfl, rfl, hb⟩ := hrel
    go_wp2_with fail
    refine (ins_nil _).mono ?_
    rintro e w1 ⟨rfl, hb1⟩
    have hb2 := bt hb hb1 hb.size
    clear hb hb1
    go_wp2_with fail
    go_loopw [6, 7, 8, 9] (fun sv _ _ _ wr => sv = .int .i64 20 ∧ Below w.heap.size w wr) (fun _ _ _ _ _ => 0)
    case atStart => exact ⟨rfl, hb2⟩
    case round =>
      clear hb2
      obtain ⟨rfl, hb⟩ := hrel
      go_wp2_with fail
      go_end0
      exact ⟨rfl, hb⟩
set_option maxRecDepth 100000 in
set_option maxHeartbeats 1000000 in
theorem sort_nil (w : World) : Calls Try.prog 30 #[.slice none 0 0, .func (.func 31) #[] #[]] w fun e w' => e = .returned (.tuple #[]) ∧ Below w.heap.size w w' := by
  go_enter Try.func30, Try.ntmps30
  go_wp2_with fail
  refine (stable_nil _).mono ?_
  rintro e w1 ⟨rfl, hb1⟩
  go_wp2_with fail
  go_end0
  exact ⟨rfl, hb1⟩
set_option maxRecDepth 100000 in
set_option maxHeartbeats 1000000 in
theorem sort_any (g cap : Nat) (L : List Mb) (N : Nat) (w : World) (hH : Held w g L) (hN : L.length = N) (hN2 : N ≤ 4096) :
    Calls Try.prog 30 #[.slice (some ⟨g, 0, none⟩) N cap, .func (.func 31) #[] #[]] w fun e w' => e = .returned (.tuple #[]) ∧ (∃ M, Held w' g M ∧ Srt M ∧ Same L M) ∧ Fr g w w' := by
  have D : Hid _ := stable_any g cap L N w hH hN hN2
  unfold cmpF at D
  clear hH hN
  go_enter Try.func30, Try.ntmps30
  go_wp2_with fail
  refine Calls.mono D.out ?_
  rintro e w1 ⟨rfl, h1, h2⟩
  go_wp2_with fail
  go_end0
  exact ⟨rfl, h1, h2⟩
end Go.Proofs.Qxb6603645a
