import Derived.Test.Qxb6603645aRow
namespace Go.Proofs.Qxb6603645a
open Go.RowKit
set_option linter.unusedSimpArgs false
set_option linter.unusedVariables false

theorem row_set {w : World} {g : Nat} {e : TypeId} {cap : Nat} {xs : List Value} (h : Row w g e cap xs) {i : Nat} (hi : i < xs.length) (v : Value) : Row (w.setCell ⟨g, i, none⟩ v) g e cap (xs.set i v) := by
  obtain ⟨r, h1, h2⟩ := h
  refine ⟨r, ?_, ?_⟩
  · rw [setCell_eq_setRow w g i _ _ _ v h1, setRow_heap w g _ _ _ _ h1]
    simp [List.set_append_left _ _ hi]
  · simp at h2 ⊢; omega
theorem row_new (w : World) (cs : Array Value) (e : TypeId) : Row (w.alloc (.cells cs e)) w.heap.size e cs.size cs.toList := ⟨[], by rw [heap_new]; simp, by simp⟩

def zero33 : Array Value := #[.string ⟨#[]⟩, .string ⟨#[]⟩, .slice none 0 0, .pointer none, .pointer none, .pointer none, .string ⟨#[]⟩, .string ⟨#[]⟩, .slice none 0 0, .string ⟨#[]⟩, .string ⟨#[]⟩, .slice none 0 0]

/-- From world to world the blocks from 'lo' on stay as they are. -/
structure Hi (lo : Nat) (w w' : World) : Prop where
  size : w.heap.size ≤ w'.heap.size
  block : ∀ k, lo ≤ k → k < w.heap.size → w'.heap[k]? = w.heap[k]?
theorem Hi.refl (lo : Nat) (w : World) : Hi lo w w := ⟨Nat.le_refl _, fun _ _ _ => rfl⟩
theorem Hi.of_below {lo : Nat} {w w' : World} (h : Below w.heap.size w w') : Hi lo w w' := ⟨h.size, fun k _ hk => h.block k hk⟩
theorem Hi.of_touch {lo g : Nat} {w w' : World} (h : Touch g w w') (hg : g < lo) : Hi lo w w' := ⟨Nat.le_of_eq h.size.symm, fun k hk _ => h.block k (by omega)⟩
theorem Hi.trans {lo : Nat} {a b c : World} (h : Hi lo a b) (k : Hi lo b c) : Hi lo a c := ⟨Nat.le_trans h.size k.size, fun i h1 h2 => (k.block i h1 (Nat.lt_of_lt_of_le h2 h.size)).trans (h.block i h1 h2)⟩
theorem cell_of_block {w w' : World} {b o : Nat} (h : w'.heap[b]? = w.heap[b]?) : w'.cell? ⟨b, o, none⟩ = w.cell? ⟨b, o, none⟩ := World.cell?_of_block h
theorem StrsIn.hi {lo : Nat} {w w' : World} {a : Option Addr} {len : Nat} {ss : List ByteArray} (h : StrsIn w a len ss) (hl : ∀ x, a = some x → lo ≤ x.block) (hh : Hi lo w w') : StrsIn w' a len ss := ⟨h.len_eq, fun hp => by
  obtain ⟨b, o, rfl, h1, h2⟩ := h.isAt hp
  exact ⟨b, o, rfl, Nat.lt_of_lt_of_le h1 hh.size, fun i s hs => by rw [cell_of_block (hh.block b (hl _ rfl) h1)]; exact h2 i s hs⟩⟩
theorem MbsIn.hi {lo : Nat} {w w' : World} {a : Option Addr} {len : Nat} {ms : List Mb} (h : MbsIn w a len ms) (hl : ∀ x, a = some x → lo ≤ x.block) (hh : Hi lo w w') : MbsIn w' a len ms := ⟨h.len_eq, fun hp => by
  obtain ⟨b, o, rfl, h1, h2⟩ := h.isAt hp
  exact ⟨b, o, rfl, Nat.lt_of_lt_of_le h1 hh.size, fun i s hs => by rw [cell_of_block (hh.block b (hl _ rfl) h1), cell_of_block (hh.block b (hl _ rfl) h1)]; exact h2 i s hs⟩⟩
theorem FlIn.hi {lo : Nat} {w w' : World} {p : Option Addr} (h : FlIn w p) (hl : ∀ x, p = some x → lo ≤ x.block) (hh : Hi lo w w') : FlIn w' p := by
  rcases h with h | ⟨b, o, k, x, rfl, h2, h3⟩
  · exact .inl h
  · exact .inr ⟨b, o, k, x, rfl, Nat.lt_of_lt_of_le h2 hh.size, by rw [cell_of_block (hh.block b (hl _ rfl) h2)]; exact h3⟩
/-- It all lies in blocks from 'lo' on. -/
structure Fresh (lo : Nat) (c : Cl) : Prop where
  a2 : ∀ x, c.a2 = some x → lo ≤ x.block
  a8 : ∀ x, c.a8 = some x → lo ≤ x.block
  a11 : ∀ x, c.a11 = some x → lo ≤ x.block
  p3 : ∀ x, c.p3 = some x → lo ≤ x.block
  p4 : ∀ x, c.p4 = some x → lo ≤ x.block
  p5 : ∀ x, c.p5 = some x → lo ≤ x.block
theorem ClIn.hi {lo : Nat} {w w' : World} {c : Cl} {A G : List ByteArray} {ms : List Mb} (h : ClIn w c A G ms) (hf : Fresh lo c) (hh : Hi lo w w') : ClIn w' c A G ms :=
  ⟨h.aud.hi hf.a2 hh, h.grp.hi hf.a8 hh, h.mem.hi hf.a11 hh, h.f3.hi hf.p3 hh, h.f4.hi hf.p4 hh, h.f5.hi hf.p5 hh, h.b2, h.b8, h.b11, h.q2, h.q8, h.q11⟩

/-- The three blocks of 'zzCloneClaimsIn'. -/
structure Three (w : World) (c c' : Cl) (W : World) : Prop where
  r0 : Row W w.heap.size 33 12 c.cs.toList
  r1 : Row W (w.heap.size + 1) 33 12 zero33.toList
  r2 : Row W (w.heap.size + 1 + 1) 33 12 c'.cs.toList
  bel : Below w.heap.size w W
theorem Three.below {w W W' : World} {c c' : Cl} (h : Three w c c' W) (hb : Below W.heap.size W W') : Three w c c' W' :=
  ⟨h.r0.below hb h.r0.lt, h.r1.below hb h.r1.lt, h.r2.below hb h.r2.lt, bt h.bel hb h.bel.size⟩
theorem Three.put {w W : World} {c c' c2 : Cl} (h : Three w c c' W) {i : Nat} {v : Value} (hi : i < 12) (hc : c2.cs.toList = c'.cs.toList.set i v) : Three w c c2 (W.setCell ⟨w.heap.size + 1 + 1, i, none⟩ v) :=
  ⟨h.r0.touch (Touch.setCell _ _ _ _) (by omega), h.r1.touch (Touch.setCell _ _ _ _) (by omega), by rw [hc]; exact row_set h.r2 (by simpa [Cl.cs] using hi) v, h.bel.trans ((Touch.setCell _ _ _ _).below (by omega))⟩
theorem Three.start (w : World) (c : Cl) : Three w c c (((w.alloc (.cells c.cs 33)).alloc (.cells zero33 33)).alloc (.cells c.cs 33)) := by
  have s0 : (w.alloc (.cells c.cs 33)).heap.size = w.heap.size + 1 := by simp
  have s1 : ((w.alloc (.cells c.cs 33)).alloc (.cells zero33 33)).heap.size = w.heap.size + 1 + 1 := by simp
  have r0 : Row (w.alloc (.cells c.cs 33)) w.heap.size 33 12 c.cs.toList := row_new w c.cs 33
  have r1 := row_new (w.alloc (.cells c.cs 33)) zero33 33
  have r2 := row_new ((w.alloc (.cells c.cs 33)).alloc (.cells zero33 33)) c.cs 33
  rw [s0] at r1
  rw [s1] at r2
  have b1 : Below (w.heap.size + 1) (w.alloc (.cells c.cs 33)) ((w.alloc (.cells c.cs 33)).alloc (.cells zero33 33)) := by have := balloc (w.alloc (.cells c.cs 33)) (.cells zero33 33); rwa [s0] at this
  have b2 : Below (w.heap.size + 1 + 1) ((w.alloc (.cells c.cs 33)).alloc (.cells zero33 33)) (((w.alloc (.cells c.cs 33)).alloc (.cells zero33 33)).alloc (.cells c.cs 33)) := by have := balloc ((w.alloc (.cells c.cs 33)).alloc (.cells zero33 33)) (.cells c.cs 33); rwa [s1] at this
  exact ⟨(r0.below b1 (by omega)).below b2 (by omega), r1.below b2 (by omega), r2, bt (bt (balloc _ _) b1 (by omega)) b2 (by omega)⟩

/-- A deep copy came out. -/
def ClOut (lo : Nat) (c : Cl) (A G : List ByteArray) (ms : List Mb) (e : Ending) (w' : World) : Prop := ∃ c' : Cl, e = .returned (.agg c'.cs) ∧ ClIn w' c' A G ms ∧ Fresh lo c' ∧ c'.l2 = c.l2 ∧ c'.l8 = c.l8 ∧ c'.l11 = c.l11
theorem Touch.refl (g : Nat) (w : World) : Touch g w w := ⟨rfl, rfl, rfl, rfl, fun _ _ => rfl⟩
theorem Touch.setCells (g : Nat) : ∀ (vs : List Value) (o : Nat) (w : World), Touch g w (w.setCells g o vs)
  | [], _, w => Touch.refl g w
  | v :: r, o, w => (Touch.setCell w g o v).trans (Touch.setCells g r (o + 1) _)
/-- All twelve cells are written. -/
theorem full_store {w w' : World} {g : Nat} {xs : List Value} (h : Row w g 33 12 xs) (vs : List Value) (hl : vs.length = 12) (hw : w' = w.setCells g 0 vs := by rfl) : Row w' g 33 12 vs ∧ Touch g w w' := by
  subst hw
  obtain ⟨r, h1, h2⟩ := h.nil
  simp only [List.nil_append] at h2
  refine ⟨⟨[], ?_, by simp [hl]⟩, Touch.setCells g vs 0 w⟩
  have := heap_setCells g vs [] r w h1 (by omega)
  rw [List.drop_eq_nil_of_le (by omega)] at this
  simpa using this
theorem Row.at33 {w : World} {g : Nat} {c : Cl} (h : Row w g 33 12 c.cs.toList) :
    w.cell? ⟨g, 0, none⟩ = some (.string c.s0) ∧ w.cell? ⟨g, 1, none⟩ = some (.string c.s1) ∧ w.cell? ⟨g, 2, none⟩ = some (.slice c.a2 c.l2 c.c2) ∧ w.cell? ⟨g, 3, none⟩ = some (.pointer c.p3) ∧ w.cell? ⟨g, 4, none⟩ = some (.pointer c.p4) ∧ w.cell? ⟨g, 5, none⟩ = some (.pointer c.p5) ∧ w.cell? ⟨g, 6, none⟩ = some (.string c.s6) ∧ w.cell? ⟨g, 7, none⟩ = some (.string c.s7) ∧ w.cell? ⟨g, 8, none⟩ = some (.slice c.a8 c.l8 c.c8) ∧ w.cell? ⟨g, 9, none⟩ = some (.string c.s9) ∧ w.cell? ⟨g, 10, none⟩ = some (.string c.s10) ∧ w.cell? ⟨g, 11, none⟩ = some (.slice c.a11 c.l11 c.c11) :=
  ⟨h.cell 0 _ rfl, h.cell 1 _ rfl, h.cell 2 _ rfl, h.cell 3 _ rfl, h.cell 4 _ rfl, h.cell 5 _ rfl, h.cell 6 _ rfl, h.cell 7 _ rfl, h.cell 8 _ rfl, h.cell 9 _ rfl, h.cell 10 _ rfl, h.cell 11 _ rfl⟩

set_option maxRecDepth 100000 in
set_option maxHeartbeats 4000000 in
/-- 'zzCloneClaimsIn'. -/
theorem cloneClaims_any (c : Cl) (A G : List ByteArray) (ms : List Mb) (w : World) (h : ClIn w c A G ms) (m2 : c.l2 ≤ 1048576) (m8 : c.l8 ≤ 1048576) (m11 : c.l11 ≤ 1048576) :
    Calls Try.prog 16 #[.agg c.cs] w fun e w' => ClOut w.heap.size c A G ms e w' ∧ Below w.heap.size w w' := by
  obtain ⟨W0, hW0⟩ : ∃ W0, W0 = ((w.alloc (.cells c.cs 33)).alloc (.cells zero33 33)).alloc (.cells c.cs 33) := ⟨_, rfl⟩
  have T0 : Three w c c W0 := by rw [hW0]; exact Three.start w c
  have HW : Hid (W0 = ((w.alloc (.cells c.cs 33)).alloc (.cells zero33 33)).alloc (.cells c.cs 33)) := hW0
  clear hW0
  unfold Cl.cs zero33 at HW
  unfold Cl.cs
  go_enter Try.func16, Try.ntmps16
  go_wp2_with fail
  rw [← HW.out]
  clear HW
  refine (cloneStrings_any c.a2 c.l2 c.c2 A W0 (h.aud.below T0.bel) m2 h.q2).mono ?_
  rintro e w1 ⟨⟨a2', c2', rfl, s2, q2, fr2⟩, k1⟩
  have U1 := T0.below k1
  have T1 : Three w c ⟨c.s0, c.s1, a2', c.l2, c2', c.p3, c.p4, c.p5, c.s6, c.s7, c.a8, c.l8, c.c8, c.s9, c.s10, c.a11, c.l11, c.c11⟩ (w1.setCell ⟨w.heap.size + 1 + 1, 2, none⟩ (.slice a2' c.l2 c2')) := U1.put (by omega) rfl
  obtain ⟨v1, g1⟩ := U1.r2.old 2 (by omega)
  have e1 := U1.r2.free 2
  have HT1 : Hid (Touch (w.heap.size + 1 + 1) w1 (w1.setCell ⟨w.heap.size + 1 + 1, 2, none⟩ (.slice a2' c.l2 c2'))) := Touch.setCell _ _ _ _
  have n1 := T1.r0.cell 8 (.slice c.a8 c.l8 c.c8) rfl
  have n1' := U1.r0.cell 8 (.slice c.a8 c.l8 c.c8) rfl
  go_wp2_with fail
  clear g1 e1 n1 n1'
  generalize w1.setCell ⟨w.heap.size + 1 + 1, 2, none⟩ (.slice a2' c.l2 c2') = W1 at T1 HT1 ⊢
  refine (cloneStrings_any c.a8 c.l8 c.c8 G W1 (h.grp.below T1.bel) m8 h.q8).mono ?_
  rintro e w2 ⟨⟨a8', c8', rfl, s8, q8, fr8⟩, k2⟩
  have U2 := T1.below k2
  have T2 : Three w c ⟨c.s0, c.s1, a2', c.l2, c2', c.p3, c.p4, c.p5, c.s6, c.s7, a8', c.l8, c8', c.s9, c.s10, c.a11, c.l11, c.c11⟩ (w2.setCell ⟨w.heap.size + 1 + 1, 8, none⟩ (.slice a8' c.l8 c8')) := U2.put (by omega) rfl
  obtain ⟨v2, g2⟩ := U2.r2.old 8 (by omega)
  have e2 := U2.r2.free 8
  have HT2 : Hid (Touch (w.heap.size + 1 + 1) w2 (w2.setCell ⟨w.heap.size + 1 + 1, 8, none⟩ (.slice a8' c.l8 c8'))) := Touch.setCell _ _ _ _
  have n2 := T2.r0.cell 3 (.pointer c.p3) rfl
  have n2' := U2.r0.cell 3 (.pointer c.p3) rfl
  go_wp2_with fail
  clear g2 e2 n2 n2'
  generalize w2.setCell ⟨w.heap.size + 1 + 1, 8, none⟩ (.slice a8' c.l8 c8') = W2 at T2 HT2 ⊢
  refine (cloneFloat_any c.p3 W2 (h.f3.below T2.bel)).mono ?_
  rintro e w3 ⟨⟨p3', rfl, s3, fr3⟩, k3⟩
  have U3 := T2.below k3
  have T3 : Three w c ⟨c.s0, c.s1, a2', c.l2, c2', p3', c.p4, c.p5, c.s6, c.s7, a8', c.l8, c8', c.s9, c.s10, c.a11, c.l11, c.c11⟩ (w3.setCell ⟨w.heap.size + 1 + 1, 3, none⟩ (.pointer p3')) := U3.put (by omega) rfl
  obtain ⟨v3, g3⟩ := U3.r2.old 3 (by omega)
  have e3 := U3.r2.free 3
  have HT3 : Hid (Touch (w.heap.size + 1 + 1) w3 (w3.setCell ⟨w.heap.size + 1 + 1, 3, none⟩ (.pointer p3'))) := Touch.setCell _ _ _ _
  have n3 := T3.r0.cell 4 (.pointer c.p4) rfl
  have n3' := U3.r0.cell 4 (.pointer c.p4) rfl
  go_wp2_with fail
  clear g3 e3 n3 n3'
  generalize w3.setCell ⟨w.heap.size + 1 + 1, 3, none⟩ (.pointer p3') = W3 at T3 HT3 ⊢
  refine (cloneFloat_any c.p4 W3 (h.f4.below T3.bel)).mono ?_
  rintro e w4 ⟨⟨p4', rfl, s4, fr4⟩, k4⟩
  have U4 := T3.below k4
  have T4 : Three w c ⟨c.s0, c.s1, a2', c.l2, c2', p3', p4', c.p5, c.s6, c.s7, a8', c.l8, c8', c.s9, c.s10, c.a11, c.l11, c.c11⟩ (w4.setCell ⟨w.heap.size + 1 + 1, 4, none⟩ (.pointer p4')) := U4.put (by omega) rfl
  obtain ⟨v4, g4⟩ := U4.r2.old 4 (by omega)
  have e4 := U4.r2.free 4
  have HT4 : Hid (Touch (w.heap.size + 1 + 1) w4 (w4.setCell ⟨w.heap.size + 1 + 1, 4, none⟩ (.pointer p4'))) := Touch.setCell _ _ _ _
  have n4 := T4.r0.cell 5 (.pointer c.p5) rfl
  have n4' := U4.r0.cell 5 (.pointer c.p5) rfl
  go_wp2_with fail
  clear g4 e4 n4 n4'
  generalize w4.setCell ⟨w.heap.size + 1 + 1, 4, none⟩ (.pointer p4') = W4 at T4 HT4 ⊢
  refine (cloneFloat_any c.p5 W4 (h.f5.below T4.bel)).mono ?_
  rintro e w5 ⟨⟨p5', rfl, s5, fr5⟩, k5⟩
  have U5 := T4.below k5
  have T5 : Three w c ⟨c.s0, c.s1, a2', c.l2, c2', p3', p4', p5', c.s6, c.s7, a8', c.l8, c8', c.s9, c.s10, c.a11, c.l11, c.c11⟩ (w5.setCell ⟨w.heap.size + 1 + 1, 5, none⟩ (.pointer p5')) := U5.put (by omega) rfl
  obtain ⟨v5, g5⟩ := U5.r2.old 5 (by omega)
  have e5 := U5.r2.free 5
  have HT5 : Hid (Touch (w.heap.size + 1 + 1) w5 (w5.setCell ⟨w.heap.size + 1 + 1, 5, none⟩ (.pointer p5'))) := Touch.setCell _ _ _ _
  have n5 := T5.r0.cell 11 (.slice c.a11 c.l11 c.c11) rfl
  have n5' := U5.r0.cell 11 (.slice c.a11 c.l11 c.c11) rfl
  go_wp2_with fail
  clear g5 e5 n5 n5'
  generalize w5.setCell ⟨w.heap.size + 1 + 1, 5, none⟩ (.pointer p5') = W5 at T5 HT5 ⊢
  refine (cloneMembers_any c.a11 c.l11 c.c11 ms W5 (h.mem.below T5.bel) m11 h.q11).mono ?_
  rintro e w6 ⟨⟨a11', c11', rfl, s11, q11, fr11⟩, k6⟩
  have U6 := T5.below k6
  have T6 : Three w c ⟨c.s0, c.s1, a2', c.l2, c2', p3', p4', p5', c.s6, c.s7, a8', c.l8, c8', c.s9, c.s10, a11', c.l11, c11'⟩ (w6.setCell ⟨w.heap.size + 1 + 1, 11, none⟩ (.slice a11' c.l11 c11')) := U6.put (by omega) rfl
  obtain ⟨v6, g6⟩ := U6.r2.old 11 (by omega)
  have e6 := U6.r2.free 11
  have HT6 : Hid (Touch (w.heap.size + 1 + 1) w6 (w6.setCell ⟨w.heap.size + 1 + 1, 11, none⟩ (.slice a11' c.l11 c11'))) := Touch.setCell _ _ _ _
  obtain ⟨x0, x1, x2, x3, x4, x5, x6, x7, x8, x9, x10, x11⟩ := T6.r2.at33
  obtain ⟨o0, b0⟩ := T6.r1.old 0 (by omega)
  have d0 := T6.r1.free 0
  obtain ⟨o1, b1⟩ := T6.r1.old 1 (by omega)
  have d1 := T6.r1.free 1
  obtain ⟨o2, b2⟩ := T6.r1.old 2 (by omega)
  have d2 := T6.r1.free 2
  obtain ⟨o3, b3⟩ := T6.r1.old 3 (by omega)
  have d3 := T6.r1.free 3
  obtain ⟨o4, b4⟩ := T6.r1.old 4 (by omega)
  have d4 := T6.r1.free 4
  obtain ⟨o5, b5⟩ := T6.r1.old 5 (by omega)
  have d5 := T6.r1.free 5
  obtain ⟨o6, b6⟩ := T6.r1.old 6 (by omega)
  have d6 := T6.r1.free 6
  obtain ⟨o7, b7⟩ := T6.r1.old 7 (by omega)
  have d7 := T6.r1.free 7
  obtain ⟨o8, b8⟩ := T6.r1.old 8 (by omega)
  have d8 := T6.r1.free 8
  obtain ⟨o9, b9⟩ := T6.r1.old 9 (by omega)
  have d9 := T6.r1.free 9
  obtain ⟨o10, b10⟩ := T6.r1.old 10 (by omega)
  have d10 := T6.r1.free 10
  obtain ⟨o11, b11⟩ := T6.r1.old 11 (by omega)
  have d11 := T6.r1.free 11
  go_wp2_with fail
  clear g6 e6 x0 x1 x2 x3 x4 x5 x6 x7 x8 x9 x10 x11 b0 d0 b1 d1 b2 d2 b3 d3 b4 d4 b5 d5 b6 d6 b7 d7 b8 d8 b9 d9 b10 d10 b11 d11
  generalize w6.setCell ⟨w.heap.size + 1 + 1, 11, none⟩ (.slice a11' c.l11 c11') = W6 at T6 HT6 ⊢
  have hF : Row ((((((((((((W6.setCell ⟨w.heap.size + 1, 0, none⟩ (.string c.s0)).setCell ⟨w.heap.size + 1, 1, none⟩ (.string c.s1)).setCell ⟨w.heap.size + 1, 2, none⟩ (.slice a2' c.l2 c2')).setCell ⟨w.heap.size + 1, 3, none⟩ (.pointer p3')).setCell ⟨w.heap.size + 1, 4, none⟩ (.pointer p4')).setCell ⟨w.heap.size + 1, 5, none⟩ (.pointer p5')).setCell ⟨w.heap.size + 1, 6, none⟩ (.string c.s6)).setCell ⟨w.heap.size + 1, 7, none⟩ (.string c.s7)).setCell ⟨w.heap.size + 1, 8, none⟩ (.slice a8' c.l8 c8')).setCell ⟨w.heap.size + 1, 9, none⟩ (.string c.s9)).setCell ⟨w.heap.size + 1, 10, none⟩ (.string c.s10)).setCell ⟨w.heap.size + 1, 11, none⟩ (.slice a11' c.l11 c11')) (w.heap.size + 1) 33 12 (Cl.cs ⟨c.s0, c.s1, a2', c.l2, c2', p3', p4', p5', c.s6, c.s7, a8', c.l8, c8', c.s9, c.s10, a11', c.l11, c11'⟩).toList ∧ Touch (w.heap.size + 1) W6 ((((((((((((W6.setCell ⟨w.heap.size + 1, 0, none⟩ (.string c.s0)).setCell ⟨w.heap.size + 1, 1, none⟩ (.string c.s1)).setCell ⟨w.heap.size + 1, 2, none⟩ (.slice a2' c.l2 c2')).setCell ⟨w.heap.size + 1, 3, none⟩ (.pointer p3')).setCell ⟨w.heap.size + 1, 4, none⟩ (.pointer p4')).setCell ⟨w.heap.size + 1, 5, none⟩ (.pointer p5')).setCell ⟨w.heap.size + 1, 6, none⟩ (.string c.s6)).setCell ⟨w.heap.size + 1, 7, none⟩ (.string c.s7)).setCell ⟨w.heap.size + 1, 8, none⟩ (.slice a8' c.l8 c8')).setCell ⟨w.heap.size + 1, 9, none⟩ (.string c.s9)).setCell ⟨w.heap.size + 1, 10, none⟩ (.string c.s10)).setCell ⟨w.heap.size + 1, 11, none⟩ (.slice a11' c.l11 c11')) := full_store T6.r1 _ rfl
  generalize ((((((((((((W6.setCell ⟨w.heap.size + 1, 0, none⟩ (.string c.s0)).setCell ⟨w.heap.size + 1, 1, none⟩ (.string c.s1)).setCell ⟨w.heap.size + 1, 2, none⟩ (.slice a2' c.l2 c2')).setCell ⟨w.heap.size + 1, 3, none⟩ (.pointer p3')).setCell ⟨w.heap.size + 1, 4, none⟩ (.pointer p4')).setCell ⟨w.heap.size + 1, 5, none⟩ (.pointer p5')).setCell ⟨w.heap.size + 1, 6, none⟩ (.string c.s6)).setCell ⟨w.heap.size + 1, 7, none⟩ (.string c.s7)).setCell ⟨w.heap.size + 1, 8, none⟩ (.slice a8' c.l8 c8')).setCell ⟨w.heap.size + 1, 9, none⟩ (.string c.s9)).setCell ⟨w.heap.size + 1, 10, none⟩ (.string c.s10)).setCell ⟨w.heap.size + 1, 11, none⟩ (.slice a11' c.l11 c11')) = WF at hF ⊢
  obtain ⟨y0, y1, y2, y3, y4, y5, y6, y7, y8, y9, y10, y11⟩ := hF.1.at33
  have E : ∀ {lo : Nat} {a b : World}, Below a.heap.size a b → Hi lo a b := Hi.of_below
  have lo0 := T0.r2.lt
  have lo1 := T1.r2.lt
  have lo2 := T2.r2.lt
  have lo3 := T3.r2.lt
  have lo4 := T4.r2.lt
  have lo5 := T5.r2.lt
  have t1 : Hi (w.heap.size + 3) w1 W1 := Hi.of_touch HT1.out (by omega)
  have t2 : Hi (w.heap.size + 3) w2 W2 := Hi.of_touch HT2.out (by omega)
  have t3 : Hi (w.heap.size + 3) w3 W3 := Hi.of_touch HT3.out (by omega)
  have t4 : Hi (w.heap.size + 3) w4 W4 := Hi.of_touch HT4.out (by omega)
  have t5 : Hi (w.heap.size + 3) w5 W5 := Hi.of_touch HT5.out (by omega)
  have t6 : Hi (w.heap.size + 3) w6 WF := (Hi.of_touch HT6.out (by omega)).trans (Hi.of_touch hF.2 (by omega))
  have u5 : Hi (w.heap.size + 3) w5 WF := t5.trans ((E k6).trans t6)
  have u4 : Hi (w.heap.size + 3) w4 WF := t4.trans ((E k5).trans u5)
  have u3 : Hi (w.heap.size + 3) w3 WF := t3.trans ((E k4).trans u4)
  have u2 : Hi (w.heap.size + 3) w2 WF := t2.trans ((E k3).trans u3)
  have u1 : Hi (w.heap.size + 3) w1 WF := t1.trans ((E k2).trans u2)
  have z2 : ∀ x, a2' = some x → w.heap.size + 3 ≤ x.block := fun x hx => Nat.le_trans (by omega) (fr2 x hx)
  have z8 : ∀ x, a8' = some x → w.heap.size + 3 ≤ x.block := fun x hx => Nat.le_trans (by omega) (fr8 x hx)
  have z3 : ∀ x, p3' = some x → w.heap.size + 3 ≤ x.block := fun x hx => Nat.le_trans (by omega) (fr3 x hx)
  have z4 : ∀ x, p4' = some x → w.heap.size + 3 ≤ x.block := fun x hx => Nat.le_trans (by omega) (fr4 x hx)
  have z5 : ∀ x, p5' = some x → w.heap.size + 3 ≤ x.block := fun x hx => Nat.le_trans (by omega) (fr5 x hx)
  have z11 : ∀ x, a11' = some x → w.heap.size + 3 ≤ x.block := fun x hx => by obtain ⟨g, rfl, hg⟩ := fr11 x hx; exact Nat.le_trans (by omega) hg
  refine bodyPost_ret (v := .agg (Cl.cs ⟨c.s0, c.s1, a2', c.l2, c2', p3', p4', p5', c.s6, c.s7, a8', c.l8, c8', c.s9, c.s10, a11', c.l11, c11'⟩)) (by simp [results, Try.results16, go_sem, y0, y1, y2, y3, y4, y5, y6, y7, y8, y9, y10, y11, Cl.cs]) rfl ⟨⟨⟨c.s0, c.s1, a2', c.l2, c2', p3', p4', p5', c.s6, c.s7, a8', c.l8, c8', c.s9, c.s10, a11', c.l11, c11'⟩, rfl, ?_, ?_, rfl, rfl, rfl⟩, ?_⟩
  · exact ⟨s2.hi z2 u1, s8.hi z8 u2, s11.hi z11 t6, s3.hi z3 u3, s4.hi z4 u4, s5.hi z5 u5, h.b2, h.b8, h.b11, q2, q8, q11⟩
  · exact ⟨fun x hx => Nat.le_trans (by omega) (z2 x hx), fun x hx => Nat.le_trans (by omega) (z8 x hx), fun x hx => Nat.le_trans (by omega) (z11 x hx), fun x hx => Nat.le_trans (by omega) (z3 x hx), fun x hx => Nat.le_trans (by omega) (z4 x hx), fun x hx => Nat.le_trans (by omega) (z5 x hx)⟩
  · exact T6.bel.trans (hF.2.below (by omega))
end Go.Proofs.Qxb6603645a
