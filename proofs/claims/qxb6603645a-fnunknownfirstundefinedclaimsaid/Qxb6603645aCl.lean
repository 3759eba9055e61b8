import Derived.Test.Qxb6603645aGate
namespace Go.Proofs.Qxb6603645a
open Go.RowKit
set_option linter.unusedSimpArgs false
set_option linter.unusedVariables false

/-- A ClaimsIn, cell by cell. -/
structure Cl where
  s0 : ByteArray
  s1 : ByteArray
  a2 : Option Addr
  l2 : Nat
  c2 : Nat
  p3 : Option Addr
  p4 : Option Addr
  p5 : Option Addr
  s6 : ByteArray
  s7 : ByteArray
  a8 : Option Addr
  l8 : Nat
  c8 : Nat
  s9 : ByteArray
  s10 : ByteArray
  a11 : Option Addr
  l11 : Nat
  c11 : Nat
/-- Its cells. -/
def Cl.cs (c : Cl) : Array Value := #[.string c.s0, .string c.s1, .slice c.a2 c.l2 c.c2, .pointer c.p3, .pointer c.p4, .pointer c.p5, .string c.s6, .string c.s7, .slice c.a8 c.l8 c.c8, .string c.s9, .string c.s10, .slice c.a11 c.l11 c.c11]
/-- A float behind a pointer, or no pointer. -/
def FlIn (w : World) (p : Option Addr) : Prop := p = none ∨ ∃ b o k x, p = some ⟨b, o, none⟩ ∧ b < w.heap.size ∧ w.cell? ⟨b, o, none⟩ = some (.float k x)
theorem FlIn.below {w w' : World} {p : Option Addr} (h : FlIn w p) (hb : Below w.heap.size w w') : FlIn w' p := by
  rcases h with h | ⟨b, o, k, x, h1, h2, h3⟩
  · exact .inl h
  · exact .inr ⟨b, o, k, x, h1, Nat.lt_of_lt_of_le h2 hb.size, by rw [hb.cell (by simpa using h2)]; exact h3⟩
/-- A nil slice has no room, and no slice points into the middle of something. -/
def Plain (a : Option Addr) (len cap : Nat) : Prop := (a = none ∧ len = 0 ∧ cap = 0) ∨ ∃ b o, a = some ⟨b, o, none⟩
/-- What a ClaimsIn leads to. -/
structure ClIn (w : World) (c : Cl) (A G : List ByteArray) (ms : List Mb) : Prop where
  aud : StrsIn w c.a2 c.l2 A
  grp : StrsIn w c.a8 c.l8 G
  mem : MbsIn w c.a11 c.l11 ms
  f3 : FlIn w c.p3
  f4 : FlIn w c.p4
  f5 : FlIn w c.p5
  b2 : c.l2 ≤ 9223372036854775807
  b8 : c.l8 ≤ 9223372036854775807
  b11 : c.l11 ≤ 9223372036854775807
  q2 : c.a2 = none → c.l2 = 0 ∧ c.c2 = 0
  q8 : c.a8 = none → c.l8 = 0 ∧ c.c8 = 0
  q11 : c.a11 = none → c.l11 = 0 ∧ c.c11 = 0
theorem ClIn.below {w w' : World} {c : Cl} {A G : List ByteArray} {ms : List Mb} (h : ClIn w c A G ms) (hb : Below w.heap.size w w') : ClIn w' c A G ms :=
  ⟨h.aud.below hb, h.grp.below hb, h.mem.below hb, h.f3.below hb, h.f4.below hb, h.f5.below hb, h.b2, h.b8, h.b11, h.q2, h.q8, h.q11⟩
/-- A block holds these cells. -/
def CellsAt (w : World) (bx : Nat) (cs : Array Value) : Prop := bx < w.heap.size ∧ ∀ i v, cs[i]? = some v → w.cell? ⟨bx, i, none⟩ = some v
theorem CellsAt.below {w w' : World} {bx : Nat} {cs : Array Value} (h : CellsAt w bx cs) (hb : Below w.heap.size w w') : CellsAt w' bx cs :=
  ⟨Nat.lt_of_lt_of_le h.1 hb.size, fun i v hi => by rw [hb.cell (by simpa using h.1)]; exact h.2 i v hi⟩
theorem cellsAt_new (w : World) (cs : Array Value) (t : TypeId) : CellsAt (w.alloc (.cells cs t)) w.heap.size cs :=
  ⟨by simp, fun i v hi => by rw [World.cell?_alloc_at _ _ _ _ rfl]; exact hi⟩
theorem Cl.at {w : World} {bx : Nat} {c : Cl} (h : CellsAt w bx c.cs) :
    w.cell? ⟨bx, 0, none⟩ = some (.string c.s0) ∧ w.cell? ⟨bx, 1, none⟩ = some (.string c.s1) ∧ w.cell? ⟨bx, 2, none⟩ = some (.slice c.a2 c.l2 c.c2) ∧ w.cell? ⟨bx, 3, none⟩ = some (.pointer c.p3) ∧ w.cell? ⟨bx, 4, none⟩ = some (.pointer c.p4) ∧ w.cell? ⟨bx, 5, none⟩ = some (.pointer c.p5) ∧ w.cell? ⟨bx, 6, none⟩ = some (.string c.s6) ∧ w.cell? ⟨bx, 7, none⟩ = some (.string c.s7) ∧ w.cell? ⟨bx, 8, none⟩ = some (.slice c.a8 c.l8 c.c8) ∧ w.cell? ⟨bx, 9, none⟩ = some (.string c.s9) ∧ w.cell? ⟨bx, 10, none⟩ = some (.string c.s10) ∧ w.cell? ⟨bx, 11, none⟩ = some (.slice c.a11 c.l11 c.c11) :=
  ⟨h.2 0 _ rfl, h.2 1 _ rfl, h.2 2 _ rfl, h.2 3 _ rfl, h.2 4 _ rfl, h.2 5 _ rfl, h.2 6 _ rfl, h.2 7 _ rfl, h.2 8 _ rfl, h.2 9 _ rfl, h.2 10 _ rfl, h.2 11 _ rfl⟩

set_option maxRecDepth 100000 in
set_option maxHeartbeats 2000000 in
/-- 'zzClaimsBytes'. -/
theorem claimsBytes_any (c : Cl) (A G : List ByteArray) (ms : List Mb) (w : World) (h : ClIn w c A G ms) :
    Calls Try.prog 14 #[.agg c.cs] w fun e w' => SomeInt e ∧ Below w.heap.size w w' := by
  obtain ⟨w0, hw0⟩ : ∃ w0, w0 = w.alloc (.cells c.cs 33) := ⟨_, rfl⟩
  have hb0 : Below w.heap.size w w0 := by rw [hw0]; exact balloc _ _
  have hC : CellsAt w0 w.heap.size c.cs := by rw [hw0]; exact cellsAt_new _ _ _
  have hI := h.below hb0
  have HW : Hid (w0 = w.alloc (.cells c.cs 33)) := hw0
  have HI : Hid (CellsAt w0 w.heap.size c.cs ∧ ClIn w0 c A G ms) := ⟨hC, hI⟩
  obtain ⟨f0, f1, f2, -, -, -, f6, f7, f8, f9, f10, f11⟩ := Cl.at hC
  clear hw0 h hI hC
  unfold Cl.cs at HW ⊢
  go_enter Try.func14, Try.ntmps14
  go_wp2_with fail
  rw [← HW.out]
  refine (zzAdd_any _ _ _).mono ?_
  rintro e wx1 ⟨⟨z1, rfl⟩, rfl⟩
  go_wp2_with fail
  refine (zzAdd_any _ _ _).mono ?_
  rintro e wx2 ⟨⟨z2, rfl⟩, rfl⟩
  go_wp2_with fail
  refine (zzAdd_any _ _ _).mono ?_
  rintro e wx3 ⟨⟨z3, rfl⟩, rfl⟩
  go_wp2_with fail
  refine (zzAdd_any _ _ _).mono ?_
  rintro e wx4 ⟨⟨z4, rfl⟩, rfl⟩
  go_wp2_with fail
  refine (zzAdd_any _ _ _).mono ?_
  rintro e wx5 ⟨⟨z5, rfl⟩, rfl⟩
  go_wp2_with fail
  refine (stringsBytes_any _ _ _ A _ HI.out.2.aud HI.out.2.b2).mono ?_
  rintro e w1 ⟨⟨y1, rfl⟩, k1⟩
  have HI1 : Hid (CellsAt w1 w.heap.size c.cs ∧ ClIn w1 c A G ms) := ⟨HI.out.1.below k1, HI.out.2.below k1⟩
  have hb1 := bt hb0 k1 hb0.size
  clear f0 f1 f2 f6 f7 f8 f9 f10 f11 k1 hb0
  obtain ⟨-, -, -, -, -, -, -, -, f8, -, -, -⟩ := Cl.at HI1.out.1
  go_wp2_with fail
  refine (zzAdd_any _ _ _).mono ?_
  rintro e wx6 ⟨⟨z6, rfl⟩, rfl⟩
  go_wp2_with fail
  refine (stringsBytes_any _ _ _ G _ HI1.out.2.grp HI1.out.2.b8).mono ?_
  rintro e w2 ⟨⟨y2, rfl⟩, k2⟩
  have HI2 : Hid (CellsAt w2 w.heap.size c.cs ∧ ClIn w2 c A G ms) := ⟨HI1.out.1.below k2, HI1.out.2.below k2⟩
  have hb2 := bt hb1 k2 hb1.size
  clear f8 k2 hb1
  obtain ⟨-, -, -, -, -, -, -, -, -, -, -, f11⟩ := Cl.at HI2.out.1
  go_wp2_with fail
  refine (zzAdd_any _ _ _).mono ?_
  rintro e wx7 ⟨⟨z7, rfl⟩, rfl⟩
  go_wp2_with fail
  refine (membersBytes_any _ _ _ ms _ HI2.out.2.mem HI2.out.2.b11).mono ?_
  rintro e w3 ⟨⟨y3, rfl⟩, k3⟩
  have hb3 := bt hb2 k3 hb2.size
  clear f11 k3 hb2
  go_wp2_with fail
  refine (zzAdd_any _ _ _).mono ?_
  rintro e wx8 ⟨⟨z8, rfl⟩, rfl⟩
  go_wp2_with fail
  go_ret
  exact ⟨⟨_, rfl⟩, hb3⟩
end Go.Proofs.Qxb6603645a
