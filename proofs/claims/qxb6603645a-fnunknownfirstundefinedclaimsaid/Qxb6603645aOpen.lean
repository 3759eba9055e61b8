import Derived.Test.Qxb6603645aCl
import Derived.Deep.SlicePairs
import Derived.Deep.Strs
import Derived.ProofKit
import Derived.OpenShut
import Derived.ShutString
import Derived.ChangeOld
namespace Go.Proofs.Qxb6603645a
open Go.ChangeShapes Go.WideShapes Go.ChangeAt Go.RowKit Go.Deep
set_option linter.unusedSimpArgs false
set_option linter.unusedVariables false

theorem plain_addr {w : World} {a : Addr} {v : Value} (h : w.cell? (a.add 0) = some v) : ∃ b o, a = ⟨b, o, none⟩ ∧ b < w.heap.size := by
  obtain ⟨b, o, spot⟩ := a
  have hs : spot = none := by simpa [Addr.add] using World.cell?_spot h
  subst hs
  refine ⟨b, o, rfl, ?_⟩
  rcases Nat.lt_or_ge b w.heap.size with hlt | hge
  · exact hlt
  · simp [Addr.add, World.cell?, Array.getElem?_eq_none hge] at h
theorem one {cs : List Value} (h : cs.length = 1) : ∃ a, cs = [a] := by
  match cs, h with
  | [a], _ => exact ⟨a, rfl⟩

section
variable {H : Type} {enc : TypeId × Value → H} {w : World} {held : Bool} {spare : Nat → Bool}

theorem trod_float {k : FloatKind} {t : TypeId} {fuel : Nat} {cs : List Value} {x : DataW H × List MemPlace} (ht : Try.prog.underlying t = some (.float k)) (h : DataW.trod enc Try.prog w 0 spare held fuel t cs = some x) : ∃ n, cs = [.float k n] := by
  cases fuel with
  | zero => simp [DataW.trod] at h
  | succ n =>
    unfold DataW.trod at h
    rw [ht] at h
    split at h <;> simp_all

/-- A slice of strings that came in. -/
theorem open_ss {fuel : Nat} {v : Value} {x : DataW H × List MemPlace} (h : DataW.trod enc Try.prog w 0 spare held fuel 29 [v] = some x) :
    ∃ a len cap ss, v = .slice a len cap ∧ StrsIn w a len ss ∧ len ≤ 9223372036854775807 ∧ (a = none → len = 0 ∧ cap = 0) := by
  rcases open_slice Try.underlying29 h with ⟨h0, _⟩ | ⟨a, len, cap, m, n, D, Pl, h0, _, hl, hm, hmm, _, hx⟩
  · simp at h0
    exact ⟨none, 0, 0, [], h0, StrsIn.nil _ _, by omega, fun _ => ⟨rfl, rfl⟩⟩
  · simp at h0
    have hlm : len ≤ m := by rw [hmm]; split <;> omega
    have each : ∀ i, i < len → ∃ s : ByteArray, w.cell? (a.add i) = some (.string s) := by
      intro i hi
      obtain ⟨cs, h1, h2⟩ := hx i (by omega)
      rw [show Try.prog.cellsOf 9 = 1 by kernel_rfl, Nat.mul_one] at h1
      obtain ⟨_, hlen, hcell⟩ := World.cells?_some h1
      obtain ⟨v0, rfl⟩ := one hlen
      obtain ⟨s, e, _⟩ := DataW.trod_string Try.underlying9 h2
      have q0 := hcell 0 (by simp)
      rw [add_add] at q0
      simp at e
      subst e
      exact ⟨s, by simpa using q0⟩
    obtain ⟨t, ht⟩ := choose_lt each
    refine ⟨some a, len, cap, (List.range len).map t, h0, ⟨by simp, fun hp => ?_⟩, by unfold maxLen at hm; omega, fun h => by cases h⟩
    obtain ⟨b, o, rfl, hb⟩ := plain_addr (ht 0 hp)
    refine ⟨b, o, rfl, hb, fun i y hy => ?_⟩
    rw [List.getElem?_map] at hy
    obtain ⟨j, hj, rfl⟩ := Option.map_eq_some_iff.1 hy
    obtain ⟨hj1, hj2⟩ := List.getElem?_eq_some_iff.1 hj
    simp at hj1 hj2
    subst hj2
    have := ht i hj1
    rw [add_plain] at this
    exact this

/-- A slice of members that came in. -/
theorem open_ms {fuel : Nat} {v : Value} {x : DataW H × List MemPlace} (h : DataW.trod enc Try.prog w 0 spare held fuel 31 [v] = some x) :
    ∃ a len cap ms, v = .slice a len cap ∧ MbsIn w a len ms ∧ len ≤ 9223372036854775807 ∧ (a = none → len = 0 ∧ cap = 0) := by
  rcases open_slice_pairs Try.underlying31 Try.underlying46 (by kernel_rfl) rfl rfl (by kernel_rfl) (by kernel_rfl) h with ⟨h0, _⟩ | ⟨a, len, cap, m, n, V0, V1, D0, D1, P0, P1, h0, _, hl, hm, hmm, _, hx⟩
  · simp at h0
    exact ⟨none, 0, 0, [], h0, MbsIn.nil _ _, by omega, fun _ => ⟨rfl, rfl⟩⟩
  · simp at h0
    have hlm : len ≤ m := by rw [hmm]; split <;> omega
    have each : ∀ i, i < len → ∃ y : Mb, w.cell? (a.add (i * 2)) = some (.string y.1) ∧ w.cell? (a.add (i * 2 + 1)) = some (.string y.2) := by
      intro i hi
      obtain ⟨q0, q1, g0, g1⟩ := hx i (by omega)
      obtain ⟨s0, e0, _⟩ := DataW.trod_string Try.underlying9 g0
      obtain ⟨s1, e1, _⟩ := DataW.trod_string Try.underlying9 g1
      simp at e0 e1
      rw [e0] at q0
      rw [e1] at q1
      exact ⟨(s0, s1), q0, q1⟩
    obtain ⟨t, ht⟩ := choose_lt each
    refine ⟨some a, len, cap, (List.range len).map t, h0, ⟨by simp, fun hp => ?_⟩, by unfold maxLen at hm; omega, fun h => by cases h⟩
    have h00 := (ht 0 hp).1
    rw [Nat.zero_mul] at h00
    obtain ⟨b, o, rfl, hb⟩ := plain_addr h00
    refine ⟨b, o, rfl, hb, fun i y hy => ?_⟩
    rw [List.getElem?_map] at hy
    obtain ⟨j, hj, rfl⟩ := Option.map_eq_some_iff.1 hy
    obtain ⟨hj1, hj2⟩ := List.getElem?_eq_some_iff.1 hj
    simp at hj1 hj2
    subst hj2
    have := ht i hj1
    rw [add_plain, add_plain] at this
    exact this

/-- A pointer to a float that came in. -/
theorem open_fl {fuel : Nat} {v : Value} {x : DataW H × List MemPlace} (h : DataW.trod enc Try.prog w 0 spare held fuel 30 [v] = some x) : ∃ p, v = .pointer p ∧ FlIn w p := by
  rcases DataW.trod_pointer Try.underlying30 h with ⟨h0, _⟩ | ⟨a, cs, y, n, _, h0, _, hcells, hd⟩
  · simp at h0
    exact ⟨none, h0, .inl rfl⟩
  · simp at h0
    rw [show Try.prog.cellsOf 61 = 1 by kernel_rfl] at hcells
    obtain ⟨_, hlen, hcell⟩ := World.cells?_some hcells
    obtain ⟨v0, rfl⟩ := one hlen
    obtain ⟨k, e⟩ := trod_float Try.underlying61 hd
    have q0 := hcell 0 (by simp)
    simp at e
    subst e
    have q1 : w.cell? (a.add 0) = some (.float .f64 k) := by simpa using q0
    obtain ⟨b, o, rfl, hb⟩ := plain_addr q1
    refine ⟨_, h0, .inr ⟨b, o, .f64, k, rfl, hb, ?_⟩⟩
    rw [add_plain] at q1
    exact q1

theorem twelve {α : Type} {cs : List α} (h : cs.length = 12) : ∃ x0 x1 x2 x3 x4 x5 x6 x7 x8 x9 x10 x11, cs = [x0, x1, x2, x3, x4, x5, x6, x7, x8, x9, x10, x11] := by
  match cs, h with
  | [x0, x1, x2, x3, x4, x5, x6, x7, x8, x9, x10, x11], _ => exact ⟨x0, x1, x2, x3, x4, x5, x6, x7, x8, x9, x10, x11, rfl⟩
/-- A ClaimsIn that came in. -/
theorem open_cl {fuel : Nat} {cs : Array Value} {x : DataW H × List MemPlace} (h : DataW.trod enc Try.prog w 0 spare held fuel 33 cs.toList = some x) : ∃ c A G ms, cs = Cl.cs c ∧ ClIn w c A G ms := by
  obtain ⟨xs, n, _, _, hl, hn, hf⟩ := DataW.trod_struct Try.underlying33 h
  rw [show Try.prog.cellsOf 33 = 12 by kernel_rfl] at hl
  obtain ⟨x0, x1, x2, x3, x4, x5, x6, x7, x8, x9, x10, x11, hcs⟩ := twelve hl
  obtain ⟨y0, y1, y2, y3, y4, y5, y6, y7, y8, y9, y10, y11, rfl⟩ := twelve (by simpa using hn)
  obtain rfl : cs = #[x0, x1, x2, x3, x4, x5, x6, x7, x8, x9, x10, x11] := by cases cs; simp_all
  have h0 : DataW.trod enc Try.prog w 0 spare held n 9 ((([x0, x1, x2, x3, x4, x5, x6, x7, x8, x9, x10, x11] : List Value).drop 0).take (Try.prog.cellsOf 9)) = ([y0, y1, y2, y3, y4, y5, y6, y7, y8, y9, y10, y11] : List (DataW H × List MemPlace))[0]? := hf 0 _ rfl
  rw [show Try.prog.cellsOf 9 = 1 by kernel_rfl] at h0
  have h1 : DataW.trod enc Try.prog w 0 spare held n 9 ((([x0, x1, x2, x3, x4, x5, x6, x7, x8, x9, x10, x11] : List Value).drop 1).take (Try.prog.cellsOf 9)) = ([y0, y1, y2, y3, y4, y5, y6, y7, y8, y9, y10, y11] : List (DataW H × List MemPlace))[1]? := hf 1 _ rfl
  rw [show Try.prog.cellsOf 9 = 1 by kernel_rfl] at h1
  have h2 : DataW.trod enc Try.prog w 0 spare held n 29 ((([x0, x1, x2, x3, x4, x5, x6, x7, x8, x9, x10, x11] : List Value).drop 2).take (Try.prog.cellsOf 29)) = ([y0, y1, y2, y3, y4, y5, y6, y7, y8, y9, y10, y11] : List (DataW H × List MemPlace))[2]? := hf 2 _ rfl
  rw [show Try.prog.cellsOf 29 = 1 by kernel_rfl] at h2
  have h3 : DataW.trod enc Try.prog w 0 spare held n 30 ((([x0, x1, x2, x3, x4, x5, x6, x7, x8, x9, x10, x11] : List Value).drop 3).take (Try.prog.cellsOf 30)) = ([y0, y1, y2, y3, y4, y5, y6, y7, y8, y9, y10, y11] : List (DataW H × List MemPlace))[3]? := hf 3 _ rfl
  rw [show Try.prog.cellsOf 30 = 1 by kernel_rfl] at h3
  have h4 : DataW.trod enc Try.prog w 0 spare held n 30 ((([x0, x1, x2, x3, x4, x5, x6, x7, x8, x9, x10, x11] : List Value).drop 4).take (Try.prog.cellsOf 30)) = ([y0, y1, y2, y3, y4, y5, y6, y7, y8, y9, y10, y11] : List (DataW H × List MemPlace))[4]? := hf 4 _ rfl
  rw [show Try.prog.cellsOf 30 = 1 by kernel_rfl] at h4
  have h5 : DataW.trod enc Try.prog w 0 spare held n 30 ((([x0, x1, x2, x3, x4, x5, x6, x7, x8, x9, x10, x11] : List Value).drop 5).take (Try.prog.cellsOf 30)) = ([y0, y1, y2, y3, y4, y5, y6, y7, y8, y9, y10, y11] : List (DataW H × List MemPlace))[5]? := hf 5 _ rfl
  rw [show Try.prog.cellsOf 30 = 1 by kernel_rfl] at h5
  have h6 : DataW.trod enc Try.prog w 0 spare held n 9 ((([x0, x1, x2, x3, x4, x5, x6, x7, x8, x9, x10, x11] : List Value).drop 6).take (Try.prog.cellsOf 9)) = ([y0, y1, y2, y3, y4, y5, y6, y7, y8, y9, y10, y11] : List (DataW H × List MemPlace))[6]? := hf 6 _ rfl
  rw [show Try.prog.cellsOf 9 = 1 by kernel_rfl] at h6
  have h7 : DataW.trod enc Try.prog w 0 spare held n 9 ((([x0, x1, x2, x3, x4, x5, x6, x7, x8, x9, x10, x11] : List Value).drop 7).take (Try.prog.cellsOf 9)) = ([y0, y1, y2, y3, y4, y5, y6, y7, y8, y9, y10, y11] : List (DataW H × List MemPlace))[7]? := hf 7 _ rfl
  rw [show Try.prog.cellsOf 9 = 1 by kernel_rfl] at h7
  have h8 : DataW.trod enc Try.prog w 0 spare held n 29 ((([x0, x1, x2, x3, x4, x5, x6, x7, x8, x9, x10, x11] : List Value).drop 8).take (Try.prog.cellsOf 29)) = ([y0, y1, y2, y3, y4, y5, y6, y7, y8, y9, y10, y11] : List (DataW H × List MemPlace))[8]? := hf 8 _ rfl
  rw [show Try.prog.cellsOf 29 = 1 by kernel_rfl] at h8
  have h9 : DataW.trod enc Try.prog w 0 spare held n 9 ((([x0, x1, x2, x3, x4, x5, x6, x7, x8, x9, x10, x11] : List Value).drop 9).take (Try.prog.cellsOf 9)) = ([y0, y1, y2, y3, y4, y5, y6, y7, y8, y9, y10, y11] : List (DataW H × List MemPlace))[9]? := hf 9 _ rfl
  rw [show Try.prog.cellsOf 9 = 1 by kernel_rfl] at h9
  have h10 : DataW.trod enc Try.prog w 0 spare held n 9 ((([x0, x1, x2, x3, x4, x5, x6, x7, x8, x9, x10, x11] : List Value).drop 10).take (Try.prog.cellsOf 9)) = ([y0, y1, y2, y3, y4, y5, y6, y7, y8, y9, y10, y11] : List (DataW H × List MemPlace))[10]? := hf 10 _ rfl
  rw [show Try.prog.cellsOf 9 = 1 by kernel_rfl] at h10
  have h11 : DataW.trod enc Try.prog w 0 spare held n 31 ((([x0, x1, x2, x3, x4, x5, x6, x7, x8, x9, x10, x11] : List Value).drop 11).take (Try.prog.cellsOf 31)) = ([y0, y1, y2, y3, y4, y5, y6, y7, y8, y9, y10, y11] : List (DataW H × List MemPlace))[11]? := hf 11 _ rfl
  rw [show Try.prog.cellsOf 31 = 1 by kernel_rfl] at h11
  simp only [List.drop_zero, List.drop_succ_cons, List.take_succ_cons, List.take_zero, List.getElem?_cons_zero, List.getElem?_cons_succ] at h0 h1 h2 h3 h4 h5 h6 h7 h8 h9 h10 h11
  obtain ⟨s0, e0, _⟩ := DataW.trod_string Try.underlying9 h0
  simp at e0
  obtain ⟨s1, e1, _⟩ := DataW.trod_string Try.underlying9 h1
  simp at e1
  obtain ⟨a2, l2, c2, ss2, e2, S2, b2, q2⟩ := open_ss h2
  obtain ⟨p3, e3, F3⟩ := open_fl h3
  obtain ⟨p4, e4, F4⟩ := open_fl h4
  obtain ⟨p5, e5, F5⟩ := open_fl h5
  obtain ⟨s6, e6, _⟩ := DataW.trod_string Try.underlying9 h6
  simp at e6
  obtain ⟨s7, e7, _⟩ := DataW.trod_string Try.underlying9 h7
  simp at e7
  obtain ⟨a8, l8, c8, ss8, e8, S8, b8, q8⟩ := open_ss h8
  obtain ⟨s9, e9, _⟩ := DataW.trod_string Try.underlying9 h9
  simp at e9
  obtain ⟨s10, e10, _⟩ := DataW.trod_string Try.underlying9 h10
  simp at e10
  obtain ⟨a11, l11, c11, ms, e11, S11, b11, q11⟩ := open_ms h11
  subst e0 e1 e2 e3 e4 e5 e6 e7 e8 e9 e10 e11
  exact ⟨⟨s0, s1, a2, l2, c2, p3, p4, p5, s6, s7, a8, l8, c8, s9, s10, a11, l11, c11⟩, ss2, ss8, ms, rfl, ⟨S2, S8, S11, F3, F4, F5, b2, b8, b11, q2, q8, q11⟩⟩
end
end Go.Proofs.Qxb6603645a
