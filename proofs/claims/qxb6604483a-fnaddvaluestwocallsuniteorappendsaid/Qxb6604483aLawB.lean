import Derived.Test.Qxb6604483aLawA
namespace Go.Proofs.Qxb6604483a
open Go.RowKit Go.Maps
set_option linter.unusedSimpArgs false
set_option linter.unusedVariables false

/-- The map of one predicate; of two. -/
abbrev D1 (p : Int) : DataW Unit := (DataW.map []).put (.int .i64 p) (.lit (.int .i64 0))
abbrev D2 (p p2 : Int) : DataW Unit := (D1 p).put (.int .i64 p2) (.lit (.int .i64 1))
theorem key_ne {p q : Int} (h : p ≠ q) : Lit.int .i64 p ≠ Lit.int .i64 q := fun e => by cases e; exact h rfl
theorem map2 (p p2 : Int) (h : p ≠ p2) : Maps.has (D1 p) (.int .i64 p2) = false ∧ Maps.has (D2 p p2) (.int .i64 p) = true ∧ (D2 p p2).atKey (.int .i64 p) (.lit (.int .i64 0)) = .lit (.int .i64 0) ∧ Maps.has (D2 p p2) (.int .i64 p2) = true ∧ (D2 p p2).atKey (.int .i64 p2) (.lit (.int .i64 0)) = .lit (.int .i64 1) ∧ Maps.size (D2 p p2) = 2 := by
  have hT : Maps.Tidy (D1 p) := Maps.Tidy.put Maps.tidy_empty (key_lit p) _
  have h1 : Maps.has (D1 p) (.int .i64 p2) = false := by
    rw [Maps.has_put_other (key_ne (Ne.symm h))]
    rfl
  refine ⟨h1, ?_, ?_, Maps.has_put_same hT.isMap (key_lit p2) _, Maps.atKey_put_same hT.isMap (key_lit p2) _ _, ?_⟩
  · rw [Maps.has_put_other (key_ne h)]
    exact (map1 p).1
  · rw [Maps.atKey_put_other (key_ne h)]
    exact (map1 p).2.1
  · rw [Maps.size_put hT, h1]
    exact congrArg (· + 1) (map1 p).2.2

/-- Behind the second call, the same predicate. -/
def St2s (B : Nat) (w : World) (S : Nat) (p : Int) (n : Nat) (va vb : List Vr) : Prop :=
  ∃ m pr q A rs, St B w S m 1 (D1 p) pr q [(p, A, n, true)] [0] ∧ Ent B w A n rs ∧ (∀ (j : Nat) (r : Vr), rs[j]? = some r → datV r = uniR (bAt va j).1 (bAt va j).2 (bAt vb j).1 (bAt vb j).2)
/-- Behind the second call, another predicate. -/
def St2o (B : Nat) (w : World) (S : Nat) (p p2 : Int) (n n2 : Nat) (va vb : List Vr) : Prop :=
  ∃ m pr q A A2 rs rs2, St B w S m 2 (D2 p p2) pr q [(p, A, n, true), (p2, A2, n2, true)] [0, 1] ∧ Ent B w A n rs ∧ Ent B w A2 n2 rs2 ∧ (∀ (j : Nat) (r : Vr), rs[j]? = some r → datV r = addA (false, []) (bAt va j)) ∧ (∀ (j : Nat) (r : Vr), rs2[j]? = some r → datV r = addA (false, []) (bAt vb j))

theorem second_same (B : Nat) (a : Option Addr) (len n cap : Nat) (va vb vb' : List Vr) (S : Nat) (p : Int) (w5 w6 : World) (hp : (Lit.int .i64 p).wf = true) (h1 : St1 B w5 S p n va) (hb : Below w5.heap.size w5 w6) (hd : vb'.map datV = vb.map datV) (hV : VsIn w5.heap.size w6.heap.size w6 a len vb') (hln : len ≤ n) (hn : n ≤ 4096) (fV : ∀ (i : Nat) (x : Vr), vb[i]? = some x → x.2.2.2.length ≤ 1048576) :
    Calls Try.prog 10 #[.pointer (some ⟨S, 0, none⟩), .int .i64 p, .slice a len cap] w6 fun e w' => e = .returned (.tuple #[]) ∧ St2s B w' S p n va vb ∧ Below B w6 w' := by
  obtain ⟨m, pr, q, A, rs, hS, hE, hdat⟩ := h1
  refine add10 (P := fun w' => St2s B w' S p n va vb ∧ Below B w6 w') ((call_old B w5.heap.size w6.heap.size a len n cap vb' rs S A m 1 (D1 p) pr q [(p, A, n, true)] [0] p w6 (hS.below hb) (hE.below hb) rfl ⟨hE.ok.lt, fun g hg => hE.ok.row_lt hg⟩ hV (Nat.le_refl _) hln hn (by simp) (by simp) (few_map hd _ fV)).mono ?_)
  rintro e w' ⟨rfl, q', rs', g1, g2, g3, g4⟩
  refine ⟨rfl, ⟨m, pr, q', A, rs', g1, g2, fun j r hr => ?_⟩, g4⟩
  have hj : j < rs.length := by
    have := (List.getElem?_eq_some_iff.1 hr).1
    have h2 := g2.len
    have h3 := hE.len
    omega
  have hr0 : rs[j]? = some rs[j] := List.getElem?_eq_getElem hj
  rw [g3 j r _ hr hr0, hdat j _ hr0, bAt_map hd, add_two]

theorem second_other (B : Nat) (a : Option Addr) (n2 n cap : Nat) (va vb vb' : List Vr) (S : Nat) (p p2 : Int) (hne : p ≠ p2) (w5 w6 : World) (hp : (Lit.int .i64 p2).wf = true) (h1 : St1 B w5 S p n va) (hb : Below w5.heap.size w5 w6) (hd : vb'.map datV = vb.map datV) (hV : VsIn w5.heap.size w6.heap.size w6 a n2 vb') (hn : n2 ≤ 4096) (fV : ∀ (i : Nat) (x : Vr), vb[i]? = some x → x.2.2.2.length ≤ 1048576) :
    Calls Try.prog 10 #[.pointer (some ⟨S, 0, none⟩), .int .i64 p2, .slice a n2 cap] w6 fun e w' => e = .returned (.tuple #[]) ∧ St2o B w' S p p2 n n2 va vb ∧ Below B w6 w' := by
  obtain ⟨m, pr, q, A, rs, hS, hE, hdat⟩ := h1
  have hS6 := hS.below hb
  have hE6 := hE.below hb
  refine add10 (P := fun w' => St2o B w' S p p2 n n2 va vb ∧ Below B w6 w') ((call_new B w5.heap.size w6.heap.size a n2 cap vb' S m 1 (D1 p) pr q [(p, A, n, true)] [0] p2 w6 hp hS6 ?_ hV (Nat.le_refl _) ?_ hn (by simp) (by simp) (by simp) (few_map hd _ fV)).mono ?_)
  · exact find_other S m 1 pr q [(p, A, n, true)] (p, A, n, true) p2 (D1 p) w6 hp hS6.head hS6.preds rfl hne (by simp) hS6.map (map2 p p2 hne).1
  · intro k hk
    exact .inl (hS.own_lt hk).1
  · rintro e w' ⟨rfl, m', pr', q', A2, rs2, g1, g2, g3, g4⟩
    exact ⟨rfl, ⟨m', pr', q', A, A2, rs, rs2, g1, hE6.keep hS6 g4, g2, hdat, fun j r hr => by rw [g3 j r hr, bAt_map hd]⟩, g4.toBelow (fun k hk => (hS6.own_lt hk).2) (by have := hS6.own_lt (k := S) (.inl rfl); omega)⟩

/-- The model's answer for two calls. -/
theorem pred_two (B : Nat) (p : Int) (a b : Option Addr) (A n ca lb cb : Nat) (rs va vb : List Vr) (W w : World) (hV : VsIn 0 W.heap.size W a n va) (hVb : VsIn 0 W.heap.size W b lb vb) (hb : Below W.heap.size W w) (hE : Ent B w A n rs) (hd : ∀ (j : Nat) (r : Vr), rs[j]? = some r → datV r = uniR (bAt va j).1 (bAt va j).2 (bAt vb j).1 (bAt vb j).2) (hn : n ≤ 4096) (hlb : lb ≤ 4096) (fV : ∀ (i : Nat) (x : Vr), va[i]? = some x → x.2.2.2.length ≤ 1048576) (fB : ∀ (i : Nat) (x : Vr), vb[i]? = some x → x.2.2.2.length ≤ 1048576) :
    Calls Try.prog 13 #[.agg #[.int .i64 p, .slice (some ⟨A, 0, none⟩) n n, .bool true], .int .i64 p, .slice a n ca, .slice b lb cb] w fun e w' => e = .returned (.bool true) ∧ Below w.heap.size w w' := by
  refine pred_yes 0 w.heap.size p (some ⟨A, 0, none⟩) a b n n ca lb cb rs va vb w (Nat.le_refl _) (by have := hE.ok.vsIn; rw [hE.len] at this; exact this) ((hV.below hb (Nat.le_refl _)).wide (Nat.le_refl _) hb.size) ((hVb.below hb (Nat.le_refl _)).wide (Nat.le_refl _) hb.size) (by omega) (by omega) fV fB (fun i x hx => Nat.le_trans (hE.ok.own i x hx).2 (by decide)) ?_
  intro i x r hx hr
  rw [hd i r hr]
  have : bAt va i = datV x := by unfold bAt; rw [hx]
  rw [this]
  rfl
end Go.Proofs.Qxb6604483a
