import Derived.Test.Qxb6604483aGets
import Derived.Test.Qxb6604483aBytes
namespace Go.Proofs.Qxb6604483a
open Go.RowKit Go.Maps
set_option linter.unusedSimpArgs false
set_option linter.unusedVariables false

theorem bAt_map {vs vs' : List Vr} (h : vs'.map datV = vs.map datV) (j : Nat) : bAt vs' j = bAt vs j := by
  have := congrArg (fun l => l[j]?) h
  simp only [List.getElem?_map] at this
  unfold bAt
  cases h1 : vs'[j]? <;> cases h2 : vs[j]? <;> simp_all
theorem few_map {vs vs' : List Vr} (h : vs'.map datV = vs.map datV) (n : Nat) (hf : ∀ (i : Nat) (x : Vr), vs[i]? = some x → x.2.2.2.length ≤ n) : ∀ (i : Nat) (x : Vr), vs'[i]? = some x → x.2.2.2.length ≤ n := by
  intro i x hx
  have := congrArg (fun l => l[i]?) h
  simp only [List.getElem?_map] at this
  rw [hx] at this
  cases h2 : vs[i]? with
  | none => rw [h2] at this; cases this
  | some y =>
    rw [h2] at this
    have e : datV x = datV y := Option.some.inj this
    have e2 : x.2.2.2 = y.2.2.2 := congrArg (fun (z : Bool × List Tm) => z.2) e
    rw [e2]
    exact hf i y h2

theorem key_lit (p : Int) : WideAt.IsKeyLit (Lit.int .i64 p) := trivial
/-- The map of one predicate. -/
theorem map1 (p : Int) : Maps.has ((DataW.map (H := Unit) []).put (.int .i64 p) (.lit (.int .i64 0))) (.int .i64 p) = true ∧ ((DataW.map (H := Unit) []).put (.int .i64 p) (.lit (.int .i64 0))).atKey (.int .i64 p) (.lit (.int .i64 0)) = .lit (.int .i64 0) ∧ Maps.size ((DataW.map (H := Unit) []).put (.int .i64 p) (.lit (.int .i64 0))) = 1 := by
  refine ⟨Maps.has_put_same ⟨_, rfl⟩ (key_lit p) _, Maps.atKey_put_same ⟨_, rfl⟩ (key_lit p) _ _, rfl⟩

/-- The state behind the first call. -/
def St1 (B : Nat) (w : World) (S : Nat) (p : Int) (n : Nat) (vs : List Vr) : Prop :=
  ∃ m pr q A rs, St B w S m 1 ((DataW.map []).put (.int .i64 p) (.lit (.int .i64 0))) pr q [(p, A, n, true)] [0] ∧ Ent B w A n rs ∧ (∀ (j : Nat) (r : Vr), rs[j]? = some r → datV r = addA (false, []) (bAt vs j))

theorem first_call (a : Option Addr) (n cap : Nat) (vs vs' : List Vr) (p : Int) (W w w2 : World) (hp : (Lit.int .i64 p).wf = true) (hw : w = W.alloc emptyAv) (hb : Below w.heap.size w w2) (hd : vs'.map datV = vs.map datV) (hV : VsIn w.heap.size w2.heap.size w2 a n vs') (hn : n ≤ 4096) (fV : ∀ (i : Nat) (x : Vr), vs[i]? = some x → x.2.2.2.length ≤ 1048576) :
    Calls Try.prog 10 #[.pointer (some ⟨W.heap.size, 0, none⟩), .int .i64 p, .slice a n cap] w2 fun e w' => e = .returned (.tuple #[]) ∧ St1 W.heap.size w' W.heap.size p n vs ∧ Below W.heap.size W w' := by
  subst hw
  have hs := (St.start W).below hb
  refine add10 (P := fun w' => St1 W.heap.size w' W.heap.size p n vs ∧ Below W.heap.size W w') ((call_new W.heap.size (W.alloc emptyAv).heap.size w2.heap.size a n cap vs' W.heap.size none 0 (.map []) (.slice none 0 0) (.slice none 0 0) [] [] p w2 hp hs ?_ hV (Nat.le_refl _) ?_ hn (by simp) (by simp) (by simp) (few_map hd _ fV)).mono ?_)
  · exact find_empty W.heap.size none none 0 0 (.slice none 0 0) p (.map []) w2 hp hs.head hs.map rfl
  · intro k hk
    rcases hk with e | e | e | e
    · rw [e]; simp
    · cases e
    · cases e
    · cases e
  · rintro e w' ⟨rfl, m', pr', q', A, rs, h1, h2, h3, h4⟩
    refine ⟨rfl, ⟨m', pr', q', A, rs, h1, h2, fun j r hr => by rw [h3 j r hr, bAt_map hd]⟩, ?_⟩
    have b1 : Below W.heap.size W w2 := bt (balloc W emptyAv) hb (by simp)
    exact b1.trans (h4.toBelow (by
      rintro k (e | e | e | e)
      · rw [e]; exact Nat.le_refl _
      · cases e
      · cases e
      · cases e) b1.size)

/-- The model's answer for one call. -/
theorem pred_one (B lo : Nat) (p : Int) (a : Option Addr) (A n ca : Nat) (rs vs : List Vr) (W w : World) (hV : VsIn 0 W.heap.size W a n vs) (hb : Below W.heap.size W w) (hE : Ent B w A n rs) (hd : ∀ (j : Nat) (r : Vr), rs[j]? = some r → datV r = addA (false, []) (bAt vs j)) (hn : n ≤ 4096) (fV : ∀ (i : Nat) (x : Vr), vs[i]? = some x → x.2.2.2.length ≤ 1048576) :
    Calls Try.prog 13 #[.agg #[.int .i64 p, .slice (some ⟨A, 0, none⟩) n n, .bool true], .int .i64 p, .slice a n ca, .slice none 0 0] w fun e w' => e = .returned (.bool true) ∧ Below w.heap.size w w' := by
  refine pred_yes 0 w.heap.size p (some ⟨A, 0, none⟩) a none n n ca 0 0 rs vs [] w (Nat.le_refl _) (by have := hE.ok.vsIn; rw [hE.len] at this; exact this) ((hV.below hb (Nat.le_refl _)).wide (Nat.le_refl _) hb.size) (VsIn.nil _ _ _ _) (by omega) (by omega) fV (by intro i x h; simp at h) (fun i x hx => Nat.le_trans (hE.ok.own i x hx).2 (by decide)) ?_
  intro i x r hx hr
  rw [hd i r hr, add_one]
  have : bAt vs i = datV x := by unfold bAt; rw [hx]
  rw [this]
  rfl

set_option maxRecDepth 100000 in
set_option maxHeartbeats 4000000 in
theorem lawA (p : Int) (a : Option Addr) (len cap : Nat) (vs : List Vr) (w : World) (hp : (Lit.int .i64 p).wf = true) (hV : VsIn 0 w.heap.size w a len vs) (hm : len ≤ 9223372036854775807) (hm2 : ∀ (i : Nat) (x : Vr), vs[i]? = some x → x.2.2.2.length ≤ 9223372036854775807) :
    Calls Try.prog 3 #[.int .i64 p, .slice a len cap] w fun e w' => e = .returned (.bool true) ∧ Below w.heap.size w w' := by
  go_enter Try.func3, Try.ntmps3
  go_wp2_with fail
  refine (zz7_any p 0 w.heap.size a len cap vs w hV hm hm2).mono ?_
  rintro e w1 ⟨⟨b, rfl, hb⟩, rfl⟩
  cases b
  case false =>
    go_wp2_with fail
    go_ret
    exact ⟨rfl, Below.refl _ _⟩
  case true =>
    have HV : Hid _ := And.intro hV (And.intro hm2 (hb rfl))
    clear hV hm2 hb
    by_cases h4 : len ≤ 4096
    case neg =>
      go_wp2_with fail
      go_ret
      exact ⟨rfl, Below.refl _ _⟩
    case pos =>
      go_wp2_with fail
      refine (valsBytes_any 0 w1.heap.size a len cap vs w1 HV.out.1 hm HV.out.2.1).mono ?_
      rintro e w2 ⟨⟨r, hr0, hr1, rfl⟩, rfl⟩
      by_cases hr : r ≤ 1048576
      case neg =>
        go_wp2_with fail
        go_ret
        exact ⟨rfl, Below.refl _ _⟩
      case pos =>
        go_wp2_with (go_at_call 9; refine (new_any _).mono ?_; rintro e w3 ⟨rfl, rfl⟩)
        refine (toValues_any 0 w2.heap.size a len cap vs (w2.alloc emptyAv) (by simp) (HV.out.1.below (balloc _ _) (Nat.le_refl _)) (by omega) HV.out.2.2.2).mono ?_
        rintro e w4 ⟨rfl, ⟨vs', hd', hV'⟩, hb4⟩
        have hC := first_call _ _ len vs vs' p w2 _ w4 hp rfl hb4 hd' hV' h4 HV.out.2.2.2
        rw [show (w2.alloc emptyAv).heap.size = w2.heap.size + 1 by simp] at hC
        clear hd' hV' hb4
        go_wp2_with fail
        refine hC.mono ?_
        rintro e w5 ⟨rfl, ⟨m, pr, q, A, rs, hS, hE, hdat⟩, hb5⟩
        obtain ⟨g, pc, rfl, hcP⟩ := hS.cellsP (by simp)
        obtain ⟨gq, qc, rfl, hcQ⟩ := hS.cellsQ (by simp)
        obtain ⟨d0, d1, d2⟩ := hcP 0 _ rfl
        simp only [Nat.zero_mul, Nat.zero_add] at d0 d1 d2
        have hPred := pred_one w2.heap.size 0 p a A len cap rs vs w2 w5 HV.out.1 hb5 hE hdat h4 HV.out.2.2.2
        have HS : Hid _ := hS
        have hH := hS.head
        clear hS hE hdat hcP hcQ hC
        go_wp2_with (first | (go_at_call 12; refine (get12 hH).mono ?_; rintro e w6 ⟨rfl, rfl⟩) | (go_at_call 13; refine hPred.mono ?_; rintro e w7 ⟨rfl, hb7⟩; have hS7 := HS.out.below hb7; have hH7 := hS7.head))
        have hq0 : w7.cell? ⟨gq, 0, none⟩ = some (.int .i64 0) := by
          obtain ⟨gq', qc', e, hc⟩ := hS7.cellsQ (by simp)
          simp at e
          obtain ⟨rfl, rfl⟩ := e
          exact hc 0 0 rfl
        have hlook := hS7.mapLook p hp 0 (map1 p).2.1 (map1 p).1
        have hlen := hS7.mapLen (by rw [(map1 p).2.2]; decide)
        rw [(map1 p).2.2] at hlen
        have hbE : Below w2.heap.size w2 w7 := hb5.trans ⟨hb7.os, hb7.tape, hb7.output, hb7.size, fun k hk => hb7.block k (by have := hb5.size; omega)⟩
        clear hS7 d0 d1 d2 hPred
        go_wp2_with (first | (go_at_call 14; refine (get14 hH7).mono ?_; rintro e w8 ⟨rfl, rfl⟩) | (go_at_call 15; refine (get15 hH7).mono ?_; rintro e w8 ⟨rfl, rfl⟩) | (go_at_call 16; refine (get16 hH7).mono ?_; rintro e w8 ⟨rfl, rfl⟩))
        go_ret
        exact ⟨rfl, hbE⟩
end Go.Proofs.Qxb6604483a
