/-
  DERIVED. '(valueRule).allows', '(*labelClause).holds'.
-/
import Derived.Test.YbulkegqeSelGather
import Derived.Test.YbulkegqeSelGet
namespace Go.Proofs.Ybulkegqe.lawS6647AWhole
set_option linter.unusedVariables false
set_option linter.unusedSimpArgs false
open Go.RowKit
attribute [local go_sem ↓] Go.wp_at_zero Go.wp_at_succ

set_option maxRecDepth 100000 in
theorem allows_any (fv mv : Value) (S : Str → Bool) (inn : Bool) (v : Str) (w : World) (hS : SetIs w fv mv S) (hv : v.length ≤ maxLen) :
    Calls Yba.prog 45 #[.agg #[fv, mv, .bool inn], encStr v] w fun e w' => e = .returned (.bool (S v == inn)) ∧ Below w.heap.size w w' := by
  obtain ⟨fa, fn, fc, mo, rfl, rfl⟩ := hS.shape
  have HS : Hid (SetIs (w.alloc (.cells #[.slice fa fn fc, .map mo, .bool inn] 113)) (.slice fa fn fc) (.map mo) S) := hS.below (al1 _ _)
  have HV : Hid (v.length ≤ maxLen) := hv
  have HC : Hid ((w.alloc (.cells #[.slice fa fn fc, .map mo, .bool inn] 113)).heap[w.heap.size]? = some (.cells #[.slice fa fn fc, .map mo, .bool inn] 113 (0, 0))) := heap_alloc_new _ _
  clear hS hv
  go_enter Yba.func45, Yba.ntmps45
  go_upto_region 1 with fail
  obtain ⟨w1, hw1⟩ : ∃ x, x = w.alloc (.cells #[.slice fa fn fc, .map mo, .bool inn] 113) := ⟨_, rfl⟩
  have HB1 : Hid (Below w.heap.size w w1) := by rw [hw1]; exact al1 _ _
  rw [← hw1] at HS HC
  simp only [← hw1]
  clear hw1
  obtain ⟨c0, c1, c2, f0, f1, f2⟩ := cells3 HC.out
  go_region_with (go_at_call 57; go_must (refine (has_any _ _ S v w1.drew HS.out HV.out).mono ?_; rintro e w2 ⟨rfl, hb2⟩; have HB2 : Hid (Below w.heap.size w w2) := blw HB1.out.drew hb2; obtain ⟨d0, d1, d2, g0, g1, g2⟩ := cells3 ((hb2.block w.heap.size (Array.getElem?_eq_some_iff.1 HC.out).1).trans HC.out); clear hb2))
  all_goals (
    go_wp2
    go_ret
    exact ⟨rfl, HB2.out⟩)

/-- '(*labelClause).holds'. -/
theorem Cl.holds_if (c : Cl) (has : Bool) (v : Str) : c.holds (if has then some v else none) = if has then (!c.abs && (RuleSet c.res c.il c.nl v == c.res)) else !c.pres := by
  cases has <;> rfl

set_option maxRecDepth 100000 in
theorem holds_any (cg o : Nat) (x : X) (v : Str) (has : Bool) (w : World) (h1 : w.cell? ⟨cg, o + 1, none⟩ = some (.bool x.g.c.pres)) (h2 : w.cell? ⟨cg, o + 2, none⟩ = some (.bool x.g.c.abs)) (h3 : w.cell? ⟨cg, o + 3, none⟩ = some x.a) (h4 : w.cell? ⟨cg, o + 4, none⟩ = some x.b) (h5 : w.cell? ⟨cg, o + 5, none⟩ = some x.c)
    (hS : SetIs w x.a x.b (RuleSet x.g.c.res x.g.c.il x.g.c.nl)) (hc : x.c = .bool x.g.c.res) (hv : v.length ≤ maxLen) :
    Calls Yba.prog 19 #[.pointer (some ⟨cg, o, none⟩), encStr v, .bool has] w fun e w' => e = .returned (.bool (x.g.c.holds (if has then some v else none))) ∧ Below w.heap.size w w' := by
  rw [Cl.holds_if]
  obtain ⟨⟨⟨key, pres, abs, res, il, nl⟩, iv, nv⟩, a, b, c⟩ := x
  simp only at h1 h2 h3 h4 h5 hS hc ⊢
  subst hc
  obtain ⟨fa, fn, fc, mo, rfl, rfl⟩ := hS.shape
  have HS : Hid (SetIs w (.slice fa fn fc) (.map mo) (RuleSet res il nl)) := hS
  have HV : Hid (v.length ≤ maxLen) := hv
  clear hS hv
  cases has with
  | false =>
    go_enter Yba.func19, Yba.ntmps19
    go_wp2
    go_ret
    exact ⟨rfl, Below.refl _ _⟩
  | true =>
    cases abs with
    | true =>
      go_enter Yba.func19, Yba.ntmps19
      go_wp2
      go_ret
      exact ⟨rfl, Below.refl _ _⟩
    | false =>
      go_enter Yba.func19, Yba.ntmps19
      go_wp2_with (go_at_call 45; go_must (refine (allows_any _ _ (RuleSet res il nl) res v _ HS.out HV.out).mono ?_; rintro e w1 ⟨rfl, hb⟩))
      go_ret
      exact ⟨rfl, hb⟩

end Go.Proofs.Ybulkegqe.lawS6647AWhole
