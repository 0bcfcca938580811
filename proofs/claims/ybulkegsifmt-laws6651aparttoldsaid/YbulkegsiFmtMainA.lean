/-
  DERIVED. THE WALK of 'der.LawS6651APart': FOR EVERY F.
-/
import Derived.Test.YbulkegsiFmtTag
namespace Go.Proofs.YbulkegsiFmt
open Go.Extern.Stop Go.Stop Go.Extern Go.RowKit
set_option linter.unusedVariables false
set_option linter.unusedSimpArgs false

theorem tail_any (F : Interp) (t : Int) (w : World) (hF : F.answers w.tape) (h0 : 0 ≤ t) (h1 : t ≤ 255) :
    Calls Ybaf.prog 6 #[.int .u8 t] w fun e w' => ∃ s, e = .returned (.string s) ∧ Below w.heap.size w w' ∧ ∀ n, Named t → nameOf t = some n → s = n := by
  by_cases h : Named t
  · refine (string_named t w h).mono fun e w' hh => ?_
    obtain ⟨⟨s, rfl, hs⟩, rfl⟩ := hh
    exact ⟨s, rfl, Below.refl _ _, fun n _ hn => by rw [hs] at hn; exact Option.some.inj hn⟩
  · refine (string_other F t w hF h0 h1 h).mono fun e w' hh => ?_
    obtain ⟨s, rfl, hb⟩ := hh
    exact ⟨s, rfl, hb, fun n hn => absurd hn h⟩

set_option maxHeartbeats 1600000 in
theorem lawA (F : Interp) (t k : Int) (w : World) (hF : F.answers w.tape) (h0 : 0 ≤ t) (h1 : t ≤ 255) (k0 : 0 ≤ k) (k1 : k ≤ 255) :
    Calls Ybaf.prog 3 #[.int .u8 t, .int .u8 k] w fun e w' => e = .returned (.bool true) ∧ Below w.heap.size w w' := by
  go_enter Ybaf.func3, Ybaf.ntmps3
  go_wp2_with (first
    | (apply (pick_any _ _ (by assumption) (by assumption)).mono; rintro e w' ⟨⟨s, rfl, hs0, hs1⟩, rfl⟩)
    | (apply (tail_any F _ _ (by assumption) (by assumption) (by assumption)).mono; rintro e w1 ⟨s, rfl, hb, hn⟩)
    | (apply (name_any _ _).mono; rintro e w' ⟨⟨n, rfl, hn', hN⟩ | ⟨n, rfl, hN⟩, rfl⟩))
  all_goals
    go_ret
    exact ⟨rfl, hb⟩

end Go.Proofs.YbulkegsiFmt
