/-
  DERIVED. THE WALKS of this seat over (Tag).String, the harness' name and pick: FOR EVERY F.
-/
import Derived.Test.YbulkegsiFmtBase
import Derived.Below
namespace Go.Proofs.YbulkegsiFmt
open Go.Extern.Stop Go.Stop Go.Extern Go.RowKit
set_option linter.unusedVariables false
set_option linter.unusedSimpArgs false
attribute [local go_sem] call12 call20 fguard fmt0 fmt0r fmt1 fmt1r fmt2 fmt2r fmt3 fmt3r fmt4 fmt4r fmt5 fmt5r fmt6 fmt6r fmt7 fmt7r fmt8 fmt8r fmt9 fmt9r fmt10 fmt10r act22_100 op22_100 act5_120s op5_120s act22_118w act3_100w op3_100w act44_100w op44_100w fstr22 ptr53 elem53 isError53

/-- The six names, as plain text. -/
def nameOf (t : Int) : Option ByteArray :=
  if t = 2 then some ⟨#[73, 78, 84, 69, 71, 69, 82]⟩
  else if t = 3 then some ⟨#[66, 73, 84, 32, 83, 84, 82, 73, 78, 71]⟩
  else if t = 4 then some ⟨#[79, 67, 84, 69, 84, 32, 83, 84, 82, 73, 78, 71]⟩
  else if t = 5 then some ⟨#[78, 85, 76, 76]⟩
  else if t = 6 then some ⟨#[79, 66, 74, 69, 67, 84, 32, 73, 68, 69, 78, 84, 73, 70, 73, 69, 82]⟩
  else if t = 48 then some ⟨#[83, 69, 81, 85, 69, 78, 67, 69]⟩
  else none

def Named (t : Int) : Prop := t = 2 ∨ t = 3 ∨ t = 4 ∨ t = 5 ∨ t = 6 ∨ t = 48

set_option maxHeartbeats 1600000 in
theorem string_named (t : Int) (w : World) (h : Named t) :
    Calls Ybaf.prog 6 #[.int .u8 t] w fun e w' => (∃ s, e = .returned (.string s) ∧ nameOf t = some s) ∧ w' = w := by
  rcases h with rfl | rfl | rfl | rfl | rfl | rfl
  all_goals
    go_enter Ybaf.func6, Ybaf.ntmps6
    go_wp2
    go_ret
    exact ⟨⟨_, rfl, rfl⟩, rfl⟩

set_option maxHeartbeats 1600000 in
theorem string_other (F : Interp) (t : Int) (w : World) (hF : F.answers w.tape) (h0 : 0 ≤ t) (h1 : t ≤ 255) (h : ¬ Named t) :
    Calls Ybaf.prog 6 #[.int .u8 t] w fun e w' => ∃ s, e = .returned (.string s) ∧ Below w.heap.size w w' := by
  have hF' := answers_open hF
  simp only [Named, not_or] at h
  obtain ⟨n2, n3, n4, n5, n6, n48⟩ := h
  have e2 : (t == 2) = false := by simpa using n2
  have e3 : (t == 3) = false := by simpa using n3
  have e4 : (t == 4) = false := by simpa using n4
  have e5 : (t == 5) = false := by simpa using n5
  have e6 : (t == 6) = false := by simpa using n6
  have e48 : (t == 48) = false := by simpa using n48
  clear n2 n3 n4 n5 n6 n48
  go_enter Ybaf.func6, Ybaf.ntmps6
  go_wp2
  all_goals
    apply rows_value nextTurns
    case hr =>
      go_simp
      exact ⟨rfl, rfl⟩
    case h =>
      go_wp2
      go_ret
      refine ⟨_, rfl, ?_⟩
      exact ((Below.refl _ _).alloc (Nat.le_refl _) _).drew

theorem string_any (F : Interp) (t : Int) (w : World) (hF : F.answers w.tape) (h0 : 0 ≤ t) (h1 : t ≤ 255) :
    Calls Ybaf.prog 6 #[.int .u8 t] w fun e w' => ∃ s, e = .returned (.string s) ∧ Below w.heap.size w w' := by
  by_cases h : Named t
  · refine (string_named t w h).mono fun e w' hh => ?_
    obtain ⟨⟨s, rfl, hs⟩, rfl⟩ := hh
    exact ⟨s, rfl, Below.refl _ _⟩
  · exact string_other F t w hF h0 h1 h

set_option maxHeartbeats 1600000 in
theorem name_any (t : Int) (w : World) : 
    Calls Ybaf.prog 7 #[.int .u8 t] w fun e w' => ((∃ s, e = .returned (.tuple #[.string s, .bool true]) ∧ nameOf t = some s ∧ Named t) ∨ (∃ s, e = .returned (.tuple #[.string s, .bool false]) ∧ ¬ Named t)) ∧ w' = w := by
  by_cases h : Named t
  · have h' := h
    rcases h with rfl | rfl | rfl | rfl | rfl | rfl
    all_goals
      go_enter Ybaf.func7, Ybaf.ntmps7
      go_wp2
      go_ret2
      exact ⟨Or.inl ⟨_, rfl, rfl, h'⟩, rfl⟩
  · have h' := h
    simp only [Named, not_or] at h
    obtain ⟨n2, n3, n4, n5, n6, n48⟩ := h
    have e2 : (t == 2) = false := by simpa using n2
    have e3 : (t == 3) = false := by simpa using n3
    have e4 : (t == 4) = false := by simpa using n4
    have e5 : (t == 5) = false := by simpa using n5
    have e6 : (t == 6) = false := by simpa using n6
    have e48 : (t == 48) = false := by simpa using n48
    clear n2 n3 n4 n5 n6 n48
    go_enter Ybaf.func7, Ybaf.ntmps7
    go_wp2
    go_ret2
    exact ⟨Or.inr ⟨_, rfl, h'⟩, rfl⟩

set_option maxHeartbeats 1600000 in
theorem pick_any (t : Int) (w : World) (h0 : 0 ≤ t) (h1 : t ≤ 255) : 
    Calls Ybaf.prog 5 #[.int .u8 t] w fun e w' => (∃ s, e = .returned (.int .u8 s) ∧ 0 ≤ s ∧ s ≤ 255) ∧ w' = w := by
  go_enter Ybaf.func5, Ybaf.ntmps5
  go_wp2
  all_goals
    go_ret
    exact ⟨⟨_, rfl, by omega, by omega⟩, rfl⟩

end Go.Proofs.YbulkegsiFmt
