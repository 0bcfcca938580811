/-
  DERIVED. fmt.Errorf OF THIS SEAT's OPERANDS: some error that is not nil, FOR EVERY F.
-/
import Derived.Test.YbulkegsiFmtTag
import Derived.WalkLawsBesides
namespace Go.Proofs.YbulkegsiFmt
open Go.Extern.Stop Go.Stop Go.Extern Go.RowKit
set_option linter.unusedVariables false
set_option linter.unusedSimpArgs false
attribute [local go_sem] call12 call20 fguard fmt0 fmt0r fmt1 fmt1r fmt2 fmt2r fmt3 fmt3r fmt4 fmt4r fmt5 fmt5r fmt6 fmt6r fmt7 fmt7r fmt8 fmt8r fmt9 fmt9r fmt10 fmt10r act22_100 op22_100 act5_120s op5_120s act22_118w act3_100w op3_100w act44_100w op44_100w fstr22 ptr53 elem53 isError53

set_option maxHeartbeats 1600000 in
theorem errorf1 (F : Interp) (f : ByteArray) (hp : ∀ w, (FmtDoors.printed f 1).run Ybaf.prog w = .ok [(0, 118, false)] w) (t : Int) (w : World) (b c : Nat) (hF : F.answers w.tape) (h0 : 0 ≤ t) (h1 : t ≤ 255)
    (hb : b < w.heap.size) (hc : w.cell? ⟨b, 0, none⟩ = some (.iface 22 (.int .u8 t))) :
    Calls Ybaf.prog 19 #[.string f, .slice (some ⟨b, 0, none⟩) 1 c] w fun e w' => ∃ p, e = .returned (.iface 53 p) ∧ Below w.heap.size w w' := by
  have hF' := answers_open hF
  go_enter Ybaf.func19, Ybaf.ntmps19
  go_wp2
  apply rows_call nextTurns
  case hr =>
    go_simp
    exact ⟨⟨rfl, rfl, rfl⟩, rfl⟩
  case hi => exact invokeString22 _ _
  case hc =>
    refine (string_any F t _ (by exact hF) h0 h1).mono ?_
    rintro e w3 ⟨s, rfl, hb3⟩
    have hF3 : F.answers w3.tape := by rw [hb3.tape]; exact hF
    have hF3' := answers_open hF3
    have hc3 : w3.cell? ⟨b, 0, none⟩ = some (.iface 22 (.int .u8 t)) := by rw [hb3.cell hb]; exact hc
    clear hF hF' hc
    apply rows_value nextReturned
    case hr =>
      go_simp
      exact ⟨rfl, rfl⟩
    case h =>
      go_wp2
      go_ret
      refine ⟨_, rfl, ?_⟩
      exact (hb3.drew).alloc hb3.size _


set_option maxHeartbeats 1600000 in
theorem errorf2 (F : Interp) (f : ByteArray) (hp : ∀ w, (FmtDoors.printed f 2).run Ybaf.prog w = .ok [(0, 118, false), (1, 118, false)] w) (t u : Int) (w : World) (b c : Nat) (hF : F.answers w.tape) (h0 : 0 ≤ t) (h1 : t ≤ 255) (u0 : 0 ≤ u) (u1 : u ≤ 255)
    (hb : b < w.heap.size) (hc0 : w.cell? ⟨b, 0, none⟩ = some (.iface 22 (.int .u8 t))) (hc1 : w.cell? ⟨b, 1, none⟩ = some (.iface 22 (.int .u8 u))) :
    Calls Ybaf.prog 19 #[.string f, .slice (some ⟨b, 0, none⟩) 2 c] w fun e w' => ∃ p, e = .returned (.iface 53 p) ∧ Below w.heap.size w w' := by
  have hF' := answers_open hF
  go_enter Ybaf.func19, Ybaf.ntmps19
  go_wp2
  apply rows_call nextTurns
  case hr =>
    go_simp
    exact ⟨⟨rfl, rfl, rfl⟩, rfl⟩
  case hi => exact invokeString22 _ _
  case hc =>
    refine (string_any F t _ (by exact hF) h0 h1).mono ?_
    rintro e w3 ⟨s, rfl, hb3⟩
    have hF3 : F.answers w3.tape := by rw [hb3.tape]; exact hF
    have hF3' := answers_open hF3
    have hd0 : w3.cell? ⟨b, 0, none⟩ = some (.iface 22 (.int .u8 t)) := by rw [hb3.cell hb]; exact hc0
    have hd1 : w3.cell? ⟨b, 1, none⟩ = some (.iface 22 (.int .u8 u)) := by rw [hb3.cell hb]; exact hc1
    clear hF' hc0 hc1
    apply rows_call nextReturned
    case hr =>
      go_simp
      exact ⟨⟨rfl, rfl, rfl⟩, rfl⟩
    case hi => exact invokeString22 _ _
    case hc =>
      refine (string_any F u _ (by exact hF3) u0 u1).mono ?_
      rintro e w4 ⟨s2, rfl, hb4⟩
      have hF4 : F.answers w4.tape := by rw [hb4.tape]; exact hF3
      have hF4' := answers_open hF4
      have hb5 : Below w.heap.size w w4 := hb3.trans (hb4.mono hb3.size)
      clear hF3' hF3 hd0 hd1
      apply rows_value nextReturned
      case hr =>
        go_simp
        exact ⟨rfl, rfl⟩
      case h =>
        go_wp2
        go_ret
        refine ⟨_, rfl, ?_⟩
        exact (hb5.drew).alloc hb5.size _

set_option maxHeartbeats 1600000 in
theorem errorf3 (F : Interp) (f : ByteArray) (hp : ∀ w, (FmtDoors.printed f 3).run Ybaf.prog w = .ok [(0, 118, false), (1, 100, false), (2, 100, false)] w) (t x y : Int) (w : World) (b c : Nat) (hF : F.answers w.tape) (h0 : 0 ≤ t) (h1 : t ≤ 255)
    (hb : b < w.heap.size) (hc0 : w.cell? ⟨b, 0, none⟩ = some (.iface 22 (.int .u8 t))) (hc1 : w.cell? ⟨b, 1, none⟩ = some (.iface 3 (.int .i64 x))) (hc2 : w.cell? ⟨b, 2, none⟩ = some (.iface 3 (.int .i64 y))) :
    Calls Ybaf.prog 19 #[.string f, .slice (some ⟨b, 0, none⟩) 3 c] w fun e w' => ∃ p, e = .returned (.iface 53 p) ∧ Below w.heap.size w w' := by
  have hF' := answers_open hF
  go_enter Ybaf.func19, Ybaf.ntmps19
  go_wp2
  apply rows_call nextTurns
  case hr =>
    go_simp
    exact ⟨⟨rfl, rfl, rfl⟩, rfl⟩
  case hi => exact invokeString22 _ _
  case hc =>
    refine (string_any F t _ (by exact hF) h0 h1).mono ?_
    rintro e w3 ⟨s, rfl, hb3⟩
    have hF3 : F.answers w3.tape := by rw [hb3.tape]; exact hF
    have hF3' := answers_open hF3
    have hd0 : w3.cell? ⟨b, 0, none⟩ = some (.iface 22 (.int .u8 t)) := by rw [hb3.cell hb]; exact hc0
    have hd1 : w3.cell? ⟨b, 1, none⟩ = some (.iface 3 (.int .i64 x)) := by rw [hb3.cell hb]; exact hc1
    have hd2 : w3.cell? ⟨b, 2, none⟩ = some (.iface 3 (.int .i64 y)) := by rw [hb3.cell hb]; exact hc2
    clear hF' hc0 hc1 hc2
    apply rows_value nextReturned
    case hr =>
      go_simp
      exact ⟨rfl, rfl⟩
    case h =>
      go_wp2
      go_ret
      refine ⟨_, rfl, ?_⟩
      exact (hb3.drew).alloc hb3.size _

set_option maxHeartbeats 1600000 in
theorem errorf2u (F : Interp) (f : ByteArray) (hp : ∀ w, (FmtDoors.printed f 2).run Ybaf.prog w = .ok [(0, 118, false), (1, 100, false)] w) (t x : Int) (w : World) (b c : Nat) (hF : F.answers w.tape) (h0 : 0 ≤ t) (h1 : t ≤ 255)
    (hb : b < w.heap.size) (hc0 : w.cell? ⟨b, 0, none⟩ = some (.iface 22 (.int .u8 t))) (hc1 : w.cell? ⟨b, 1, none⟩ = some (.iface 44 (.int .u64 x))) :
    Calls Ybaf.prog 19 #[.string f, .slice (some ⟨b, 0, none⟩) 2 c] w fun e w' => ∃ p, e = .returned (.iface 53 p) ∧ Below w.heap.size w w' := by
  have hF' := answers_open hF
  go_enter Ybaf.func19, Ybaf.ntmps19
  go_wp2
  apply rows_call nextTurns
  case hr =>
    go_simp
    exact ⟨⟨rfl, rfl, rfl⟩, rfl⟩
  case hi => exact invokeString22 _ _
  case hc =>
    refine (string_any F t _ (by exact hF) h0 h1).mono ?_
    rintro e w3 ⟨s, rfl, hb3⟩
    have hF3 : F.answers w3.tape := by rw [hb3.tape]; exact hF
    have hF3' := answers_open hF3
    have hd0 : w3.cell? ⟨b, 0, none⟩ = some (.iface 22 (.int .u8 t)) := by rw [hb3.cell hb]; exact hc0
    have hd1 : w3.cell? ⟨b, 1, none⟩ = some (.iface 44 (.int .u64 x)) := by rw [hb3.cell hb]; exact hc1
    clear hF' hc0 hc1
    apply rows_value nextReturned
    case hr =>
      go_simp
      exact ⟨rfl, rfl⟩
    case h =>
      go_wp2
      go_ret
      refine ⟨_, rfl, ?_⟩
      exact (hb3.drew).alloc hb3.size _

end Go.Proofs.YbulkegsiFmt
