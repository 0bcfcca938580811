import Derived.Test.YbulkegpcRows
import Derived.WalkKit
import Derived.ProofKit
import Derived.Below
import Derived.Lib.EndianBits
import Derived.Deep.QuietTactic
import Derived.BigQuiet
import Derived.Deep.RegionWith
import Derived.Deep.DeepCutAuto
import Derived.Outline
import Derived.Stop.LaidErr
namespace Go.Proofs.Ybulkegpc.lawS6645BWhole
set_option linter.unusedVariables false
set_option linter.unusedSimpArgs false
open Go.RowKit

/-- The number that eight bytes spell, the least first. -/
def le8 (z0 z1 z2 z3 z4 z5 z6 z7 : Int) : Int :=
  z0 + z1 * 256 + z2 * 65536 + z3 * 16777216 + z4 * 4294967296 + z5 * 1099511627776 + z6 * 281474976710656 + z7 * 72057594037927936

set_option maxHeartbeats 1600000 in
set_option maxRecDepth 100000 in
theorem u64_any (g o n c : Nat) (z0 z1 z2 z3 z4 z5 z6 z7 : Int) (w : World) (hn : 8 ≤ n)
    (b0 : 0 ≤ z0 ∧ z0 ≤ 255) (b1 : 0 ≤ z1 ∧ z1 ≤ 255) (b2 : 0 ≤ z2 ∧ z2 ≤ 255) (b3 : 0 ≤ z3 ∧ z3 ≤ 255) (b4 : 0 ≤ z4 ∧ z4 ≤ 255) (b5 : 0 ≤ z5 ∧ z5 ≤ 255) (b6 : 0 ≤ z6 ∧ z6 ≤ 255) (b7 : 0 ≤ z7 ∧ z7 ≤ 255)
    (c0 : w.cell? ⟨g, o, none⟩ = some (.int .u8 z0)) (c1 : w.cell? ⟨g, o + 1, none⟩ = some (.int .u8 z1)) (c2 : w.cell? ⟨g, o + 2, none⟩ = some (.int .u8 z2)) (c3 : w.cell? ⟨g, o + 3, none⟩ = some (.int .u8 z3))
    (c4 : w.cell? ⟨g, o + 4, none⟩ = some (.int .u8 z4)) (c5 : w.cell? ⟨g, o + 5, none⟩ = some (.int .u8 z5)) (c6 : w.cell? ⟨g, o + 6, none⟩ = some (.int .u8 z6)) (c7 : w.cell? ⟨g, o + 7, none⟩ = some (.int .u8 z7)) :
    Calls Yba.prog 5 #[.agg #[], .slice (some ⟨g, o, none⟩) n c] w fun e w' => e = .returned (.int .u64 (le8 z0 z1 z2 z3 z4 z5 z6 z7)) ∧ Below w.heap.size w w' := by
  have d0 := cell?_alloc_old (.cells #[] 32) c0
  have d1 := cell?_alloc_old (.cells #[] 32) c1
  have d2 := cell?_alloc_old (.cells #[] 32) c2
  have d3 := cell?_alloc_old (.cells #[] 32) c3
  have d4 := cell?_alloc_old (.cells #[] 32) c4
  have d5 := cell?_alloc_old (.cells #[] 32) c5
  have d6 := cell?_alloc_old (.cells #[] 32) c6
  have d7 := cell?_alloc_old (.cells #[] 32) c7
  have q0 : 0 < n := by omega
  have q1 : (1 : Int) < (n : Int) := by omega
  have q2 : (2 : Int) < (n : Int) := by omega
  have q3 : (3 : Int) < (n : Int) := by omega
  have q4 : (4 : Int) < (n : Int) := by omega
  have q5 : (5 : Int) < (n : Int) := by omega
  have q6 : (6 : Int) < (n : Int) := by omega
  have q7 : (7 : Int) < (n : Int) := by omega
  go_enter Yba.func5, Yba.ntmps5
  go_wp2
  go_quiet (fail)
  go_wp2
  go_ret
  refine ⟨?_, ((Below.refl _ w).alloc (Nat.le_refl _) _).trans ⟨rfl, rfl, rfl, Nat.le_refl _, fun _ _ => rfl⟩⟩
  obtain ⟨b0, b0'⟩ := b0
  obtain ⟨b1, b1'⟩ := b1
  obtain ⟨b2, b2'⟩ := b2
  obtain ⟨b3, b3'⟩ := b3
  obtain ⟨b4, b4'⟩ := b4
  obtain ⟨b5, b5'⟩ := b5
  obtain ⟨b6, b6'⟩ := b6
  obtain ⟨b7, b7'⟩ := b7
  simp (disch := omega) only [u64_wrap_id, u64_or8, u64_or16, u64_or24, u64_or32, u64_or40, u64_or48, u64_or56]
  rfl
end Go.Proofs.Ybulkegpc.lawS6645BWhole
