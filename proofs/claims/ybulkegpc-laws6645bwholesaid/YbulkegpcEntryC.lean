import Derived.Test.YbulkegpcEntryB
namespace Go.Proofs.Ybulkegpc.lawS6645BWhole
set_option linter.unusedVariables false
set_option linter.unusedSimpArgs false
open Go.RowKit
attribute [local go_sem ↓] Go.wp_at_zero Go.wp_at_succ

theorem u64_two18 {W : World} {g : Nat} {x : Nat → Int} (h : Head W g x) :
    Calls Yba.prog 5 #[.agg #[], .slice (some ⟨g, 2, none⟩) 16 16] W fun e w' => e = .returned (.int .u64 (le8 (x 2) (x 3) (x 4) (x 5) (x 6) (x 7) (x 8) (x 9))) ∧ Below W.heap.size W w' := u64_two h 18 18 (by omega)
theorem u64_ten18 {W : World} {g : Nat} {x : Nat → Int} (h : Head W g x) :
    Calls Yba.prog 5 #[.agg #[], .slice (some ⟨g, 10, none⟩) 8 8] W fun e w' => e = .returned (.int .u64 (le8 (x 10) (x 11) (x 12) (x 13) (x 14) (x 15) (x 16) (x 17))) ∧ Below W.heap.size W w' := u64_ten h 18 18 (by omega)

set_option maxHeartbeats 1600000 in
set_option maxRecDepth 100000 in
theorem entry_short (g : Nat) (x : Nat → Int) (w : World) (H : Head w g x) :
    Calls Yba.prog 4 #[.slice (some ⟨g, 0, none⟩) 18 18] w fun e w' =>
      e = .returned (.agg #[.int .u64 (le8 (x 10) (x 11) (x 12) (x 13) (x 14) (x 15) (x 16) (x 17)), .int .u64 (le8 (x 2) (x 3) (x 4) (x 5) (x 6) (x 7) (x 8) (x 9)), .int .u8 (x 0), .slice none 0 0]) ∧ Below w.heap.size w w' := by
  have c0 : w.cell? ⟨g, 0, none⟩ = some (.int .u8 (x 0)) := H.cell 0 (by omega)
  have g0 : g < w.heap.size := H.lt
  have gn0 : ¬ w.heap.size = g := by omega
  have gn1 : ¬ w.heap.size + 1 = g := by omega
  have g1 : g < w.heap.size + 1 := by omega
  have g2 : g < w.heap.size + 1 + 1 := by omega
  have HB : ∀ W, Below w.heap.size w W → Hid (Below w.heap.size w W) := fun W h => h
  have K0 := HB w (Below.refl _ w)
  go_enter Yba.func4, Yba.ntmps4
  go_wp2_with fail
  go_cut [3] (fun p3 wc => ∃ h, p3 = .pointer (some ⟨h, 0, none⟩) ∧ w.heap.size ≤ h ∧ ¬ w.heap.size = h ∧ Below w.heap.size w wc ∧
    wc.cell? ⟨h, 0, none⟩ = some (.int .u64 (le8 (x 10) (x 11) (x 12) (x 13) (x 14) (x 15) (x 16) (x 17))) ∧ wc.cell? ⟨h, 1, none⟩ = some (.int .u64 (le8 (x 2) (x 3) (x 4) (x 5) (x 6) (x 7) (x 8) (x 9))) ∧ wc.cell? ⟨h, 2, none⟩ = some (.int .u8 (x 0)) ∧ wc.cell? ⟨h, 3, none⟩ = some (.slice (some ⟨g, 0, none⟩) 0 0) ∧
    wc.frozen? ⟨h, 3, none⟩ = false ∧
    wc.cell? ⟨w.heap.size, 0, none⟩ = some (.int .u64 0) ∧ wc.cell? ⟨w.heap.size, 1, none⟩ = some (.int .u64 0) ∧ wc.cell? ⟨w.heap.size, 2, none⟩ = some (.int .u8 0) ∧ wc.cell? ⟨w.heap.size, 3, none⟩ = some (.slice none 0 0) ∧
    wc.frozen? ⟨w.heap.size, 0, none⟩ = false ∧ wc.frozen? ⟨w.heap.size, 1, none⟩ = false ∧ wc.frozen? ⟨w.heap.size, 2, none⟩ = false ∧ wc.frozen? ⟨w.heap.size, 3, none⟩ = false)
  case first =>
    go_region_held3 (fun w' => w'.cell? ⟨g, 0, none⟩ = some (.int .u8 (x 0))) (go_keep) (first
      | (go_at_call 5; have K2 := K1; go_must (refine (u64_ten18 (H.below (w' := _) ?_)).mono ?_; (first | exact K1.out | exact K1.out.alloc (by omega) _); rintro e w2 ⟨rfl, hb2⟩; obtain ⟨hc2, hf2⟩ := bcell hb2; have z2 := hb2.size; (try simp only [World.size_alloc] at z2); have y2n : ¬ w2.heap.size = g := (by omega); have y20 : w.heap.size < w2.heap.size := (by omega); have y21 : g < w2.heap.size := (by omega); (try have y22 : w.heap.size + 1 < w2.heap.size := (by omega)); (try have y23 : w1.heap.size < w2.heap.size := (by omega));  have K3 : Hid (Below w.heap.size w w2) := (by first | exact bcall K1.out hb2 | exact bcall (K1.out.alloc (by omega) _) hb2); clear hb2))
      | (go_at_call 5; go_must (refine (u64_two18 (H.below (w' := _) ?_)).mono ?_; (first | exact (K0.out.alloc (by omega) _).drew | exact ((K0.out.alloc (by omega) _).alloc (by simp) _).drew); rintro e w1 ⟨rfl, hb1⟩; obtain ⟨hc1, hf1⟩ := bcell hb1; have z1 := hb1.size; simp at z1; have y1n : ¬ w1.heap.size = g := (by omega); have y10 : w.heap.size < w1.heap.size := (by omega); have y11 : g < w1.heap.size := (by omega); have y12 : g < w1.heap.size + 1 := (by omega); have y13 : w.heap.size < w1.heap.size + 1 := (by omega); (try have y14 : w.heap.size + 1 < w1.heap.size := (by omega));  have K1 : Hid (Below w.heap.size w w1) := (by first | exact bcall ((K0.out.alloc (by omega) _).drew) hb1 | exact bcall (((K0.out.alloc (by omega) _).alloc (by simp) _).drew) hb1); clear hb1)))

    all_goals
      go_wp2_with fail
      go_meet
      have hs2 : w.heap.size < w.heap.size + 1 + 1 := by omega
      have K := K3.out
      have m1 : ¬ w1.heap.size = w.heap.size := by omega
      have m2 : ¬ w2.heap.size = w.heap.size := by omega
      refine ⟨_, rfl, ?_, ?_, ?_, ?_, ?_, ?_, ?_, ?_, ?_, ?_, ?_, ?_, ?_, ?_, ?_, ?_⟩
      · omega
      · omega
      · clear hc1 hc2 hf1 hf2
        repeat (first | refine Below.setCell ?_ (by first | exact Nat.le_refl _ | (show w.heap.size ≤ w1.heap.size; omega) | (show w.heap.size ≤ w.heap.size + 1; omega)) _ | refine Below.alloc ?_ (by omega) _)
        with_reducible exact K
      all_goals simp [go_sem, *]
  case rest =>
    obtain ⟨h, rfl, hh1, hh2, hb, e0, e1, e2, e3, f3, r0, r1, r2, r3, z0, z1, z2, z3⟩ := hcut
    have hh3 : ¬ h = w.heap.size := by omega
    have KB : Hid (Below w.heap.size w wc) := hb
    clear hb
    go_wp2
    refine bodyPost_ret (v := .agg #[.int .u64 (le8 (x 10) (x 11) (x 12) (x 13) (x 14) (x 15) (x 16) (x 17)), .int .u64 (le8 (x 2) (x 3) (x 4) (x 5) (x 6) (x 7) (x 8) (x 9)), .int .u8 (x 0), .slice none 0 0]) ?_ rfl ⟨rfl, ?_⟩
    · simp [results, Yba.results4, go_sem, *]
    · have K := KB.out
      repeat (refine Below.setCell ?_ (by first | exact Nat.le_refl _ | (show w.heap.size ≤ h; omega)) _)
      with_reducible exact K
end Go.Proofs.Ybulkegpc.lawS6645BWhole
