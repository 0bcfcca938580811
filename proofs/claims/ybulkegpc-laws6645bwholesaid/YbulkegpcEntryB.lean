import Derived.Test.YbulkegpcEntry
import Derived.Deep.DeepMust
import Derived.Deep.RegionHeld3
import Derived.Deep.DrawnRows
namespace Go.Proofs.Ybulkegpc.lawS6645BWhole
set_option linter.unusedVariables false
set_option linter.unusedSimpArgs false
open Go.RowKit
attribute [local go_sem ↓] Go.wp_at_zero Go.wp_at_succ

/-- A row of eighteen bytes at the head of block g. -/
structure Head (w : World) (g : Nat) (x : Nat → Int) : Prop where
  lt : g < w.heap.size
  bd : ∀ i, 0 ≤ x i ∧ x i ≤ 255
  cell : ∀ i, i < 18 → w.cell? ⟨g, i, none⟩ = some (.int .u8 (x i))

theorem Head.below {w w' : World} {g : Nat} {x : Nat → Int} (h : Head w g x) (hb : Below w.heap.size w w') : Head w' g x :=
  ⟨Nat.lt_of_lt_of_le h.lt hb.size, h.bd, fun i hi => (hb.cell (p := ⟨g, i, none⟩) h.lt).trans (h.cell i hi)⟩

theorem u64_two {W : World} {g : Nat} {x : Nat → Int} (h : Head W g x) (n cap : Nat) (hn : 18 ≤ n) :
    Calls Yba.prog 5 #[.agg #[], .slice (some ⟨g, 2, none⟩) (n - 2) (cap - 2)] W fun e w' => e = .returned (.int .u64 (le8 (x 2) (x 3) (x 4) (x 5) (x 6) (x 7) (x 8) (x 9))) ∧ Below W.heap.size W w' :=
  u64_any g 2 (n - 2) (cap - 2) _ _ _ _ _ _ _ _ W (by omega) (h.bd _) (h.bd _) (h.bd _) (h.bd _) (h.bd _) (h.bd _) (h.bd _) (h.bd _)
    (h.cell 2 (by omega)) (h.cell 3 (by omega)) (h.cell 4 (by omega)) (h.cell 5 (by omega)) (h.cell 6 (by omega)) (h.cell 7 (by omega)) (h.cell 8 (by omega)) (h.cell 9 (by omega))

theorem u64_ten {W : World} {g : Nat} {x : Nat → Int} (h : Head W g x) (n cap : Nat) (hn : 18 ≤ n) :
    Calls Yba.prog 5 #[.agg #[], .slice (some ⟨g, 10, none⟩) (n - 10) (cap - 10)] W fun e w' => e = .returned (.int .u64 (le8 (x 10) (x 11) (x 12) (x 13) (x 14) (x 15) (x 16) (x 17))) ∧ Below W.heap.size W w' :=
  u64_any g 10 (n - 10) (cap - 10) _ _ _ _ _ _ _ _ W (by omega) (h.bd _) (h.bd _) (h.bd _) (h.bd _) (h.bd _) (h.bd _) (h.bd _) (h.bd _)
    (h.cell 10 (by omega)) (h.cell 11 (by omega)) (h.cell 12 (by omega)) (h.cell 13 (by omega)) (h.cell 14 (by omega)) (h.cell 15 (by omega)) (h.cell 16 (by omega)) (h.cell 17 (by omega))

theorem bcall {w W w1 : World} (h : Below w.heap.size w W) (hb : Below W.heap.size W w1) : Below w.heap.size w w1 := h.trans (hb.mono h.size)

theorem bcell {W w1 : World} (hb : Below W.heap.size W w1) : (∀ b o, b < W.heap.size → w1.cell? ⟨b, o, none⟩ = W.cell? ⟨b, o, none⟩) ∧ (∀ b o, b < W.heap.size → w1.frozen? ⟨b, o, none⟩ = W.frozen? ⟨b, o, none⟩) :=
  ⟨fun b o h => hb.cell (p := ⟨b, o, none⟩) h, fun b o h => hb.frozen (p := ⟨b, o, none⟩) h⟩

set_option maxHeartbeats 1600000 in
set_option maxRecDepth 100000 in
theorem entry_long (g n cap : Nat) (x : Nat → Int) (w : World) (H : Head w g x) (hn : 18 < n) (hcap : n ≤ cap) (hmax : cap ≤ maxLen) :
    Calls Yba.prog 4 #[.slice (some ⟨g, 0, none⟩) n cap] w fun e w' =>
      e = .returned (.agg #[.int .u64 (le8 (x 10) (x 11) (x 12) (x 13) (x 14) (x 15) (x 16) (x 17)), .int .u64 (le8 (x 2) (x 3) (x 4) (x 5) (x 6) (x 7) (x 8) (x 9)), .int .u8 (x 0), .slice (some ⟨g, 18, none⟩) (n - 18) (cap - 18)]) ∧ Below w.heap.size w w' := by
  unfold maxLen at hmax
  have n2 : ¬ cap = 2 := by omega
  have n10 : ¬ cap = 10 := by omega
  have n18 : ¬ cap = 18 := by omega
  have q0 : (0 : Int) < (n : Int) := by omega
  have q1 : (2 : Int) ≤ (n : Int) := by omega
  have q2 : (10 : Int) ≤ (n : Int) := by omega
  have q3 : (18 : Int) ≤ (n : Int) := by omega
  have c0 : w.cell? ⟨g, 0, none⟩ = some (.int .u8 (x 0)) := H.cell 0 (by omega)
  have g0 : g < w.heap.size := H.lt
  have q00 : 0 < n := by omega
  have gn0 : ¬ w.heap.size = g := by omega
  have gn1 : ¬ w.heap.size + 1 = g := by omega
  have g1 : g < w.heap.size + 1 := by omega
  have g2 : g < w.heap.size + 1 + 1 := by omega
  have hn' : 18 ≤ n := by omega
  have HB : ∀ W, Below w.heap.size w W → Hid (Below w.heap.size w W) := fun W h => h
  have K0 := HB w (Below.refl _ w)
  go_enter Yba.func4, Yba.ntmps4
  go_wp2_with fail
  go_region_held3 (fun w' => w'.cell? ⟨g, 0, none⟩ = some (.int .u8 (x 0))) (go_keep) (first
    | (go_at_call 5; have K2 := K1; go_must (refine (u64_ten (H.below (w' := _) ?_) n cap hn').mono ?_; (first | exact K1.out | exact K1.out.alloc (by omega) _); rintro e w2 ⟨rfl, hb2⟩; obtain ⟨hc2, hf2⟩ := bcell hb2; have z2 := hb2.size; (try simp only [World.size_alloc] at z2); have y2n : ¬ w2.heap.size = g := (by omega); have y20 : w.heap.size < w2.heap.size := (by omega); have y21 : g < w2.heap.size := (by omega); (try have y22 : w.heap.size + 1 < w2.heap.size := (by omega)); (try have y23 : w1.heap.size < w2.heap.size := (by omega));  have K3 : Hid (Below w.heap.size w w2) := (by first | exact bcall K1.out hb2 | exact bcall (K1.out.alloc (by omega) _) hb2); clear hb2))
    | (go_at_call 5; go_must (refine (u64_two (H.below (w' := _) ?_) n cap hn').mono ?_; (first | exact (K0.out.alloc (by omega) _).drew | exact ((K0.out.alloc (by omega) _).alloc (by simp) _).drew); rintro e w1 ⟨rfl, hb1⟩; obtain ⟨hc1, hf1⟩ := bcell hb1; have z1 := hb1.size; simp at z1; have y1n : ¬ w1.heap.size = g := (by omega); have y10 : w.heap.size < w1.heap.size := (by omega); have y11 : g < w1.heap.size := (by omega); have y12 : g < w1.heap.size + 1 := (by omega); have y13 : w.heap.size < w1.heap.size + 1 := (by omega); (try have y14 : w.heap.size + 1 < w1.heap.size := (by omega));  have K1 : Hid (Below w.heap.size w w1) := (by first | exact bcall ((K0.out.alloc (by omega) _).drew) hb1 | exact bcall (((K0.out.alloc (by omega) _).alloc (by simp) _).drew) hb1); clear hb1)))
  all_goals
    go_wp2
    refine bodyPost_ret (v := .agg #[.int .u64 (le8 (x 10) (x 11) (x 12) (x 13) (x 14) (x 15) (x 16) (x 17)), .int .u64 (le8 (x 2) (x 3) (x 4) (x 5) (x 6) (x 7) (x 8) (x 9)), .int .u8 (x 0), .slice (some ⟨g, 18, none⟩) (n - 18) (cap - 18)]) ?_ rfl ⟨rfl, ?_⟩
    · have hs2 : w.heap.size < w.heap.size + 1 + 1 := by omega
      simp [results, Yba.results4, go_sem, *]
    · have K := K3.out
      clear hc1 hc2 hf1 hf2
      repeat (first | refine Below.setCell ?_ (by first | exact Nat.le_refl _ | (show w.heap.size ≤ w1.heap.size; omega) | (show w.heap.size ≤ w.heap.size + 1; omega)) _ | refine Below.alloc ?_ (by simp; omega) _)
      with_reducible exact K
end Go.Proofs.Ybulkegpc.lawS6645BWhole
