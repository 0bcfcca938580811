import Derived.Test.YbulkegqeChunks
namespace Go.Proofs.Ybulkegqe.lawS6647CWhole
set_option linter.unusedVariables false
set_option linter.unusedSimpArgs false
open Go.RowKit

/-- Where the closure and the four variables have just been made. -/
theorem inv_start (w : World) : Inv w w.heap.size 0 0 [] ((((w.alloc (.cells (StoreArr 0 0) 101)).alloc (.cells #[.pointer (some ⟨w.heap.size, 0, none⟩)] 46)).alloc (.cells #[.slice none 0 0] 102)).alloc (.cells #[.bool true] 4)) := by
  have s1 : (w.alloc (.cells (StoreArr 0 0) 101)).heap.size = w.heap.size + 1 := by simp
  have s2 : ((w.alloc (.cells (StoreArr 0 0) 101)).alloc (.cells #[.pointer (some ⟨w.heap.size, 0, none⟩)] 46)).heap.size = w.heap.size + 2 := by simp
  have s3 : (((w.alloc (.cells (StoreArr 0 0) 101)).alloc (.cells #[.pointer (some ⟨w.heap.size, 0, none⟩)] 46)).alloc (.cells #[.slice none 0 0] 102)).heap.size = w.heap.size + 3 := by simp
  refine ⟨?_, ?_, ⟨.slice none 0 0, ?_, World.ownsRow_nil _ _ _ _⟩, ?_, ?_⟩
  · unfold Holds
    rw [Below.heap_alloc _ _ _ (by omega), Below.heap_alloc _ _ _ (by omega), Below.heap_alloc _ _ _ (by omega)]
    exact heap_alloc_new w _
  · rw [Below.heap_alloc _ _ _ (by omega), Below.heap_alloc _ _ _ (by omega), ← s1]
    exact heap_alloc_new _ _
  · rw [Below.heap_alloc _ _ _ (by omega), ← s2]
    exact heap_alloc_new _ _
  · rw [← s3]
    exact heap_alloc_new _ _
  · exact ((((Below.refl _ w).alloc (Nat.le_refl _) _).alloc (by omega) _).alloc (by omega) _).alloc (by omega) _

theorem chunks_start (w : World) (n c : Int) (hn : n ≤ 65536) (h1 : 1 ≤ c) (h2 : c ≤ 1073741824) :
    Calls Yba.prog 13 #[.pointer (some ⟨w.heap.size, 0, none⟩), .int .i64 n, .int .i64 c, .func (.func 10) #[] #[.pointer (some ⟨w.heap.size + 1 + 1, 0, none⟩), .pointer (some ⟨w.heap.size + 1, 0, none⟩), .pointer (some ⟨w.heap.size + 1 + 1 + 1, 0, none⟩)]]
      ((((w.alloc (.cells (StoreArr 0 0) 101)).alloc (.cells #[.pointer (some ⟨w.heap.size, 0, none⟩)] 46)).alloc (.cells #[.slice none 0 0] 102)).alloc (.cells #[.bool true] 4))
      fun e w' => e = .returned (.tuple #[]) ∧ Inv w w.heap.size 0 0 (upto n.toNat) w' := chunks_any w w.heap.size n c _ (inv_start w) hn h1 h2

/-- What the last part of the law reads, where there is something to read. -/
theorem log_pos {w0 w : World} {B : Nat} {st rc : Int} {N : Nat} (hN : 0 < N) (h : Inv w0 B st rc (upto N) w) :
    ∃ g cap, w.heap[B + 2]? = some (.cells #[.slice (some ⟨g, 0, none⟩) N cap] 102 (0, 0)) ∧ ∀ j, j < N → w.cell? ⟨g, j, none⟩ = some (.int .i64 (j : Int)) := by
  obtain ⟨v, hv, hown⟩ := h.log
  rw [upto_length] at hown
  rcases hown.2 with ⟨rfl, h0⟩ | ⟨g, cap, cur, rfl, r⟩
  · omega
  · refine ⟨g, cap, hv, fun j hj => ?_⟩
    rw [hown.cellAt j (by omega)]
    simp [upto, hj]

theorem log_zero {w0 w : World} {B : Nat} {st rc : Int} (h : Inv w0 B st rc (upto 0) w) :
    ∃ ao cap, w.heap[B + 2]? = some (.cells #[.slice ao 0 cap] 102 (0, 0)) := by
  obtain ⟨v, hv, hown⟩ := h.log
  rw [upto_length] at hown
  rcases hown.2 with ⟨rfl, h0⟩ | ⟨g, cap, cur, rfl, r⟩
  · exact ⟨_, _, hv⟩
  · exact ⟨_, _, hv⟩

theorem chunks_pos (w : World) (N : Nat) (c : Int) (hn : N ≤ 65536) (h1 : 1 ≤ c) (h2 : c ≤ 1073741824) :
    Calls Yba.prog 13 #[.pointer (some ⟨w.heap.size, 0, none⟩), .int .i64 (N : Int), .int .i64 c, .func (.func 10) #[] #[.pointer (some ⟨w.heap.size + 1 + 1, 0, none⟩), .pointer (some ⟨w.heap.size + 1, 0, none⟩), .pointer (some ⟨w.heap.size + 1 + 1 + 1, 0, none⟩)]]
      ((((w.alloc (.cells (StoreArr 0 0) 101)).alloc (.cells #[.pointer (some ⟨w.heap.size, 0, none⟩)] 46)).alloc (.cells #[.slice none 0 0] 102)).alloc (.cells #[.bool true] 4))
      fun e w' => e = .returned (.tuple #[]) ∧ Inv w w.heap.size 0 0 (upto N) w' := by
  have := chunks_start w (N : Int) c (by omega) h1 h2
  rwa [Int.toNat_natCast] at this

theorem chunks_neg (w : World) (n : Int) (c : Int) (hn : n ≤ 0) (h1 : 1 ≤ c) (h2 : c ≤ 1073741824) :
    Calls Yba.prog 13 #[.pointer (some ⟨w.heap.size, 0, none⟩), .int .i64 n, .int .i64 c, .func (.func 10) #[] #[.pointer (some ⟨w.heap.size + 1 + 1, 0, none⟩), .pointer (some ⟨w.heap.size + 1, 0, none⟩), .pointer (some ⟨w.heap.size + 1 + 1 + 1, 0, none⟩)]]
      ((((w.alloc (.cells (StoreArr 0 0) 101)).alloc (.cells #[.pointer (some ⟨w.heap.size, 0, none⟩)] 46)).alloc (.cells #[.slice none 0 0] 102)).alloc (.cells #[.bool true] 4))
      fun e w' => e = .returned (.tuple #[]) ∧ Inv w w.heap.size 0 0 (upto 0) w' := by
  have := chunks_start w n c (by omega) h1 h2
  rwa [show n.toNat = 0 by omega] at this
end Go.Proofs.Ybulkegqe.lawS6647CWhole
