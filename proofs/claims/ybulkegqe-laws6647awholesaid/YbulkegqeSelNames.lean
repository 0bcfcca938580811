/-
  DERIVED. 'sortedNames', 'NewStrings' (after the worked walk of 'collect a map's keys, sort them').
-/
import Derived.Test.YbulkegqeSelText
import Derived.Sort.KeysCollected
import Derived.Sort.OwnSorted
import Derived.Maps.RangeWalk
namespace Go.Proofs.Ybulkegqe.lawS6647AWhole
set_option linter.unusedVariables false
set_option linter.unusedSimpArgs false
open Go.RowKit Go.Sort

set_option maxRecDepth 100000 in
set_option maxHeartbeats 1600000 in
theorem names_any (b n : Nat) (D0 : DataW Unit) (w : World) (hown : SM w b n D0) (hmax : Maps.size D0 ≤ 1000000) :
    Calls Yba.prog 21 #[.map (some b)] w fun e w' => ∃ (g cap : Nat) (ss : List Str), e = .returned (.slice (some ⟨g, 0, none⟩) ss.length cap) ∧ ss.Perm (strKeys D0) ∧
      w'.ownsRow w.heap.size 9 1 (.slice (some ⟨g, 0, none⟩) ss.length cap) ss.length ((ss.mergeSort (fun x y => decide (x ≤ y))).map encStr) ∧ Below w.heap.size w w' := by
  obtain ⟨i0, hi, hz0, hz1, hz2⟩ := info_parts Yba.info9
  have hbl := hown.lt
  have hmx : Maps.size D0 ≤ maxLen := by unfold maxLen; omega
  go_enter Yba.func21, Yba.ntmps21
  go_wp2_with (first
    | (at_len; refine wpList_len_own _ rfl _ 32 rfl 9 9 Yba.underlying32 _ b n _ rfl hown ?_)
    | (at_make; refine wpList_make_own _ rfl _ _ 28 rfl w.heap.size 9 i0 (.string ByteArray.empty) 1 Yba.underlying28 hi hz0 hz1 _ _ _ (Maps.size D0) rfl rfl rfl (by rw [hz2]; omega) hmx (Nat.le_refl _) ?_; intro w1 hrow1 hg1)
    | (at_range; refine wpList_range_own _ rfl _ 32 rfl 9 9 law9 Yba.underlying32 _ b n _ rfl (hown.kept hg1 (by simp)) ?_; intro w0 hrg0 hg0 hs0; clear hs0))
  go_frame
  go_loopw [3] (fun v wr => ∃ (left : Lit → Bool) (cnt : Nat) (ss : List Str), wr.ranges Yba.prog 9 (plainElem Yba.prog 9) b w1.heap.size n D0 left cnt ∧ ss.length + cnt ≤ Maps.size D0 ∧
      wr.ownsRow w.heap.size 9 1 v ss.length (ss.map encStr) ∧ v ≠ .slice none 0 0 ∧ Collected D0 left ss ∧ Below w.heap.size w wr)
    (fun _ wr => wr.rangeLeft b w1.heap.size)
  case atStart =>
    exact ⟨_, _, [], hrg0, by simp, hrow1.kept hg0 (Or.inr (by simp [Value.ownBlock])), by simp, Collected.start D0,
      ((Below.refl _ _).grown hg1 (Nat.le_refl _) (fun j hj => by cases hj)).grown hg0 hg1.size (fun j hj => by cases hj)⟩
  case round =>
    obtain ⟨left, cnt, ss, hrg, hcs, hrow, hnn, hC, hnx⟩ := hrel
    go_wp2_with (at_next; refine wpList_next_ranges _ rfl _ rfl 9 law9 (plainElem Yba.prog 9) encStr encStr (fun key kl hk => by obtain ⟨x, hx, _⟩ := Maps.keyOf_str Yba.underlying9 hk; exact ⟨x, hx⟩) (fun v y hv => by obtain ⟨s, rfl, _⟩ := plainElem_string_inv Yba.underlying9 hv; exact ⟨s.data.toList, by simp [encStr]⟩) b w1.heap.size n _ _ _ rfl hrg ?_ ?_)
    · intro hc0 hl0
      rcases hrow.2 with ⟨hnil, _⟩ | ⟨g, cap, cur, rfl, hbase, hb, h1, h2, h3, h4⟩
      · exact absurd hnil hnn
      have hH : Holds encStr wr g 0 ss.toArray := holds_of_block hb (by simpa using h4)
      have hgl : g < wr.heap.size := (Array.getElem?_eq_some_iff.1 hb).1
      have hc := Yba.sort_Strings g 0 cap ss wr hH hgl (by omega)
      go_wp2_with (go_at_call 46; refine hc.mono ?_; rintro e w' ⟨rfl, nn, os, rfl⟩)
      go_ret
      exact ⟨g, cap, ss, rfl, hC.perm hown law9 Yba.underlying9 hl0, ownsRow_sorted (by simp) hbase hb h1 h2 h3, hnx.grown (grownBy_sorted _) hnx.size (fun j hj => by cases hj; exact hbase)⟩
    · intro x c kl yd yp w2 cnt2 hkey hlk hv hat hrg2 hlt hg2 hs2 hen
      obtain ⟨x', ex, rfl, _⟩ := Maps.keyOf_str Yba.underlying9 hkey
      obtain rfl : x = x' := encStr_inj ex
      have hrow2 := hrow.kept hg2 (Or.inr (row_ne_iter hrow hrg).symm)
      clear hs2
      go_wp2_with (at_builtin; refine wpList_append_own _ rfl _ _ 28 rfl w.heap.size 9 i0 (.string ByteArray.empty) 1 16 Yba.underlying28 hi hz0 hz1 hz2 rfl (by decide) _ _ _ rfl (hrow2.alloc _) ⟨w2.heap.size, 0, none⟩ 1 1 [encStr x] rfl rfl (cell_one_new _ _ _) (by simp [Value.oneCell', encStr]) (by unfold maxLen; omega) (by omega) (by have := hnx.size; have := hg2.size; simp; omega) ?_; intro v' w3 hown' hg3 hnil3)
      have hrg3 := (hrg2.alloc _).kept hg3 (row_ne_low hrow2 hbl) (row_ne_iter hrow2 hrg2)
      go_roundw
      case rel =>
        refine ⟨_, cnt2, ss ++ [x], hrg3, by simp; omega, by simpa using hown', fun hv' => by have := (hnil3.1 hv').2; omega, hC.step hlk hat, ?_⟩
        exact ((hnx.grown hg2 hnx.size (fun j hj => by cases hj; exact hg1.size)).alloc (by have := hnx.size; have := hg2.size; omega) _).grown hg3 (by have := hnx.size; have := hg2.size; simp; omega) (fun j hj => (hrow2.lt j hj).1)
      case measure => rw [hrg3.left_eq, hrg.left_eq]; exact hlt

end Go.Proofs.Ybulkegqe.lawS6647AWhole
