/-
  DERIVED. '(valueSet).has', 'newValueSet'.
-/
import Derived.Test.YbulkegqeSelBase
namespace Go.Proofs.Ybulkegqe.lawS6647AWhole
set_option linter.unusedVariables false
set_option linter.unusedSimpArgs false
open Go.RowKit

theorem eqMapIn_some (d b : Nat) (w : World) : (Op.equalIn (d + 1) 109 (.map (some b)) (.map none)).run Yba.prog w = .ok false w := by
  simp [Op.equalIn, run_underlying Yba.underlying109]
theorem eqMap_some (b : Nat) (w : World) : (binOp .eql 109 (.map (some b)) (.map none)).run Yba.prog w = .ok (.bool false) w := by
  simp only [binOp]
  simp [Op.equal, Op.maxDepth, eqMapIn_some 9999]
theorem eqMapIn_none (d : Nat) (w : World) : (Op.equalIn (d + 1) 109 (.map none) (.map none)).run Yba.prog w = .ok true w := by
  simp [Op.equalIn, run_underlying Yba.underlying109]
theorem eqMap_none (w : World) : (binOp .eql 109 (.map none) (.map none)).run Yba.prog w = .ok (.bool true) w := by
  simp only [binOp]
  simp [Op.equal, Op.maxDepth, eqMapIn_none 9999]
theorem eqSlIn_some (d : Nat) (a : Addr) (n c : Nat) (w : World) : (Op.equalIn (d + 1) 28 (.slice (some a) n c) (.slice none 0 0)).run Yba.prog w = .ok false w := by
  simp [Op.equalIn, run_underlying Yba.underlying28]
theorem eqSl_some (a : Addr) (n c : Nat) (w : World) : (binOp .eql 28 (.slice (some a) n c) (.slice none 0 0)).run Yba.prog w = .ok (.bool false) w := by
  simp only [binOp]
  simp [Op.equal, Op.maxDepth, eqSlIn_some 9999]
theorem eqSlIn_none (d : Nat) (w : World) : (Op.equalIn (d + 1) 28 (.slice none 0 0) (.slice none 0 0)).run Yba.prog w = .ok true w := by
  simp [Op.equalIn, run_underlying Yba.underlying28]
theorem eqSl_none (w : World) : (binOp .eql 28 (.slice none 0 0) (.slice none 0 0)).run Yba.prog w = .ok (.bool true) w := by
  simp only [binOp]
  simp [Op.equal, Op.maxDepth, eqSlIn_none 9999]

theorem al1 (w : World) (o : Obj) : Below w.heap.size w (w.alloc o) := (Below.refl _ w).alloc (Nat.le_refl _) o
theorem al2 (w : World) (o o2 : Obj) : Below w.heap.size w ((w.alloc o).alloc o2) := (al1 w o).alloc (al1 w o).size o2

set_option maxRecDepth 100000 in
theorem has_many (b n : Nat) (D : DataW Unit) (x : Str) (w : World) (hx : x.length ≤ maxLen) (ho : w.ownsMap Yba.prog 9 unitElem b n D) :
    Calls Yba.prog 57 #[.agg #[.slice none 0 0, .map (some b)], encStr x] w fun e w' => e = .returned (.bool (Maps.has D (.string x))) ∧ Below w.heap.size w w' := by
  have HX : Hid (x.length ≤ maxLen) := hx
  have q1 := eqMap_some
  clear hx
  go_enter Yba.func57, Yba.ntmps57
  go_wp2_with (first
    | (at_lookup; go_must (refine wpList_lookup_own_unit _ rfl _ _ 109 rfl 9 47 law9 Yba.underlying109 (zero47 _) b n D rfl (ho.alloc _) _ _ rfl (key9 x HX.out) ?_)))
  go_ret
  exact ⟨rfl, al2 _ _ _⟩

set_option maxRecDepth 100000 in
theorem has_nil (x : Str) (w : World) :
    Calls Yba.prog 57 #[.agg #[.slice none 0 0, .map none], encStr x] w fun e w' => e = .returned (.bool false) ∧ Below w.heap.size w w' := by
  have q1 := eqMap_none
  go_enter Yba.func57, Yba.ntmps57
  go_wp2
  go_loopw [15] (fun p wr => p = .int .i64 0 ∧ Below w.heap.size w wr) (fun _ _ => 0)
  case atStart => exact ⟨rfl, al1 _ _⟩
  case round =>
    obtain ⟨rfl, hb⟩ := hrel
    go_wp2
    go_ret
    exact ⟨rfl, hb⟩

set_option maxRecDepth 100000 in
theorem has_few (g n cap : Nat) (L : List Str) (x : Str) (w : World) (hn : n = L.length) (hc : n ≤ cap) (hm : cap ≤ maxLen) (hl : g < w.heap.size) (hcell : ∀ j, j < n → w.cell? ⟨g, j, none⟩ = some (encStr (L.getD j []))) :
    Calls Yba.prog 57 #[.agg #[.slice (some ⟨g, 0, none⟩) n cap, .map none], encStr x] w fun e w' => e = .returned (.bool (L.contains x)) ∧ Below w.heap.size w w' := by
  have q1 := eqMap_none
  have HN : Hid (n = L.length) := hn
  have HC : Hid (∀ j, j < n → w.cell? ⟨g, j, none⟩ = some (encStr (L.getD j []))) := hcell
  have hm2 : n ≤ 9223372036854775807 := by have : cap ≤ 9223372036854775807 := hm; omega
  clear hn hcell
  go_enter Yba.func57, Yba.ntmps57
  go_wp2
  go_loopw [15] (fun p wr => ∃ k : Nat, p = .int .i64 k ∧ k ≤ n ∧ (∀ j, j < k → L.getD j [] ≠ x) ∧ Below w.heap.size w wr) (fun p _ => n - (intOf p).toNat)
  case atStart => exact ⟨0, rfl, Nat.zero_le _, fun j hj => absurd hj (Nat.not_lt_zero _), al1 _ _⟩
  case round =>
    obtain ⟨k, rfl, hk, hne, hb⟩ := hrel
    have HB : Hid (Below w.heap.size w wr) := hb
    have HE : Hid (∀ j, j < k → L.getD j [] ≠ x) := hne
    by_cases hlt : k < n
    · have ck : wr.cell? ⟨g, k, none⟩ = some (encStr (L.getD k [])) := by rw [hb.cell hl]; exact HC.out k hlt
      obtain ⟨s, hs⟩ : ∃ s, s = L.getD k [] := ⟨_, rfl⟩
      rw [← hs] at ck
      have HS : Hid (s = L.getD k []) := hs
      clear hs hb hne
      by_cases e : s = x
      · subst e
        go_wp2
        go_ret
        refine ⟨?_, HB.out⟩
        have : s ∈ L := by
          rw [HS.out]
          have := HN.out
          rw [show L.getD k [] = L[k] by simp [List.getD, show k < L.length by omega]]
          exact List.getElem_mem _
        simp [this]
      · have e2 : (s == x) = false := by simpa using e
        clear e
        go_wp2
        refine ⟨⟨k + 1, by go_num, by omega, fun j hj => ?_, HB.out⟩, ?_⟩
        · by_cases hj2 : j = k
          · subst hj2; rw [← HS.out]; exact fun h => by rw [h] at e2; simp at e2
          · exact HE.out j (by omega)
        · simp [intOf]; omega
    · clear hb hne
      go_wp2
      go_ret
      refine ⟨?_, HB.out⟩
      have : x ∉ L := by
        intro hx
        obtain ⟨j, hj, e⟩ := List.getElem_of_mem hx
        have := HN.out
        exact HE.out j (by omega) (by simp [List.getD, hj, e])
      simp [this]

/-- '(valueSet).has'. -/
theorem has_any (fv mv : Value) (S : Str → Bool) (x : Str) (w : World) (hS : SetIs w fv mv S) (hx : x.length ≤ maxLen) :
    Calls Yba.prog 57 #[.agg #[fv, mv], encStr x] w fun e w' => e = .returned (.bool (S x)) ∧ Below w.heap.size w w' := by
  rcases hS with ⟨rfl, L, B, hr, hS⟩ | ⟨rfl, b, n, D, rfl, ho, hS⟩
  · rw [hS x]
    rcases hr.shape with ⟨rfl, rfl⟩ | ⟨g, cap, rfl, hg, _, hc, hm, hcell⟩
    · exact has_nil x w
    · exact has_few g _ cap L x w rfl hc hm hg (fun j hj => (hcell j hj).1)
  · rw [hS x]
    exact has_many b n D x w hx ho

end Go.Proofs.Ybulkegqe.lawS6647AWhole
