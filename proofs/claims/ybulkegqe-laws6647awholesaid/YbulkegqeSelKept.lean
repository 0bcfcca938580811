/-
  DERIVED. 'kept'.
-/
import Derived.Test.YbulkegqeSelNew
namespace Go.Proofs.Ybulkegqe.lawS6647AWhole
set_option linter.unusedVariables false
set_option linter.unusedSimpArgs false
open Go.RowKit

theorem zero9 (w : World) : (zeroValue 9).run Yba.prog w = .ok (Value.string ⟨#[]⟩) w := by kernel_rfl

theorem clear_nil (w : World) (ty : TypeId) : (Builtin.clear_ #[28] ty #[.slice none 0 0]).run Yba.prog w = .ok (.tuple #[]) w := by
  simp [Builtin.clear_, run_underlying Yba.underlying28]
theorem clear_zero (w : World) (ty : TypeId) (a : Addr) (c : Nat) : (Builtin.clear_ #[28] ty #[.slice (some a) 0 c]).run Yba.prog w = .ok (.tuple #[]) w := by
  simp [Builtin.clear_, run_underlying Yba.underlying28]
theorem clear_some (w : World) (ty : TypeId) (g o m cp : Nat) (c : Array Value) (hg : w.heap[g]? = some (.cells c 9 (0, 0))) (hf : o + (m + 1) ≤ c.size) :
    (Builtin.clear_ #[28] ty #[.slice (some ⟨g, o, none⟩) (m + 1) cp]).run Yba.prog w = .ok (.tuple #[]) (w.setRow g (c.toList.take o ++ List.replicate (m + 1) (Value.string ⟨#[]⟩) ++ c.toList.drop (o + (m + 1))).toArray) := by
  have hz : (Builtin.zeroCells #[Value.string ⟨#[]⟩] (m + 1)).toList = List.replicate (m + 1) (Value.string ⟨#[]⟩) := by
    apply List.ext_getElem
    · simp [Builtin.zeroCells]
    · intro i h1 h2
      simp [Builtin.zeroCells, Nat.mod_one]
  have hst := run_storeCells_at (P := Yba.prog) g o 9 (List.replicate (m + 1) (Value.string ⟨#[]⟩)) 0 c w hg (by simpa using hf) (fun v hv => by simp [List.mem_replicate] at hv; subst hv; rfl)
  simp only [Nat.add_zero, List.length_replicate] at hst
  have hz' : (Builtin.zeroCells (Value.string ⟨#[]⟩).cells (m + 1)).toList = List.replicate (m + 1) (Value.string ⟨#[]⟩) := hz
  simp [Builtin.clear_, run_underlying Yba.underlying28, zero9, hz', hst, Result.andThen]

set_option maxRecDepth 100000 in
theorem kept_nil (fv mv : Value) (inn : Bool) (w : World) :
    Calls Yba.prog 40 #[.slice none 0 0, .agg #[fv, mv], .bool inn] w fun e w' => e = .returned (.slice none 0 0) ∧ Below w.heap.size w w' := by
  have q1 := clear_nil
  go_enter Yba.func40, Yba.ntmps40
  go_wp2
  go_loopw [12, 7] (fun p q wr => p = .int .i64 0 ∧ q = .int .i64 0 ∧ Below w.heap.size w wr) (fun _ _ _ => 0)
  case atStart => exact ⟨rfl, rfl, al1 _ _⟩
  case round =>
    obtain ⟨rfl, rfl, hb⟩ := hrel
    go_wp2
    go_ret
    exact ⟨rfl, hb⟩

/-- The row in the round k of 'kept'. -/
def KInv (w : World) (g cap : Nat) (fv mv : Value) (L : List Str) (p : Str → Bool) (k : Nat) (wr : World) : Prop :=
  ∃ c : Array Value, wr.heap[g]? = some (.cells c 9 (0, 0)) ∧ c.size = cap ∧ c.toList.take ((L.take k).filter p).length = ((L.take k).filter p).map encStr ∧
    (∀ j, k ≤ j → j < L.length → c[j]? = some (encStr (L.getD j []))) ∧ w.grownBy wr (some g) ∧ wr.heap[w.heap.size]? = some (.cells #[fv, mv] 111 (0, 0))

theorem KInv.later {w wr w1 : World} {g cap : Nat} {fv mv : Value} {L : List Str} {p : Str → Bool} {k : Nat} (h : KInv w g cap fv mv L p k wr) (hb : Below wr.heap.size wr w1) : KInv w g cap fv mv L p k w1 := by
  obtain ⟨c, h1, h2, h3, h4, h5, h6⟩ := h
  exact ⟨c, (hb.block g (Array.getElem?_eq_some_iff.1 h1).1).trans h1, h2, h3, h4, h5.trans (grown_of_below hb _), (hb.block _ (Array.getElem?_eq_some_iff.1 h6).1).trans h6⟩

theorem take_filter_succ (L : List Str) (p : Str → Bool) (k : Nat) (hk : k < L.length) : (L.take (k + 1)).filter p = (L.take k).filter p ++ (if p (L.getD k []) then [L.getD k []] else []) := by
  have e : L.take (k + 1) = L.take k ++ [L.getD k []] := by
    rw [List.take_add_one]
    simp [List.getD, hk]
  rw [e, List.filter_append]
  congr 1
  simp [List.filter_cons]

theorem KInv.pass {w wr : World} {g cap : Nat} {fv mv : Value} {L : List Str} {p : Str → Bool} {k : Nat} (h : KInv w g cap fv mv L p k wr) (hk : k < L.length) (hp : p (L.getD k []) = false) : KInv w g cap fv mv L p (k + 1) wr := by
  obtain ⟨c, h1, h2, h3, h4, h5, h6⟩ := h
  refine ⟨c, h1, h2, ?_, fun j hj => h4 j (by omega), h5, h6⟩
  rw [take_filter_succ L p k hk, hp]
  simpa using h3

theorem KInv.put {w wr : World} {g cap : Nat} {fv mv : Value} {L : List Str} {p : Str → Bool} {k : Nat} (h : KInv w g cap fv mv L p k wr) (hk : k < L.length) (hL : L.length ≤ cap) (hg : g ≠ w.heap.size) (hp : p (L.getD k []) = true) : KInv w g cap fv mv L p (k + 1) (wr.setCell ⟨g, ((L.take k).filter p).length, none⟩ (encStr (L.getD k []))) := by
  obtain ⟨c, h1, h2, h3, h4, h5, h6⟩ := h
  have hle : ((L.take k).filter p).length ≤ k := Nat.le_trans (List.length_filter_le _ _) (by simp; omega)
  refine ⟨c.setIfInBounds ((L.take k).filter p).length (encStr (L.getD k [])), heap_setCell_same wr g _ c 9 _ h1, by simp [h2], ?_, fun j hj hj2 => ?_, ?_, ?_⟩
  · rw [take_filter_succ L p k hk, if_pos hp]
    simp only [List.length_append, List.length_singleton, List.map_append, List.map_cons, List.map_nil, Array.toList_setIfInBounds]
    rw [List.take_add_one, List.take_set_of_le (Nat.le_refl _), h3]
    congr 1
    rw [List.getElem?_set_self (by simp [h2]; omega)]
    rfl
  · rw [Array.getElem?_setIfInBounds_ne (by omega)]
    exact h4 j (by omega) hj2
  · exact ⟨h5.os, h5.tape, h5.output, by simpa using h5.size, fun i hi hn => by rw [heap_setCell_other _ _ _ _ (by simpa using hn)]; exact h5.block i hi hn⟩
  · rw [heap_setCell_other _ _ _ _ (by simpa using Ne.symm hg)]
    exact h6


theorem KInv.cell {w wr : World} {g cap : Nat} {fv mv : Value} {L : List Str} {p : Str → Bool} {k : Nat} (h : KInv w g cap fv mv L p k wr) (r : Nat) (hr : r < cap) : ∃ u, wr.cell? ⟨g, r, none⟩ = some u ∧ wr.frozen? ⟨g, r, none⟩ = false := by
  obtain ⟨c, h1, h2, _⟩ := h
  refine ⟨c[r]'(by omega), ?_, frozen_of_row _ _ _ _ _ h1⟩
  rw [cell_of_row _ _ _ _ _ _ h1]
  simp [h2, hr]

/-- The row behind 'clear'. -/
theorem KInv.done {w wr : World} {g cap B : Nat} {fv mv : Value} {L : List Str} {p : Str → Bool} (h : KInv w g cap fv mv L p L.length wr) (hL : L.length ≤ cap) (hm : cap ≤ maxLen) (hB : B ≤ g) : SRow B wr (.slice (some ⟨g, 0, none⟩) (L.filter p).length cap) (L.filter p) ∧ w.grownBy wr (some g) := by
  obtain ⟨c, h1, h2, h3, h4, h5, h6⟩ := h
  rw [List.take_length] at h3
  refine ⟨⟨by simp, .inr ⟨g, cap, c, rfl, hB, h1, Nat.le_trans (List.length_filter_le _ _) hL, hm, by simpa using h2, by simpa using h3⟩⟩, h5⟩

theorem KInv.cleared {w wr : World} {g cap m : Nat} {fv mv : Value} {L : List Str} {p : Str → Bool} (hg : g ≠ w.heap.size) (h : KInv w g cap fv mv L p L.length wr) (hm : (L.filter p).length + (m + 1) ≤ cap) :
    ∃ w1, (∀ ty cp, (Builtin.clear_ #[28] ty #[.slice (some ⟨g, (L.filter p).length, none⟩) (m + 1) cp]).run Yba.prog wr = .ok (.tuple #[]) w1) ∧ KInv w g cap fv mv L p L.length w1 := by
  obtain ⟨c, h1, h2, h3, h4, h5, h6⟩ := h
  refine ⟨_, fun ty cp => clear_some wr ty g _ m cp c h1 (by rw [h2]; exact hm), ?_⟩
  rw [List.take_length] at h3
  refine ⟨_, setRow_heap wr g c _ 9 _ h1, ?_, ?_, fun j hj hj2 => by omega, ?_, ?_⟩
  · simp only [List.size_toArray, List.length_append, List.length_take, List.length_drop, List.length_replicate, Array.length_toList]
    omega
  · rw [List.take_length, List.append_assoc, h3]
    simp
  · exact ⟨h5.os, h5.tape, h5.output, by simpa using h5.size, fun i hi hn => by rw [setRow_other _ _ _ _ (by simpa using hn)]; exact h5.block i hi hn⟩
  · rw [setRow_other _ _ _ _ (Ne.symm hg)]
    exact h6

set_option maxRecDepth 100000 in
theorem kept_row (g cap B : Nat) (L : List Str) (fv mv : Value) (S : Str → Bool) (inn : Bool) (w : World) (hr : SRow B w (.slice (some ⟨g, 0, none⟩) L.length cap) L) (hS : SetIs w fv mv S) (hne : setBlk fv mv ≠ some g) (hLx : ∀ j, (L.getD j []).length ≤ maxLen) :
    Calls Yba.prog 40 #[.slice (some ⟨g, 0, none⟩) L.length cap, .agg #[fv, mv], .bool inn] w fun e w' => ∃ n, n = (L.filter fun x => S x == inn).length ∧ e = .returned (.slice (some ⟨g, 0, none⟩) n cap) ∧ SRow B w' (.slice (some ⟨g, 0, none⟩) n cap) (L.filter fun x => S x == inn) ∧ w.grownBy w' (some g) := by
  obtain ⟨p, hp⟩ : ∃ p : Str → Bool, p = fun x => S x == inn := ⟨_, rfl⟩
  have HP : Hid (p = fun x => S x == inn) := hp
  rw [← hp]
  obtain ⟨n, en⟩ : ∃ n, n = L.length := ⟨_, rfl⟩
  have h0 : KInv w g cap fv mv L p 0 (w.alloc (.cells #[fv, mv] 111)) := by
    rcases hr.2 with ⟨h, _⟩ | ⟨g', cap', cur, hv, hg, hh, hc, hm, hs, ht⟩
    · cases h
    · simp only [Value.slice.injEq, Option.some.injEq, Addr.mk.injEq, and_true, true_and] at hv
      obtain ⟨rfl, rfl⟩ := hv
      have hlt := (Array.getElem?_eq_some_iff.1 hh).1
      refine ⟨cur, by rw [Below.heap_alloc _ _ _ hlt]; exact hh, by simpa using hs, by simp, fun j _ hj => ?_, World.grownBy_alloc _ _ _, heap_alloc_new _ _⟩
      have e : (cur.toList.take (L.length * 1))[j]? = (L.map encStr)[j]? := by rw [ht]
      rw [List.getElem?_take, if_pos (by omega)] at e
      simpa [List.getD, hj] using e
  rcases hr.shape with ⟨h, _⟩ | ⟨g', cap', hv, hgl, hgB, hc, hm, _⟩
  · cases h
  simp only [Value.slice.injEq, Option.some.injEq, Addr.mk.injEq, and_true, true_and] at hv
  obtain ⟨rfl, rfl⟩ := hv
  have hm2 : L.length ≤ 9223372036854775807 := by have : cap ≤ 9223372036854775807 := hm; omega
  have hm3 : cap ≤ 9223372036854775807 := hm
  have HM : Hid (cap ≤ maxLen) := hm
  rw [← en] at hc hm2 ⊢
  have HN : Hid (n = L.length) := en
  have HS : Hid (SetIs w fv mv S) := hS
  have HNE : Hid (setBlk fv mv ≠ some g) := hne
  have HLX : Hid (∀ j, (L.getD j []).length ≤ maxLen) := hLx
  have H0 : Hid (KInv w g cap fv mv L p 0 (w.alloc (.cells #[fv, mv] 111))) := h0
  have q1 := clear_zero
  clear hr hS hne hp hLx h0 en hm
  go_enter Yba.func40, Yba.ntmps40
  go_wp2
  go_loopw [12, 7] (fun p' q wr => ∃ k r : Nat, p' = .int .i64 k ∧ q = .int .i64 r ∧ r = ((L.take k).filter p).length ∧ k ≤ n ∧ r ≤ k ∧ KInv w g cap fv mv L p k wr) (fun p' _ _ => n - (intOf p').toNat)
  case atStart => exact ⟨0, 0, rfl, rfl, by simp, Nat.zero_le _, Nat.le_refl _, H0.out⟩
  case round =>
    obtain ⟨k, r, rfl, rfl, hr, hk, hrk, hI⟩ := hrel
    have HI : Hid (KInv w g cap fv mv L p k wr) := hI
    have HR : Hid (r = ((L.take k).filter p).length) := hr
    obtain ⟨c, h1, h2, h3, h4, h5, h6⟩ := hI
    by_cases hlt : k < n
    · have ck : wr.cell? ⟨g, k, none⟩ = some (encStr (L.getD k [])) := by rw [cell_of_row _ _ _ _ _ _ h1]; exact h4 k (Nat.le_refl _) (by have := HN.out; omega)
      have b0 : wr.cell? ⟨w.heap.size, 0, none⟩ = some fv := by rw [cell_of_row _ _ _ _ _ _ h6]; rfl
      have b1 : wr.cell? ⟨w.heap.size, 1, none⟩ = some mv := by rw [cell_of_row _ _ _ _ _ _ h6]; rfl
      have HSr : Hid (SetIs wr fv mv S) := HS.out.kept h5 (.inr HNE.out)
      obtain ⟨s, hs⟩ : ∃ s, s = L.getD k [] := ⟨_, rfl⟩
      rw [← hs] at ck
      have HSL : Hid (s.length ≤ maxLen) := by rw [hs]; exact HLX.out k
      have HE : Hid (s = L.getD k []) := hs
      clear h1 h2 h3 h4 h5 h6 hs hr
      by_cases hps : (S s == inn) = true
      · go_wp2_with (go_at_call 57; go_must (refine (has_any fv mv S s wr HSr.out HSL.out).mono ?_; rintro e w1 ⟨rfl, hb1⟩; have HI1 : Hid (KInv w g cap fv mv L p k w1) := HI.out.later hb1; obtain ⟨u, cu, fu⟩ := KInv.cell HI1.out r (by omega); clear hb1))
        have hk2 : k < L.length := by have := HN.out; omega
        have hpk : p (L.getD k []) = true := by rw [HP.out, ← HE.out]; exact hps
        refine ⟨⟨k + 1, r + 1, by go_num, by go_num, ?_, by omega, by omega, ?_⟩, ?_⟩
        · rw [take_filter_succ L p k hk2, if_pos hpk, List.length_append, ← HR.out]; rfl
        · have := HI1.out.put hk2 (by have := HN.out; omega) (by omega) hpk
          rw [← HR.out, ← HE.out] at this
          exact this
        · simp [intOf]; omega
      · have hps2 : (S s == inn) = false := by simpa using hps
        clear hps
        go_wp2_with (go_at_call 57; go_must (refine (has_any fv mv S s wr HSr.out HSL.out).mono ?_; rintro e w1 ⟨rfl, hb1⟩; have HI1 : Hid (KInv w g cap fv mv L p k w1) := HI.out.later hb1; clear hb1))
        have hk2 : k < L.length := by have := HN.out; omega
        have hpk : p (L.getD k []) = false := by rw [HP.out, ← HE.out]; exact hps2
        refine ⟨⟨k + 1, r, by go_num, rfl, ?_, by omega, by omega, HI1.out.pass hk2 hpk⟩, ?_⟩
        · rw [take_filter_succ L p k hk2, hpk, HR.out]; simp
        · simp [intOf]; omega
    · clear h1 h2 h3 h4 h5 h6 hr
      obtain rfl : k = n := by omega
      have hne : g ≠ w.heap.size := by omega
      have HKr : Hid (r = (L.filter p).length) := by
        have := HR.out
        rw [HN.out, List.take_length] at this
        exact this
      have HI2 : Hid (KInv w g cap fv mv L p L.length wr) := by rw [← HN.out]; exact HI.out
      have hLc : L.length ≤ cap := by have := HN.out; omega
      by_cases hz : r = k
      · subst hz
        have hfin := HI2.out.done hLc HM.out hgB
        rw [← HKr.out] at hfin
        have HF : Hid (SRow B wr (.slice (some ⟨g, 0, none⟩) r cap) (L.filter p) ∧ w.grownBy wr (some g)) := hfin
        clear hfin
        go_wp2
        all_goals (go_ret; refine ⟨r, HKr.out, ?_, HF.out.1, HF.out.2⟩; first | rfl | (simp; omega))
      · obtain ⟨m, hmk⟩ : ∃ m, k = r + (m + 1) := ⟨k - r - 1, by omega⟩
        obtain ⟨w1, hcl, hI3⟩ := HI2.out.cleared hne (m := m) (by have := HKr.out; omega)
        rw [← HKr.out] at hcl
        have HI3 : Hid (KInv w g cap fv mv L p L.length w1) := hI3
        have hfin := HI3.out.done hLc HM.out hgB
        rw [← HKr.out] at hfin
        have HF : Hid (SRow B w1 (.slice (some ⟨g, 0, none⟩) r cap) (L.filter p) ∧ w.grownBy w1 (some g)) := hfin
        clear hI3 hfin
        go_wp2
        all_goals (go_ret; refine ⟨r, HKr.out, ?_, HF.out.1, HF.out.2⟩; first | rfl | (simp; omega))

/-- 'kept'. -/
theorem kept_any (v : Value) (B : Nat) (L : List Str) (fv mv : Value) (S : Str → Bool) (inn : Bool) (w : World) (hr : SRow B w v L) (hS : SetIs w fv mv S) (hne : v.ownBlock = none ∨ setBlk fv mv ≠ v.ownBlock) (hLx : ∀ j, (L.getD j []).length ≤ maxLen) :
    Calls Yba.prog 40 #[v, .agg #[fv, mv], .bool inn] w fun e w' => ∃ v', e = .returned v' ∧ SRow B w' v' (L.filter fun x => S x == inn) ∧ w.grownBy w' v.ownBlock ∧ v'.ownBlock = v.ownBlock := by
  rcases hr.shape with ⟨rfl, rfl⟩ | ⟨g, cap, rfl, hg, _, hc, hm, hcell⟩
  · exact (kept_nil fv mv inn w).mono fun e w' hh => ⟨_, hh.1, World.ownsRow_nil _ _ _ _, grown_of_below hh.2 _, rfl⟩
  · exact (kept_row g cap B L fv mv S inn w hr hS (by simpa [Value.ownBlock] using hne) hLx).mono fun e w' ⟨n, hn, h1, h2, h3⟩ => ⟨_, h1, h2, h3, rfl⟩

end Go.Proofs.Ybulkegqe.lawS6647AWhole
