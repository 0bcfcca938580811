import Derived.Test.YbulkegqeChunkInv
namespace Go.Proofs.Ybulkegqe.lawS6647CWhole
set_option linter.unusedVariables false
set_option linter.unusedSimpArgs false
open Go.RowKit

theorem Yba.info3 : (Yba.prog.info? 3).map (fun i => (i.zero, i.size, i.bytes)) = some (some (.int .i64 0), 1, 8) := by kernel_rfl

theorem own_shape {w : World} {base : Nat} {e : TypeId} {v : Value} {n : Nat} {xs : List Value} (h : w.ownsRow base e 1 v (n + 1) xs) : ∃ g cap, v = .slice (some ⟨g, 0, none⟩) (n + 1) cap := by
  rcases h.2 with ⟨_, h0⟩ | ⟨g, cap, cur, hv, _⟩
  · omega
  · exact ⟨g, cap, hv⟩

set_option maxRecDepth 100000 in
set_option maxHeartbeats 1600000 in
/-- The closure: i goes into the log; the TryLock fails. -/
theorem read_any (w0 : World) (B : Nat) (i : Int) (ls : List Int) (w : World) (hI : Inv w0 B 0 1 ls w) (hl : ls.length ≤ 65536) :
    Calls Yba.prog 10 #[.int .i64 i, .pointer (some ⟨B + 2, 0, none⟩), .pointer (some ⟨B + 1, 0, none⟩), .pointer (some ⟨B + 3, 0, none⟩)] w fun e w' => e = .returned (.tuple #[]) ∧ Inv w0 B 0 1 (ls ++ [i]) w' := by
  obtain ⟨i3, hi3, hz0, hz1, hz2⟩ := info_parts Yba.info3
  obtain ⟨v, hv, hown⟩ := hI.log
  have hsz := hI.size
  have cv := cell_of_one hv
  have lt2 : B + 2 < w.heap.size := by omega
  have HI : Hid (Inv w0 B 0 1 ls w) := hI
  have HV : Hid (w.heap[B + 2]? = some (.cells #[v] 102 (0, 0))) := hv
  have HO : Hid (w.ownsRow (B + 4) 3 1 v ls.length (ls.map (Value.int .i64))) := hown
  clear hI hv hown
  go_enter Yba.func10, Yba.ntmps10
  go_wp2_with (first
    | (at_builtin; go_must (refine wpList_append_own _ rfl _ _ 102 rfl (B + 4) 3 i3 (.int .i64 0) 1 8 Yba.underlying102 hi3 hz0 hz1 hz2 rfl (by decide) v ls.length (ls.map (Value.int .i64)) rfl (World.ownsRow.alloc HO.out _) ⟨w.heap.size, 0, none⟩ 1 1 [.int .i64 i] rfl rfl (cell_one_new _ _ _) (fun u hu => by simp at hu; subst hu; rfl) (by unfold maxLen; omega) (by omega) (by simp; omega) ?_; intro v' w1 hown' hgrow _; obtain ⟨g, cap, hv'⟩ := own_shape hown'; subst hv'; have P1 := inv_push i HI.out HV.out HO.out hown' hgrow; have c2 := cell_of_one P1.1; have f2 := free_of_one P1.1; have cs := cell_of_one P1.2.svar; have HP : Hid (Inv w0 B 0 1 (ls ++ [i]) (w1.setCell ⟨B + 2, 0, none⟩ (.slice (some ⟨g, 0, none⟩) (ls.length + 1) cap))) := P1.2; clear P1 hown' hgrow))
    | (go_at_call 11; go_must (refine (try_busy_b B _ HP.out.store).mono ?_; rintro e w2 ⟨rfl, hS, hO⟩; have HQ : Hid (Inv w0 B 0 1 (ls ++ [i]) w2) := HP.out.only hS hO; clear hS hO)))
  go_end0
  exact ⟨rfl, HQ.out⟩
end Go.Proofs.Ybulkegqe.lawS6647CWhole
