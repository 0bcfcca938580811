import Derived.Test.YbulkegqeLocks
namespace Go.Proofs.Ybulkegqe.lawS6647CWhole
set_option linter.unusedVariables false
set_option linter.unusedSimpArgs false
open Go.RowKit

theorem down30 : wrap32 (0 + -1073741824) = -1073741824 := by unfold wrap32; decide
theorem up30 : wrap32 (-1073741824 + 1073741824) = 0 := by unfold wrap32; decide
theorem upOne : wrap32 (0 + 1) = 1 := by unfold wrap32; decide
theorem downOne : wrap32 (1 + -1) = 0 := by unfold wrap32; decide

set_option maxRecDepth 100000 in
set_option maxHeartbeats 1600000 in
/-- '(*sync.RWMutex).RLock', no writer, no reader. -/
theorem rlock_any (b off : Nat) (x0 x3 : Value) (w : World) (c0 : w.cell? ⟨b, off, none⟩ = some x0) (c3 : w.cell? ⟨b, off + 3, none⟩ = some x3)
    (hc : w.cell? ⟨b, off + 4, none⟩ = some (.int .i32 0)) (hz : w.frozen? ⟨b, off + 4, none⟩ = false) :
    Calls Yba.prog 38 #[.pointer (some ⟨b, off, none⟩)] w fun e w' => e = .returned (.tuple #[]) ∧ w' = w.setCell ⟨b, off + 4, none⟩ (.int .i32 1) := by
  have h1 := raceRead
  have h2 := disable
  have h3 := enable
  have h4 := acquire
  have v0 := conv92 (src := 135) Yba.underlying135 (by kernel_rfl) c0
  have c3' : (w.setCell ⟨b, off + 4, none⟩ (.int .i32 1)).cell? ⟨b, off + 3, none⟩ = some x3 := (World.cell?_setCell_other _ ⟨b, off + 4, none⟩ ⟨b, off + 3, none⟩ _ (by simp)).trans c3
  have v3 := conv92 (src := 137) Yba.underlying137 (by kernel_rfl) c3'
  go_enter Yba.func38, Yba.ntmps38
  go_wp2_with (go_at_call 35; go_must (refine (i32add_any ⟨b, off + 4, none⟩ 0 1 _ hc hz).mono ?_; rintro e w' ⟨rfl, rfl⟩; simp only [upOne]))
  go_end0
  exact ⟨rfl, rfl⟩

set_option maxRecDepth 100000 in
set_option maxHeartbeats 1600000 in
/-- '(*sync.RWMutex).RUnlock', one reader. -/
theorem runlock_any (b off : Nat) (x0 x2 : Value) (w : World) (c0 : w.cell? ⟨b, off, none⟩ = some x0) (c2 : w.cell? ⟨b, off + 2, none⟩ = some x2)
    (hc : w.cell? ⟨b, off + 4, none⟩ = some (.int .i32 1)) (hz : w.frozen? ⟨b, off + 4, none⟩ = false) :
    Calls Yba.prog 39 #[.pointer (some ⟨b, off, none⟩)] w fun e w' => e = .returned (.tuple #[]) ∧ w' = w.setCell ⟨b, off + 4, none⟩ (.int .i32 0) := by
  have h1 := raceRead
  have h2 := disable
  have h3 := enable
  have h5 := releaseMerge
  have v0 := conv92 (src := 135) Yba.underlying135 (by kernel_rfl) c0
  have v2 := conv92 (src := 137) Yba.underlying137 (by kernel_rfl) c2
  go_enter Yba.func39, Yba.ntmps39
  go_wp2_with (go_at_call 35; go_must (refine (i32add_any ⟨b, off + 4, none⟩ 1 (-1) _ hc hz).mono ?_; rintro e w' ⟨rfl, rfl⟩; simp only [downOne]))
  go_end0
  exact ⟨rfl, rfl⟩

set_option maxRecDepth 100000 in
set_option maxHeartbeats 1600000 in
/-- '(*sync.RWMutex).TryLock' while a reader is in: false; the writers' mutex is taken and let go again. -/
theorem try_busy (b off : Nat) (w : World) (c0 : w.cell? ⟨b, off, none⟩ = some (.int .i32 0)) (z0 : w.frozen? ⟨b, off, none⟩ = false)
    (hc : w.cell? ⟨b, off + 4, none⟩ = some (.int .i32 1)) (hz : w.frozen? ⟨b, off + 4, none⟩ = false) :
    Calls Yba.prog 11 #[.pointer (some ⟨b, off, none⟩)] w fun e w' => e = .returned (.bool false) ∧ w' = (w.setCell ⟨b, off, none⟩ (.int .i32 1)).setCell ⟨b, off, none⟩ (.int .i32 0) := by
  have h1 := raceRead
  have h2 := disable
  have h3 := enable
  have v0 := conv92 (src := 135) Yba.underlying135 (by kernel_rfl) c0
  have c0' : (w.setCell ⟨b, off, none⟩ (.int .i32 1)).cell? ⟨b, off, none⟩ = some (.int .i32 1) := World.cell?_setCell_same w _ _ c0
  have hc' : (w.setCell ⟨b, off, none⟩ (.int .i32 1)).cell? ⟨b, off + 4, none⟩ = some (.int .i32 1) := (World.cell?_setCell_other _ ⟨b, off, none⟩ ⟨b, off + 4, none⟩ _ (by simp)).trans hc
  have z0' : (w.setCell ⟨b, off, none⟩ (.int .i32 1)).frozen? ⟨b, off, none⟩ = false := by simp [z0]
  have hz' : (w.setCell ⟨b, off, none⟩ (.int .i32 1)).frozen? ⟨b, off + 4, none⟩ = false := by simp [hz]
  go_enter Yba.func11, Yba.ntmps11
  go_wp2_with (first
    | (go_at_call 28; go_must (refine (mu_try ⟨b, off, none⟩ _ c0 z0).mono ?_; rintro e w' ⟨rfl, rfl⟩))
    | (go_at_call 30; go_must (refine (i32cas_miss ⟨b, off + 4, none⟩ 1 0 _ _ hc' hz' (by decide)).mono ?_; rintro e w' ⟨rfl, rfl⟩))
    | (go_at_call 31; go_must (refine (mu_unlock ⟨b, off, none⟩ _ c0' z0').mono ?_; rintro e w' ⟨rfl, rfl⟩)))
  go_ret
  exact ⟨rfl, rfl⟩

set_option maxRecDepth 100000 in
set_option maxHeartbeats 1600000 in
/-- '(*sync.RWMutex).TryLock', the lock wholly free: it is taken. -/
theorem try_free (b off : Nat) (x2 x3 : Value) (w : World) (c0 : w.cell? ⟨b, off, none⟩ = some (.int .i32 0)) (z0 : w.frozen? ⟨b, off, none⟩ = false) (c2 : w.cell? ⟨b, off + 2, none⟩ = some x2) (c3 : w.cell? ⟨b, off + 3, none⟩ = some x3)
    (hc : w.cell? ⟨b, off + 4, none⟩ = some (.int .i32 0)) (hz : w.frozen? ⟨b, off + 4, none⟩ = false) :
    Calls Yba.prog 11 #[.pointer (some ⟨b, off, none⟩)] w fun e w' => e = .returned (.bool true) ∧ w' = (w.setCell ⟨b, off, none⟩ (.int .i32 1)).setCell ⟨b, off + 4, none⟩ (.int .i32 (-1073741824)) := by
  have h1 := raceRead
  have h2 := disable
  have h3 := enable
  have h4 := acquire
  have v0 := conv92 (src := 135) Yba.underlying135 (by kernel_rfl) c0
  have c2' : ((w.setCell ⟨b, off, none⟩ (.int .i32 1)).setCell ⟨b, off + 4, none⟩ (.int .i32 (-1073741824))).cell? ⟨b, off + 2, none⟩ = some x2 := (World.cell?_setCell_other _ ⟨b, off + 4, none⟩ ⟨b, off + 2, none⟩ _ (by simp)).trans ((World.cell?_setCell_other _ ⟨b, off, none⟩ ⟨b, off + 2, none⟩ _ (by simp)).trans c2)
  have c3' : ((w.setCell ⟨b, off, none⟩ (.int .i32 1)).setCell ⟨b, off + 4, none⟩ (.int .i32 (-1073741824))).cell? ⟨b, off + 3, none⟩ = some x3 := (World.cell?_setCell_other _ ⟨b, off + 4, none⟩ ⟨b, off + 3, none⟩ _ (by simp)).trans ((World.cell?_setCell_other _ ⟨b, off, none⟩ ⟨b, off + 3, none⟩ _ (by simp)).trans c3)
  have v2 := conv92 (src := 137) Yba.underlying137 (by kernel_rfl) c2'
  have v3 := conv92 (src := 137) Yba.underlying137 (by kernel_rfl) c3'
  have hc' : (w.setCell ⟨b, off, none⟩ (.int .i32 1)).cell? ⟨b, off + 4, none⟩ = some (.int .i32 0) := (World.cell?_setCell_other _ ⟨b, off, none⟩ ⟨b, off + 4, none⟩ _ (by simp)).trans hc
  have hz' : (w.setCell ⟨b, off, none⟩ (.int .i32 1)).frozen? ⟨b, off + 4, none⟩ = false := by simp [hz]
  go_enter Yba.func11, Yba.ntmps11
  go_wp2_with (first
    | (go_at_call 28; go_must (refine (mu_try ⟨b, off, none⟩ _ c0 z0).mono ?_; rintro e w' ⟨rfl, rfl⟩))
    | (go_at_call 30; go_must (refine (i32cas_hit ⟨b, off + 4, none⟩ 0 (-1073741824) _ hc' hz').mono ?_; rintro e w' ⟨rfl, rfl⟩)))
  go_ret
  exact ⟨rfl, rfl⟩

set_option maxRecDepth 100000 in
set_option maxHeartbeats 1600000 in
/-- '(*sync.RWMutex).Unlock', a writer holding, nobody waiting. -/
theorem wunlock_any (b off : Nat) (x2 x3 : Value) (w : World) (c0 : w.cell? ⟨b, off, none⟩ = some (.int .i32 1)) (c2 : w.cell? ⟨b, off + 2, none⟩ = some x2) (c3 : w.cell? ⟨b, off + 3, none⟩ = some x3)
    (hc : w.cell? ⟨b, off + 4, none⟩ = some (.int .i32 (-1073741824))) (z0 : w.frozen? ⟨b, off, none⟩ = false) (hz : w.frozen? ⟨b, off + 4, none⟩ = false) :
    Calls Yba.prog 12 #[.pointer (some ⟨b, off, none⟩)] w fun e w' => e = .returned (.tuple #[]) ∧ w' = (w.setCell ⟨b, off + 4, none⟩ (.int .i32 0)).setCell ⟨b, off, none⟩ (.int .i32 0) := by
  have h1 := raceRead
  have h2 := disable
  have h3 := enable
  have h5 := releaseMerge
  have h6 := release
  have v0 := conv92 (src := 135) Yba.underlying135 (by kernel_rfl) c0
  have v2 := conv92 (src := 137) Yba.underlying137 (by kernel_rfl) c2
  have v3 := conv92 (src := 137) Yba.underlying137 (by kernel_rfl) c3
  have c0' : (w.setCell ⟨b, off + 4, none⟩ (.int .i32 0)).cell? ⟨b, off, none⟩ = some (.int .i32 1) := (World.cell?_setCell_other _ ⟨b, off + 4, none⟩ ⟨b, off, none⟩ _ (by simp)).trans c0
  have z0' : (w.setCell ⟨b, off + 4, none⟩ (.int .i32 0)).frozen? ⟨b, off, none⟩ = false := by simp [z0]
  go_enter Yba.func12, Yba.ntmps12
  go_wp2_with (go_at_call 35; go_must (refine (i32add_any ⟨b, off + 4, none⟩ (-1073741824) 1073741824 _ hc hz).mono ?_; rintro e w' ⟨rfl, rfl⟩; simp only [up30]))
  refine wp_loop_once ?_
  go_wp2_with (go_at_call 31; go_must (refine (mu_unlock ⟨b, off, none⟩ _ c0' z0').mono ?_; rintro e w' ⟨rfl, rfl⟩))
  go_end0
  exact ⟨rfl, rfl⟩
end Go.Proofs.Ybulkegqe.lawS6647CWhole
