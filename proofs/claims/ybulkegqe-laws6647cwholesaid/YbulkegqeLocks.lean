import Derived.Test.YbulkegqeRows
import Derived.WalkKit
import Derived.ProofKit
import Derived.Below
import Derived.Outline
import Derived.Laws.LoneSync
import Derived.Deep.DeepMust
import Derived.RowKit
namespace Go.Proofs.Ybulkegqe.lawS6647CWhole
set_option linter.unusedVariables false
set_option linter.unusedSimpArgs false
open Go.RowKit

/-- A pointer becomes a bare one ('convert .. 92'): the value stays. -/
theorem conv92 {src t : TypeId} (hs : Yba.prog.underlying src = some (.pointer t)) (hsz : (Yba.prog.info? t).map (fun i => decide (i.size = 0)) = some false)
    {a : Addr} {v : Value} {w : World} (hc : w.cell? a = some v) : (convert src 92 (.pointer (some a))).run Yba.prog w = .ok (.pointer (some a)) w := by
  obtain ⟨e, n, hsh, hlt, hsp⟩ := World.shape?_of_cell? hc
  obtain ⟨i, hi, hz0⟩ := Option.map_eq_some_iff.1 hsz
  have hz : i.size ≠ 0 := by simpa using hz0
  have hge : ¬ (n ≤ a.off) := by omega
  simp only [convert]
  simp [run_underlying hs, run_underlying Yba.underlying92]
  show Sem.run Yba.prog (Bind.bind (underlying src) _) w = _
  simp [Conv.seenAt, viewAt, cellsIn, sizeOf, typeInfo, run_underlying hs, run_underlying Yba.underlying92, hi, hz, hsh, hge, Result.andThen]

theorem disable (w : World) : (callFunc 27 #[]).run Yba.prog w = .ok (.value (.tuple #[])) w := run_call_mark0 Yba.func27 (by kernel_rfl) (by kernel_rfl) (by kernel_rfl) .disable (by kernel_rfl) w
theorem enable (w : World) : (callFunc 29 #[]).run Yba.prog w = .ok (.value (.tuple #[])) w := run_call_mark0 Yba.func29 (by kernel_rfl) (by kernel_rfl) (by kernel_rfl) .enable (by kernel_rfl) w
theorem acquire (a : Addr) (w : World) : (callFunc 32 #[.pointer (some a)]).run Yba.prog w = .ok (.value (.tuple #[])) w := run_call_marked Yba.func32 (by kernel_rfl) (by kernel_rfl) (by kernel_rfl) .acquire (by kernel_rfl) a w
theorem release (a : Addr) (w : World) : (callFunc 33 #[.pointer (some a)]).run Yba.prog w = .ok (.value (.tuple #[])) w := run_call_marked Yba.func33 (by kernel_rfl) (by kernel_rfl) (by kernel_rfl) .release (by kernel_rfl) a w
theorem releaseMerge (a : Addr) (w : World) : (callFunc 34 #[.pointer (some a)]).run Yba.prog w = .ok (.value (.tuple #[])) w := run_call_marked Yba.func34 (by kernel_rfl) (by kernel_rfl) (by kernel_rfl) .releaseMerge (by kernel_rfl) a w
theorem raceRead (a : Addr) (w : World) : (callFunc 26 #[.pointer (some a)]).run Yba.prog w = .ok (.value (.tuple #[])) w := run_call_marked Yba.func26 (by kernel_rfl) (by kernel_rfl) (by kernel_rfl) .read (by kernel_rfl) a w

/-- '(*sync/atomic.Int32).Add'. -/
theorem i32add_any (a : Addr) (x y : Int) (w : World) (hc : w.cell? a = some (.int .i32 x)) (hz : w.frozen? a = false) :
    Calls Yba.prog 35 #[.pointer (some a), .int .i32 y] w fun e w' => e = .returned (.int .i32 (wrap32 (x + y))) ∧ w' = w.setCell a (.int .i32 (wrap32 (x + y))) := by
  have hadd := run_call_add (P := Yba.prog) Yba.func54 (by kernel_rfl) (by kernel_rfl) (by kernel_rfl) .i32 (by kernel_rfl) (y := y) (s := wrap32 (x + y)) hc hz (by simp [go_sem, wrap32, IntKind.wrap_i32])
  go_enter Yba.func35, Yba.ntmps35
  go_wp2
  go_ret
  exact ⟨rfl, rfl⟩

/-- '(*sync/atomic.Int32).CompareAndSwap', a hit. -/
theorem i32cas_hit (a : Addr) (x y : Int) (w : World) (hc : w.cell? a = some (.int .i32 x)) (hz : w.frozen? a = false) :
    Calls Yba.prog 30 #[.pointer (some a), .int .i32 x, .int .i32 y] w fun e w' => e = .returned (.bool true) ∧ w' = w.setCell a (.int .i32 y) := by
  have hcas := run_call_cas_hit (P := Yba.prog) Yba.func52 (by kernel_rfl) (by kernel_rfl) (by kernel_rfl) .i32 (by kernel_rfl) (y := y) hc hz
  go_enter Yba.func30, Yba.ntmps30
  go_wp2
  go_ret
  exact ⟨rfl, rfl⟩

/-- '(*sync/atomic.Int32).CompareAndSwap', a miss. -/
theorem i32cas_miss (a : Addr) (x o y : Int) (w : World) (hc : w.cell? a = some (.int .i32 x)) (hz : w.frozen? a = false) (hne : ¬ x = o) :
    Calls Yba.prog 30 #[.pointer (some a), .int .i32 o, .int .i32 y] w fun e w' => e = .returned (.bool false) ∧ w' = w := by
  have hcas := run_call_cas_miss (P := Yba.prog) Yba.func52 (by kernel_rfl) (by kernel_rfl) (by kernel_rfl) .i32 (by kernel_rfl) (y := y) hc hz hne
  go_enter Yba.func30, Yba.ntmps30
  go_wp2
  go_ret
  exact ⟨rfl, rfl⟩

set_option maxRecDepth 100000 in
set_option maxHeartbeats 800000 in
/-- '(*sync.Mutex).TryLock', free. -/
theorem mu_try (a : Addr) (w : World) (hc : w.cell? a = some (.int .i32 0)) (hz : w.frozen? a = false) :
    Calls Yba.prog 28 #[.pointer (some a)] w fun e w' => e = .returned (.bool true) ∧ w' = w.setCell a (.int .i32 1) := by
  have h2 := disable
  have h3 := enable
  have h4 := acquire
  obtain ⟨b, off, spot⟩ := a
  have hsp : spot = none := World.cell?_spot hc
  subst hsp
  have hcas := run_call_cas_hit (P := Yba.prog) Yba.func52 (by kernel_rfl) (by kernel_rfl) (by kernel_rfl) .i32 (by kernel_rfl) (y := 1) hc hz
  have c' : (w.setCell ⟨b, off, none⟩ (.int .i32 1)).cell? ⟨b, off, none⟩ = some (.int .i32 1) := World.cell?_setCell_same w _ _ hc
  have v0 := conv92 (src := 163) Yba.underlying163 (by kernel_rfl) c'
  go_enter Yba.func28, Yba.ntmps28
  go_wp2
  go_ret
  exact ⟨rfl, rfl⟩

set_option maxRecDepth 100000 in
set_option maxHeartbeats 800000 in
/-- '(*sync.Mutex).Unlock', held. -/
theorem mu_unlock (a : Addr) (w : World) (hc : w.cell? a = some (.int .i32 1)) (hz : w.frozen? a = false) :
    Calls Yba.prog 31 #[.pointer (some a)] w fun e w' => e = .returned (.tuple #[]) ∧ w' = w.setCell a (.int .i32 0) := by
  have h2 := disable
  have h3 := enable
  have h5 := releaseMerge
  obtain ⟨b, off, spot⟩ := a
  have hsp : spot = none := World.cell?_spot hc
  subst hsp
  have hadd := run_call_add (P := Yba.prog) Yba.func54 (by kernel_rfl) (by kernel_rfl) (by kernel_rfl) .i32 (by kernel_rfl) (y := -1) (s := 0) hc hz (by simp [go_sem, IntKind.wrap_i32])
  have v0 := conv92 (src := 163) Yba.underlying163 (by kernel_rfl) hc
  go_enter Yba.func31, Yba.ntmps31
  go_wp2
  go_end0
  go_wp2
  go_end0
  exact ⟨rfl, rfl⟩
end Go.Proofs.Ybulkegqe.lawS6647CWhole
