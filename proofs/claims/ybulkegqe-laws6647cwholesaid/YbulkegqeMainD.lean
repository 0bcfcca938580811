import Derived.Test.YbulkegqeMainC
namespace Go.Proofs.Ybulkegqe.lawS6647CWhole
set_option linter.unusedVariables false
set_option linter.unusedSimpArgs false
open Go.RowKit

theorem tmod_low (c : Int) (h : c < 1) : -63 ≤ c.tmod 64 ∧ c.tmod 64 ≤ 0 := by
  obtain ⟨m, rfl⟩ : ∃ m : Nat, c = -(m : Int) := ⟨(-c).toNat, by omega⟩
  rw [Int.neg_tmod, Int.tmod_eq_emod_of_nonneg (by omega)]
  omega

set_option maxRecDepth 100000 in
set_option maxHeartbeats 1600000 in
theorem posMid (N : Nat) (c : Int) (w : World) (hpos : 0 < N) (hn : N ≤ 65536) (h1 : 1 ≤ c) (h2 : c ≤ 1073741824) :
    Calls Yba.prog 4 #[.int .i64 (N : Int), .int .i64 c] w fun e w' => e = .returned (.bool true) ∧ Below w.heap.size w w' := by
  go_enter Yba.func4, Yba.ntmps4
  go_wp2_with (first
    | (go_at_call 13; go_must (refine (chunks_pos w N c hn h1 h2).mono ?_; rintro e w1 ⟨rfl, hI⟩; have ch : w1.cell? ⟨w.heap.size + 1 + 1 + 1, 0, none⟩ = some (.bool true) := cell_of_one hI.held; have cs : w1.cell? ⟨w.heap.size + 1, 0, none⟩ = some (.pointer (some ⟨w.heap.size, 0, none⟩)) := cell_of_one hI.svar; have HI : Hid (Inv w w.heap.size 0 0 (upto N) w1) := hI; clear hI))
    | (go_at_call 11; go_must (refine (try_free_b w.heap.size _ HI.out.store).mono ?_; rintro e w2 ⟨rfl, hS, hO⟩; have cs2 : w2.cell? ⟨w.heap.size + 1, 0, none⟩ = some (.pointer (some ⟨w.heap.size, 0, none⟩)) := cell_of_one (HI.out.only hS hO).svar; have HJ : Hid (Inv w w.heap.size 1 (-1073741824) (upto N) w2) := HI.out.only hS hO; clear hS hO)))
  refine (wunlock_b w.heap.size _ HJ.out.store).mono ?_
  rintro e w3 ⟨rfl, hS, hO⟩
  have HK : Hid (Inv w w.heap.size 0 0 (upto N) w3) := HJ.out.only hS hO
  clear hS hO
  obtain ⟨g, cap, hv, hc⟩ := log_pos hpos HK.out
  have cl : w3.cell? ⟨w.heap.size + 1 + 1, 0, none⟩ = some (.slice (some ⟨g, 0, none⟩) N cap) := cell_of_one hv
  have HC : Hid (∀ j, j < N → w3.cell? ⟨g, j, none⟩ = some (.int .i64 (j : Int))) := hc
  clear hv hc
  have hp : (0 : Int) < (N : Int) := by omega
  go_wp2
  go_loop [11] (fun i => ∃ k : Nat, k ≤ N ∧ i = .int .i64 k) (fun i => N - (intOf i).toNat)
  case atStart => exact ⟨0, by omega, rfl⟩
  case round =>
    obtain ⟨k, hk, rfl⟩ := hrel
    by_cases hlt : k < N
    · have ck := HC.out k hlt
      have ki : (k : Int) < (N : Int) := by omega
      go_wp2
      go_round
      case rel => exact ⟨k + 1, by omega, by go_num⟩
      case measure => simp [intOf]; omega
    · have ki : ¬ (k : Int) < (N : Int) := by omega
      go_wp2
      go_ret
      exact ⟨rfl, HK.out.below⟩

set_option maxRecDepth 100000 in
set_option maxHeartbeats 1600000 in
theorem negMid (n : Int) (c : Int) (w : World) (hn : n ≤ 0) (h1 : 1 ≤ c) (h2 : c ≤ 1073741824) :
    Calls Yba.prog 4 #[.int .i64 n, .int .i64 c] w fun e w' => e = .returned (.bool true) ∧ Below w.heap.size w w' := by
  go_enter Yba.func4, Yba.ntmps4
  go_wp2_with (first
    | (go_at_call 13; go_must (refine (chunks_neg w n c hn h1 h2).mono ?_; rintro e w1 ⟨rfl, hI⟩; have ch : w1.cell? ⟨w.heap.size + 1 + 1 + 1, 0, none⟩ = some (.bool true) := cell_of_one hI.held; have cs : w1.cell? ⟨w.heap.size + 1, 0, none⟩ = some (.pointer (some ⟨w.heap.size, 0, none⟩)) := cell_of_one hI.svar; have HI : Hid (Inv w w.heap.size 0 0 (upto 0) w1) := hI; clear hI))
    | (go_at_call 11; go_must (refine (try_free_b w.heap.size _ HI.out.store).mono ?_; rintro e w2 ⟨rfl, hS, hO⟩; have cs2 : w2.cell? ⟨w.heap.size + 1, 0, none⟩ = some (.pointer (some ⟨w.heap.size, 0, none⟩)) := cell_of_one (HI.out.only hS hO).svar; have HJ : Hid (Inv w w.heap.size 1 (-1073741824) (upto 0) w2) := HI.out.only hS hO; clear hS hO)))
  refine (wunlock_b w.heap.size _ HJ.out.store).mono ?_
  rintro e w3 ⟨rfl, hS, hO⟩
  have HK : Hid (Inv w w.heap.size 0 0 (upto 0) w3) := HJ.out.only hS hO
  clear hS hO
  obtain ⟨ao, cap, hv⟩ := log_zero HK.out
  have cl : w3.cell? ⟨w.heap.size + 1 + 1, 0, none⟩ = some (.slice ao 0 cap) := cell_of_one hv
  clear hv
  have hp : ¬ (0 : Int) < n := by omega
  go_wp2
  go_loop [11] (fun i => i = .int .i64 0) (fun _ => 0)
  case atStart => exact rfl
  case round =>
    subst hrel
    go_wp2
    go_ret
    exact ⟨rfl, HK.out.below⟩

set_option maxRecDepth 100000 in
set_option maxHeartbeats 1600000 in
theorem posBig (N : Nat) (c : Int) (w : World) (hpos : 0 < N) (hn : N ≤ 65536) (h1 : 1073741824 < c) :
    Calls Yba.prog 4 #[.int .i64 (N : Int), .int .i64 c] w fun e w' => e = .returned (.bool true) ∧ Below w.heap.size w w' := by
  have h0 : ¬ c < 1 := by omega
  go_enter Yba.func4, Yba.ntmps4
  go_wp2_with (first
    | (go_at_call 13; go_must (refine (chunks_pos w N 1073741824 hn (by omega) (by omega)).mono ?_; rintro e w1 ⟨rfl, hI⟩; have ch : w1.cell? ⟨w.heap.size + 1 + 1 + 1, 0, none⟩ = some (.bool true) := cell_of_one hI.held; have cs : w1.cell? ⟨w.heap.size + 1, 0, none⟩ = some (.pointer (some ⟨w.heap.size, 0, none⟩)) := cell_of_one hI.svar; have HI : Hid (Inv w w.heap.size 0 0 (upto N) w1) := hI; clear hI))
    | (go_at_call 11; go_must (refine (try_free_b w.heap.size _ HI.out.store).mono ?_; rintro e w2 ⟨rfl, hS, hO⟩; have cs2 : w2.cell? ⟨w.heap.size + 1, 0, none⟩ = some (.pointer (some ⟨w.heap.size, 0, none⟩)) := cell_of_one (HI.out.only hS hO).svar; have HJ : Hid (Inv w w.heap.size 1 (-1073741824) (upto N) w2) := HI.out.only hS hO; clear hS hO)))
  refine (wunlock_b w.heap.size _ HJ.out.store).mono ?_
  rintro e w3 ⟨rfl, hS, hO⟩
  have HK : Hid (Inv w w.heap.size 0 0 (upto N) w3) := HJ.out.only hS hO
  clear hS hO
  obtain ⟨g, cap, hv, hc⟩ := log_pos hpos HK.out
  have cl : w3.cell? ⟨w.heap.size + 1 + 1, 0, none⟩ = some (.slice (some ⟨g, 0, none⟩) N cap) := cell_of_one hv
  have HC : Hid (∀ j, j < N → w3.cell? ⟨g, j, none⟩ = some (.int .i64 (j : Int))) := hc
  clear hv hc
  have hp : (0 : Int) < (N : Int) := by omega
  go_wp2
  go_loop [11] (fun i => ∃ k : Nat, k ≤ N ∧ i = .int .i64 k) (fun i => N - (intOf i).toNat)
  case atStart => exact ⟨0, by omega, rfl⟩
  case round =>
    obtain ⟨k, hk, rfl⟩ := hrel
    by_cases hlt : k < N
    · have ck := HC.out k hlt
      have ki : (k : Int) < (N : Int) := by omega
      go_wp2
      go_round
      case rel => exact ⟨k + 1, by omega, by go_num⟩
      case measure => simp [intOf]; omega
    · have ki : ¬ (k : Int) < (N : Int) := by omega
      go_wp2
      go_ret
      exact ⟨rfl, HK.out.below⟩

set_option maxRecDepth 100000 in
set_option maxHeartbeats 1600000 in
theorem negBig (n : Int) (c : Int) (w : World) (hn : n ≤ 0) (h1 : 1073741824 < c) :
    Calls Yba.prog 4 #[.int .i64 n, .int .i64 c] w fun e w' => e = .returned (.bool true) ∧ Below w.heap.size w w' := by
  have h0 : ¬ c < 1 := by omega
  go_enter Yba.func4, Yba.ntmps4
  go_wp2_with (first
    | (go_at_call 13; go_must (refine (chunks_neg w n 1073741824 hn (by omega) (by omega)).mono ?_; rintro e w1 ⟨rfl, hI⟩; have ch : w1.cell? ⟨w.heap.size + 1 + 1 + 1, 0, none⟩ = some (.bool true) := cell_of_one hI.held; have cs : w1.cell? ⟨w.heap.size + 1, 0, none⟩ = some (.pointer (some ⟨w.heap.size, 0, none⟩)) := cell_of_one hI.svar; have HI : Hid (Inv w w.heap.size 0 0 (upto 0) w1) := hI; clear hI))
    | (go_at_call 11; go_must (refine (try_free_b w.heap.size _ HI.out.store).mono ?_; rintro e w2 ⟨rfl, hS, hO⟩; have cs2 : w2.cell? ⟨w.heap.size + 1, 0, none⟩ = some (.pointer (some ⟨w.heap.size, 0, none⟩)) := cell_of_one (HI.out.only hS hO).svar; have HJ : Hid (Inv w w.heap.size 1 (-1073741824) (upto 0) w2) := HI.out.only hS hO; clear hS hO)))
  refine (wunlock_b w.heap.size _ HJ.out.store).mono ?_
  rintro e w3 ⟨rfl, hS, hO⟩
  have HK : Hid (Inv w w.heap.size 0 0 (upto 0) w3) := HJ.out.only hS hO
  clear hS hO
  obtain ⟨ao, cap, hv⟩ := log_zero HK.out
  have cl : w3.cell? ⟨w.heap.size + 1 + 1, 0, none⟩ = some (.slice ao 0 cap) := cell_of_one hv
  clear hv
  have hp : ¬ (0 : Int) < n := by omega
  go_wp2
  go_loop [11] (fun i => i = .int .i64 0) (fun _ => 0)
  case atStart => exact rfl
  case round =>
    subst hrel
    go_wp2
    go_ret
    exact ⟨rfl, HK.out.below⟩

set_option maxRecDepth 100000 in
set_option maxHeartbeats 1600000 in
theorem posLow (N : Nat) (c : Int) (w : World) (hpos : 0 < N) (hn : N ≤ 65536) (h1 : c < 1) (hlo : -9223372036854775808 ≤ c) :
    Calls Yba.prog 4 #[.int .i64 (N : Int), .int .i64 c] w fun e w' => e = .returned (.bool true) ∧ Below w.heap.size w w' := by
  have t1 : -63 ≤ c.tmod 64 := (tmod_low c h1).1
  have t2 : c.tmod 64 ≤ 0 := (tmod_low c h1).2
  go_enter Yba.func4, Yba.ntmps4
  go_wp2_with (first
    | (go_at_call 13; go_must (refine (chunks_pos w N (1 - c.tmod 64) hn (by omega) (by omega)).mono ?_; rintro e w1 ⟨rfl, hI⟩; have ch : w1.cell? ⟨w.heap.size + 1 + 1 + 1, 0, none⟩ = some (.bool true) := cell_of_one hI.held; have cs : w1.cell? ⟨w.heap.size + 1, 0, none⟩ = some (.pointer (some ⟨w.heap.size, 0, none⟩)) := cell_of_one hI.svar; have HI : Hid (Inv w w.heap.size 0 0 (upto N) w1) := hI; clear hI))
    | (go_at_call 11; go_must (refine (try_free_b w.heap.size _ HI.out.store).mono ?_; rintro e w2 ⟨rfl, hS, hO⟩; have cs2 : w2.cell? ⟨w.heap.size + 1, 0, none⟩ = some (.pointer (some ⟨w.heap.size, 0, none⟩)) := cell_of_one (HI.out.only hS hO).svar; have HJ : Hid (Inv w w.heap.size 1 (-1073741824) (upto N) w2) := HI.out.only hS hO; clear hS hO)))
  refine (wunlock_b w.heap.size _ HJ.out.store).mono ?_
  rintro e w3 ⟨rfl, hS, hO⟩
  have HK : Hid (Inv w w.heap.size 0 0 (upto N) w3) := HJ.out.only hS hO
  clear hS hO
  obtain ⟨g, cap, hv, hc⟩ := log_pos hpos HK.out
  have cl : w3.cell? ⟨w.heap.size + 1 + 1, 0, none⟩ = some (.slice (some ⟨g, 0, none⟩) N cap) := cell_of_one hv
  have HC : Hid (∀ j, j < N → w3.cell? ⟨g, j, none⟩ = some (.int .i64 (j : Int))) := hc
  clear hv hc
  have hp : (0 : Int) < (N : Int) := by omega
  go_wp2
  go_loop [11] (fun i => ∃ k : Nat, k ≤ N ∧ i = .int .i64 k) (fun i => N - (intOf i).toNat)
  case atStart => exact ⟨0, by omega, rfl⟩
  case round =>
    obtain ⟨k, hk, rfl⟩ := hrel
    by_cases hlt : k < N
    · have ck := HC.out k hlt
      have ki : (k : Int) < (N : Int) := by omega
      go_wp2
      go_round
      case rel => exact ⟨k + 1, by omega, by go_num⟩
      case measure => simp [intOf]; omega
    · have ki : ¬ (k : Int) < (N : Int) := by omega
      go_wp2
      go_ret
      exact ⟨rfl, HK.out.below⟩

set_option maxRecDepth 100000 in
set_option maxHeartbeats 1600000 in
theorem negLow (n : Int) (c : Int) (w : World) (hn : n ≤ 0) (h1 : c < 1) (hlo : -9223372036854775808 ≤ c) :
    Calls Yba.prog 4 #[.int .i64 n, .int .i64 c] w fun e w' => e = .returned (.bool true) ∧ Below w.heap.size w w' := by
  have t1 : -63 ≤ c.tmod 64 := (tmod_low c h1).1
  have t2 : c.tmod 64 ≤ 0 := (tmod_low c h1).2
  go_enter Yba.func4, Yba.ntmps4
  go_wp2_with (first
    | (go_at_call 13; go_must (refine (chunks_neg w n (1 - c.tmod 64) hn (by omega) (by omega)).mono ?_; rintro e w1 ⟨rfl, hI⟩; have ch : w1.cell? ⟨w.heap.size + 1 + 1 + 1, 0, none⟩ = some (.bool true) := cell_of_one hI.held; have cs : w1.cell? ⟨w.heap.size + 1, 0, none⟩ = some (.pointer (some ⟨w.heap.size, 0, none⟩)) := cell_of_one hI.svar; have HI : Hid (Inv w w.heap.size 0 0 (upto 0) w1) := hI; clear hI))
    | (go_at_call 11; go_must (refine (try_free_b w.heap.size _ HI.out.store).mono ?_; rintro e w2 ⟨rfl, hS, hO⟩; have cs2 : w2.cell? ⟨w.heap.size + 1, 0, none⟩ = some (.pointer (some ⟨w.heap.size, 0, none⟩)) := cell_of_one (HI.out.only hS hO).svar; have HJ : Hid (Inv w w.heap.size 1 (-1073741824) (upto 0) w2) := HI.out.only hS hO; clear hS hO)))
  refine (wunlock_b w.heap.size _ HJ.out.store).mono ?_
  rintro e w3 ⟨rfl, hS, hO⟩
  have HK : Hid (Inv w w.heap.size 0 0 (upto 0) w3) := HJ.out.only hS hO
  clear hS hO
  obtain ⟨ao, cap, hv⟩ := log_zero HK.out
  have cl : w3.cell? ⟨w.heap.size + 1 + 1, 0, none⟩ = some (.slice ao 0 cap) := cell_of_one hv
  clear hv
  have hp : ¬ (0 : Int) < n := by omega
  go_wp2
  go_loop [11] (fun i => i = .int .i64 0) (fun _ => 0)
  case atStart => exact rfl
  case round =>
    subst hrel
    go_wp2
    go_ret
    exact ⟨rfl, HK.out.below⟩
end Go.Proofs.Ybulkegqe.lawS6647CWhole
