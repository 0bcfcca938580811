import Derived.Test.YbulkegqeRead
namespace Go.Proofs.Ybulkegqe.lawS6647CWhole
set_option linter.unusedVariables false
set_option linter.unusedSimpArgs false
open Go.RowKit

/-- 0, 1, .., k-1. -/
def upto (k : Nat) : List Int := (List.range k).map fun (j : Nat) => (j : Int)
theorem upto_succ (k : Nat) : upto (k + 1) = upto k ++ [(k : Int)] := by simp [upto, List.range_succ]
theorem upto_length (k : Nat) : (upto k).length = k := by simp [upto]

set_option maxRecDepth 100000 in
set_option maxHeartbeats 1600000 in
theorem chunks_any (w0 : World) (B : Nat) (n c : Int) (w : World) (hI : Inv w0 B 0 0 [] w) (hn : n ≤ 65536) (h1 : 1 ≤ c) (h2 : c ≤ 1073741824) :
    Calls Yba.prog 13 #[.pointer (some ⟨B, 0, none⟩), .int .i64 n, .int .i64 c, .func (.func 10) #[] #[.pointer (some ⟨B + 2, 0, none⟩), .pointer (some ⟨B + 1, 0, none⟩), .pointer (some ⟨B + 3, 0, none⟩)]] w
      fun e w' => e = .returned (.tuple #[]) ∧ Inv w0 B 0 0 (upto n.toNat) w' := by
  go_enter Yba.func13, Yba.ntmps13
  go_wp2
  go_loopw [8] (fun i wr => ∃ k : Nat, i = .int .i64 k ∧ ((k : Int) = 0 ∨ (k : Int) ≤ n) ∧ Inv w0 B 0 0 (upto k) wr) (fun i _ => (n - intOf i).toNat)
  case atStart => exact ⟨0, rfl, .inl rfl, hI⟩
  case round =>
    obtain ⟨k, rfl, hk, hIk⟩ := hrel
    by_cases hlt : (k : Int) < n
    · have HI : Hid (Inv w0 B 0 0 (upto k) wr) := hIk
      have HK : Hid ((k : Int) = 0 ∨ (k : Int) ≤ n) := hk
      clear hI hIk hk
      by_cases hmin : (k : Int) + c ≤ n
      · go_wp2_with (go_at_call 38; go_must (refine (rlock_b B _ HI.out.store).mono ?_; rintro e w1 ⟨rfl, hS, hO⟩; have HJ : Hid (Inv w0 B 0 1 (upto k) w1) := HI.out.only hS hO; clear hS hO))
        go_loopw [8] (fun i wi => ∃ m : Nat, i = .int .i64 m ∧ k ≤ m ∧ (m : Int) ≤ ((k : Int) + c) ∧ Inv w0 B 0 1 (upto m) wi) (fun i _ => (((k : Int) + c) - intOf i).toNat)
        case atStart => exact ⟨k, rfl, Nat.le_refl _, by omega, HJ.out⟩
        case round =>
          obtain ⟨m, rfl, hkm, hmE, hIm⟩ := hrel
          have HM : Hid (Inv w0 B 0 1 (upto m) wr) := hIm
          clear hIm
          have hml := upto_length m
          have HL : Hid ((upto m).length = m) := hml
          clear hml
          by_cases hlm : (m : Int) < ((k : Int) + c)
          · go_wp2_with (go_at_call 10; go_must (refine (read_any w0 B m (upto m) _ HM.out (by rw [HL.out]; omega)).mono ?_; rintro e w2 ⟨rfl, hIn⟩; have HN : Hid (Inv w0 B 0 1 (upto (m + 1)) w2) := (by rw [upto_succ]; exact hIn); clear hIn))
            go_roundw
            case rel => exact ⟨m + 1, by go_num, by omega, by omega, HN.out⟩
            case measure => simp [intOf]; omega
          · go_wp2_with (go_at_call 39; go_must (refine (runlock_b B _ HM.out.store).mono ?_; rintro e w2 ⟨rfl, hS, hO⟩; have HN : Hid (Inv w0 B 0 0 (upto m) w2) := HM.out.only hS hO; clear hS hO))
            go_roundw
            case rel => exact ⟨m, rfl, .inr (by omega), HN.out⟩
            case measure => simp [intOf]; omega
      · go_wp2_with (go_at_call 38; go_must (refine (rlock_b B _ HI.out.store).mono ?_; rintro e w1 ⟨rfl, hS, hO⟩; have HJ : Hid (Inv w0 B 0 1 (upto k) w1) := HI.out.only hS hO; clear hS hO))
        go_loopw [8] (fun i wi => ∃ m : Nat, i = .int .i64 m ∧ k ≤ m ∧ (m : Int) ≤ n ∧ Inv w0 B 0 1 (upto m) wi) (fun i _ => (n - intOf i).toNat)
        case atStart => exact ⟨k, rfl, Nat.le_refl _, by omega, HJ.out⟩
        case round =>
          obtain ⟨m, rfl, hkm, hmE, hIm⟩ := hrel
          have HM : Hid (Inv w0 B 0 1 (upto m) wr) := hIm
          clear hIm
          have hml := upto_length m
          have HL : Hid ((upto m).length = m) := hml
          clear hml
          by_cases hlm : (m : Int) < n
          · go_wp2_with (go_at_call 10; go_must (refine (read_any w0 B m (upto m) _ HM.out (by rw [HL.out]; omega)).mono ?_; rintro e w2 ⟨rfl, hIn⟩; have HN : Hid (Inv w0 B 0 1 (upto (m + 1)) w2) := (by rw [upto_succ]; exact hIn); clear hIn))
            go_roundw
            case rel => exact ⟨m + 1, by go_num, by omega, by omega, HN.out⟩
            case measure => simp [intOf]; omega
          · go_wp2_with (go_at_call 39; go_must (refine (runlock_b B _ HM.out.store).mono ?_; rintro e w2 ⟨rfl, hS, hO⟩; have HN : Hid (Inv w0 B 0 0 (upto m) w2) := HM.out.only hS hO; clear hS hO))
            go_roundw
            case rel => exact ⟨m, rfl, .inr (by omega), HN.out⟩
            case measure => simp [intOf]; omega
    · go_wp2
      go_end0
      have e : n.toNat = k := by omega
      exact ⟨rfl, by rw [e]; exact hIk⟩
end Go.Proofs.Ybulkegqe.lawS6647CWhole
