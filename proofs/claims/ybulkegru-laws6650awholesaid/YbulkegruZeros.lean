import Derived.Test.YbulkegruBase
namespace Go.Proofs.Ybulkegru
set_option linter.unusedVariables false
set_option linter.unusedSimpArgs false
open Go.RowKit

/-- expSign. -/
theorem sign_neg (e : Int) (w : World) (h : e < 0) (h2 : -1000 < e) : Calls Yba.prog 11 #[.int .i64 e] w fun r w' => r = .returned (.tuple #[.int .u8 45, .int .i64 (-e)]) ∧ w' = w := by
  go_enter Yba.func11, Yba.ntmps11
  go_wp2
  go_ret2
  exact ⟨rfl, rfl⟩
theorem sign_pos (e : Int) (w : World) (h : 0 ≤ e) : Calls Yba.prog 11 #[.int .i64 e] w fun r w' => r = .returned (.tuple #[.int .u8 43, .int .i64 e]) ∧ w' = w := by
  go_enter Yba.func11, Yba.ntmps11
  go_wp2
  go_ret2
  exact ⟨rfl, rfl⟩

def zeroRun : ByteArray := ⟨#[48, 48, 48, 48, 48, 48, 48, 48, 48, 48, 48, 48, 48, 48, 48, 48, 48, 48, 48, 48, 48, 48, 48, 48, 48, 48, 48, 48, 48, 48, 48, 48, 48, 48, 48, 48, 48, 48, 48, 48, 48, 48, 48, 48, 48, 48, 48, 48, 48, 48, 48, 48, 48, 48, 48, 48, 48, 48, 48, 48, 48, 48, 48, 48]⟩

theorem zeroRun_cells (k : Nat) (hk : k ≤ 64) : Lib.strCells (zeroRun.extract 0 k) = (List.replicate k (48 : Int)).map (Value.int .u8) := by
  have e : (zeroRun.extract 0 k).data.toList = List.replicate k 48 := by
    have h0 : zeroRun.data.toList = List.replicate 64 48 := rfl
    rw [ByteArray.data_extract, Array.toList_extract, h0, List.extract_eq_take_drop, List.drop_zero, List.take_replicate, Nat.sub_zero, Nat.min_eq_left hk]
  unfold Lib.strCells
  rw [e, List.map_replicate, List.map_replicate]
  rfl

set_option maxRecDepth 100000 in
set_option maxHeartbeats 1600000 in
theorem zeros_any (B : Nat) (v : Value) (xs : List Int) (n : Int) (w : World) (hown : Own B w v xs) (hB : B ≤ w.heap.size) (hn : n ≤ 2097152) (hlo : -9223372036854775808 ≤ n) (hxs : xs.length ≤ 4194304) :
    Calls Yba.prog 10 #[v, .int .i64 n] w fun e w' => ∃ v', e = .returned v' ∧ Own B w' v' (xs ++ List.replicate n.toNat 48) ∧ Below B w w' := by
  go_enter Yba.func10, Yba.ntmps10
  go_wp2
  go_loopw [0, 1] (fun p r wr => ∃ (k : Int) (d : Nat), r = .int .i64 k ∧ k ≤ n ∧ (d : Int) = n - k ∧ (0 ≤ k ∨ k = n) ∧ Own B wr p (xs ++ List.replicate d 48) ∧ Below B w wr) (fun _ r _ => (intOf r).toNat)
  case atStart => exact ⟨n, 0, rfl, Int.le_refl _, by omega, .inr rfl, by simpa using hown, Below.refl _ _⟩
  case round =>
    obtain ⟨k, d, rfl, hk, hd, hs, ho, hb⟩ := hrel
    have HO : Hid (Own B wr u0 (xs ++ List.replicate d 48)) := ho
    have HB : Hid (Below B w wr) := hb
    have hBw : B ≤ wr.heap.size := Nat.le_trans hB hb.size
    have hL : (xs ++ List.replicate d (48 : Int)).length = xs.length + d := by simp
    have HL : Hid ((xs ++ List.replicate d (48 : Int)).length = xs.length + d) := hL
    clear ho hb hL
    by_cases hpos : 0 < k
    · by_cases hbig : 64 < k
      · go_wp2_with (at_builtin; go_must (refine ap_str _ rfl (.tmp 10) (.tmp 12) rfl B hBw u0 _ rfl HO.out (zeroRun.extract 0 64) (List.replicate 64 48) rfl (zeroRun_cells 64 (by omega)) (by rw [HL.out]; simp only [List.length_replicate]; omega) ?_; intro v' w1 ho' hb'))
        have HO' : Hid (Own B w1 v' (xs ++ List.replicate (d + 64) 48)) := by rw [List.append_assoc, List.replicate_append_replicate] at ho'; exact ho'
        clear ho'
        go_roundw
        case rel => exact ⟨k - 64, d + 64, rfl, by omega, by omega, .inl (by omega), HO'.out, HB.out.trans hb'⟩
        case measure => simp [intOf]; omega
      · obtain ⟨K, rfl⟩ : ∃ K : Nat, k = (K : Int) := ⟨k.toNat, by omega⟩
        go_wp2_with (at_builtin; go_must (refine ap_str _ rfl (.tmp 10) (.tmp 12) rfl B hBw u0 _ rfl HO.out (zeroRun.extract 0 K) (List.replicate K 48) rfl (zeroRun_cells K (by omega)) (by rw [HL.out]; simp only [List.length_replicate]; omega) ?_; intro v' w1 ho' hb'))
        have HO' : Hid (Own B w1 v' (xs ++ List.replicate (d + K) 48)) := by rw [List.append_assoc, List.replicate_append_replicate] at ho'; exact ho'
        clear ho'
        go_roundw
        case rel => exact ⟨0, d + K, by go_num, by omega, by omega, .inl (by omega), HO'.out, HB.out.trans hb'⟩
        case measure => simp [intOf]; omega
    · go_wp2
      go_ret
      have e : n.toNat = d := by omega
      exact ⟨_, rfl, by rw [e]; exact HO.out, HB.out⟩
end Go.Proofs.Ybulkegru
