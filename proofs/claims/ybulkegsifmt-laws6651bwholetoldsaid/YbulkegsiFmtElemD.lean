/-
  DERIVED. (*Reader).Element, the long form's ways: FOR EVERY F.
-/
import Derived.Test.YbulkegsiFmtElemC
namespace Go.Proofs.YbulkegsiFmt
open Go.Extern.Stop Go.Stop Go.Extern Go.RowKit
set_option linter.unusedVariables false
set_option linter.unusedSimpArgs false
attribute [local go_sem] call12 call20 fguard fmt0 fmt0r fmt1 fmt1r fmt2 fmt2r fmt3 fmt3r fmt4 fmt4r fmt5 fmt5r fmt6 fmt6r fmt7 fmt7r fmt8 fmt8r fmt9 fmt9r fmt10 fmt10r act22_100 op22_100 act5_120s op5_120s act22_118w act3_100w op3_100w act44_100w op44_100w fstr22 ptr53 elem53 isError53

theorem wrap64_sm {x : Int} (h : 0 ≤ x ∧ x ≤ 4294967296) : wrap64 x = x := wrap64_id (by omega) (by omega)
theorem wrap_sm {x : Int} (h : 0 ≤ x ∧ x ≤ 4294967296) : IntKind.u64.wrap x = x := wrap_u64 (by omega) (by omega)

set_option maxRecDepth 100000 in
set_option maxHeartbeats 1600000 in
theorem elem_l1 (F : Interp) (b off n c rb : Nat) (X : Nat → Int) (t : Int) (w : World) (hF : F.answers w.tape) (h0 : 0 ≤ t) (h1 : t ≤ 255) (hn : 2 ≤ n) (hn1 : n ≤ 2097152) (hnc : n ≤ c) (hX : ∀ i, i < n → w.cell? ⟨b, off + i, none⟩ = some (.int .u8 (X i))) (hB : ∀ i, 0 ≤ X i ∧ X i ≤ 255) (hr : w.cell? ⟨rb, 0, none⟩ = some (.slice (some ⟨b, off, none⟩) n c)) (hfr : w.frozen? ⟨rb, 0, none⟩ = false) (ht : X 0 = t)
    (K H : Nat) (hH : H = 2 + K) (hK : X 1 = 128 + (K : Int)) (k1 : 1 ≤ K) (k4 : K ≤ 4) (hkn : 2 + K ≤ n) (l : Nat) (hl : num X K = (l : Int)) (hs : l < 128) :
    Calls Ybaf.prog 18 #[.pointer (some ⟨rb, 0, none⟩), .int .u8 t] w (EErr w) := by
  have hl4 : (l : Int) < 4294967296 := by rw [← hl]; exact (num_bd4 hB k4).2
  have HL : Hid (num X K = (l : Int)) := hl
  clear hl
  have x0 : w.cell? ⟨b, off, none⟩ = some (.int .u8 (X 0)) := hX 0 (by omega)
  have x1 : w.cell? ⟨b, off + 1, none⟩ = some (.int .u8 (X 1)) := hX 1 (by omega)
  have x2 : w.cell? ⟨b, off + 2, none⟩ = some (.int .u8 (X 2)) := hX 2 (by omega)
  have g0 : ((n : Int) == 0) = false := by simp; omega
  have g1 : ¬ (n : Int) < 2 := by omega
  have g2 : (0 : Int) < (n : Int) := by omega
  have g3 : (1 : Int) < (n : Int) := by omega
  have g4 : 1 < n := by omega
  have gt : (X 0 != t) = false := by simpa using ht
  have hk127 : K < 128 := by omega
  obtain ⟨z0, z1⟩ := hB 1
  have f1 : ((K : Int) == 0) = false := by simp; omega
  have f2 : (K : Int) ≤ 4 := by omega
  have f3 : (K : Int) ≤ (n : Int) - 2 := by omega
  have f4 : (2 : Int) ≤ (H : Int) := by omega
  have f5 : (H : Int) ≤ (c : Int) := by omega
  have f10 : 2 ≤ H := by omega
  have f11 : H ≤ c := by omega
  have F12 : Hid (H - 2 = K) := (by omega : H - 2 = K)
  have f6 : (c = 2) = False := eq_false (by omega)
  have f13 : (2 : Int) < (n : Int) := by omega
  have e2 : 2 + (K : Int) = (H : Int) := by omega
  have f8 : (l : Int) < 128 := by omega
  have b1 : (0 : Int) ≤ (n : Int) - 2 ∧ (n : Int) - 2 ≤ 4294967296 := by omega
  have b2 : (0 : Int) ≤ (H : Int) ∧ (H : Int) ≤ 4294967296 := by omega
  have b3 : (0 : Int) ≤ (K : Int) ∧ (K : Int) ≤ 4294967296 := by omega
  have b4 : (0 : Int) ≤ X 1 ∧ X 1 ≤ 4294967296 := by omega
  have b5 : (0 : Int) ≤ (n : Int) - (H : Int) ∧ (n : Int) - (H : Int) ≤ 4294967296 := by omega
  have b6 : (0 : Int) ≤ (l : Int) ∧ (l : Int) ≤ 4294967296 := by omega
  have w1 : ∀ m : Nat, m = n → wrap64 ((m : Int) - 2) = (m : Int) - 2 := fun m hm => by rw [hm]; exact wrap64_sm b1
  have w3 : ∀ m : Nat, m = n → wrap64 ((m : Int) - (H : Int)) = (m : Int) - (H : Int) := fun m hm => by rw [hm]; exact wrap64_sm b5
  have w4 : ∀ m : Nat, m = n → IntKind.u64.wrap ((m : Int) - (H : Int)) = (m : Int) - (H : Int) := fun m hm => by rw [hm]; exact wrap_sm b5
  have w5 : ∀ m : Nat, (m = K ∨ m = H ∨ m = l) → wrap64 (m : Int) = (m : Int) := fun m hm => hm.elim (fun e => e ▸ wrap64_sm b3) (fun hm => hm.elim (fun e => e ▸ wrap64_sm b2) (fun e => e ▸ wrap64_sm b6))
  have wx : ∀ z : Int, z = X 1 → IntKind.u64.wrap z = z := fun z hz => by rw [hz]; exact wrap_sm b4
  clear b1 b2 b3 b4 b5 b6 hl4
  have a8 : ∀ z : Int, z = X 1 → bits .and .u64 z 128 = 128 := fun z hz => by rw [hz, hK]; exact and128_hi hk127
  have a7 : ∀ z : Int, z = X 1 → bits .and .u64 z 127 = (K : Int) := fun z hz => by rw [hz, hK]; exact and127_hi hk127
  have HX : Hid (∀ i, i < n → w.cell? ⟨b, off + i, none⟩ = some (.int .u8 (X i))) := hX
  have HB : Hid (∀ i, 0 ≤ X i ∧ X i ≤ 255) := hB
  have HH : Hid (H = 2 + K) := hH
  clear hX hB hK hH
  go_enter Ybaf.func18, Ybaf.ntmps18
  go_upto_region 8 with fail
  go_quiet (fail)
  go_wp2
  rw [F12.out]
  go_loop [9, 93] (fun v i => ∃ k : Nat, k ≤ K ∧ i = .int .i64 k ∧ v = .int .u64 (num X k)) (fun _ i => K - (intOf i).toNat)
  case atStart => exact ⟨0, Nat.zero_le _, rfl, rfl⟩
  case round =>
    obtain ⟨k, hk, rfl, rfl⟩ := hrel
    by_cases hlt : k < K
    · have xk : w.cell? ⟨b, off + 2 + k, none⟩ = some (.int .u8 (X (2 + k))) := by
        have := HX.out (2 + k) (by omega)
        rw [← Nat.add_assoc] at this
        exact this
      have hlt2 : (k : Int) < (K : Int) := by omega
      obtain ⟨y0, y1⟩ := HB.out (2 + k)
      obtain ⟨v0, v1⟩ := num_bd3 HB.out (k := k) (by omega)
      obtain ⟨y, hy⟩ : ∃ y, y = X (2 + k) := ⟨_, rfl⟩
      obtain ⟨v, hv⟩ : ∃ v, v = num X k := ⟨_, rfl⟩
      have hv' : num X (k + 1) = v * 256 + y := by rw [hv, hy]; rfl
      rw [← hy] at xk y0 y1
      rw [← hv] at v0 v1
      rw [← hv]
      have HV : Hid (num X (k + 1) = v * 256 + y) := hv'
      clear hv' hv hy
      have bo := or_byte v0 (by omega) y0 y1
      have oo : ∀ z : Int, z = v * 256 → bits .or .u64 z y = v * 256 + y := fun z hz => by rw [hz]; exact bo
      clear bo
      have wv : ∀ z : Int, z = v * 256 → IntKind.u64.wrap z = z := fun z hz => by rw [hz]; exact wrap_u64 (by omega) (by omega)
      have wy : ∀ z : Int, z = y → IntKind.u64.wrap z = z := fun z hz => by rw [hz]; exact wrap_u64 (by omega) (by omega)
      go_wp2
      refine ⟨⟨k + 1, hlt, by go_num, by rw [HV.out]⟩, ?_⟩
      simp [intOf]; omega
    · obtain rfl : k = K := by omega
      rw [HL.out]
      clear a7 a8 wx w1
      go_wp2_with (first
        | (go_at_call 19; go_must (refine (errorf1 F _ fmt8r t _ _ 1 (by exact hF) h0 h1 (by simp) (cell_made _ _ _ _ _ _ rfl rfl)).mono ?_; rintro e w2 ⟨p, rfl, hb⟩))
        | fail)
      go_ret3
      refine ⟨_, rfl, ?_⟩
      exact (below_n w _).trans (((Below.refl _ _).alloc (Nat.le_refl _) _).trans (hb.mono (by simp)))

set_option maxRecDepth 100000 in
set_option maxHeartbeats 1600000 in
theorem elem_l0 (F : Interp) (b off n c rb : Nat) (X : Nat → Int) (t : Int) (w : World) (hF : F.answers w.tape) (h0 : 0 ≤ t) (h1 : t ≤ 255) (hn : 2 ≤ n) (hn1 : n ≤ 2097152) (hnc : n ≤ c) (hX : ∀ i, i < n → w.cell? ⟨b, off + i, none⟩ = some (.int .u8 (X i))) (hB : ∀ i, 0 ≤ X i ∧ X i ≤ 255) (hr : w.cell? ⟨rb, 0, none⟩ = some (.slice (some ⟨b, off, none⟩) n c)) (hfr : w.frozen? ⟨rb, 0, none⟩ = false) (ht : X 0 = t)
    (K H : Nat) (hH : H = 2 + K) (hK : X 1 = 128 + (K : Int)) (k1 : 1 ≤ K) (k4 : K ≤ 4) (hkn : 2 + K ≤ n) (l : Nat) (hl : num X K = (l : Int)) (hs : 128 ≤ l) (hx2 : X 2 = 0) :
    Calls Ybaf.prog 18 #[.pointer (some ⟨rb, 0, none⟩), .int .u8 t] w (EErr w) := by
  have hl4 : (l : Int) < 4294967296 := by rw [← hl]; exact (num_bd4 hB k4).2
  have HL : Hid (num X K = (l : Int)) := hl
  clear hl
  have x0 : w.cell? ⟨b, off, none⟩ = some (.int .u8 (X 0)) := hX 0 (by omega)
  have x1 : w.cell? ⟨b, off + 1, none⟩ = some (.int .u8 (X 1)) := hX 1 (by omega)
  have x2 : w.cell? ⟨b, off + 2, none⟩ = some (.int .u8 (X 2)) := hX 2 (by omega)
  have g0 : ((n : Int) == 0) = false := by simp; omega
  have g1 : ¬ (n : Int) < 2 := by omega
  have g2 : (0 : Int) < (n : Int) := by omega
  have g3 : (1 : Int) < (n : Int) := by omega
  have g4 : 1 < n := by omega
  have gt : (X 0 != t) = false := by simpa using ht
  have hk127 : K < 128 := by omega
  obtain ⟨z0, z1⟩ := hB 1
  have f1 : ((K : Int) == 0) = false := by simp; omega
  have f2 : (K : Int) ≤ 4 := by omega
  have f3 : (K : Int) ≤ (n : Int) - 2 := by omega
  have f4 : (2 : Int) ≤ (H : Int) := by omega
  have f5 : (H : Int) ≤ (c : Int) := by omega
  have f10 : 2 ≤ H := by omega
  have f11 : H ≤ c := by omega
  have F12 : Hid (H - 2 = K) := (by omega : H - 2 = K)
  have f6 : (c = 2) = False := eq_false (by omega)
  have f13 : (2 : Int) < (n : Int) := by omega
  have e2 : 2 + (K : Int) = (H : Int) := by omega
  have f8 : ¬ (l : Int) < 128 := by omega
  have f7 : (X 2 == 0) = true := by simpa using hx2
  have b1 : (0 : Int) ≤ (n : Int) - 2 ∧ (n : Int) - 2 ≤ 4294967296 := by omega
  have b2 : (0 : Int) ≤ (H : Int) ∧ (H : Int) ≤ 4294967296 := by omega
  have b3 : (0 : Int) ≤ (K : Int) ∧ (K : Int) ≤ 4294967296 := by omega
  have b4 : (0 : Int) ≤ X 1 ∧ X 1 ≤ 4294967296 := by omega
  have b5 : (0 : Int) ≤ (n : Int) - (H : Int) ∧ (n : Int) - (H : Int) ≤ 4294967296 := by omega
  have b6 : (0 : Int) ≤ (l : Int) ∧ (l : Int) ≤ 4294967296 := by omega
  have w1 : ∀ m : Nat, m = n → wrap64 ((m : Int) - 2) = (m : Int) - 2 := fun m hm => by rw [hm]; exact wrap64_sm b1
  have w3 : ∀ m : Nat, m = n → wrap64 ((m : Int) - (H : Int)) = (m : Int) - (H : Int) := fun m hm => by rw [hm]; exact wrap64_sm b5
  have w4 : ∀ m : Nat, m = n → IntKind.u64.wrap ((m : Int) - (H : Int)) = (m : Int) - (H : Int) := fun m hm => by rw [hm]; exact wrap_sm b5
  have w5 : ∀ m : Nat, (m = K ∨ m = H ∨ m = l) → wrap64 (m : Int) = (m : Int) := fun m hm => hm.elim (fun e => e ▸ wrap64_sm b3) (fun hm => hm.elim (fun e => e ▸ wrap64_sm b2) (fun e => e ▸ wrap64_sm b6))
  have wx : ∀ z : Int, z = X 1 → IntKind.u64.wrap z = z := fun z hz => by rw [hz]; exact wrap_sm b4
  clear b1 b2 b3 b4 b5 b6 hl4
  have a8 : ∀ z : Int, z = X 1 → bits .and .u64 z 128 = 128 := fun z hz => by rw [hz, hK]; exact and128_hi hk127
  have a7 : ∀ z : Int, z = X 1 → bits .and .u64 z 127 = (K : Int) := fun z hz => by rw [hz, hK]; exact and127_hi hk127
  have HX : Hid (∀ i, i < n → w.cell? ⟨b, off + i, none⟩ = some (.int .u8 (X i))) := hX
  have HB : Hid (∀ i, 0 ≤ X i ∧ X i ≤ 255) := hB
  have HH : Hid (H = 2 + K) := hH
  clear hX hB hK hH
  go_enter Ybaf.func18, Ybaf.ntmps18
  go_upto_region 8 with fail
  go_quiet (fail)
  go_wp2
  rw [F12.out]
  go_loop [9, 93] (fun v i => ∃ k : Nat, k ≤ K ∧ i = .int .i64 k ∧ v = .int .u64 (num X k)) (fun _ i => K - (intOf i).toNat)
  case atStart => exact ⟨0, Nat.zero_le _, rfl, rfl⟩
  case round =>
    obtain ⟨k, hk, rfl, rfl⟩ := hrel
    by_cases hlt : k < K
    · have xk : w.cell? ⟨b, off + 2 + k, none⟩ = some (.int .u8 (X (2 + k))) := by
        have := HX.out (2 + k) (by omega)
        rw [← Nat.add_assoc] at this
        exact this
      have hlt2 : (k : Int) < (K : Int) := by omega
      obtain ⟨y0, y1⟩ := HB.out (2 + k)
      obtain ⟨v0, v1⟩ := num_bd3 HB.out (k := k) (by omega)
      obtain ⟨y, hy⟩ : ∃ y, y = X (2 + k) := ⟨_, rfl⟩
      obtain ⟨v, hv⟩ : ∃ v, v = num X k := ⟨_, rfl⟩
      have hv' : num X (k + 1) = v * 256 + y := by rw [hv, hy]; rfl
      rw [← hy] at xk y0 y1
      rw [← hv] at v0 v1
      rw [← hv]
      have HV : Hid (num X (k + 1) = v * 256 + y) := hv'
      clear hv' hv hy
      have bo := or_byte v0 (by omega) y0 y1
      have oo : ∀ z : Int, z = v * 256 → bits .or .u64 z y = v * 256 + y := fun z hz => by rw [hz]; exact bo
      clear bo
      have wv : ∀ z : Int, z = v * 256 → IntKind.u64.wrap z = z := fun z hz => by rw [hz]; exact wrap_u64 (by omega) (by omega)
      have wy : ∀ z : Int, z = y → IntKind.u64.wrap z = z := fun z hz => by rw [hz]; exact wrap_u64 (by omega) (by omega)
      go_wp2
      refine ⟨⟨k + 1, hlt, by go_num, by rw [HV.out]⟩, ?_⟩
      simp [intOf]; omega
    · obtain rfl : k = K := by omega
      rw [HL.out]
      clear a7 a8 wx w1
      go_wp2_with (first
        | (go_at_call 19; go_must (refine (errorf1 F _ fmt9r t _ _ 1 (by exact hF) h0 h1 (by simp) (cell_made _ _ _ _ _ _ rfl rfl)).mono ?_; rintro e w2 ⟨p, rfl, hb⟩))
        | fail)
      go_ret3
      refine ⟨_, rfl, ?_⟩
      exact (below_n w _).trans (((Below.refl _ _).alloc (Nat.le_refl _) _).trans (hb.mono (by simp)))

set_option maxRecDepth 100000 in
set_option maxHeartbeats 1600000 in
theorem elem_l3 (F : Interp) (b off n c rb : Nat) (X : Nat → Int) (t : Int) (w : World) (hF : F.answers w.tape) (h0 : 0 ≤ t) (h1 : t ≤ 255) (hn : 2 ≤ n) (hn1 : n ≤ 2097152) (hnc : n ≤ c) (hX : ∀ i, i < n → w.cell? ⟨b, off + i, none⟩ = some (.int .u8 (X i))) (hB : ∀ i, 0 ≤ X i ∧ X i ≤ 255) (hr : w.cell? ⟨rb, 0, none⟩ = some (.slice (some ⟨b, off, none⟩) n c)) (hfr : w.frozen? ⟨rb, 0, none⟩ = false) (ht : X 0 = t)
    (K H : Nat) (hH : H = 2 + K) (hK : X 1 = 128 + (K : Int)) (k1 : 1 ≤ K) (k4 : K ≤ 4) (hkn : 2 + K ≤ n) (l : Nat) (hl : num X K = (l : Int)) (hs : 128 ≤ l) (hx2 : X 2 ≠ 0) (hp : n < H + l) :
    Calls Ybaf.prog 18 #[.pointer (some ⟨rb, 0, none⟩), .int .u8 t] w (EErr w) := by
  have hl4 : (l : Int) < 4294967296 := by rw [← hl]; exact (num_bd4 hB k4).2
  have HL : Hid (num X K = (l : Int)) := hl
  clear hl
  have x0 : w.cell? ⟨b, off, none⟩ = some (.int .u8 (X 0)) := hX 0 (by omega)
  have x1 : w.cell? ⟨b, off + 1, none⟩ = some (.int .u8 (X 1)) := hX 1 (by omega)
  have x2 : w.cell? ⟨b, off + 2, none⟩ = some (.int .u8 (X 2)) := hX 2 (by omega)
  have g0 : ((n : Int) == 0) = false := by simp; omega
  have g1 : ¬ (n : Int) < 2 := by omega
  have g2 : (0 : Int) < (n : Int) := by omega
  have g3 : (1 : Int) < (n : Int) := by omega
  have g4 : 1 < n := by omega
  have gt : (X 0 != t) = false := by simpa using ht
  have hk127 : K < 128 := by omega
  obtain ⟨z0, z1⟩ := hB 1
  have f1 : ((K : Int) == 0) = false := by simp; omega
  have f2 : (K : Int) ≤ 4 := by omega
  have f3 : (K : Int) ≤ (n : Int) - 2 := by omega
  have f4 : (2 : Int) ≤ (H : Int) := by omega
  have f5 : (H : Int) ≤ (c : Int) := by omega
  have f10 : 2 ≤ H := by omega
  have f11 : H ≤ c := by omega
  have F12 : Hid (H - 2 = K) := (by omega : H - 2 = K)
  have f6 : (c = 2) = False := eq_false (by omega)
  have f13 : (2 : Int) < (n : Int) := by omega
  have e2 : 2 + (K : Int) = (H : Int) := by omega
  have f8 : ¬ (l : Int) < 128 := by omega
  have f7 : (X 2 == 0) = false := by simpa using hx2
  have f9 : (n : Int) - (H : Int) < (l : Int) := by omega
  have b1 : (0 : Int) ≤ (n : Int) - 2 ∧ (n : Int) - 2 ≤ 4294967296 := by omega
  have b2 : (0 : Int) ≤ (H : Int) ∧ (H : Int) ≤ 4294967296 := by omega
  have b3 : (0 : Int) ≤ (K : Int) ∧ (K : Int) ≤ 4294967296 := by omega
  have b4 : (0 : Int) ≤ X 1 ∧ X 1 ≤ 4294967296 := by omega
  have b5 : (0 : Int) ≤ (n : Int) - (H : Int) ∧ (n : Int) - (H : Int) ≤ 4294967296 := by omega
  have b6 : (0 : Int) ≤ (l : Int) ∧ (l : Int) ≤ 4294967296 := by omega
  have w1 : ∀ m : Nat, m = n → wrap64 ((m : Int) - 2) = (m : Int) - 2 := fun m hm => by rw [hm]; exact wrap64_sm b1
  have w3 : ∀ m : Nat, m = n → wrap64 ((m : Int) - (H : Int)) = (m : Int) - (H : Int) := fun m hm => by rw [hm]; exact wrap64_sm b5
  have w4 : ∀ m : Nat, m = n → IntKind.u64.wrap ((m : Int) - (H : Int)) = (m : Int) - (H : Int) := fun m hm => by rw [hm]; exact wrap_sm b5
  have w5 : ∀ m : Nat, (m = K ∨ m = H ∨ m = l) → wrap64 (m : Int) = (m : Int) := fun m hm => hm.elim (fun e => e ▸ wrap64_sm b3) (fun hm => hm.elim (fun e => e ▸ wrap64_sm b2) (fun e => e ▸ wrap64_sm b6))
  have wx : ∀ z : Int, z = X 1 → IntKind.u64.wrap z = z := fun z hz => by rw [hz]; exact wrap_sm b4
  clear b1 b2 b3 b4 b5 b6 hl4
  have a8 : ∀ z : Int, z = X 1 → bits .and .u64 z 128 = 128 := fun z hz => by rw [hz, hK]; exact and128_hi hk127
  have a7 : ∀ z : Int, z = X 1 → bits .and .u64 z 127 = (K : Int) := fun z hz => by rw [hz, hK]; exact and127_hi hk127
  have HX : Hid (∀ i, i < n → w.cell? ⟨b, off + i, none⟩ = some (.int .u8 (X i))) := hX
  have HB : Hid (∀ i, 0 ≤ X i ∧ X i ≤ 255) := hB
  have HH : Hid (H = 2 + K) := hH
  clear hX hB hK hH
  go_enter Ybaf.func18, Ybaf.ntmps18
  go_upto_region 8 with fail
  go_quiet (fail)
  go_wp2
  rw [F12.out]
  go_loop [9, 93] (fun v i => ∃ k : Nat, k ≤ K ∧ i = .int .i64 k ∧ v = .int .u64 (num X k)) (fun _ i => K - (intOf i).toNat)
  case atStart => exact ⟨0, Nat.zero_le _, rfl, rfl⟩
  case round =>
    obtain ⟨k, hk, rfl, rfl⟩ := hrel
    by_cases hlt : k < K
    · have xk : w.cell? ⟨b, off + 2 + k, none⟩ = some (.int .u8 (X (2 + k))) := by
        have := HX.out (2 + k) (by omega)
        rw [← Nat.add_assoc] at this
        exact this
      have hlt2 : (k : Int) < (K : Int) := by omega
      obtain ⟨y0, y1⟩ := HB.out (2 + k)
      obtain ⟨v0, v1⟩ := num_bd3 HB.out (k := k) (by omega)
      obtain ⟨y, hy⟩ : ∃ y, y = X (2 + k) := ⟨_, rfl⟩
      obtain ⟨v, hv⟩ : ∃ v, v = num X k := ⟨_, rfl⟩
      have hv' : num X (k + 1) = v * 256 + y := by rw [hv, hy]; rfl
      rw [← hy] at xk y0 y1
      rw [← hv] at v0 v1
      rw [← hv]
      have HV : Hid (num X (k + 1) = v * 256 + y) := hv'
      clear hv' hv hy
      have bo := or_byte v0 (by omega) y0 y1
      have oo : ∀ z : Int, z = v * 256 → bits .or .u64 z y = v * 256 + y := fun z hz => by rw [hz]; exact bo
      clear bo
      have wv : ∀ z : Int, z = v * 256 → IntKind.u64.wrap z = z := fun z hz => by rw [hz]; exact wrap_u64 (by omega) (by omega)
      have wy : ∀ z : Int, z = y → IntKind.u64.wrap z = z := fun z hz => by rw [hz]; exact wrap_u64 (by omega) (by omega)
      go_wp2
      refine ⟨⟨k + 1, hlt, by go_num, by rw [HV.out]⟩, ?_⟩
      simp [intOf]; omega
    · obtain rfl : k = K := by omega
      rw [HL.out]
      clear a7 a8 wx w1
      go_wp2_with (first
        | (go_at_call 19; go_must (refine (errorf2u F _ fmt10r t (l : Int) _ _ 2 (by exact hF) h0 h1 (by simp) (cell_made _ _ _ _ _ _ rfl rfl) (cell_made _ _ _ _ _ _ rfl rfl)).mono ?_; rintro e w2 ⟨p, rfl, hb⟩))
        | fail)
      go_ret3
      refine ⟨_, rfl, ?_⟩
      exact (below_n w _).trans (((Below.refl _ _).alloc (Nat.le_refl _) _).trans (hb.mono (by simp)))

set_option maxRecDepth 100000 in
set_option maxHeartbeats 1600000 in
theorem elem_l2 (F : Interp) (b off n c rb : Nat) (X : Nat → Int) (t : Int) (w : World) (hF : F.answers w.tape) (h0 : 0 ≤ t) (h1 : t ≤ 255) (hn : 2 ≤ n) (hn1 : n ≤ 2097152) (hnc : n ≤ c) (hX : ∀ i, i < n → w.cell? ⟨b, off + i, none⟩ = some (.int .u8 (X i))) (hB : ∀ i, 0 ≤ X i ∧ X i ≤ 255) (hr : w.cell? ⟨rb, 0, none⟩ = some (.slice (some ⟨b, off, none⟩) n c)) (hfr : w.frozen? ⟨rb, 0, none⟩ = false) (ht : X 0 = t)
    (K H : Nat) (hH : H = 2 + K) (hK : X 1 = 128 + (K : Int)) (k1 : 1 ≤ K) (k4 : K ≤ 4) (hkn : 2 + K ≤ n) (l : Nat) (hl : num X K = (l : Int)) (hs : 128 ≤ l) (hx2 : X 2 ≠ 0) (E : Nat) (hE : E = H + l) (hen : E ≤ n) :
    Calls Ybaf.prog 18 #[.pointer (some ⟨rb, 0, none⟩), .int .u8 t] w (EOk b off n c rb H l w) := by
  have hl4 : (l : Int) < 4294967296 := by rw [← hl]; exact (num_bd4 hB k4).2
  have HL : Hid (num X K = (l : Int)) := hl
  clear hl
  have x0 : w.cell? ⟨b, off, none⟩ = some (.int .u8 (X 0)) := hX 0 (by omega)
  have x1 : w.cell? ⟨b, off + 1, none⟩ = some (.int .u8 (X 1)) := hX 1 (by omega)
  have x2 : w.cell? ⟨b, off + 2, none⟩ = some (.int .u8 (X 2)) := hX 2 (by omega)
  have g0 : ((n : Int) == 0) = false := by simp; omega
  have g1 : ¬ (n : Int) < 2 := by omega
  have g2 : (0 : Int) < (n : Int) := by omega
  have g3 : (1 : Int) < (n : Int) := by omega
  have g4 : 1 < n := by omega
  have gt : (X 0 != t) = false := by simpa using ht
  have hk127 : K < 128 := by omega
  obtain ⟨z0, z1⟩ := hB 1
  have f1 : ((K : Int) == 0) = false := by simp; omega
  have f2 : (K : Int) ≤ 4 := by omega
  have f3 : (K : Int) ≤ (n : Int) - 2 := by omega
  have f4 : (2 : Int) ≤ (H : Int) := by omega
  have f5 : (H : Int) ≤ (c : Int) := by omega
  have f10 : 2 ≤ H := by omega
  have f11 : H ≤ c := by omega
  have F12 : Hid (H - 2 = K) := (by omega : H - 2 = K)
  have f6 : (c = 2) = False := eq_false (by omega)
  have f13 : (2 : Int) < (n : Int) := by omega
  have e2 : 2 + (K : Int) = (H : Int) := by omega
  have f8 : ¬ (l : Int) < 128 := by omega
  have f7 : (X 2 == 0) = false := by simpa using hx2
  have f9 : (l : Int) ≤ (n : Int) - (H : Int) := by omega
  have e3 : (H : Int) + (l : Int) = (E : Int) := by omega
  have q2 : (H : Int) ≤ (E : Int) := by omega
  have q3 : (E : Int) ≤ (n : Int) := by omega
  have q4 : (E : Int) ≤ (c : Int) := by omega
  have q5 : (n : Int) ≤ (c : Int) := by omega
  have q6 : H ≤ E := by omega
  have q7 : E ≤ c := by omega
  have b7 : (0 : Int) ≤ (E : Int) ∧ (E : Int) ≤ 4294967296 := by omega
  have b1 : (0 : Int) ≤ (n : Int) - 2 ∧ (n : Int) - 2 ≤ 4294967296 := by omega
  have b2 : (0 : Int) ≤ (H : Int) ∧ (H : Int) ≤ 4294967296 := by omega
  have b3 : (0 : Int) ≤ (K : Int) ∧ (K : Int) ≤ 4294967296 := by omega
  have b4 : (0 : Int) ≤ X 1 ∧ X 1 ≤ 4294967296 := by omega
  have b5 : (0 : Int) ≤ (n : Int) - (H : Int) ∧ (n : Int) - (H : Int) ≤ 4294967296 := by omega
  have b6 : (0 : Int) ≤ (l : Int) ∧ (l : Int) ≤ 4294967296 := by omega
  have w1 : ∀ m : Nat, m = n → wrap64 ((m : Int) - 2) = (m : Int) - 2 := fun m hm => by rw [hm]; exact wrap64_sm b1
  have w3 : ∀ m : Nat, m = n → wrap64 ((m : Int) - (H : Int)) = (m : Int) - (H : Int) := fun m hm => by rw [hm]; exact wrap64_sm b5
  have w4 : ∀ m : Nat, m = n → IntKind.u64.wrap ((m : Int) - (H : Int)) = (m : Int) - (H : Int) := fun m hm => by rw [hm]; exact wrap_sm b5
  have w5 : ∀ m : Nat, (m = K ∨ m = H ∨ m = l) → wrap64 (m : Int) = (m : Int) := fun m hm => hm.elim (fun e => e ▸ wrap64_sm b3) (fun hm => hm.elim (fun e => e ▸ wrap64_sm b2) (fun e => e ▸ wrap64_sm b6))
  have wx : ∀ z : Int, z = X 1 → IntKind.u64.wrap z = z := fun z hz => by rw [hz]; exact wrap_sm b4
  have w6 : ∀ m : Nat, m = E → wrap64 (m : Int) = (m : Int) := fun m hm => by rw [hm]; exact wrap64_sm b7
  clear b7
  clear b1 b2 b3 b4 b5 b6 hl4
  have a8 : ∀ z : Int, z = X 1 → bits .and .u64 z 128 = 128 := fun z hz => by rw [hz, hK]; exact and128_hi hk127
  have a7 : ∀ z : Int, z = X 1 → bits .and .u64 z 127 = (K : Int) := fun z hz => by rw [hz, hK]; exact and127_hi hk127
  have HX : Hid (∀ i, i < n → w.cell? ⟨b, off + i, none⟩ = some (.int .u8 (X i))) := hX
  have HB : Hid (∀ i, 0 ≤ X i ∧ X i ≤ 255) := hB
  have HH : Hid (H = 2 + K) := hH
  have HE : Hid (E = H + l) := hE
  clear hE
  clear hX hB hK hH
  go_enter Ybaf.func18, Ybaf.ntmps18
  go_upto_region 8 with fail
  go_quiet (fail)
  go_wp2
  rw [F12.out]
  go_loop [9, 93] (fun v i => ∃ k : Nat, k ≤ K ∧ i = .int .i64 k ∧ v = .int .u64 (num X k)) (fun _ i => K - (intOf i).toNat)
  case atStart => exact ⟨0, Nat.zero_le _, rfl, rfl⟩
  case round =>
    obtain ⟨k, hk, rfl, rfl⟩ := hrel
    by_cases hlt : k < K
    · have xk : w.cell? ⟨b, off + 2 + k, none⟩ = some (.int .u8 (X (2 + k))) := by
        have := HX.out (2 + k) (by omega)
        rw [← Nat.add_assoc] at this
        exact this
      have hlt2 : (k : Int) < (K : Int) := by omega
      obtain ⟨y0, y1⟩ := HB.out (2 + k)
      obtain ⟨v0, v1⟩ := num_bd3 HB.out (k := k) (by omega)
      obtain ⟨y, hy⟩ : ∃ y, y = X (2 + k) := ⟨_, rfl⟩
      obtain ⟨v, hv⟩ : ∃ v, v = num X k := ⟨_, rfl⟩
      have hv' : num X (k + 1) = v * 256 + y := by rw [hv, hy]; rfl
      rw [← hy] at xk y0 y1
      rw [← hv] at v0 v1
      rw [← hv]
      have HV : Hid (num X (k + 1) = v * 256 + y) := hv'
      clear hv' hv hy
      have bo := or_byte v0 (by omega) y0 y1
      have oo : ∀ z : Int, z = v * 256 → bits .or .u64 z y = v * 256 + y := fun z hz => by rw [hz]; exact bo
      clear bo
      have wv : ∀ z : Int, z = v * 256 → IntKind.u64.wrap z = z := fun z hz => by rw [hz]; exact wrap_u64 (by omega) (by omega)
      have wy : ∀ z : Int, z = y → IntKind.u64.wrap z = z := fun z hz => by rw [hz]; exact wrap_u64 (by omega) (by omega)
      go_wp2
      refine ⟨⟨k + 1, hlt, by go_num, by rw [HV.out]⟩, ?_⟩
      simp [intOf]; omega
    · obtain rfl : k = K := by omega
      rw [HL.out]
      clear a7 a8 wx w1
      go_upto_region 32 with fail
      go_quiet (fail)
      generalize (if c = E then some (⟨b, off, none⟩ : Addr) else some ⟨b, off + E, none⟩) = P2
      go_wp2
      go_ret3
      have hE' := HE.out
      clear HE
      have e5 : E - H = l := by omega
      rw [e5, hE']
      unfold EOk
      rw [if_neg (show ¬ c = H by omega)]
      exact ⟨_, _, _, _, _, rfl, rfl⟩


end Go.Proofs.YbulkegsiFmt
