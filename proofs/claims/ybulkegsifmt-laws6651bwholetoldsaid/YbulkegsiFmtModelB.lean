/-
  DERIVED. THE HARNESS' MODEL of an element's header: the long form.
-/
import Derived.Test.YbulkegsiFmtModel
namespace Go.Proofs.YbulkegsiFmt
open Go.Extern.Stop Go.Stop Go.Extern Go.RowKit
set_option linter.unusedVariables false
set_option linter.unusedSimpArgs false

set_option maxRecDepth 100000 in
set_option maxHeartbeats 1600000 in
theorem model_l1 (b off n c : Nat) (X : Nat → Int) (t : Int) (w : World) (h0 : 0 ≤ t) (h1 : t ≤ 255) (hn : 2 ≤ n) (hn1 : n ≤ 2097152) (hX : ∀ i, i < n → w.cell? ⟨b, off + i, none⟩ = some (.int .u8 (X i))) (hB : ∀ i, 0 ≤ X i ∧ X i ≤ 255) (ht : X 0 = t) (K H : Nat) (hH : H = 2 + K) (hK : X 1 = 128 + (K : Int)) (k1 : 1 ≤ K) (k4 : K ≤ 4) (kn : H ≤ n) (l : Nat) (hl : num X K = (l : Int)) (hs : l < 128) :
    Calls Ybaf.prog 9 #[.slice (some ⟨b, off, none⟩) n c, .int .u8 t] w (MNo w) := by
  have hl4 : (l : Int) < 4294967296 := by rw [← hl]; exact (num_bd4 hB k4).2
  have HL : Hid (num X K = (l : Int)) := hl
  clear hl
  have x0 : w.cell? ⟨b, off, none⟩ = some (.int .u8 (X 0)) := hX 0 (by omega)
  have x1 : w.cell? ⟨b, off + 1, none⟩ = some (.int .u8 (X 1)) := hX 1 (by omega)
  have x2 : w.cell? ⟨b, off + 2, none⟩ = some (.int .u8 (X 2)) := hX 2 (by omega)
  have g1 : ¬ (n : Int) < 2 := by omega
  have g2 : (0 : Int) < (n : Int) := by omega
  have g3 : (1 : Int) < (n : Int) := by omega
  have g4 : 1 < n := by omega
  have g5 : (2 : Int) < (n : Int) := by omega
  have g6 : 2 < n := by omega
  obtain ⟨z0, z1⟩ := hB 1
  have gt : (X 0 != t) = false := by simpa using ht
  have f1 : ¬ X 1 < 128 := by omega
  have f2 : ¬ (K : Int) < 1 := by omega
  have f3 : ¬ (4 : Int) < (K : Int) := by omega
  have f4 : ¬ (n : Int) < (H : Int) := by omega
  have e2 : 2 + (K : Int) = (H : Int) := by omega
  have f8 : (l : Int) < 128 := by omega
  have b3 : (0 : Int) ≤ (K : Int) ∧ (K : Int) ≤ 4294967296 := by omega
  have b4 : (0 : Int) ≤ (H : Int) ∧ (H : Int) ≤ 4294967296 := by omega
  have b5 : (0 : Int) ≤ (n : Int) - (H : Int) ∧ (n : Int) - (H : Int) ≤ 4294967296 := by omega
  have bs : IntKind.u8.wrap (X 1 - 128) = (K : Int) := by
    have : (X 1 - 128) % 256 = (K : Int) := by omega
    simpa [IntKind.wrap, IntKind.signed, IntKind.bits] using this
  have ws : ∀ z : Int, z = X 1 → IntKind.u8.wrap (z - 128) = (K : Int) := fun z hz => by rw [hz]; exact bs
  have w5 : ∀ m : Nat, (m = K ∨ m = H) → wrap64 (m : Int) = (m : Int) := fun m hm => hm.elim (fun e => e ▸ wrap64_sm b3) (fun e => e ▸ wrap64_sm b4)
  have w3 : ∀ m : Nat, m = n → wrap64 ((m : Int) - (H : Int)) = (m : Int) - (H : Int) := fun m hm => by rw [hm]; exact wrap64_sm b5
  have w4 : ∀ m : Nat, m = n → IntKind.u64.wrap ((m : Int) - (H : Int)) = (m : Int) - (H : Int) := fun m hm => by rw [hm]; exact wrap_sm b5
  have HX : Hid (∀ i, i < n → w.cell? ⟨b, off + i, none⟩ = some (.int .u8 (X i))) := hX
  have HB : Hid (∀ i, 0 ≤ X i ∧ X i ≤ 255) := hB
  have HH : Hid (H = 2 + K) := hH
  clear hX hB hK b3 b4 b5 bs hH hl4
  go_enter Ybaf.func9, Ybaf.ntmps9
  go_wp2
  go_loop [10, 11] (fun v i => ∃ k : Nat, k ≤ K ∧ i = .int .i64 k ∧ v = .int .u64 (num X k)) (fun _ i => K - (intOf i).toNat)
  case atStart => exact ⟨0, Nat.zero_le _, rfl, rfl⟩
  case round =>
    obtain ⟨k, hk, rfl, rfl⟩ := hrel
    have hH := HH.out
    by_cases hlt : k < K
    · obtain ⟨J, hJ⟩ : ∃ J : Nat, J = 2 + k := ⟨_, rfl⟩
      have xk : w.cell? ⟨b, off + J, none⟩ = some (.int .u8 (X J)) := HX.out J (by omega)
      have hlt2 : (k : Int) < (K : Int) := by omega
      have eJ : 2 + (k : Int) = (J : Int) := by omega
      have eJ2 : (J : Int) < (n : Int) := by omega
      have eJ3 : J < n := by omega
      have bJ : (0 : Int) ≤ (J : Int) ∧ (J : Int) ≤ 4294967296 := by omega
      obtain ⟨y0, y1⟩ := HB.out J
      obtain ⟨v0, v1⟩ := num_bd3 HB.out (k := k) (by omega)
      have hv' : num X (k + 1) = num X k * 256 + X J := by rw [hJ]; rfl
      obtain ⟨y, hy⟩ : ∃ y, y = X J := ⟨_, rfl⟩
      obtain ⟨v, hv⟩ : ∃ v, v = num X k := ⟨_, rfl⟩
      rw [← hy, ← hv] at hv'
      rw [← hy] at xk y0 y1
      rw [← hv] at v0 v1
      rw [← hv]
      have HV : Hid (num X (k + 1) = v * 256 + y) := hv'
      clear hv' hv hy hJ
      have w6 : ∀ m : Nat, m = J → wrap64 (m : Int) = (m : Int) := fun m hm => by rw [hm]; exact wrap64_sm bJ
      have wv : ∀ z : Int, z = v → IntKind.u64.wrap (z * 256) = z * 256 := fun z hz => by rw [hz]; exact wrap_u64 (by omega) (by omega)
      have wy : ∀ z : Int, z = y → IntKind.u64.wrap z = z := fun z hz => by rw [hz]; exact wrap_u64 (by omega) (by omega)
      have wz : ∀ z : Int, z = y → IntKind.u64.wrap (v * 256 + z) = v * 256 + z := fun z hz => by rw [hz]; exact wrap_u64 (by omega) (by omega)
      clear bJ hH
      go_wp2
      refine ⟨⟨k + 1, hlt, by go_num, by rw [HV.out]⟩, ?_⟩
      simp [intOf]; omega
    · obtain rfl : k = K := by omega
      rw [HL.out]
      clear hH
      go_wp2
      go_ret2
      exact ⟨rfl, rfl⟩

set_option maxRecDepth 100000 in
set_option maxHeartbeats 1600000 in
theorem model_l0 (b off n c : Nat) (X : Nat → Int) (t : Int) (w : World) (h0 : 0 ≤ t) (h1 : t ≤ 255) (hn : 2 ≤ n) (hn1 : n ≤ 2097152) (hX : ∀ i, i < n → w.cell? ⟨b, off + i, none⟩ = some (.int .u8 (X i))) (hB : ∀ i, 0 ≤ X i ∧ X i ≤ 255) (ht : X 0 = t) (K H : Nat) (hH : H = 2 + K) (hK : X 1 = 128 + (K : Int)) (k1 : 1 ≤ K) (k4 : K ≤ 4) (kn : H ≤ n) (l : Nat) (hl : num X K = (l : Int)) (hs : 128 ≤ l) (hx2 : X 2 = 0) :
    Calls Ybaf.prog 9 #[.slice (some ⟨b, off, none⟩) n c, .int .u8 t] w (MNo w) := by
  have hl4 : (l : Int) < 4294967296 := by rw [← hl]; exact (num_bd4 hB k4).2
  have HL : Hid (num X K = (l : Int)) := hl
  clear hl
  have x0 : w.cell? ⟨b, off, none⟩ = some (.int .u8 (X 0)) := hX 0 (by omega)
  have x1 : w.cell? ⟨b, off + 1, none⟩ = some (.int .u8 (X 1)) := hX 1 (by omega)
  have x2 : w.cell? ⟨b, off + 2, none⟩ = some (.int .u8 (X 2)) := hX 2 (by omega)
  have g1 : ¬ (n : Int) < 2 := by omega
  have g2 : (0 : Int) < (n : Int) := by omega
  have g3 : (1 : Int) < (n : Int) := by omega
  have g4 : 1 < n := by omega
  have g5 : (2 : Int) < (n : Int) := by omega
  have g6 : 2 < n := by omega
  obtain ⟨z0, z1⟩ := hB 1
  have gt : (X 0 != t) = false := by simpa using ht
  have f1 : ¬ X 1 < 128 := by omega
  have f2 : ¬ (K : Int) < 1 := by omega
  have f3 : ¬ (4 : Int) < (K : Int) := by omega
  have f4 : ¬ (n : Int) < (H : Int) := by omega
  have e2 : 2 + (K : Int) = (H : Int) := by omega
  have f8 : ¬ (l : Int) < 128 := by omega
  have f7 : (X 2 == 0) = true := by simpa using hx2
  have b3 : (0 : Int) ≤ (K : Int) ∧ (K : Int) ≤ 4294967296 := by omega
  have b4 : (0 : Int) ≤ (H : Int) ∧ (H : Int) ≤ 4294967296 := by omega
  have b5 : (0 : Int) ≤ (n : Int) - (H : Int) ∧ (n : Int) - (H : Int) ≤ 4294967296 := by omega
  have bs : IntKind.u8.wrap (X 1 - 128) = (K : Int) := by
    have : (X 1 - 128) % 256 = (K : Int) := by omega
    simpa [IntKind.wrap, IntKind.signed, IntKind.bits] using this
  have ws : ∀ z : Int, z = X 1 → IntKind.u8.wrap (z - 128) = (K : Int) := fun z hz => by rw [hz]; exact bs
  have w5 : ∀ m : Nat, (m = K ∨ m = H) → wrap64 (m : Int) = (m : Int) := fun m hm => hm.elim (fun e => e ▸ wrap64_sm b3) (fun e => e ▸ wrap64_sm b4)
  have w3 : ∀ m : Nat, m = n → wrap64 ((m : Int) - (H : Int)) = (m : Int) - (H : Int) := fun m hm => by rw [hm]; exact wrap64_sm b5
  have w4 : ∀ m : Nat, m = n → IntKind.u64.wrap ((m : Int) - (H : Int)) = (m : Int) - (H : Int) := fun m hm => by rw [hm]; exact wrap_sm b5
  have HX : Hid (∀ i, i < n → w.cell? ⟨b, off + i, none⟩ = some (.int .u8 (X i))) := hX
  have HB : Hid (∀ i, 0 ≤ X i ∧ X i ≤ 255) := hB
  have HH : Hid (H = 2 + K) := hH
  clear hX hB hK b3 b4 b5 bs hH hl4
  go_enter Ybaf.func9, Ybaf.ntmps9
  go_wp2
  go_loop [10, 11] (fun v i => ∃ k : Nat, k ≤ K ∧ i = .int .i64 k ∧ v = .int .u64 (num X k)) (fun _ i => K - (intOf i).toNat)
  case atStart => exact ⟨0, Nat.zero_le _, rfl, rfl⟩
  case round =>
    obtain ⟨k, hk, rfl, rfl⟩ := hrel
    have hH := HH.out
    by_cases hlt : k < K
    · obtain ⟨J, hJ⟩ : ∃ J : Nat, J = 2 + k := ⟨_, rfl⟩
      have xk : w.cell? ⟨b, off + J, none⟩ = some (.int .u8 (X J)) := HX.out J (by omega)
      have hlt2 : (k : Int) < (K : Int) := by omega
      have eJ : 2 + (k : Int) = (J : Int) := by omega
      have eJ2 : (J : Int) < (n : Int) := by omega
      have eJ3 : J < n := by omega
      have bJ : (0 : Int) ≤ (J : Int) ∧ (J : Int) ≤ 4294967296 := by omega
      obtain ⟨y0, y1⟩ := HB.out J
      obtain ⟨v0, v1⟩ := num_bd3 HB.out (k := k) (by omega)
      have hv' : num X (k + 1) = num X k * 256 + X J := by rw [hJ]; rfl
      obtain ⟨y, hy⟩ : ∃ y, y = X J := ⟨_, rfl⟩
      obtain ⟨v, hv⟩ : ∃ v, v = num X k := ⟨_, rfl⟩
      rw [← hy, ← hv] at hv'
      rw [← hy] at xk y0 y1
      rw [← hv] at v0 v1
      rw [← hv]
      have HV : Hid (num X (k + 1) = v * 256 + y) := hv'
      clear hv' hv hy hJ
      have w6 : ∀ m : Nat, m = J → wrap64 (m : Int) = (m : Int) := fun m hm => by rw [hm]; exact wrap64_sm bJ
      have wv : ∀ z : Int, z = v → IntKind.u64.wrap (z * 256) = z * 256 := fun z hz => by rw [hz]; exact wrap_u64 (by omega) (by omega)
      have wy : ∀ z : Int, z = y → IntKind.u64.wrap z = z := fun z hz => by rw [hz]; exact wrap_u64 (by omega) (by omega)
      have wz : ∀ z : Int, z = y → IntKind.u64.wrap (v * 256 + z) = v * 256 + z := fun z hz => by rw [hz]; exact wrap_u64 (by omega) (by omega)
      clear bJ hH
      go_wp2
      refine ⟨⟨k + 1, hlt, by go_num, by rw [HV.out]⟩, ?_⟩
      simp [intOf]; omega
    · obtain rfl : k = K := by omega
      rw [HL.out]
      clear hH
      go_wp2
      go_ret2
      exact ⟨rfl, rfl⟩

set_option maxRecDepth 100000 in
set_option maxHeartbeats 1600000 in
theorem model_l3 (b off n c : Nat) (X : Nat → Int) (t : Int) (w : World) (h0 : 0 ≤ t) (h1 : t ≤ 255) (hn : 2 ≤ n) (hn1 : n ≤ 2097152) (hX : ∀ i, i < n → w.cell? ⟨b, off + i, none⟩ = some (.int .u8 (X i))) (hB : ∀ i, 0 ≤ X i ∧ X i ≤ 255) (ht : X 0 = t) (K H : Nat) (hH : H = 2 + K) (hK : X 1 = 128 + (K : Int)) (k1 : 1 ≤ K) (k4 : K ≤ 4) (kn : H ≤ n) (l : Nat) (hl : num X K = (l : Int)) (hs : 128 ≤ l) (hx2 : X 2 ≠ 0) (hp : H + l ≠ n) :
    Calls Ybaf.prog 9 #[.slice (some ⟨b, off, none⟩) n c, .int .u8 t] w (MNo w) := by
  have hl4 : (l : Int) < 4294967296 := by rw [← hl]; exact (num_bd4 hB k4).2
  have HL : Hid (num X K = (l : Int)) := hl
  clear hl
  have x0 : w.cell? ⟨b, off, none⟩ = some (.int .u8 (X 0)) := hX 0 (by omega)
  have x1 : w.cell? ⟨b, off + 1, none⟩ = some (.int .u8 (X 1)) := hX 1 (by omega)
  have x2 : w.cell? ⟨b, off + 2, none⟩ = some (.int .u8 (X 2)) := hX 2 (by omega)
  have g1 : ¬ (n : Int) < 2 := by omega
  have g2 : (0 : Int) < (n : Int) := by omega
  have g3 : (1 : Int) < (n : Int) := by omega
  have g4 : 1 < n := by omega
  have g5 : (2 : Int) < (n : Int) := by omega
  have g6 : 2 < n := by omega
  obtain ⟨z0, z1⟩ := hB 1
  have gt : (X 0 != t) = false := by simpa using ht
  have f1 : ¬ X 1 < 128 := by omega
  have f2 : ¬ (K : Int) < 1 := by omega
  have f3 : ¬ (4 : Int) < (K : Int) := by omega
  have f4 : ¬ (n : Int) < (H : Int) := by omega
  have e2 : 2 + (K : Int) = (H : Int) := by omega
  have f8 : ¬ (l : Int) < 128 := by omega
  have f7 : (X 2 == 0) = false := by simpa using hx2
  have f9 : ((n : Int) - (H : Int) != (l : Int)) = true := by simp; omega
  have b3 : (0 : Int) ≤ (K : Int) ∧ (K : Int) ≤ 4294967296 := by omega
  have b4 : (0 : Int) ≤ (H : Int) ∧ (H : Int) ≤ 4294967296 := by omega
  have b5 : (0 : Int) ≤ (n : Int) - (H : Int) ∧ (n : Int) - (H : Int) ≤ 4294967296 := by omega
  have bs : IntKind.u8.wrap (X 1 - 128) = (K : Int) := by
    have : (X 1 - 128) % 256 = (K : Int) := by omega
    simpa [IntKind.wrap, IntKind.signed, IntKind.bits] using this
  have ws : ∀ z : Int, z = X 1 → IntKind.u8.wrap (z - 128) = (K : Int) := fun z hz => by rw [hz]; exact bs
  have w5 : ∀ m : Nat, (m = K ∨ m = H) → wrap64 (m : Int) = (m : Int) := fun m hm => hm.elim (fun e => e ▸ wrap64_sm b3) (fun e => e ▸ wrap64_sm b4)
  have w3 : ∀ m : Nat, m = n → wrap64 ((m : Int) - (H : Int)) = (m : Int) - (H : Int) := fun m hm => by rw [hm]; exact wrap64_sm b5
  have w4 : ∀ m : Nat, m = n → IntKind.u64.wrap ((m : Int) - (H : Int)) = (m : Int) - (H : Int) := fun m hm => by rw [hm]; exact wrap_sm b5
  have HX : Hid (∀ i, i < n → w.cell? ⟨b, off + i, none⟩ = some (.int .u8 (X i))) := hX
  have HB : Hid (∀ i, 0 ≤ X i ∧ X i ≤ 255) := hB
  have HH : Hid (H = 2 + K) := hH
  clear hX hB hK b3 b4 b5 bs hH hl4
  go_enter Ybaf.func9, Ybaf.ntmps9
  go_wp2
  go_loop [10, 11] (fun v i => ∃ k : Nat, k ≤ K ∧ i = .int .i64 k ∧ v = .int .u64 (num X k)) (fun _ i => K - (intOf i).toNat)
  case atStart => exact ⟨0, Nat.zero_le _, rfl, rfl⟩
  case round =>
    obtain ⟨k, hk, rfl, rfl⟩ := hrel
    have hH := HH.out
    by_cases hlt : k < K
    · obtain ⟨J, hJ⟩ : ∃ J : Nat, J = 2 + k := ⟨_, rfl⟩
      have xk : w.cell? ⟨b, off + J, none⟩ = some (.int .u8 (X J)) := HX.out J (by omega)
      have hlt2 : (k : Int) < (K : Int) := by omega
      have eJ : 2 + (k : Int) = (J : Int) := by omega
      have eJ2 : (J : Int) < (n : Int) := by omega
      have eJ3 : J < n := by omega
      have bJ : (0 : Int) ≤ (J : Int) ∧ (J : Int) ≤ 4294967296 := by omega
      obtain ⟨y0, y1⟩ := HB.out J
      obtain ⟨v0, v1⟩ := num_bd3 HB.out (k := k) (by omega)
      have hv' : num X (k + 1) = num X k * 256 + X J := by rw [hJ]; rfl
      obtain ⟨y, hy⟩ : ∃ y, y = X J := ⟨_, rfl⟩
      obtain ⟨v, hv⟩ : ∃ v, v = num X k := ⟨_, rfl⟩
      rw [← hy, ← hv] at hv'
      rw [← hy] at xk y0 y1
      rw [← hv] at v0 v1
      rw [← hv]
      have HV : Hid (num X (k + 1) = v * 256 + y) := hv'
      clear hv' hv hy hJ
      have w6 : ∀ m : Nat, m = J → wrap64 (m : Int) = (m : Int) := fun m hm => by rw [hm]; exact wrap64_sm bJ
      have wv : ∀ z : Int, z = v → IntKind.u64.wrap (z * 256) = z * 256 := fun z hz => by rw [hz]; exact wrap_u64 (by omega) (by omega)
      have wy : ∀ z : Int, z = y → IntKind.u64.wrap z = z := fun z hz => by rw [hz]; exact wrap_u64 (by omega) (by omega)
      have wz : ∀ z : Int, z = y → IntKind.u64.wrap (v * 256 + z) = v * 256 + z := fun z hz => by rw [hz]; exact wrap_u64 (by omega) (by omega)
      clear bJ hH
      go_wp2
      refine ⟨⟨k + 1, hlt, by go_num, by rw [HV.out]⟩, ?_⟩
      simp [intOf]; omega
    · obtain rfl : k = K := by omega
      rw [HL.out]
      clear hH
      go_wp2
      go_ret2
      exact ⟨rfl, rfl⟩

set_option maxRecDepth 100000 in
set_option maxHeartbeats 1600000 in
theorem model_l2 (b off n c : Nat) (X : Nat → Int) (t : Int) (w : World) (h0 : 0 ≤ t) (h1 : t ≤ 255) (hn : 2 ≤ n) (hn1 : n ≤ 2097152) (hX : ∀ i, i < n → w.cell? ⟨b, off + i, none⟩ = some (.int .u8 (X i))) (hB : ∀ i, 0 ≤ X i ∧ X i ≤ 255) (ht : X 0 = t) (K H : Nat) (hH : H = 2 + K) (hK : X 1 = 128 + (K : Int)) (k1 : 1 ≤ K) (k4 : K ≤ 4) (kn : H ≤ n) (l : Nat) (hl : num X K = (l : Int)) (hs : 128 ≤ l) (hx2 : X 2 ≠ 0) (hp : H + l = n) :
    Calls Ybaf.prog 9 #[.slice (some ⟨b, off, none⟩) n c, .int .u8 t] w (MOk H w) := by
  have hl4 : (l : Int) < 4294967296 := by rw [← hl]; exact (num_bd4 hB k4).2
  have HL : Hid (num X K = (l : Int)) := hl
  clear hl
  have x0 : w.cell? ⟨b, off, none⟩ = some (.int .u8 (X 0)) := hX 0 (by omega)
  have x1 : w.cell? ⟨b, off + 1, none⟩ = some (.int .u8 (X 1)) := hX 1 (by omega)
  have x2 : w.cell? ⟨b, off + 2, none⟩ = some (.int .u8 (X 2)) := hX 2 (by omega)
  have g1 : ¬ (n : Int) < 2 := by omega
  have g2 : (0 : Int) < (n : Int) := by omega
  have g3 : (1 : Int) < (n : Int) := by omega
  have g4 : 1 < n := by omega
  have g5 : (2 : Int) < (n : Int) := by omega
  have g6 : 2 < n := by omega
  obtain ⟨z0, z1⟩ := hB 1
  have gt : (X 0 != t) = false := by simpa using ht
  have f1 : ¬ X 1 < 128 := by omega
  have f2 : ¬ (K : Int) < 1 := by omega
  have f3 : ¬ (4 : Int) < (K : Int) := by omega
  have f4 : ¬ (n : Int) < (H : Int) := by omega
  have e2 : 2 + (K : Int) = (H : Int) := by omega
  have f8 : ¬ (l : Int) < 128 := by omega
  have f7 : (X 2 == 0) = false := by simpa using hx2
  have f9 : ((n : Int) - (H : Int) != (l : Int)) = false := by simp; omega
  have b3 : (0 : Int) ≤ (K : Int) ∧ (K : Int) ≤ 4294967296 := by omega
  have b4 : (0 : Int) ≤ (H : Int) ∧ (H : Int) ≤ 4294967296 := by omega
  have b5 : (0 : Int) ≤ (n : Int) - (H : Int) ∧ (n : Int) - (H : Int) ≤ 4294967296 := by omega
  have bs : IntKind.u8.wrap (X 1 - 128) = (K : Int) := by
    have : (X 1 - 128) % 256 = (K : Int) := by omega
    simpa [IntKind.wrap, IntKind.signed, IntKind.bits] using this
  have ws : ∀ z : Int, z = X 1 → IntKind.u8.wrap (z - 128) = (K : Int) := fun z hz => by rw [hz]; exact bs
  have w5 : ∀ m : Nat, (m = K ∨ m = H) → wrap64 (m : Int) = (m : Int) := fun m hm => hm.elim (fun e => e ▸ wrap64_sm b3) (fun e => e ▸ wrap64_sm b4)
  have w3 : ∀ m : Nat, m = n → wrap64 ((m : Int) - (H : Int)) = (m : Int) - (H : Int) := fun m hm => by rw [hm]; exact wrap64_sm b5
  have w4 : ∀ m : Nat, m = n → IntKind.u64.wrap ((m : Int) - (H : Int)) = (m : Int) - (H : Int) := fun m hm => by rw [hm]; exact wrap_sm b5
  have HX : Hid (∀ i, i < n → w.cell? ⟨b, off + i, none⟩ = some (.int .u8 (X i))) := hX
  have HB : Hid (∀ i, 0 ≤ X i ∧ X i ≤ 255) := hB
  have HH : Hid (H = 2 + K) := hH
  clear hX hB hK b3 b4 b5 bs hH hl4
  go_enter Ybaf.func9, Ybaf.ntmps9
  go_wp2
  go_loop [10, 11] (fun v i => ∃ k : Nat, k ≤ K ∧ i = .int .i64 k ∧ v = .int .u64 (num X k)) (fun _ i => K - (intOf i).toNat)
  case atStart => exact ⟨0, Nat.zero_le _, rfl, rfl⟩
  case round =>
    obtain ⟨k, hk, rfl, rfl⟩ := hrel
    have hH := HH.out
    by_cases hlt : k < K
    · obtain ⟨J, hJ⟩ : ∃ J : Nat, J = 2 + k := ⟨_, rfl⟩
      have xk : w.cell? ⟨b, off + J, none⟩ = some (.int .u8 (X J)) := HX.out J (by omega)
      have hlt2 : (k : Int) < (K : Int) := by omega
      have eJ : 2 + (k : Int) = (J : Int) := by omega
      have eJ2 : (J : Int) < (n : Int) := by omega
      have eJ3 : J < n := by omega
      have bJ : (0 : Int) ≤ (J : Int) ∧ (J : Int) ≤ 4294967296 := by omega
      obtain ⟨y0, y1⟩ := HB.out J
      obtain ⟨v0, v1⟩ := num_bd3 HB.out (k := k) (by omega)
      have hv' : num X (k + 1) = num X k * 256 + X J := by rw [hJ]; rfl
      obtain ⟨y, hy⟩ : ∃ y, y = X J := ⟨_, rfl⟩
      obtain ⟨v, hv⟩ : ∃ v, v = num X k := ⟨_, rfl⟩
      rw [← hy, ← hv] at hv'
      rw [← hy] at xk y0 y1
      rw [← hv] at v0 v1
      rw [← hv]
      have HV : Hid (num X (k + 1) = v * 256 + y) := hv'
      clear hv' hv hy hJ
      have w6 : ∀ m : Nat, m = J → wrap64 (m : Int) = (m : Int) := fun m hm => by rw [hm]; exact wrap64_sm bJ
      have wv : ∀ z : Int, z = v → IntKind.u64.wrap (z * 256) = z * 256 := fun z hz => by rw [hz]; exact wrap_u64 (by omega) (by omega)
      have wy : ∀ z : Int, z = y → IntKind.u64.wrap z = z := fun z hz => by rw [hz]; exact wrap_u64 (by omega) (by omega)
      have wz : ∀ z : Int, z = y → IntKind.u64.wrap (v * 256 + z) = v * 256 + z := fun z hz => by rw [hz]; exact wrap_u64 (by omega) (by omega)
      clear bJ hH
      go_wp2
      refine ⟨⟨k + 1, hlt, by go_num, by rw [HV.out]⟩, ?_⟩
      simp [intOf]; omega
    · obtain rfl : k = K := by omega
      rw [HL.out]
      clear hH
      go_wp2
      go_ret2
      exact ⟨rfl, rfl⟩


theorem model_any (a : Option Addr) (b off n c : Nat) (X : Nat → Int) (t : Int) (w : World) (h0 : 0 ≤ t) (h1 : t ≤ 255) (hI : Inp w a b off n c X) :
    Calls Ybaf.prog 9 #[.slice a n c, .int .u8 t] w (fun e w' => (∃ h l, Good X n t h l ∧ h + l = n ∧ MOk h w e w') ∨ ((∀ h l, Good X n t h l → h + l ≠ n) ∧ MNo w e w')) := by
  obtain ⟨hnc, hn1, hrow, hB⟩ := hI
  by_cases hn : 2 ≤ n
  · obtain ⟨rfl, hX⟩ : a = some ⟨b, off, none⟩ ∧ ∀ i, i < n → w.cell? ⟨b, off + i, none⟩ = some (.int .u8 (X i)) := by
      rcases hrow with h | h
      · omega
      · exact h
    by_cases ht : X 0 = t
    · obtain ⟨z0, z1⟩ := hB 1
      by_cases hs : X 1 < 128
      · obtain ⟨l, hl⟩ : ∃ l : Nat, X 1 = (l : Int) := ⟨(X 1).toNat, by omega⟩
        by_cases hp : 2 + l = n
        · exact (model_s1 b off n c X t w h0 h1 hn hn1 hX hB ht l hl (by omega) hp).mono fun e w' he => Or.inl ⟨2, l, ⟨hn, ht, by omega, Or.inl ⟨hs, rfl, hl.symm⟩⟩, hp, he⟩
        · refine (model_s0 b off n c X t w h0 h1 hn hn1 hX hB ht l hl (by omega) hp).mono fun e w' he => Or.inr ⟨fun h l' hg => ?_, he⟩
          obtain ⟨_, _, g3, g4⟩ := hg
          rcases g4 with ⟨_, rfl, g5⟩ | ⟨K, g5, _⟩ <;> omega
      · obtain ⟨K, hK⟩ : ∃ K : Nat, X 1 = 128 + (K : Int) := ⟨(X 1 - 128).toNat, by omega⟩
        have only : ∀ h l, Good X n t h l → 1 ≤ K ∧ K ≤ 4 ∧ 128 ≤ num X K ∧ X 2 ≠ 0 ∧ h = 2 + K ∧ (l : Int) = num X K ∧ h + l ≤ n := by
          intro h l hg
          obtain ⟨_, _, g3, g4⟩ := hg
          rcases g4 with ⟨g5, _⟩ | ⟨K', g5, g6, g7, g8, g9, g10, g11⟩
          · omega
          · obtain rfl : K' = K := by omega
            exact ⟨g6, g7, g8, g9, g10, g11, g3⟩
        by_cases k0 : K < 1
        · exact (model_k0 b off n c X t w h0 h1 hn hn1 hX hB ht K hK k0).mono fun e w' he => Or.inr ⟨fun h l hg => by have := only h l hg; omega, he⟩
        · by_cases k4 : K ≤ 4
          · by_cases kn : 2 + K ≤ n
            · obtain ⟨v0, v1⟩ := num_bd4 hB k4
              obtain ⟨l, hl⟩ : ∃ l : Nat, num X K = (l : Int) := ⟨(num X K).toNat, by omega⟩
              by_cases hl1 : l < 128
              · exact (model_l1 b off n c X t w h0 h1 hn hn1 hX hB ht K (2 + K) rfl hK (by omega) k4 kn l hl hl1).mono fun e w' he => Or.inr ⟨fun h l' hg => by have := only h l' hg; omega, he⟩
              · by_cases hx2 : X 2 = 0
                · exact (model_l0 b off n c X t w h0 h1 hn hn1 hX hB ht K (2 + K) rfl hK (by omega) k4 kn l hl (by omega) hx2).mono fun e w' he => Or.inr ⟨fun h l' hg => absurd hx2 (only h l' hg).2.2.2.1, he⟩
                · by_cases hp : 2 + K + l = n
                  · exact (model_l2 b off n c X t w h0 h1 hn hn1 hX hB ht K (2 + K) rfl hK (by omega) k4 kn l hl (by omega) hx2 hp).mono fun e w' he => Or.inl ⟨2 + K, l, ⟨hn, ht, by omega, Or.inr ⟨K, hK, by omega, k4, by omega, hx2, rfl, hl.symm⟩⟩, hp, he⟩
                  · exact (model_l3 b off n c X t w h0 h1 hn hn1 hX hB ht K (2 + K) rfl hK (by omega) k4 kn l hl (by omega) hx2 hp).mono fun e w' he => Or.inr ⟨fun h l' hg => by have := only h l' hg; omega, he⟩
            · refine (model_kn b off n c X t w h0 h1 hn hn1 hX hB ht K (2 + K) rfl hK (by omega) k4 (by omega)).mono fun e w' he => Or.inr ⟨fun h l hg => ?_, he⟩
              have := only h l hg
              omega
          · exact (model_k5 b off n c X t w h0 h1 hn hn1 hX hB ht K hK (by omega)).mono fun e w' he => Or.inr ⟨fun h l hg => by have := only h l hg; omega, he⟩
    · exact (model_tag b off n c X t w h0 h1 hn hn1 hX hB ht).mono fun e w' he => Or.inr ⟨fun h l hg => absurd hg.2.1 ht, he⟩
  · exact (model_small a n c t w (by omega)).mono fun e w' he => Or.inr ⟨fun h l hg => absurd hg.1 hn, he⟩

end Go.Proofs.YbulkegsiFmt
