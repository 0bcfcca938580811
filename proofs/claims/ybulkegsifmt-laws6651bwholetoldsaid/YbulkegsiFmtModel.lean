/-
  DERIVED. THE HARNESS' MODEL of an element's header.
-/
import Derived.Test.YbulkegsiFmtSingleB
namespace Go.Proofs.YbulkegsiFmt
open Go.Extern.Stop Go.Stop Go.Extern Go.RowKit
set_option linter.unusedVariables false
set_option linter.unusedSimpArgs false

def MNo (w : World) : Ending → World → Prop := fun e w' => e = .returned (.tuple #[.int .i64 0, .bool false]) ∧ w' = w
def MOk (h : Nat) (w : World) : Ending → World → Prop := fun e w' => e = .returned (.tuple #[.int .i64 (h : Int), .bool true]) ∧ w' = w

set_option maxRecDepth 100000 in
set_option maxHeartbeats 1600000 in
theorem model_small (a : Option Addr) (n c : Nat) (t : Int) (w : World) (hn : n < 2) :
    Calls Ybaf.prog 9 #[.slice a n c, .int .u8 t] w (MNo w) := by
  have g1 : (n : Int) < 2 := by omega
  go_enter Ybaf.func9, Ybaf.ntmps9
  go_wp2
  go_ret2
  exact ⟨rfl, rfl⟩

set_option maxRecDepth 100000 in
set_option maxHeartbeats 1600000 in
theorem model_tag (b off n c : Nat) (X : Nat → Int) (t : Int) (w : World) (h0 : 0 ≤ t) (h1 : t ≤ 255) (hn : 2 ≤ n) (hn1 : n ≤ 2097152) (hX : ∀ i, i < n → w.cell? ⟨b, off + i, none⟩ = some (.int .u8 (X i))) (hB : ∀ i, 0 ≤ X i ∧ X i ≤ 255) (ht : X 0 ≠ t) :
    Calls Ybaf.prog 9 #[.slice (some ⟨b, off, none⟩) n c, .int .u8 t] w (MNo w) := by
  have x0 : w.cell? ⟨b, off, none⟩ = some (.int .u8 (X 0)) := hX 0 (by omega)
  have x1 : w.cell? ⟨b, off + 1, none⟩ = some (.int .u8 (X 1)) := hX 1 (by omega)
  have g1 : ¬ (n : Int) < 2 := by omega
  have g2 : (0 : Int) < (n : Int) := by omega
  have g3 : (1 : Int) < (n : Int) := by omega
  have g4 : 1 < n := by omega
  obtain ⟨z0, z1⟩ := hB 1
  have gt : (X 0 != t) = true := by simpa using ht
  clear hX hB
  go_enter Ybaf.func9, Ybaf.ntmps9
  go_wp2
  go_ret2
  exact ⟨rfl, rfl⟩

set_option maxRecDepth 100000 in
set_option maxHeartbeats 1600000 in
theorem model_s0 (b off n c : Nat) (X : Nat → Int) (t : Int) (w : World) (h0 : 0 ≤ t) (h1 : t ≤ 255) (hn : 2 ≤ n) (hn1 : n ≤ 2097152) (hX : ∀ i, i < n → w.cell? ⟨b, off + i, none⟩ = some (.int .u8 (X i))) (hB : ∀ i, 0 ≤ X i ∧ X i ≤ 255) (ht : X 0 = t) (l : Nat) (hl : X 1 = (l : Int)) (hs : l < 128) (hne : 2 + l ≠ n) :
    Calls Ybaf.prog 9 #[.slice (some ⟨b, off, none⟩) n c, .int .u8 t] w (MNo w) := by
  have x0 : w.cell? ⟨b, off, none⟩ = some (.int .u8 (X 0)) := hX 0 (by omega)
  have x1 : w.cell? ⟨b, off + 1, none⟩ = some (.int .u8 (X 1)) := hX 1 (by omega)
  have g1 : ¬ (n : Int) < 2 := by omega
  have g2 : (0 : Int) < (n : Int) := by omega
  have g3 : (1 : Int) < (n : Int) := by omega
  have g4 : 1 < n := by omega
  obtain ⟨z0, z1⟩ := hB 1
  have gt : (X 0 != t) = false := by simpa using ht
  rw [hl] at x1
  have f1 : (l : Int) < 128 := by omega
  have f2 : ((n : Int) - 2 != (l : Int)) = true := by simp; omega
  have b1 : (0 : Int) ≤ (n : Int) - 2 ∧ (n : Int) - 2 ≤ 4294967296 := by omega
  have b2 : (0 : Int) ≤ (l : Int) ∧ (l : Int) ≤ 4294967296 := by omega
  have w1 : ∀ m : Nat, m = n → wrap64 ((m : Int) - 2) = (m : Int) - 2 := fun m hm => by rw [hm]; exact wrap64_sm b1
  have w2 : ∀ m : Nat, m = n → IntKind.u64.wrap ((m : Int) - 2) = (m : Int) - 2 := fun m hm => by rw [hm]; exact wrap_sm b1
  have w3 : ∀ m : Nat, m = l → IntKind.u64.wrap (m : Int) = (m : Int) := fun m hm => by rw [hm]; exact wrap_sm b2
  clear hX hB b1 b2 hl z0 z1
  go_enter Ybaf.func9, Ybaf.ntmps9
  go_wp2
  go_ret2
  exact ⟨rfl, rfl⟩

set_option maxRecDepth 100000 in
set_option maxHeartbeats 1600000 in
theorem model_s1 (b off n c : Nat) (X : Nat → Int) (t : Int) (w : World) (h0 : 0 ≤ t) (h1 : t ≤ 255) (hn : 2 ≤ n) (hn1 : n ≤ 2097152) (hX : ∀ i, i < n → w.cell? ⟨b, off + i, none⟩ = some (.int .u8 (X i))) (hB : ∀ i, 0 ≤ X i ∧ X i ≤ 255) (ht : X 0 = t) (l : Nat) (hl : X 1 = (l : Int)) (hs : l < 128) (hne : 2 + l = n) :
    Calls Ybaf.prog 9 #[.slice (some ⟨b, off, none⟩) n c, .int .u8 t] w (MOk 2 w) := by
  have x0 : w.cell? ⟨b, off, none⟩ = some (.int .u8 (X 0)) := hX 0 (by omega)
  have x1 : w.cell? ⟨b, off + 1, none⟩ = some (.int .u8 (X 1)) := hX 1 (by omega)
  have g1 : ¬ (n : Int) < 2 := by omega
  have g2 : (0 : Int) < (n : Int) := by omega
  have g3 : (1 : Int) < (n : Int) := by omega
  have g4 : 1 < n := by omega
  obtain ⟨z0, z1⟩ := hB 1
  have gt : (X 0 != t) = false := by simpa using ht
  rw [hl] at x1
  have f1 : (l : Int) < 128 := by omega
  have f2 : ((n : Int) - 2 != (l : Int)) = false := by simp; omega
  have b1 : (0 : Int) ≤ (n : Int) - 2 ∧ (n : Int) - 2 ≤ 4294967296 := by omega
  have b2 : (0 : Int) ≤ (l : Int) ∧ (l : Int) ≤ 4294967296 := by omega
  have w1 : ∀ m : Nat, m = n → wrap64 ((m : Int) - 2) = (m : Int) - 2 := fun m hm => by rw [hm]; exact wrap64_sm b1
  have w2 : ∀ m : Nat, m = n → IntKind.u64.wrap ((m : Int) - 2) = (m : Int) - 2 := fun m hm => by rw [hm]; exact wrap_sm b1
  have w3 : ∀ m : Nat, m = l → IntKind.u64.wrap (m : Int) = (m : Int) := fun m hm => by rw [hm]; exact wrap_sm b2
  clear hX hB b1 b2 hl z0 z1
  go_enter Ybaf.func9, Ybaf.ntmps9
  go_wp2
  go_ret2
  exact ⟨rfl, rfl⟩

set_option maxRecDepth 100000 in
set_option maxHeartbeats 1600000 in
theorem model_k0 (b off n c : Nat) (X : Nat → Int) (t : Int) (w : World) (h0 : 0 ≤ t) (h1 : t ≤ 255) (hn : 2 ≤ n) (hn1 : n ≤ 2097152) (hX : ∀ i, i < n → w.cell? ⟨b, off + i, none⟩ = some (.int .u8 (X i))) (hB : ∀ i, 0 ≤ X i ∧ X i ≤ 255) (ht : X 0 = t) (K : Nat) (hK : X 1 = 128 + (K : Int)) (k0 : K < 1) :
    Calls Ybaf.prog 9 #[.slice (some ⟨b, off, none⟩) n c, .int .u8 t] w (MNo w) := by
  have x0 : w.cell? ⟨b, off, none⟩ = some (.int .u8 (X 0)) := hX 0 (by omega)
  have x1 : w.cell? ⟨b, off + 1, none⟩ = some (.int .u8 (X 1)) := hX 1 (by omega)
  have g1 : ¬ (n : Int) < 2 := by omega
  have g2 : (0 : Int) < (n : Int) := by omega
  have g3 : (1 : Int) < (n : Int) := by omega
  have g4 : 1 < n := by omega
  obtain ⟨z0, z1⟩ := hB 1
  have gt : (X 0 != t) = false := by simpa using ht
  have f1 : ¬ X 1 < 128 := by omega
  have f2 : (K : Int) < 1 := by omega
  have b3 : (0 : Int) ≤ (K : Int) ∧ (K : Int) ≤ 4294967296 := by omega
  have bs : IntKind.u8.wrap (X 1 - 128) = (K : Int) := by
    have : (X 1 - 128) % 256 = (K : Int) := by omega
    simpa [IntKind.wrap, IntKind.signed, IntKind.bits] using this
  have ws : ∀ z : Int, z = X 1 → IntKind.u8.wrap (z - 128) = (K : Int) := fun z hz => by rw [hz]; exact bs
  have w5 : ∀ m : Nat, m = K → wrap64 (m : Int) = (m : Int) := fun m hm => by rw [hm]; exact wrap64_sm b3
  clear hX hB hK b3 bs
  go_enter Ybaf.func9, Ybaf.ntmps9
  go_wp2
  go_ret2
  exact ⟨rfl, rfl⟩

set_option maxRecDepth 100000 in
set_option maxHeartbeats 1600000 in
theorem model_k5 (b off n c : Nat) (X : Nat → Int) (t : Int) (w : World) (h0 : 0 ≤ t) (h1 : t ≤ 255) (hn : 2 ≤ n) (hn1 : n ≤ 2097152) (hX : ∀ i, i < n → w.cell? ⟨b, off + i, none⟩ = some (.int .u8 (X i))) (hB : ∀ i, 0 ≤ X i ∧ X i ≤ 255) (ht : X 0 = t) (K : Nat) (hK : X 1 = 128 + (K : Int)) (k0 : 4 < K) :
    Calls Ybaf.prog 9 #[.slice (some ⟨b, off, none⟩) n c, .int .u8 t] w (MNo w) := by
  have x0 : w.cell? ⟨b, off, none⟩ = some (.int .u8 (X 0)) := hX 0 (by omega)
  have x1 : w.cell? ⟨b, off + 1, none⟩ = some (.int .u8 (X 1)) := hX 1 (by omega)
  have g1 : ¬ (n : Int) < 2 := by omega
  have g2 : (0 : Int) < (n : Int) := by omega
  have g3 : (1 : Int) < (n : Int) := by omega
  have g4 : 1 < n := by omega
  obtain ⟨z0, z1⟩ := hB 1
  have gt : (X 0 != t) = false := by simpa using ht
  have f1 : ¬ X 1 < 128 := by omega
  have f2 : ¬ (K : Int) < 1 := by omega
  have f3 : (4 : Int) < (K : Int) := by omega
  have b3 : (0 : Int) ≤ (K : Int) ∧ (K : Int) ≤ 4294967296 := by omega
  have bs : IntKind.u8.wrap (X 1 - 128) = (K : Int) := by
    have : (X 1 - 128) % 256 = (K : Int) := by omega
    simpa [IntKind.wrap, IntKind.signed, IntKind.bits] using this
  have ws : ∀ z : Int, z = X 1 → IntKind.u8.wrap (z - 128) = (K : Int) := fun z hz => by rw [hz]; exact bs
  have w5 : ∀ m : Nat, m = K → wrap64 (m : Int) = (m : Int) := fun m hm => by rw [hm]; exact wrap64_sm b3
  clear hX hB hK b3 bs
  go_enter Ybaf.func9, Ybaf.ntmps9
  go_wp2
  go_ret2
  exact ⟨rfl, rfl⟩

set_option maxRecDepth 100000 in
set_option maxHeartbeats 1600000 in
theorem model_kn (b off n c : Nat) (X : Nat → Int) (t : Int) (w : World) (h0 : 0 ≤ t) (h1 : t ≤ 255) (hn : 2 ≤ n) (hn1 : n ≤ 2097152) (hX : ∀ i, i < n → w.cell? ⟨b, off + i, none⟩ = some (.int .u8 (X i))) (hB : ∀ i, 0 ≤ X i ∧ X i ≤ 255) (ht : X 0 = t) (K H : Nat) (hH : H = 2 + K) (hK : X 1 = 128 + (K : Int)) (k1 : 1 ≤ K) (k4 : K ≤ 4) (kn : n < H) :
    Calls Ybaf.prog 9 #[.slice (some ⟨b, off, none⟩) n c, .int .u8 t] w (MNo w) := by
  have x0 : w.cell? ⟨b, off, none⟩ = some (.int .u8 (X 0)) := hX 0 (by omega)
  have x1 : w.cell? ⟨b, off + 1, none⟩ = some (.int .u8 (X 1)) := hX 1 (by omega)
  have g1 : ¬ (n : Int) < 2 := by omega
  have g2 : (0 : Int) < (n : Int) := by omega
  have g3 : (1 : Int) < (n : Int) := by omega
  have g4 : 1 < n := by omega
  obtain ⟨z0, z1⟩ := hB 1
  have gt : (X 0 != t) = false := by simpa using ht
  have f1 : ¬ X 1 < 128 := by omega
  have f2 : ¬ (K : Int) < 1 := by omega
  have f3 : ¬ (4 : Int) < (K : Int) := by omega
  have f4 : (n : Int) < (H : Int) := by omega
  have e2 : 2 + (K : Int) = (H : Int) := by omega
  have b3 : (0 : Int) ≤ (K : Int) ∧ (K : Int) ≤ 4294967296 := by omega
  have b4 : (0 : Int) ≤ (H : Int) ∧ (H : Int) ≤ 4294967296 := by omega
  have bs : IntKind.u8.wrap (X 1 - 128) = (K : Int) := by
    have : (X 1 - 128) % 256 = (K : Int) := by omega
    simpa [IntKind.wrap, IntKind.signed, IntKind.bits] using this
  have ws : ∀ z : Int, z = X 1 → IntKind.u8.wrap (z - 128) = (K : Int) := fun z hz => by rw [hz]; exact bs
  have w5 : ∀ m : Nat, (m = K ∨ m = H) → wrap64 (m : Int) = (m : Int) := fun m hm => hm.elim (fun e => e ▸ wrap64_sm b3) (fun e => e ▸ wrap64_sm b4)
  clear hX hB hK b3 b4 bs hH
  go_enter Ybaf.func9, Ybaf.ntmps9
  go_wp2
  go_ret2
  exact ⟨rfl, rfl⟩

end Go.Proofs.YbulkegsiFmt
