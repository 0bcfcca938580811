/-
  DERIVED. (*Reader).Element, the length's ways: FOR EVERY F.
-/
import Derived.Test.YbulkegsiFmtElem
namespace Go.Proofs.YbulkegsiFmt
open Go.Extern.Stop Go.Stop Go.Extern Go.RowKit
set_option linter.unusedVariables false
set_option linter.unusedSimpArgs false
attribute [local go_sem] call12 call20 fguard fmt0 fmt0r fmt1 fmt1r fmt2 fmt2r fmt3 fmt3r fmt4 fmt4r fmt5 fmt5r fmt6 fmt6r fmt7 fmt7r fmt8 fmt8r fmt9 fmt9r fmt10 fmt10r act22_100 op22_100 act5_120s op5_120s act22_118w act3_100w op3_100w act44_100w op44_100w fstr22 ptr53 elem53 isError53

theorem cell_made (w : World) (cs : Array Value) (ty : TypeId) (b i : Nat) (v : Value) (hb : b = w.heap.size) (h : cs[i]? = some v) : (w.alloc (.cells cs ty)).cell? ⟨b, i, none⟩ = some v := by
  subst hb
  rw [cell_of_row _ _ _ _ _ _ (heap_alloc_new w _)]
  exact h

theorem wrap64_id {x : Int} (h0 : -9223372036854775808 ≤ x) (h1 : x < 9223372036854775808) : wrap64 x = x := by
  unfold wrap64; omega

set_option maxRecDepth 100000 in
set_option maxHeartbeats 1600000 in
theorem elem_k0 (F : Interp) (b off n c rb : Nat) (X : Nat → Int) (t : Int) (w : World) (hF : F.answers w.tape) (h0 : 0 ≤ t) (h1 : t ≤ 255) (hn : 2 ≤ n) (hn1 : n ≤ 2097152) (hnc : n ≤ c) (hX : ∀ i, i < n → w.cell? ⟨b, off + i, none⟩ = some (.int .u8 (X i))) (hB : ∀ i, 0 ≤ X i ∧ X i ≤ 255) (hr : w.cell? ⟨rb, 0, none⟩ = some (.slice (some ⟨b, off, none⟩) n c)) (hfr : w.frozen? ⟨rb, 0, none⟩ = false) (ht : X 0 = t)
    (K : Nat) (hK : X 1 = 128 + (K : Int)) (k0 : K = 0) :
    Calls Ybaf.prog 18 #[.pointer (some ⟨rb, 0, none⟩), .int .u8 t] w (EErr w) := by
  have x0 : w.cell? ⟨b, off, none⟩ = some (.int .u8 (X 0)) := hX 0 (by omega)
  have x1 : w.cell? ⟨b, off + 1, none⟩ = some (.int .u8 (X 1)) := hX 1 (by omega)
  have g0 : ((n : Int) == 0) = false := by simp; omega
  have g1 : ¬ (n : Int) < 2 := by omega
  have g2 : (0 : Int) < (n : Int) := by omega
  have g3 : (1 : Int) < (n : Int) := by omega
  have g4 : 1 < n := by omega
  have gt : (X 0 != t) = false := by simpa using ht
  have w1 : wrap64 ((n : Int) - 2) = (n : Int) - 2 := wrap64_id (by omega) (by omega)
  have hk127 : K < 128 := by have := hB 1; omega
  obtain ⟨z0, z1⟩ := hB 1
  subst k0
  have wx : IntKind.u64.wrap (X 1) = X 1 := wrap_u64 z0 (by omega)
  have a8 : bits .and .u64 (X 1) 128 = 128 := by rw [hK]; exact and128_hi hk127
  have a7 : bits .and .u64 (X 1) 127 = 0 := by rw [hK]; exact and127_hi hk127
  clear hX hB hK
  go_enter Ybaf.func18, Ybaf.ntmps18
  go_upto_region 8 with fail
  go_quiet (fail)
  go_wp2_with (first
    | (go_at_call 19; go_must (refine (errorf1 F _ fmt5r t _ _ 1 (by exact hF) h0 h1 (by simp) (cell_made _ _ _ _ _ _ rfl rfl)).mono ?_; rintro e w2 ⟨p, rfl, hb⟩))
    | fail)
  go_ret3
  refine ⟨_, rfl, ?_⟩
  exact (below_n w _).trans (((Below.refl _ _).alloc (Nat.le_refl _) _).trans (hb.mono (by simp)))

set_option maxRecDepth 100000 in
set_option maxHeartbeats 1600000 in
theorem elem_k5 (F : Interp) (b off n c rb : Nat) (X : Nat → Int) (t : Int) (w : World) (hF : F.answers w.tape) (h0 : 0 ≤ t) (h1 : t ≤ 255) (hn : 2 ≤ n) (hn1 : n ≤ 2097152) (hnc : n ≤ c) (hX : ∀ i, i < n → w.cell? ⟨b, off + i, none⟩ = some (.int .u8 (X i))) (hB : ∀ i, 0 ≤ X i ∧ X i ≤ 255) (hr : w.cell? ⟨rb, 0, none⟩ = some (.slice (some ⟨b, off, none⟩) n c)) (hfr : w.frozen? ⟨rb, 0, none⟩ = false) (ht : X 0 = t)
    (K : Nat) (hK : X 1 = 128 + (K : Int)) (k0 : 4 < K) :
    Calls Ybaf.prog 18 #[.pointer (some ⟨rb, 0, none⟩), .int .u8 t] w (EErr w) := by
  have x0 : w.cell? ⟨b, off, none⟩ = some (.int .u8 (X 0)) := hX 0 (by omega)
  have x1 : w.cell? ⟨b, off + 1, none⟩ = some (.int .u8 (X 1)) := hX 1 (by omega)
  have g0 : ((n : Int) == 0) = false := by simp; omega
  have g1 : ¬ (n : Int) < 2 := by omega
  have g2 : (0 : Int) < (n : Int) := by omega
  have g3 : (1 : Int) < (n : Int) := by omega
  have g4 : 1 < n := by omega
  have gt : (X 0 != t) = false := by simpa using ht
  have w1 : wrap64 ((n : Int) - 2) = (n : Int) - 2 := wrap64_id (by omega) (by omega)
  have hk127 : K < 128 := by have := hB 1; omega
  obtain ⟨z0, z1⟩ := hB 1
  have f1 : ((K : Int) == 0) = false := by simp; omega
  have f2 : (4 : Int) < (K : Int) := by omega
  have wk : wrap64 (K : Int) = (K : Int) := wrap64_id (by omega) (by omega)
  have wx : IntKind.u64.wrap (X 1) = X 1 := wrap_u64 z0 (by omega)
  have a8 : bits .and .u64 (X 1) 128 = 128 := by rw [hK]; exact and128_hi hk127
  have a7 : bits .and .u64 (X 1) 127 = (K : Int) := by rw [hK]; exact and127_hi hk127
  clear hX hB hK
  go_enter Ybaf.func18, Ybaf.ntmps18
  go_upto_region 8 with fail
  go_quiet (fail)
  go_wp2_with (first
    | (go_at_call 19; go_must (refine (errorf3 F _ fmt6r t (K : Int) 4 _ _ 3 (by exact hF) h0 h1 (by simp) (cell_made _ _ _ _ _ _ rfl rfl) (cell_made _ _ _ _ _ _ rfl rfl) (cell_made _ _ _ _ _ _ rfl rfl)).mono ?_; rintro e w2 ⟨p, rfl, hb⟩))
    | fail)
  go_ret3
  refine ⟨_, rfl, ?_⟩
  exact (below_n w _).trans (((Below.refl _ _).alloc (Nat.le_refl _) _).trans (hb.mono (by simp)))

set_option maxRecDepth 100000 in
set_option maxHeartbeats 1600000 in
theorem elem_kn (F : Interp) (b off n c rb : Nat) (X : Nat → Int) (t : Int) (w : World) (hF : F.answers w.tape) (h0 : 0 ≤ t) (h1 : t ≤ 255) (hn : 2 ≤ n) (hn1 : n ≤ 2097152) (hnc : n ≤ c) (hX : ∀ i, i < n → w.cell? ⟨b, off + i, none⟩ = some (.int .u8 (X i))) (hB : ∀ i, 0 ≤ X i ∧ X i ≤ 255) (hr : w.cell? ⟨rb, 0, none⟩ = some (.slice (some ⟨b, off, none⟩) n c)) (hfr : w.frozen? ⟨rb, 0, none⟩ = false) (ht : X 0 = t)
    (K : Nat) (hK : X 1 = 128 + (K : Int)) (k1 : 1 ≤ K) (k4 : K ≤ 4) (kn : n < 2 + K) :
    Calls Ybaf.prog 18 #[.pointer (some ⟨rb, 0, none⟩), .int .u8 t] w (EErr w) := by
  have x0 : w.cell? ⟨b, off, none⟩ = some (.int .u8 (X 0)) := hX 0 (by omega)
  have x1 : w.cell? ⟨b, off + 1, none⟩ = some (.int .u8 (X 1)) := hX 1 (by omega)
  have g0 : ((n : Int) == 0) = false := by simp; omega
  have g1 : ¬ (n : Int) < 2 := by omega
  have g2 : (0 : Int) < (n : Int) := by omega
  have g3 : (1 : Int) < (n : Int) := by omega
  have g4 : 1 < n := by omega
  have gt : (X 0 != t) = false := by simpa using ht
  have w1 : wrap64 ((n : Int) - 2) = (n : Int) - 2 := wrap64_id (by omega) (by omega)
  have hk127 : K < 128 := by have := hB 1; omega
  obtain ⟨z0, z1⟩ := hB 1
  have f1 : ((K : Int) == 0) = false := by simp; omega
  have f2 : (K : Int) ≤ 4 := by omega
  have f3 : (n : Int) - 2 < (K : Int) := by omega
  have wk : wrap64 (K : Int) = (K : Int) := wrap64_id (by omega) (by omega)
  have wx : IntKind.u64.wrap (X 1) = X 1 := wrap_u64 z0 (by omega)
  have a8 : bits .and .u64 (X 1) 128 = 128 := by rw [hK]; exact and128_hi hk127
  have a7 : bits .and .u64 (X 1) 127 = (K : Int) := by rw [hK]; exact and127_hi hk127
  clear hX hB hK
  go_enter Ybaf.func18, Ybaf.ntmps18
  go_upto_region 8 with fail
  go_quiet (fail)
  go_wp2_with (first
    | (go_at_call 19; go_must (refine (errorf1 F _ fmt7r t _ _ 1 (by exact hF) h0 h1 (by simp) (cell_made _ _ _ _ _ _ rfl rfl)).mono ?_; rintro e w2 ⟨p, rfl, hb⟩))
    | fail)
  go_ret3
  refine ⟨_, rfl, ?_⟩
  exact (below_n w _).trans (((Below.refl _ _).alloc (Nat.le_refl _) _).trans (hb.mono (by simp)))

set_option maxRecDepth 100000 in
set_option maxHeartbeats 1600000 in
theorem elem_s1 (F : Interp) (b off n c rb : Nat) (X : Nat → Int) (t : Int) (w : World) (hF : F.answers w.tape) (h0 : 0 ≤ t) (h1 : t ≤ 255) (hn : 2 ≤ n) (hn1 : n ≤ 2097152) (hnc : n ≤ c) (hX : ∀ i, i < n → w.cell? ⟨b, off + i, none⟩ = some (.int .u8 (X i))) (hB : ∀ i, 0 ≤ X i ∧ X i ≤ 255) (hr : w.cell? ⟨rb, 0, none⟩ = some (.slice (some ⟨b, off, none⟩) n c)) (hfr : w.frozen? ⟨rb, 0, none⟩ = false) (ht : X 0 = t)
    (hs : X 1 < 128) (hl : (n : Int) - 2 < X 1) :
    Calls Ybaf.prog 18 #[.pointer (some ⟨rb, 0, none⟩), .int .u8 t] w (EErr w) := by
  have x0 : w.cell? ⟨b, off, none⟩ = some (.int .u8 (X 0)) := hX 0 (by omega)
  have x1 : w.cell? ⟨b, off + 1, none⟩ = some (.int .u8 (X 1)) := hX 1 (by omega)
  have g0 : ((n : Int) == 0) = false := by simp; omega
  have g1 : ¬ (n : Int) < 2 := by omega
  have g2 : (0 : Int) < (n : Int) := by omega
  have g3 : (1 : Int) < (n : Int) := by omega
  have g4 : 1 < n := by omega
  have gt : (X 0 != t) = false := by simpa using ht
  have w1 : wrap64 ((n : Int) - 2) = (n : Int) - 2 := wrap64_id (by omega) (by omega)
  obtain ⟨z0, z1⟩ := hB 1
  have u1 : IntKind.u64.wrap ((n : Int) - 2) = (n : Int) - 2 := wrap_u64 (by omega) (by omega)
  have wx : IntKind.u64.wrap (X 1) = X 1 := wrap_u64 z0 (by omega)
  have a8 : bits .and .u64 (X 1) 128 = 0 := and128_lo z0 hs
  clear hX hB
  go_enter Ybaf.func18, Ybaf.ntmps18
  go_upto_region 8 with fail
  go_quiet (fail)
  go_wp2_with (first
    | (go_at_call 19; go_must (refine (errorf2u F _ fmt10r t (X 1) _ _ 2 (by exact hF) h0 h1 (by simp) (cell_made _ _ _ _ _ _ rfl rfl) (cell_made _ _ _ _ _ _ rfl rfl)).mono ?_; rintro e w2 ⟨p, rfl, hb⟩))
    | fail)
  go_ret3
  refine ⟨_, rfl, ?_⟩
  exact (below_n w _).trans (((Below.refl _ _).alloc (Nat.le_refl _) _).trans (hb.mono (by simp)))

end Go.Proofs.YbulkegsiFmt
