/-
  DERIVED. (*Reader).Element, the good way of the short form: FOR EVERY F.
-/
import Derived.Test.YbulkegsiFmtElemB
namespace Go.Proofs.YbulkegsiFmt
open Go.Extern.Stop Go.Stop Go.Extern Go.RowKit
set_option linter.unusedVariables false
set_option linter.unusedSimpArgs false
attribute [local go_sem] call12 call20 fguard fmt0 fmt0r fmt1 fmt1r fmt2 fmt2r fmt3 fmt3r fmt4 fmt4r fmt5 fmt5r fmt6 fmt6r fmt7 fmt7r fmt8 fmt8r fmt9 fmt9r fmt10 fmt10r act22_100 op22_100 act5_120s op5_120s act22_118w act3_100w op3_100w act44_100w op44_100w fstr22 ptr53 elem53 isError53

set_option maxRecDepth 100000 in
set_option maxHeartbeats 1600000 in
theorem elem_s2 (b off n c rb : Nat) (X : Nat → Int) (t : Int) (w : World) (h0 : 0 ≤ t) (h1 : t ≤ 255) (hn : 2 ≤ n) (hn1 : n ≤ 2097152) (hnc : n ≤ c) (hX : ∀ i, i < n → w.cell? ⟨b, off + i, none⟩ = some (.int .u8 (X i))) (hB : ∀ i, 0 ≤ X i ∧ X i ≤ 255) (hr : w.cell? ⟨rb, 0, none⟩ = some (.slice (some ⟨b, off, none⟩) n c)) (hfr : w.frozen? ⟨rb, 0, none⟩ = false) (ht : X 0 = t)
    (l E : Nat) (hE : E = 2 + l) (hl : X 1 = (l : Int)) (hs : l < 128) (hen : E ≤ n) :
    Calls Ybaf.prog 18 #[.pointer (some ⟨rb, 0, none⟩), .int .u8 t] w (EOk b off n c rb 2 l w) := by
  have x0 : w.cell? ⟨b, off, none⟩ = some (.int .u8 (X 0)) := hX 0 (by omega)
  have x1 : w.cell? ⟨b, off + 1, none⟩ = some (.int .u8 (X 1)) := hX 1 (by omega)
  have g0 : ((n : Int) == 0) = false := by simp; omega
  have g1 : ¬ (n : Int) < 2 := by omega
  have g2 : (0 : Int) < (n : Int) := by omega
  have g3 : (1 : Int) < (n : Int) := by omega
  have g4 : 1 < n := by omega
  have gt : (X 0 != t) = false := by simpa using ht
  have w1 : wrap64 ((n : Int) - 2) = (n : Int) - 2 := wrap64_id (by omega) (by omega)
  rw [hl] at x1
  have q1 : (l : Int) ≤ (n : Int) - 2 := by omega
  have q2 : (2 : Int) ≤ (E : Int) := by omega
  have q3 : (E : Int) ≤ (n : Int) := by omega
  have q4 : (E : Int) ≤ (c : Int) := by omega
  have q5 : (n : Int) ≤ (c : Int) := by omega
  have q6 : 2 ≤ E := by omega
  have q7 : E ≤ c := by omega
  have e1 : 2 + (l : Int) = (E : Int) := by omega
  have we : wrap64 (E : Int) = (E : Int) := wrap64_id (by omega) (by omega)
  have wl : wrap64 (l : Int) = (l : Int) := wrap64_id (by omega) (by omega)
  have u1 : IntKind.u64.wrap ((n : Int) - 2) = (n : Int) - 2 := wrap_u64 (by omega) (by omega)
  have wx : IntKind.u64.wrap (l : Int) = (l : Int) := wrap_u64 (by omega) (by omega)
  have a8 : bits .and .u64 (l : Int) 128 = 0 := and128_lo (by omega) (by omega)
  have HE : Hid (E = 2 + l) := hE
  clear hX hB hE hl
  go_enter Ybaf.func18, Ybaf.ntmps18
  go_upto_region 8 with fail
  go_quiet (fail)
  go_upto_region 32 with fail
  go_quiet (fail)
  generalize hp : (if c = 2 then some (⟨b, off, none⟩ : Addr) else some ⟨b, off + 2, none⟩) = P
  generalize (if c = E then some (⟨b, off, none⟩ : Addr) else some ⟨b, off + E, none⟩) = P2
  go_wp2
  go_ret3
  have hE' := HE.out
  clear HE
  have e5 : E - 2 = l := by omega
  rw [e5, ← hp, hE']
  exact ⟨_, _, _, _, _, rfl, rfl⟩

end Go.Proofs.YbulkegsiFmt
