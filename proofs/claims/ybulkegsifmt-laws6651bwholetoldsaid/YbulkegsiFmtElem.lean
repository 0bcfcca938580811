/-
  DERIVED. (*Reader).Element: FOR EVERY F.
-/
import Derived.Test.YbulkegsiFmtHdr
import Derived.Deep.DeepMust
import Derived.Deep.DeepCutAuto
import Derived.Deep.CutBlock
import Derived.BigQuiet
namespace Go.Proofs.YbulkegsiFmt
open Go.Extern.Stop Go.Stop Go.Extern Go.RowKit
set_option linter.unusedVariables false
set_option linter.unusedSimpArgs false
attribute [local go_sem] call12 call20 fguard fmt0 fmt0r fmt1 fmt1r fmt2 fmt2r fmt3 fmt3r fmt4 fmt4r fmt5 fmt5r fmt6 fmt6r fmt7 fmt7r fmt8 fmt8r fmt9 fmt9r fmt10 fmt10r act22_100 op22_100 act5_120s op5_120s act22_118w act3_100w op3_100w act44_100w op44_100w fstr22 ptr53 elem53 isError53

/-- The error way. -/
def EErr (w : World) : Ending → World → Prop := fun e w' => ∃ p, e = .returned (.tuple #[.slice none 0 0, .slice none 0 0, .iface 53 p]) ∧ Below w.heap.size w w'
/-- The good way. -/
def EOk (b off n c rb h l : Nat) (w : World) : Ending → World → Prop := fun e w' =>
  ∃ v1 n1 n2 p cc, e = .returned (.tuple #[v1, .slice (if c = h then some ⟨b, off, none⟩ else some ⟨b, off + h, none⟩) l (c - h), .nilIface]) ∧ w' = ((w.drewN n1).setCell ⟨rb, 0, none⟩ (.slice p (n - (h + l)) cc)).drewN n2

theorem below_any {B : Nat} {w w' : World} (h : Below B w w') (n : Nat) : Below B w (w'.drewN n) := h.trans ⟨rfl, rfl, rfl, Nat.le_refl _, fun _ _ => rfl⟩
theorem below_n (w : World) (n : Nat) : Below w.heap.size w (w.drewN n) := ⟨rfl, rfl, rfl, Nat.le_refl _, fun _ _ => rfl⟩

set_option maxRecDepth 100000 in
set_option maxHeartbeats 1600000 in
theorem elem_empty (F : Interp) (a : Option Addr) (c rb : Nat) (t : Int) (w : World) (hF : F.answers w.tape) (h0 : 0 ≤ t) (h1 : t ≤ 255) (hr : w.cell? ⟨rb, 0, none⟩ = some (.slice a 0 c)) :
    Calls Ybaf.prog 18 #[.pointer (some ⟨rb, 0, none⟩), .int .u8 t] w (EErr w) := by
  go_enter Ybaf.func18, Ybaf.ntmps18
  go_wp2_with (first
    | (go_at_call 19; go_must (refine (errorf1 F _ fmt2r t _ w.heap.size 1 (by exact hF) h0 h1 (by simp) (by go_simp)).mono ?_; rintro e w1 ⟨p, rfl, hb⟩)))
  go_ret3
  refine ⟨_, rfl, ?_⟩
  exact ((Below.refl _ _).alloc (Nat.le_refl _) _).trans (hb.mono (by simp))

set_option maxRecDepth 100000 in
set_option maxHeartbeats 1600000 in
theorem elem_tag (F : Interp) (b off n c rb : Nat) (X : Nat → Int) (t : Int) (w : World) (hF : F.answers w.tape) (h0 : 0 ≤ t) (h1 : t ≤ 255) (hn : 1 ≤ n) (hnc : n ≤ c) (hX : ∀ i, i < n → w.cell? ⟨b, off + i, none⟩ = some (.int .u8 (X i))) (hB : ∀ i, 0 ≤ X i ∧ X i ≤ 255) (hr : w.cell? ⟨rb, 0, none⟩ = some (.slice (some ⟨b, off, none⟩) n c))
    (ht : X 0 ≠ t) :
    Calls Ybaf.prog 18 #[.pointer (some ⟨rb, 0, none⟩), .int .u8 t] w (EErr w) := by
  have x0 : w.cell? ⟨b, off, none⟩ = some (.int .u8 (X 0)) := hX 0 (by omega)
  have g0 : ((n : Int) == 0) = false := by simp; omega
  have g2 : (0 : Int) < (n : Int) := by omega
  have gt : (X 0 != t) = true := by simpa using ht
  obtain ⟨z0, z1⟩ := hB 0
  go_enter Ybaf.func18, Ybaf.ntmps18
  go_wp2_with (first
    | (go_at_call 19; go_must (refine (errorf2 F _ fmt3r (X 0) t _ w.heap.size 2 (by exact hF) z0 z1 h0 h1 (by simp) (by go_simp) (by go_simp)).mono ?_; rintro e w1 ⟨p, rfl, hb⟩)))
  go_ret3
  refine ⟨_, rfl, ?_⟩
  exact ((Below.refl _ _).alloc (Nat.le_refl _) _).trans (hb.mono (by simp))

set_option maxRecDepth 100000 in
set_option maxHeartbeats 1600000 in
theorem elem_one (F : Interp) (b off n c rb : Nat) (X : Nat → Int) (t : Int) (w : World) (hF : F.answers w.tape) (h0 : 0 ≤ t) (h1 : t ≤ 255) (hn : n = 1) (hnc : n ≤ c) (hX : ∀ i, i < n → w.cell? ⟨b, off + i, none⟩ = some (.int .u8 (X i))) (hB : ∀ i, 0 ≤ X i ∧ X i ≤ 255) (hr : w.cell? ⟨rb, 0, none⟩ = some (.slice (some ⟨b, off, none⟩) n c))
    (ht : X 0 = t) :
    Calls Ybaf.prog 18 #[.pointer (some ⟨rb, 0, none⟩), .int .u8 t] w (EErr w) := by
  subst hn
  have x0 : w.cell? ⟨b, off, none⟩ = some (.int .u8 (X 0)) := hX 0 (by omega)
  have gt : (X 0 != t) = false := by simpa using ht
  obtain ⟨z0, z1⟩ := hB 0
  go_enter Ybaf.func18, Ybaf.ntmps18
  go_wp2_with (first
    | (go_at_call 19; go_must (refine (errorf1 F _ fmt4r t _ w.heap.size 1 (by exact hF) h0 h1 (by simp) (by go_simp)).mono ?_; rintro e w1 ⟨p, rfl, hb⟩)))
  go_ret3
  refine ⟨_, rfl, ?_⟩
  exact ((Below.refl _ _).alloc (Nat.le_refl _) _).trans (hb.mono (by simp))

end Go.Proofs.YbulkegsiFmt
