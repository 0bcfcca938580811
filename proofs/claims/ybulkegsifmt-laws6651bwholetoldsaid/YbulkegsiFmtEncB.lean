/-
  DERIVED. THE HARNESS' encode, the three long ways, and all four together.
-/
import Derived.Test.YbulkegsiFmtEnc
namespace Go.Proofs.YbulkegsiFmt
open Go.Extern.Stop Go.Stop Go.Extern Go.RowKit
set_option linter.unusedVariables false
set_option linter.unusedSimpArgs false

set_option maxRecDepth 100000 in
set_option maxHeartbeats 1600000 in
theorem enc2 (a : Option Addr) (n c : Nat) (Y : List Int) (t : Int) (w : World) (h0 : 0 ≤ t) (h1 : t ≤ 255) (hS : Src w a n c Y) (hY : ∀ x ∈ Y, 0 ≤ x ∧ x ≤ 255) (hn : n ≤ 1048576) (hw : 128 ≤ n) (hw2 : n < 256) :
    Calls Ybaf.prog 8 #[.int .u8 t, .slice a n c] w (CPost w) := by
  have g1 : ¬ (n : Int) < 128 := by omega
  have g2 : (n : Int) < 256 := by omega
  have HS : Hid (Src w a n c Y) := hS
  have hlen := hS.len
  have HL : Hid (Y.length = n) := hlen
  have P1 : Hid (([t] ++ [129, (n : Int)]).length + Y.length ≤ 70368744177664) := (by simp; omega : ([t] ++ [129, (n : Int)]).length + Y.length ≤ 70368744177664)
  have P2 : Hid ([t].length + [129, (n : Int)].length ≤ 70368744177664) := (by simp : [t].length + [129, (n : Int)].length ≤ 70368744177664)
  have HY : Hid (n ≤ 1048576) := hn
  clear hS hlen hn
  go_enter Ybaf.func8, Ybaf.ntmps8
  go_wp2_with (first
    | (at_builtin; have KK := O1; go_must (refine ap_src _ rfl (.tmp 46) (.tmp 47) rfl w.heap.size z1 v1 ([t] ++ [129, (n : Int)]) rfl O1.out a n c Y rfl (HS.out.below B1.out) P1.out ?_; intro v2 w2 o b; have O2 : Hid (Own w.heap.size w2 v2 ([t] ++ [129, (n : Int)] ++ Y)) := o; have B2 : Hid (Below w.heap.size w w2) := B1.out.trans b; clear o b))
    | (at_builtin; go_must (refine ap_ints _ rfl (.tmp 20) (.tmp 23) rfl w.heap.size (size_two w _ _) (.slice (some ⟨w.heap.size, 0, none⟩) 1 1) [t] rfl ((own_made w t).alloc _) ⟨w.heap.size + 1, 0, none⟩ 2 2 [129, (n : Int)] rfl rfl (cells_at _ [129, (n : Int)] _ (size_one w _)) P2.out ?_; intro v1 w1 o b; have O1 : Hid (Own w.heap.size w1 v1 ([t] ++ [129, (n : Int)])) := o; have B1 : Hid (Below w.heap.size w w1) := (((Below.refl _ w).alloc (Nat.le_refl _) _).alloc (by rw [← size_one]; exact Nat.le_succ _) _).trans b; have z1 : w.heap.size ≤ w1.heap.size := B1.out.size; clear o b)))
  go_ret
  refine ⟨_, _, rfl, O2.out, B2.out, (by have := HL.out; have := HY.out; simp; omega), ?_⟩
  intro x hx
  have := HY.out
  simp at hx
  rcases hx with hx | hx | hx | hx
  · omega
  · omega
  · omega
  · exact hY x hx

set_option maxRecDepth 100000 in
set_option maxHeartbeats 1600000 in
theorem enc3 (a : Option Addr) (n c : Nat) (Y : List Int) (t : Int) (w : World) (h0 : 0 ≤ t) (h1 : t ≤ 255) (hS : Src w a n c Y) (hY : ∀ x ∈ Y, 0 ≤ x ∧ x ≤ 255) (hn : n ≤ 1048576) (hw : 256 ≤ n) (hw2 : n < 65536) :
    Calls Ybaf.prog 8 #[.int .u8 t, .slice a n c] w (CPost w) := by
  have g1 : ¬ (n : Int) < 128 := by omega
  have g2 : ¬ (n : Int) < 256 := by omega
  have g3 : ∀ m : Nat, m = n → ((m : Int) < 65536) = True := fun m hm => eq_true (by omega)
  have HS : Hid (Src w a n c Y) := hS
  have hlen := hS.len
  have HL : Hid (Y.length = n) := hlen
  have P1 : Hid (([t] ++ [130, (n : Int) / 256 % 256, (n : Int) % 256]).length + Y.length ≤ 70368744177664) := (by simp; omega : ([t] ++ [130, (n : Int) / 256 % 256, (n : Int) % 256]).length + Y.length ≤ 70368744177664)
  have P2 : Hid ([t].length + [130, (n : Int) / 256 % 256, (n : Int) % 256].length ≤ 70368744177664) := (by simp : [t].length + [130, (n : Int) / 256 % 256, (n : Int) % 256].length ≤ 70368744177664)
  have HY : Hid (n ≤ 1048576) := hn
  clear hS hlen hw2 hn
  go_enter Ybaf.func8, Ybaf.ntmps8
  go_wp2_with (first
    | (at_builtin; have KK := O1; go_must (refine ap_src _ rfl (.tmp 46) (.tmp 47) rfl w.heap.size z1 v1 ([t] ++ [130, (n : Int) / 256 % 256, (n : Int) % 256]) rfl O1.out a n c Y rfl (HS.out.below B1.out) P1.out ?_; intro v2 w2 o b; have O2 : Hid (Own w.heap.size w2 v2 ([t] ++ [130, (n : Int) / 256 % 256, (n : Int) % 256] ++ Y)) := o; have B2 : Hid (Below w.heap.size w w2) := B1.out.trans b; clear o b))
    | (at_builtin; go_must (refine ap_ints _ rfl (.tmp 27) (.tmp 33) rfl w.heap.size (size_two w _ _) (.slice (some ⟨w.heap.size, 0, none⟩) 1 1) [t] rfl ((own_made w t).alloc _) ⟨w.heap.size + 1, 0, none⟩ 3 3 [130, (n : Int) / 256 % 256, (n : Int) % 256] rfl rfl (cells_at _ [130, (n : Int) / 256 % 256, (n : Int) % 256] _ (size_one w _)) P2.out ?_; intro v1 w1 o b; have O1 : Hid (Own w.heap.size w1 v1 ([t] ++ [130, (n : Int) / 256 % 256, (n : Int) % 256])) := o; have B1 : Hid (Below w.heap.size w w1) := (((Below.refl _ w).alloc (Nat.le_refl _) _).alloc (by rw [← size_one]; exact Nat.le_succ _) _).trans b; have z1 : w.heap.size ≤ w1.heap.size := B1.out.size; clear o b)))
  go_ret
  refine ⟨_, _, rfl, O2.out, B2.out, (by have := HL.out; have := HY.out; simp; omega), ?_⟩
  intro x hx
  have := HY.out
  simp at hx
  rcases hx with hx | hx | hx | hx | hx
  · omega
  · omega
  · omega
  · omega
  · exact hY x hx

set_option maxRecDepth 100000 in
set_option maxHeartbeats 1600000 in
theorem enc4 (a : Option Addr) (n c : Nat) (Y : List Int) (t : Int) (w : World) (h0 : 0 ≤ t) (h1 : t ≤ 255) (hS : Src w a n c Y) (hY : ∀ x ∈ Y, 0 ≤ x ∧ x ≤ 255) (hn : n ≤ 1048576) (hw : 65536 ≤ n) :
    Calls Ybaf.prog 8 #[.int .u8 t, .slice a n c] w (CPost w) := by
  have g1 : ¬ (n : Int) < 128 := by omega
  have g2 : ¬ (n : Int) < 256 := by omega
  have g3 : ∀ m : Nat, m = n → ((m : Int) < 65536) = False := fun m hm => eq_false (by omega)
  have HS : Hid (Src w a n c Y) := hS
  have hlen := hS.len
  have HL : Hid (Y.length = n) := hlen
  have P1 : Hid (([t] ++ [131, (n : Int) / 65536 % 256, (n : Int) / 256 % 256, (n : Int) % 256]).length + Y.length ≤ 70368744177664) := (by simp; omega : ([t] ++ [131, (n : Int) / 65536 % 256, (n : Int) / 256 % 256, (n : Int) % 256]).length + Y.length ≤ 70368744177664)
  have P2 : Hid ([t].length + [131, (n : Int) / 65536 % 256, (n : Int) / 256 % 256, (n : Int) % 256].length ≤ 70368744177664) := (by simp : [t].length + [131, (n : Int) / 65536 % 256, (n : Int) / 256 % 256, (n : Int) % 256].length ≤ 70368744177664)
  have HY : Hid (n ≤ 1048576) := hn
  clear hS hlen hw hn
  go_enter Ybaf.func8, Ybaf.ntmps8
  go_wp2_with (first
    | (at_builtin; have KK := O1; go_must (refine ap_src _ rfl (.tmp 46) (.tmp 47) rfl w.heap.size z1 v1 ([t] ++ [131, (n : Int) / 65536 % 256, (n : Int) / 256 % 256, (n : Int) % 256]) rfl O1.out a n c Y rfl (HS.out.below B1.out) P1.out ?_; intro v2 w2 o b; have O2 : Hid (Own w.heap.size w2 v2 ([t] ++ [131, (n : Int) / 65536 % 256, (n : Int) / 256 % 256, (n : Int) % 256] ++ Y)) := o; have B2 : Hid (Below w.heap.size w w2) := B1.out.trans b; clear o b))
    | (at_builtin; go_must (refine ap_ints _ rfl (.tmp 35) (.tmp 44) rfl w.heap.size (size_two w _ _) (.slice (some ⟨w.heap.size, 0, none⟩) 1 1) [t] rfl ((own_made w t).alloc _) ⟨w.heap.size + 1, 0, none⟩ 4 4 [131, (n : Int) / 65536 % 256, (n : Int) / 256 % 256, (n : Int) % 256] rfl rfl (cells_at _ [131, (n : Int) / 65536 % 256, (n : Int) / 256 % 256, (n : Int) % 256] _ (size_one w _)) P2.out ?_; intro v1 w1 o b; have O1 : Hid (Own w.heap.size w1 v1 ([t] ++ [131, (n : Int) / 65536 % 256, (n : Int) / 256 % 256, (n : Int) % 256])) := o; have B1 : Hid (Below w.heap.size w w1) := (((Below.refl _ w).alloc (Nat.le_refl _) _).alloc (by rw [← size_one]; exact Nat.le_succ _) _).trans b; have z1 : w.heap.size ≤ w1.heap.size := B1.out.size; clear o b)))
  go_ret
  refine ⟨_, _, rfl, O2.out, B2.out, (by have := HL.out; have := HY.out; simp; omega), ?_⟩
  intro x hx
  have := HY.out
  simp at hx
  rcases hx with hx | hx | hx | hx | hx | hx
  · omega
  · omega
  · omega
  · omega
  · omega
  · exact hY x hx

theorem enc_any (a : Option Addr) (n c : Nat) (Y : List Int) (t : Int) (w : World) (h0 : 0 ≤ t) (h1 : t ≤ 255) (hS : Src w a n c Y) (hY : ∀ x ∈ Y, 0 ≤ x ∧ x ≤ 255) (hn : n ≤ 1048576) :
    Calls Ybaf.prog 8 #[.int .u8 t, .slice a n c] w (CPost w) := by
  by_cases h2 : n < 128
  · exact enc1 a n c Y t w h0 h1 hS hY hn h2
  · by_cases h3 : n < 256
    · exact enc2 a n c Y t w h0 h1 hS hY hn (by omega) h3
    · by_cases h4 : n < 65536
      · exact enc3 a n c Y t w h0 h1 hS hY hn (by omega) h4
      · exact enc4 a n c Y t w h0 h1 hS hY hn (by omega)

end Go.Proofs.YbulkegsiFmt
