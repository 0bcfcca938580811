/-
  DERIVED. THE HARNESS' encode: some row of bytes of the call's own.
-/
import Derived.Test.YbulkegsiFmtBytes
namespace Go.Proofs.YbulkegsiFmt
open Go.Extern.Stop Go.Stop Go.Extern Go.RowKit
set_option linter.unusedVariables false
set_option linter.unusedSimpArgs false

def CPost (w : World) : Ending → World → Prop := fun e w' => ∃ v' L, e = .returned v' ∧ Own w.heap.size w' v' L ∧ Below w.heap.size w w' ∧ L.length ≤ 2097152 ∧ ∀ x ∈ L, 0 ≤ x ∧ x ≤ 255

theorem cells_at (w : World) (ys : List Int) (b : Nat) (hb : b = w.heap.size) : ∀ j u, (ys.map (Value.int .u8))[j]? = some u → (w.alloc (.cells (ys.map (Value.int .u8)).toArray 5)).cell? ((⟨b, 0, none⟩ : Addr).add j) = some u := by
  subst hb
  exact cells_new w ys
theorem size_one (w : World) (o : Obj) : w.heap.size + 1 = (w.alloc o).heap.size := by simp
theorem size_two (w : World) (o o' : Obj) : w.heap.size ≤ ((w.alloc o).alloc o').heap.size := by simp; omega

theorem own_made (w : World) (t : Int) : Own w.heap.size (w.alloc (.cells #[.int .u8 t] 5)) (.slice (some ⟨w.heap.size, 0, none⟩) 1 1) [t] :=
  ⟨by simp, .inr ⟨w.heap.size, 1, #[.int .u8 t], rfl, Nat.le_refl _, heap_alloc_new w _, (by simp), (by unfold maxLen; omega), rfl, (by simp)⟩⟩

set_option maxRecDepth 100000 in
set_option maxHeartbeats 1600000 in
theorem enc1 (a : Option Addr) (n c : Nat) (Y : List Int) (t : Int) (w : World) (h0 : 0 ≤ t) (h1 : t ≤ 255) (hS : Src w a n c Y) (hY : ∀ x ∈ Y, 0 ≤ x ∧ x ≤ 255) (hn : n ≤ 1048576) (hw : n < 128) :
    Calls Ybaf.prog 8 #[.int .u8 t, .slice a n c] w (CPost w) := by
  have g1 : (n : Int) < 128 := by omega
  have HS : Hid (Src w a n c Y) := hS
  have hlen := hS.len
  have HL : Hid (Y.length = n) := hlen
  have bn : IntKind.u8.wrap (n : Int) = (n : Int) := by
    have : (n : Int) % 256 = (n : Int) := by omega
    simpa [IntKind.wrap, IntKind.signed, IntKind.bits] using this
  have wn : ∀ m : Nat, m = n → IntKind.u8.wrap (m : Int) = (m : Int) := fun m hm => by rw [hm]; exact bn
  have P1 : Hid (([t] ++ [(n : Int)]).length + Y.length ≤ 70368744177664) := (by simp; omega : ([t] ++ [(n : Int)]).length + Y.length ≤ 70368744177664)
  have P2 : Hid ([t].length + [(n : Int)].length ≤ 70368744177664) := (by simp : [t].length + [(n : Int)].length ≤ 70368744177664)
  clear bn hS hlen
  go_enter Ybaf.func8, Ybaf.ntmps8
  go_wp2_with (first
    | (at_builtin; have KK := O1; go_must (refine ap_src _ rfl (.tmp 46) (.tmp 47) rfl w.heap.size z1 v1 ([t] ++ [(n : Int)]) rfl O1.out a n c Y rfl (HS.out.below B1.out) P1.out ?_; intro v2 w2 o b; have O2 : Hid (Own w.heap.size w2 v2 ([t] ++ [(n : Int)] ++ Y)) := o; have B2 : Hid (Below w.heap.size w w2) := B1.out.trans b; clear o b))
    | (at_builtin; go_must (refine ap_ints _ rfl (.tmp 13) (.tmp 16) rfl w.heap.size (size_two w _ _) (.slice (some ⟨w.heap.size, 0, none⟩) 1 1) [t] rfl ((own_made w t).alloc _) ⟨w.heap.size + 1, 0, none⟩ 1 1 [(n : Int)] rfl rfl (cells_at _ [(n : Int)] _ (size_one w _)) P2.out ?_; intro v1 w1 o b; have O1 : Hid (Own w.heap.size w1 v1 ([t] ++ [(n : Int)])) := o; have B1 : Hid (Below w.heap.size w w1) := (((Below.refl _ w).alloc (Nat.le_refl _) _).alloc (by rw [← size_one]; exact Nat.le_succ _) _).trans b; have z1 : w.heap.size ≤ w1.heap.size := B1.out.size; clear o b)))
  go_ret
  refine ⟨_, _, rfl, O2.out, B2.out, (by have := HL.out; simp; omega), ?_⟩
  intro x hx
  simp at hx
  rcases hx with rfl | rfl | hx
  · exact ⟨h0, h1⟩
  · omega
  · exact hY x hx

end Go.Proofs.YbulkegsiFmt
