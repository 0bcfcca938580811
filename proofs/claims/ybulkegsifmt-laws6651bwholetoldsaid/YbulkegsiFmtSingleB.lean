/-
  DERIVED. Read, Enter, Finish, Single: FOR EVERY F.
-/
import Derived.Test.YbulkegsiFmtSingle
namespace Go.Proofs.YbulkegsiFmt
open Go.Extern.Stop Go.Stop Go.Extern Go.RowKit
set_option linter.unusedVariables false
set_option linter.unusedSimpArgs false

/-- Where a slice's later part begins. -/
def cutAt (b off c h : Nat) : Option Addr := if c = h then some ⟨b, off, none⟩ else some ⟨b, off + h, none⟩

/-- What Read leaves. -/
def RPost (X : Nat → Int) (t : Int) (b off n c rb : Nat) (w : World) : Ending → World → Prop := fun e w' =>
  (∃ h l n1 n2 p cc, Good X n t h l ∧ e = .returned (.tuple #[.slice (cutAt b off c h) l (c - h), .nilIface]) ∧ w' = ((w.drewN n1).setCell ⟨rb, 0, none⟩ (.slice p (n - (h + l)) cc)).drewN n2) ∨
  ((∀ h l, ¬ Good X n t h l) ∧ ∃ p, e = .returned (.tuple #[.slice none 0 0, .iface 53 p]) ∧ Below w.heap.size w w')

set_option maxHeartbeats 1600000 in
theorem read_any (F : Interp) (a : Option Addr) (b off n c rb : Nat) (X : Nat → Int) (t : Int) (w : World) (hF : F.answers w.tape) (h0 : 0 ≤ t) (h1 : t ≤ 255) (hI : Inp w a b off n c X)
    (hr : w.cell? ⟨rb, 0, none⟩ = some (.slice a n c)) (hfr : w.frozen? ⟨rb, 0, none⟩ = false) :
    Calls Ybaf.prog 16 #[.pointer (some ⟨rb, 0, none⟩), .int .u8 t] w (RPost X t b off n c rb w) := by
  have C : Calls Ybaf.prog 18 #[.pointer (some ⟨rb, 0, none⟩), .int .u8 t] w (fun e w' =>
      (∃ h l v1 n1 n2 p cc, Good X n t h l ∧ e = .returned (.tuple #[v1, .slice (cutAt b off c h) l (c - h), .nilIface]) ∧ w' = ((w.drewN n1).setCell ⟨rb, 0, none⟩ (.slice p (n - (h + l)) cc)).drewN n2) ∨
      ((∀ h l, ¬ Good X n t h l) ∧ EErr w e w')) :=
    (elem_any F a b off n c rb X t w hF h0 h1 hI hr hfr).mono fun e w' hh => by
      rcases hh with ⟨h, l, hg, v1, n1, n2, p, cc, he, hw⟩ | hh
      · exact Or.inl ⟨h, l, v1, n1, n2, p, cc, hg, he, hw⟩
      · exact Or.inr hh
  clear hI hr hfr hF
  go_enter Ybaf.func16, Ybaf.ntmps16
  go_wp2_with (first
    | (go_at_call 18; refine C.mono ?_; rintro e w1 (⟨h, l, v1, n1, n2, p, cc, hg, rfl, hw⟩ | ⟨hg, p, rfl, hb⟩)))
  · go_ret2
    exact Or.inl ⟨h, l, n1, n2, p, cc, hg, rfl, rfl⟩
  · go_ret2
    exact Or.inr ⟨hg, p, rfl, hb⟩

set_option maxHeartbeats 1600000 in
theorem new_any (a : Option Addr) (n c : Nat) (w : World) :
    Calls Ybaf.prog 13 #[.slice a n c] w fun e w' => e = .returned (.pointer (some ⟨w.heap.size, 0, none⟩)) ∧ w' = w.alloc (.cells #[.slice a n c] 39) := by
  go_enter Ybaf.func13, Ybaf.ntmps13
  go_wp2
  go_ret
  exact ⟨rfl, rfl⟩

/-- What Enter leaves. -/
def NPost (X : Nat → Int) (t : Int) (b off n c rb : Nat) (w : World) : Ending → World → Prop := fun e w' =>
  (∃ h l n1 n2 p cc, Good X n t h l ∧ e = .returned (.tuple #[.pointer (some ⟨w.heap.size, 0, none⟩), .nilIface]) ∧ w' = (((w.drewN n1).setCell ⟨rb, 0, none⟩ (.slice p (n - (h + l)) cc)).drewN n2).alloc (.cells #[.slice (cutAt b off c h) l (c - h)] 39)) ∨
  ((∀ h l, ¬ Good X n t h l) ∧ ∃ p, e = .returned (.tuple #[.pointer none, .iface 53 p]) ∧ Below w.heap.size w w')

set_option maxHeartbeats 1600000 in
theorem enter_any (F : Interp) (a : Option Addr) (b off n c rb : Nat) (X : Nat → Int) (t : Int) (w : World) (hF : F.answers w.tape) (h0 : 0 ≤ t) (h1 : t ≤ 255) (hI : Inp w a b off n c X)
    (hr : w.cell? ⟨rb, 0, none⟩ = some (.slice a n c)) (hfr : w.frozen? ⟨rb, 0, none⟩ = false) :
    Calls Ybaf.prog 14 #[.pointer (some ⟨rb, 0, none⟩), .int .u8 t] w (NPost X t b off n c rb w) := by
  have C := read_any F a b off n c rb X t w hF h0 h1 hI hr hfr
  clear hI hr hfr hF
  go_enter Ybaf.func14, Ybaf.ntmps14
  go_wp2_with (first
    | (go_at_call 16; refine C.mono ?_; rintro e w1 (⟨h, l, n1, n2, p, cc, hg, rfl, hw⟩ | ⟨hg, p, rfl, hb⟩))
    | (go_at_call 13; refine (new_any _ _ _ _).mono ?_; rintro e w2 ⟨rfl, hw2⟩))
  · go_ret2
    exact Or.inl ⟨h, l, n1, n2, p, cc, hg, rfl, rfl⟩
  · go_ret2
    exact Or.inr ⟨hg, p, rfl, hb⟩

set_option maxHeartbeats 1600000 in
theorem finish_some (rb m cc : Nat) (p : Option Addr) (w : World) (hr : w.cell? ⟨rb, 0, none⟩ = some (.slice p m cc)) (hm : 0 < m) :
    Calls Ybaf.prog 15 #[.pointer (some ⟨rb, 0, none⟩)] w fun e w' => (∃ q, e = .returned (.iface 53 q)) ∧ Below w.heap.size w w' := by
  have g : (0 : Int) < (m : Int) := by omega
  go_enter Ybaf.func15, Ybaf.ntmps15
  go_wp2
  go_ret
  exact ⟨⟨_, rfl⟩, (Below.refl _ _).alloc (Nat.le_refl _) _⟩

set_option maxHeartbeats 1600000 in
theorem finish_none (rb cc : Nat) (p : Option Addr) (w : World) (hr : w.cell? ⟨rb, 0, none⟩ = some (.slice p 0 cc)) :
    Calls Ybaf.prog 15 #[.pointer (some ⟨rb, 0, none⟩)] w fun e w' => e = .returned .nilIface ∧ w' = w := by
  go_enter Ybaf.func15, Ybaf.ntmps15
  go_wp2
  go_ret
  exact ⟨rfl, rfl⟩

/-- The good way of Single: r's cell holds the contents. -/
def SOk (b off c h l : Nat) (w : World) : Ending → World → Prop := fun e w' =>
  ∃ q, w.heap.size ≤ q ∧ e = .returned (.tuple #[.pointer (some ⟨q, 0, none⟩), .nilIface]) ∧ w'.cell? ⟨q, 0, none⟩ = some (.slice (cutAt b off c h) l (c - h)) ∧ Below w.heap.size w w'
def SErr (w : World) : Ending → World → Prop := fun e w' => ∃ p, e = .returned (.tuple #[.pointer none, .iface 53 p]) ∧ Below w.heap.size w w'

theorem below_set {B : Nat} (w : World) (n1 n2 rb : Nat) (v : Value) (o : Obj) (h : B ≤ rb) (hB : B ≤ w.heap.size) : Below B w ((((w.drewN n1).setCell ⟨rb, 0, none⟩ v).drewN n2).alloc o) := by
  refine Below.alloc ?_ (by simpa using hB) o
  refine below_any ?_ n2
  refine Below.setCell ?_ h v
  exact (below_n w n1).mono hB

set_option maxHeartbeats 1600000 in
theorem single_any (F : Interp) (a : Option Addr) (b off n c : Nat) (X : Nat → Int) (t : Int) (w : World) (hF : F.answers w.tape) (h0 : 0 ≤ t) (h1 : t ≤ 255) (hI : Inp w a b off n c X) :
    Calls Ybaf.prog 10 #[.slice a n c, .int .u8 t] w (fun e w' => (∃ h l, Good X n t h l ∧ h + l = n ∧ SOk b off c h l w e w') ∨ ((∀ h l, Good X n t h l → h + l ≠ n) ∧ SErr w e w')) := by
  have b0 : Below w.heap.size w (w.alloc (.cells #[.slice a n c] 39)) := (Below.refl _ _).alloc (Nat.le_refl _) _
  have C := enter_any F a b off n c w.heap.size X t (w.alloc (.cells #[.slice a n c] 39)) (by exact hF) h0 h1 (hI.later b0) (cell_made _ _ _ _ _ _ rfl rfl) (by go_simp)
  clear hI hF
  go_enter Ybaf.func10, Ybaf.ntmps10
  go_wp2_with (first
    | (go_at_call 13; refine (new_any _ _ _ _).mono ?_; rintro e w2 ⟨rfl, hw2⟩)
    | (go_at_call 14; refine C.mono ?_; rintro e w1 (⟨h, l, n1, n2, p, cc, hg, rfl, hw⟩ | ⟨hg, p, rfl, hb⟩))
    | fail)
  · have K0 : Below w.heap.size w (((((w.alloc (.cells #[.slice a n c] 39)).drewN n1).setCell ⟨w.heap.size, 0, none⟩ (.slice p (n - (h + l)) cc)).drewN n2).alloc (.cells #[.slice (cutAt b off c h) l (c - h)] 39)) :=
      b0.trans (below_set _ n1 n2 w.heap.size _ _ (Nat.le_refl _) (by simp))
    have K1 : (((((w.alloc (.cells #[.slice a n c] 39)).drewN n1).setCell ⟨w.heap.size, 0, none⟩ (.slice p (n - (h + l)) cc)).drewN n2).alloc (.cells #[.slice (cutAt b off c h) l (c - h)] 39)).cell? ⟨w.heap.size, 0, none⟩ = some (.slice p (n - (h + l)) cc) := by
      go_simp
    have K2 : (((((w.alloc (.cells #[.slice a n c] 39)).drewN n1).setCell ⟨w.heap.size, 0, none⟩ (.slice p (n - (h + l)) cc)).drewN n2).alloc (.cells #[.slice (cutAt b off c h) l (c - h)] 39)).cell? ⟨w.heap.size + 1, 0, none⟩ = some (.slice (cutAt b off c h) l (c - h)) :=
      cell_made _ _ _ _ _ _ (by simp) rfl
    have K3 : (((((w.alloc (.cells #[.slice a n c] 39)).drewN n1).setCell ⟨w.heap.size, 0, none⟩ (.slice p (n - (h + l)) cc)).drewN n2).alloc (.cells #[.slice (cutAt b off c h) l (c - h)] 39)).heap.size = w.heap.size + 2 := by simp
    obtain ⟨W, hW⟩ : ∃ W, W = (((((w.alloc (.cells #[.slice a n c] 39)).drewN n1).setCell ⟨w.heap.size, 0, none⟩ (.slice p (n - (h + l)) cc)).drewN n2).alloc (.cells #[.slice (cutAt b off c h) l (c - h)] 39)) := ⟨_, rfl⟩
    rw [← hW] at K0 K1 K2 K3
    rw [← hW]
    clear hW
    by_cases hE : h + l = n
    · rw [hE, Nat.sub_self] at K1
      refine (finish_none _ _ _ _ K1).mono ?_
      rintro e w5 ⟨rfl, hw5⟩
      obtain rfl := hw5.symm
      go_wp2
      go_ret2
      exact Or.inl ⟨h, l, hg, hE, _, Nat.le_succ _, rfl, K2, K0⟩
    · have hle := hg.2.2.1
      refine (finish_some _ _ _ _ _ K1 (by omega)).mono ?_
      rintro e w5 ⟨⟨q, rfl⟩, hw5⟩
      go_wp2
      go_ret2
      refine Or.inr ⟨fun h' l' hg' => ?_, _, rfl, K0.trans (hw5.mono (by omega))⟩
      obtain ⟨e1, e2⟩ := hg.one hg'
      omega
  · go_ret2
    exact Or.inr ⟨fun h' l' hg' => absurd hg' (hg h' l'), _, rfl, b0.trans (hb.mono (by simp))⟩

end Go.Proofs.YbulkegsiFmt
