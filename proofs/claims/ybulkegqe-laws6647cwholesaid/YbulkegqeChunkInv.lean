import Derived.Test.YbulkegqeLocksB
import Derived.WalkSpells
import Derived.OneCell
import Derived.Maps.AppendAt
namespace Go.Proofs.Ybulkegqe.lawS6647CWhole
set_option linter.unusedVariables false
set_option linter.unusedSimpArgs false
open Go.RowKit

/-- A zero Store, but for the state word of mu's own mutex and mu's count of readers. -/
def StoreArr (st rc : Int) : Array Value :=
  #[.int .i32 0, .int .u32 0, .map none, .int .i32 0, .int .u32 0, .int .i64 0, .int .i32 st, .int .u32 0, .int .u32 0, .int .u32 0, .int .i32 rc, .int .i32 0,
    .int .i64 0, .map none, .int .i64 0, .map none, .int .i64 0, .int .i64 0, .int .i64 0, .int .i64 0, .int .i64 0, .int .i64 0, .slice none 0 0, .int .i64 0, .int .i64 0,
    .chan none, .bool false, .slice none 0 0, .int .u64 0, .int .i64 0, .pointer none, .pointer none, .bool false, .slice none 0 0, .pointer none,
    .slice none 0 0, .map none, .slice none 0 0, .pointer none, .chan none, .bool false, .int .i64 0, .int .u64 0, .int .i64 0,
    .pointer none, .pointer none, .int .i64 0, .pointer none, .pointer none, .map none, .map none, .int .i64 0, .map none, .nilFunc]

/-- Block S holds the Store. -/
def Holds (w : World) (S : Nat) (st rc : Int) : Prop := w.heap[S]? = some (.cells (StoreArr st rc) 101 (0, 0))

/-- Only block S has turned. -/
structure Only (S : Nat) (w w' : World) : Prop where
  os : w'.os = w.os
  tape : w'.tape = w.tape
  output : w'.output = w.output
  size : w'.heap.size = w.heap.size
  block : ∀ k, k ≠ S → w'.heap[k]? = w.heap[k]?

theorem Only.set {S : Nat} {w w' : World} (h : Only S w w') (off : Nat) (v : Value) : Only S w (w'.setCell ⟨S, off, none⟩ v) :=
  ⟨h.os, h.tape, h.output, by rw [← h.size]; simp [World.setCell], fun k hk => (Below.heap_setCell _ _ _ _ (by simpa using hk)).trans (h.block k hk)⟩
theorem Only.refl (S : Nat) (w : World) : Only S w w := ⟨rfl, rfl, rfl, rfl, fun _ _ => rfl⟩

theorem Holds.cell {w : World} {S : Nat} {st rc : Int} (h : Holds w S st rc) (j : Nat) (v : Value) (hv : (StoreArr st rc)[j]? = some v) : w.cell? ⟨S, j, none⟩ = some v := by
  unfold Holds at h
  simp [World.cell?, h, hv]
theorem Holds.free {w : World} {S : Nat} {st rc : Int} (h : Holds w S st rc) (j : Nat) : w.frozen? ⟨S, j, none⟩ = false := by
  unfold Holds at h
  simp [World.frozen?, h]
theorem heap_set {w : World} {S off : Nat} {c : Array Value} {t : TypeId} {v : Value} (h : w.heap[S]? = some (.cells c t (0, 0))) : (w.setCell ⟨S, off, none⟩ v).heap[S]? = some (.cells (c.setIfInBounds off v) t (0, 0)) := by
  simp [World.setCell, Array.getElem?_modify, h]
theorem Holds.set6 {w : World} {S : Nat} {st rc : Int} (h : Holds w S st rc) (x : Int) : Holds (w.setCell ⟨S, 6, none⟩ (.int .i32 x)) S x rc := by
  have := heap_set (off := 6) (v := .int .i32 x) h
  exact this
theorem Holds.set10 {w : World} {S : Nat} {st rc : Int} (h : Holds w S st rc) (x : Int) : Holds (w.setCell ⟨S, 10, none⟩ (.int .i32 x)) S st x := by
  have := heap_set (off := 10) (v := .int .i32 x) h
  exact this

theorem rlock_b (S : Nat) (w : World) (h : Holds w S 0 0) :
    Calls Yba.prog 38 #[.pointer (some ⟨S, 6, none⟩)] w fun e w' => e = .returned (.tuple #[]) ∧ Holds w' S 0 1 ∧ Only S w w' := by
  refine (rlock_any S 6 _ _ w (h.cell 6 _ rfl) (h.cell 9 _ rfl) (h.cell 10 _ rfl) (h.free 10)).mono ?_
  rintro e w' ⟨rfl, rfl⟩
  exact ⟨rfl, h.set10 1, (Only.refl S w).set 10 _⟩
theorem runlock_b (S : Nat) (w : World) (h : Holds w S 0 1) :
    Calls Yba.prog 39 #[.pointer (some ⟨S, 6, none⟩)] w fun e w' => e = .returned (.tuple #[]) ∧ Holds w' S 0 0 ∧ Only S w w' := by
  refine (runlock_any S 6 _ _ w (h.cell 6 _ rfl) (h.cell 8 _ rfl) (h.cell 10 _ rfl) (h.free 10)).mono ?_
  rintro e w' ⟨rfl, rfl⟩
  exact ⟨rfl, h.set10 0, (Only.refl S w).set 10 _⟩
theorem try_busy_b (S : Nat) (w : World) (h : Holds w S 0 1) :
    Calls Yba.prog 11 #[.pointer (some ⟨S, 6, none⟩)] w fun e w' => e = .returned (.bool false) ∧ Holds w' S 0 1 ∧ Only S w w' := by
  refine (try_busy S 6 w (h.cell 6 _ rfl) (h.free 6) (h.cell 10 _ rfl) (h.free 10)).mono ?_
  rintro e w' ⟨rfl, rfl⟩
  exact ⟨rfl, (h.set6 1).set6 0, ((Only.refl S w).set 6 _).set 6 _⟩
theorem try_free_b (S : Nat) (w : World) (h : Holds w S 0 0) :
    Calls Yba.prog 11 #[.pointer (some ⟨S, 6, none⟩)] w fun e w' => e = .returned (.bool true) ∧ Holds w' S 1 (-1073741824) ∧ Only S w w' := by
  refine (try_free S 6 _ _ w (h.cell 6 _ rfl) (h.free 6) (h.cell 8 _ rfl) (h.cell 9 _ rfl) (h.cell 10 _ rfl) (h.free 10)).mono ?_
  rintro e w' ⟨rfl, rfl⟩
  exact ⟨rfl, (h.set6 1).set10 _, ((Only.refl S w).set 6 _).set 10 _⟩
theorem wunlock_b (S : Nat) (w : World) (h : Holds w S 1 (-1073741824)) :
    Calls Yba.prog 12 #[.pointer (some ⟨S, 6, none⟩)] w fun e w' => e = .returned (.tuple #[]) ∧ Holds w' S 0 0 ∧ Only S w w' := by
  refine (wunlock_any S 6 _ _ w (h.cell 6 _ rfl) (h.cell 8 _ rfl) (h.cell 9 _ rfl) (h.cell 10 _ rfl) (h.free 6) (h.free 10)).mono ?_
  rintro e w' ⟨rfl, rfl⟩
  exact ⟨rfl, (h.set10 0).set6 _, ((Only.refl S w).set 10 _).set 6 _⟩

/-- The call's own four variables: the Store, 's', 'log' and 'held'. -/
structure Inv (w0 : World) (B : Nat) (st rc : Int) (ls : List Int) (w : World) : Prop where
  store : Holds w B st rc
  svar : w.heap[B + 1]? = some (.cells #[.pointer (some ⟨B, 0, none⟩)] 46 (0, 0))
  log : ∃ v, w.heap[B + 2]? = some (.cells #[v] 102 (0, 0)) ∧ w.ownsRow (B + 4) 3 1 v ls.length (ls.map (Value.int .i64))
  held : w.heap[B + 3]? = some (.cells #[.bool true] 4 (0, 0))
  below : Below B w0 w

theorem ownsRow_only {w w' : World} {S base : Nat} {e : TypeId} {v : Value} {n : Nat} {xs : List Value} (h : w.ownsRow base e 1 v n xs) (ho : Only S w w') (hS : S < base) : w'.ownsRow base e 1 v n xs := by
  refine ⟨h.1, ?_⟩
  rcases h.2 with h2 | ⟨g, cap, cur, hv, hg, hh, r⟩
  · exact .inl h2
  · exact .inr ⟨g, cap, cur, hv, hg, by rw [ho.block g (by omega)]; exact hh, r⟩

theorem Inv.only {w0 w w' : World} {B : Nat} {st rc st' rc' : Int} {ls : List Int} (h : Inv w0 B st rc ls w) (hS : Holds w' B st' rc') (ho : Only B w w') : Inv w0 B st' rc' ls w' := by
  obtain ⟨v, hl, hown⟩ := h.log
  exact ⟨hS, by rw [ho.block _ (by omega)]; exact h.svar, ⟨v, by rw [ho.block _ (by omega)]; exact hl, ownsRow_only hown ho (by omega)⟩, by rw [ho.block _ (by omega)]; exact h.held,
    h.below.trans ⟨ho.os, ho.tape, ho.output, by rw [ho.size]; exact Nat.le_refl _, fun k hk => ho.block k (by omega)⟩⟩

theorem Inv.size {w0 w : World} {B : Nat} {st rc : Int} {ls : List Int} (h : Inv w0 B st rc ls w) : B + 4 ≤ w.heap.size := by
  have := lt_of_block h.held
  omega

/-- One number more in the log. -/
theorem inv_push {w0 w w1 : World} {B : Nat} {st rc : Int} {ls : List Int} {v v' : Value} {o : Obj} (i : Int) (h : Inv w0 B st rc ls w) (hv : w.heap[B + 2]? = some (.cells #[v] 102 (0, 0)))
    (hown : w.ownsRow (B + 4) 3 1 v ls.length (ls.map (Value.int .i64))) (hown' : w1.ownsRow (B + 4) 3 1 v' (ls.length + 1) (ls.map (Value.int .i64) ++ [.int .i64 i])) (hgrow : (w.alloc o).grownBy w1 v.ownBlock) :
    w1.heap[B + 2]? = some (.cells #[v] 102 (0, 0)) ∧ Inv w0 B st rc (ls ++ [i]) (w1.setCell ⟨B + 2, 0, none⟩ v') := by
  have hsz := h.size
  have hrow : ∀ k, v.ownBlock = some k → B + 4 ≤ k := fun k hk => (hown.lt k hk).1
  have hk : ∀ k, k < B + 4 → w1.heap[k]? = w.heap[k]? := fun k hk => by
    rw [hgrow.block k (by simp; omega) (fun e => by have := hrow k e.symm; omega)]
    exact Below.heap_alloc w o k (by omega)
  have hv1 : w1.heap[B + 2]? = some (.cells #[v] 102 (0, 0)) := by rw [hk _ (by omega)]; exact hv
  have hs : ∀ k, k ≠ B + 2 → (w1.setCell ⟨B + 2, 0, none⟩ v').heap[k]? = w1.heap[k]? := fun k hk => Below.heap_setCell _ _ _ _ (by simpa using hk)
  refine ⟨hv1, ?_, ?_, ⟨v', one_setCell hv1, ?_⟩, ?_, ?_⟩
  · unfold Holds; rw [hs _ (by omega), hk _ (by omega)]; exact h.store
  · rw [hs _ (by omega), hk _ (by omega)]; exact h.svar
  · have e1 : (ls ++ [i]).length = ls.length + 1 := by simp
    have e2 : (ls ++ [i]).map (Value.int .i64) = ls.map (Value.int .i64) ++ [.int .i64 i] := by simp
    rw [e1, e2]
    exact ownsRow_setCell_below hown' (by simp) _
  · rw [hs _ (by omega), hk _ (by omega)]; exact h.held
  · exact ((h.below.alloc (by omega) o).grown hgrow (by simp; omega) (fun k hk => by have := hrow k hk; omega)).setCell (by simp) _
end Go.Proofs.Ybulkegqe.lawS6647CWhole
