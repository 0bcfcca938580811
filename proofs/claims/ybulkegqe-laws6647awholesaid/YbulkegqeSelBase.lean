/-
  DERIVED. 'selector.LawS6647AWhole': words for the walks; the two tables.
-/
import Derived.Test.YbulkegqeRows
import Derived.WalkKit
import Derived.ProofKit
import Derived.Below
import Derived.Outline
import Derived.WalkSpells
import Derived.WalkLawsBesides
import Derived.Maps.AppendAt
import Derived.Maps.OwnSet
import Derived.Maps.StringElems
import Derived.Maps.RangeWalk
import Derived.Sort.EncStr
import Derived.Deep.DeepMust
import Derived.Deep.DeepCutAuto
import Derived.BigQuiet
import Derived.RowKit
namespace Go.Proofs.Ybulkegqe.lawS6647AWhole
set_option linter.unusedVariables false
set_option linter.unusedSimpArgs false
open Go.RowKit

abbrev Str := List UInt8

def keyS (k : Int) : Str := if k % 5 == 0 then [97, 112, 112] else if k % 5 == 1 then [116, 105, 101, 114] else if k % 5 == 2 then [] else if k % 5 == 3 then [97] else [101, 110, 118]
def valS (v : Int) : Str := if v % 4 == 0 then [119, 101, 98] else if v % 4 == 1 then [] else if v % 4 == 2 then [120] else [100, 98]

theorem val_any (v : Int) (w : World) (h0 : 0 ≤ v) (h1 : v ≤ 255) : Calls Yba.prog 5 #[.int .u8 v] w fun e w' => e = .returned (encStr (valS v)) ∧ w' = w := by
  go_enter Yba.func5, Yba.ntmps5
  go_wp2
  all_goals (go_ret; exact ⟨by simp [valS, *], rfl⟩)
theorem key_any (v : Int) (w : World) (h0 : 0 ≤ v) (h1 : v ≤ 255) : Calls Yba.prog 6 #[.int .u8 v] w fun e w' => e = .returned (encStr (keyS v)) ∧ w' = w := by
  go_enter Yba.func6, Yba.ntmps6
  go_wp2
  all_goals (go_ret; exact ⟨by simp [keyS, *], rfl⟩)

/-- The slice value v, nil or an own row (a block from B on), holds the strings L. -/
def SRow (B : Nat) (w : World) (v : Value) (L : List Str) : Prop := w.ownsRow B 9 1 v L.length (L.map encStr)

theorem SRow.kept {B : Nat} {w w' : World} {v : Value} {L : List Str} {row : Option Nat} (h : SRow B w v L) (hg : w.grownBy w' row) (hne : v.ownBlock = none ∨ v.ownBlock ≠ row) : SRow B w' v L := World.ownsRow.kept h hg hne
theorem SRow.lt {B : Nat} {w : World} {v : Value} {L : List Str} (h : SRow B w v L) : ∀ k, v.ownBlock = some k → B ≤ k ∧ k < w.heap.size := World.ownsRow.lt h
theorem SRow.low {B B' : Nat} {w : World} {v : Value} {L : List Str} (h : SRow B w v L) (hB : B' ≤ B) : SRow B' w v L := by
  refine ⟨h.1, ?_⟩
  rcases h.2 with h2 | ⟨g, cap, cur, hv, hg, r⟩
  · exact .inl h2
  · exact .inr ⟨g, cap, cur, hv, Nat.le_trans hB hg, r⟩
/-- Only new blocks: nothing turns. -/
theorem grown_of_below {w w' : World} (h : Below w.heap.size w w') (row : Option Nat) : w.grownBy w' row := ⟨h.os, h.tape, h.output, h.size, fun k hk _ => h.block k hk⟩
theorem below_of_grown {w w' : World} (h : w.grownBy w' none) : Below w.heap.size w w' := ⟨h.os, h.tape, h.output, h.size, fun k hk => h.block k hk (by simp)⟩

/-- What the row is: nil, or a slice over its own block. -/
theorem SRow.shape {B : Nat} {w : World} {v : Value} {L : List Str} (h : SRow B w v L) :
    (v = .slice none 0 0 ∧ L = []) ∨ ∃ g cap, v = .slice (some ⟨g, 0, none⟩) L.length cap ∧ g < w.heap.size ∧ B ≤ g ∧ L.length ≤ cap ∧ cap ≤ maxLen ∧ ∀ j, j < L.length → w.cell? ⟨g, j, none⟩ = some (encStr (L.getD j [])) ∧ w.frozen? ⟨g, j, none⟩ = false := by
  rcases h.2 with ⟨h1, h2⟩ | ⟨g, cap, cur, hv, hg, hh, hc, hm, hs, ht⟩
  · exact .inl ⟨h1, List.eq_nil_of_length_eq_zero h2⟩
  · refine .inr ⟨g, cap, hv, (Array.getElem?_eq_some_iff.1 hh).1, hg, hc, hm, fun j hj => ⟨?_, frozen_of_row w g j _ _ hh⟩⟩
    rw [cell_of_row _ _ _ _ _ _ hh]
    have e : (cur.toList.take (L.length * 1))[j]? = (L.map encStr)[j]? := by rw [ht]
    rw [List.getElem?_take, if_pos (by omega)] at e
    simpa [List.getD, hj] using e

def UM := Unit

/-- The set value (few, many) holds just what S says. -/
def SetIs (w : World) (fv mv : Value) (S : Str → Bool) : Prop :=
  (mv = .map none ∧ ∃ L B, SRow B w fv L ∧ ∀ x, S x = L.contains x) ∨
  (fv = .slice none 0 0 ∧ ∃ b n, ∃ D : DataW Unit, mv = .map (some b) ∧ w.ownsMap Yba.prog 9 unitElem b n D ∧ ∀ x : Str, S x = Maps.has D (.string x))
/-- The set's one block. -/
def setBlk (fv mv : Value) : Option Nat := match mv with
  | .map (some b) => some b
  | _ => fv.ownBlock

theorem SetIs.lt {w : World} {fv mv : Value} {S : Str → Bool} (h : SetIs w fv mv S) : ∀ k, setBlk fv mv = some k → k < w.heap.size := by
  rcases h with ⟨rfl, L, B, hr, _⟩ | ⟨rfl, b, n, D, rfl, ho, _⟩
  · exact fun k hk => (hr.lt k hk).2
  · intro k hk
    simp only [setBlk, Option.some.injEq] at hk
    subst hk
    exact ho.lt
theorem SetIs.kept {w w' : World} {fv mv : Value} {S : Str → Bool} {row : Option Nat} (h : SetIs w fv mv S) (hg : w.grownBy w' row) (hne : setBlk fv mv = none ∨ setBlk fv mv ≠ row) : SetIs w' fv mv S := by
  rcases h with ⟨rfl, L, B, hr, hS⟩ | ⟨rfl, b, n, D, rfl, ho, hS⟩
  · exact .inl ⟨rfl, L, B, hr.kept hg hne, hS⟩
  · exact .inr ⟨rfl, b, n, D, rfl, ho.kept hg (by simpa [setBlk] using hne), hS⟩
theorem SetIs.below {w w' : World} {fv mv : Value} {S : Str → Bool} (h : SetIs w fv mv S) (hb : Below w.heap.size w w') : SetIs w' fv mv S :=
  h.kept (grown_of_below hb none) (by cases setBlk fv mv <;> simp)

theorem law9 : Maps.Keyed Yba.prog 9 := Maps.string_keyed Yba.underlying9
theorem zero47 (w : World) : (zeroValue 47).run Yba.prog w = .ok (.agg #[]) w := by kernel_rfl
theorem Yba.info9 : (Yba.prog.info? 9).map (fun i => (i.zero, i.size, i.bytes)) = some (some (.string ByteArray.empty), 1, 16) := by kernel_rfl

theorem key9 (x : Str) (hx : x.length ≤ maxLen) : Go.keyOf Yba.prog 9 (encStr x) = some (Lit.string x) := by
  have := WideMaps.keyOf_string_mk (P := Yba.prog) Yba.underlying9 (s := ⟨x.toArray⟩) (by simpa [ByteArray.size] using hx)
  simpa using this

end Go.Proofs.Ybulkegqe.lawS6647AWhole
