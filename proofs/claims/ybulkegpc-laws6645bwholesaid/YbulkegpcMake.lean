import Derived.Test.YbulkegpcEntryC
import Derived.Laws.CopyOwn
namespace Go.Proofs.Ybulkegpc.lawS6645BWhole
set_option linter.unusedVariables false
set_option linter.unusedSimpArgs false
open Go.RowKit

/-- 'make([]T, l, n)', l and n variables, an element one cell: l zero elements are owned; there is room for n. -/
theorem wpList_make_part {P : Program} (w : World) {ops : Array Oper} {rest : List Oper} {o : Oper} {a : Act} {Q : Exit → Act → World → Prop}
    (hg : o.guard = none) (lo co : Operand) (t : TypeId) (hop : o.op = Op.makeSlice t lo co)
    (base : Nat) (e : TypeId) (i : TypeInfo) (z : Value) (h1 : P.underlying t = some (.slice e)) (h2 : P.info? e = some i) (h3 : i.zero = some z) (h4 : i.size = 1) (hz : z.cells = #[z])
    (kl kc : IntKind) (L C : Int) (l n : Nat) (hl : a.eval lo = .int kl L) (hc : a.eval co = .int kc C) (hL : L = (l : Int)) (hC : C = (n : Int)) (hln : l ≤ n) (b2 : i.bytes * n ≤ 281474976710656) (b3 : n ≤ maxLen) (b4 : base ≤ w.heap.size)
    (hK : ∀ w', w'.ownsRow base e 1 (.slice (some ⟨w.heap.size, 0, none⟩) l n) l (List.replicate l z) → w.grownBy w' none → wpList P ops Q rest (a.put o.dst (.slice (some ⟨w.heap.size, 0, none⟩) l n)) w') :
    wpList P ops Q (o :: rest) a w := by
  refine wpList_plain hg fun K hK' => ?_
  subst hL
  subst hC
  have hb' : (i.bytes : Int) * (n : Int) ≤ 281474976710656 := by
    have h : ((i.bytes * n : Nat) : Int) ≤ 281474976710656 := by omega
    rwa [Int.natCast_mul] at h
  have hrun := run_make (P := P) w t e i z h1 h2 h3 kl kc (l : Int) (n : Int) (by omega) (by omega) hb' (by simp only [maxLen] at b3; omega)
  simp only [Int.toNat_natCast, h4, Nat.mul_one, hz] at hrun
  unfold Oper.wp
  simp [execOp, hop, hl, hc, hrun, Result.andThen]
  refine hK' _ _ (hK _ ⟨by simp, .inr ⟨w.heap.size, n, madeCells #[z] n, rfl, b4, heap_alloc_new w _, hln, b3, by simp [size_madeCells], ?_⟩⟩ (World.grownBy_alloc w _ none))
  rw [toList_madeCells_one]
  simp [List.take_replicate, Nat.min_eq_left hln]

theorem Yba.info5 : (Yba.prog.info? 5).map (fun i => (i.zero, i.size, i.bytes)) = some (some (.int .u8 0), 1, 1) := by kernel_rfl

def byteAt (v : Int) (i : Nat) : Int := v / 256 ^ i % 256
def hdX (kind flags term index : Int) (k j : Nat) : Int :=
  if j = 0 then kind else if j = 1 then flags else if j < 10 then (if j - 2 < k then byteAt term (j - 2) else 0) else (if j - 10 < k then byteAt index (j - 10) else 0)
def hdV (kind flags term index : Int) (k : Nat) : List Value := (List.range 18).map fun j => .int .u8 (hdX kind flags term index k j)

theorem hdV_zero (kind flags term index : Int) : ((List.replicate 18 (Value.int .u8 0)).set 0 (.int .u8 kind)).set 1 (.int .u8 flags) = hdV kind flags term index 0 := by
  simp [hdV, hdX, List.range, List.range.loop, List.replicate]

theorem hdV_succ (kind flags term index : Int) (k : Nat) (hk : k < 8) :
    ((hdV kind flags term index k).set (2 + k) (.int .u8 (byteAt term k))).set (10 + k) (.int .u8 (byteAt index k)) = hdV kind flags term index (k + 1) := by
  rcases (show k = 0 ∨ k = 1 ∨ k = 2 ∨ k = 3 ∨ k = 4 ∨ k = 5 ∨ k = 6 ∨ k = 7 by omega) with rfl | rfl | rfl | rfl | rfl | rfl | rfl | rfl <;>
    simp [hdV, hdX, List.range, List.range.loop]

theorem hdV_get (kind flags term index : Int) (k j : Nat) (hj : j < 18) : (hdV kind flags term index k)[j]? = some (.int .u8 (hdX kind flags term index k j)) := by
  simp [hdV, hj]

theorem byteAt_bd (v : Int) (i : Nat) : 0 ≤ byteAt v i ∧ byteAt v i ≤ 255 := by unfold byteAt; omega
theorem hdX_bd {kind flags term index : Int} (hk : 0 ≤ kind ∧ kind ≤ 255) (hf : 0 ≤ flags ∧ flags ≤ 255) (k j : Nat) : 0 ≤ hdX kind flags term index k j ∧ hdX kind flags term index k j ≤ 255 := by
  have h1 := byteAt_bd term (j - 2)
  have h2 := byteAt_bd index (j - 10)
  unfold hdX
  repeat' split
  all_goals omega

theorem le8_bytes (v : Int) (h : 0 ≤ v ∧ v ≤ 18446744073709551615) : le8 (byteAt v 0) (byteAt v 1) (byteAt v 2) (byteAt v 3) (byteAt v 4) (byteAt v 5) (byteAt v 6) (byteAt v 7) = v := by
  simp only [le8, byteAt]
  omega

theorem rel_round {w wr : World} {a0 a1 a2 a3 : Int} {len4 k : Nat} (hk : k < 8) (t u : Int) (ht : t = byteAt a2 k) (hu : u = byteAt a3 k)
    (hown : wr.ownsRow w.heap.size 5 1 (.slice (some ⟨w.heap.size, 0, none⟩) 18 (18 + len4)) 18 (hdV a0 a1 a2 a3 k)) (hb : Below w.heap.size w wr) :
    ((wr.setCell ⟨w.heap.size, 2 + k, none⟩ (.int .u8 t)).setCell ⟨w.heap.size, 10 + k, none⟩ (.int .u8 u)).ownsRow w.heap.size 5 1 (.slice (some ⟨w.heap.size, 0, none⟩) 18 (18 + len4)) 18 (hdV a0 a1 a2 a3 (k + 1)) ∧
    Below w.heap.size w ((wr.setCell ⟨w.heap.size, 2 + k, none⟩ (.int .u8 t)).setCell ⟨w.heap.size, 10 + k, none⟩ (.int .u8 u)) := by
  subst ht; subst hu
  refine ⟨?_, (hb.setCell (Nat.le_refl _) _).setCell (Nat.le_refl _) _⟩
  rw [← hdV_succ a0 a1 a2 a3 k hk]
  exact ((hown.stored (2 + k) _).1.stored (10 + k) _).1

/-- What is known of the payload and of its copy when entryOf is called. -/
structure Ready (w wc : World) (gp gq n : Nat) (xs : List Value) : Prop where
  p : wc.ownsRow w.heap.size 5 1 (.slice (some ⟨gp, 0, none⟩) n n) n xs
  q : wc.ownsRow w.heap.size 5 1 (.slice (some ⟨gq, 0, none⟩) n n) n xs
  b : Below w.heap.size w wc

theorem entry_use {w wc : World} {gp gq len4 : Nat} {a0 a1 a2 a3 : Int} {D : List Int} (w0 : 0 ≤ a0 ∧ a0 ≤ 255) (w1 : 0 ≤ a1 ∧ a1 ≤ 255) (w2 : 0 ≤ a2 ∧ a2 ≤ 18446744073709551615) (w3 : 0 ≤ a3 ∧ a3 ≤ 18446744073709551615)
    (hD : D.length = len4) (hlen : len4 ≤ 1048576) (R : Ready w wc gp gq (18 + len4) (hdV a0 a1 a2 a3 8 ++ D.map (Value.int .u8))) :
    (len4 = 0 → Calls Yba.prog 4 #[.slice (some ⟨gp, 0, none⟩) (18 + len4) (18 + len4)] wc fun e w' => e = .returned (.agg #[.int .u64 a3, .int .u64 a2, .int .u8 a0, .slice none 0 0]) ∧ Below wc.heap.size wc w') ∧
    (0 < len4 → Calls Yba.prog 4 #[.slice (some ⟨gp, 0, none⟩) (18 + len4) (18 + len4)] wc fun e w' => e = .returned (.agg #[.int .u64 a3, .int .u64 a2, .int .u8 a0, .slice (some ⟨gp, 18, none⟩) len4 len4]) ∧ Below wc.heap.size wc w') := by
  have hH : Head wc gp (hdX a0 a1 a2 a3 8) := by
    refine ⟨(R.p.lt gp rfl).2, hdX_bd w0 w1 8, fun i hi => ?_⟩
    rw [R.p.cellAt i (by omega), List.getElem?_append_left (by simp [hdV]; omega), hdV_get _ _ _ _ _ _ hi]
  have e0 : hdX a0 a1 a2 a3 8 0 = a0 := rfl
  have e1 := le8_bytes a2 w2
  have e2 := le8_bytes a3 w3
  constructor
  · intro h
    have := entry_short gp _ wc hH
    have f1 : le8 (hdX a0 a1 a2 a3 8 2) (hdX a0 a1 a2 a3 8 3) (hdX a0 a1 a2 a3 8 4) (hdX a0 a1 a2 a3 8 5) (hdX a0 a1 a2 a3 8 6) (hdX a0 a1 a2 a3 8 7) (hdX a0 a1 a2 a3 8 8) (hdX a0 a1 a2 a3 8 9) = a2 := e1
    have f2 : le8 (hdX a0 a1 a2 a3 8 10) (hdX a0 a1 a2 a3 8 11) (hdX a0 a1 a2 a3 8 12) (hdX a0 a1 a2 a3 8 13) (hdX a0 a1 a2 a3 8 14) (hdX a0 a1 a2 a3 8 15) (hdX a0 a1 a2 a3 8 16) (hdX a0 a1 a2 a3 8 17) = a3 := e2
    rw [f1, f2, e0] at this
    rw [h]
    exact this
  · intro h
    have := entry_long gp (18 + len4) (18 + len4) _ wc hH (by omega) (by omega) (by unfold maxLen; omega)
    have f1 : le8 (hdX a0 a1 a2 a3 8 2) (hdX a0 a1 a2 a3 8 3) (hdX a0 a1 a2 a3 8 4) (hdX a0 a1 a2 a3 8 5) (hdX a0 a1 a2 a3 8 6) (hdX a0 a1 a2 a3 8 7) (hdX a0 a1 a2 a3 8 8) (hdX a0 a1 a2 a3 8 9) = a2 := e1
    have f2 : le8 (hdX a0 a1 a2 a3 8 10) (hdX a0 a1 a2 a3 8 11) (hdX a0 a1 a2 a3 8 12) (hdX a0 a1 a2 a3 8 13) (hdX a0 a1 a2 a3 8 14) (hdX a0 a1 a2 a3 8 15) (hdX a0 a1 a2 a3 8 16) (hdX a0 a1 a2 a3 8 17) = a3 := e2
    rw [f1, f2, e0, show 18 + len4 - 18 = len4 by omega] at this
    exact this
end Go.Proofs.Ybulkegpc.lawS6645BWhole
