import Derived.Test.YbulkegsiFmtModelB
import Derived.WalkKit
import Derived.ProofKit
import Derived.Below
import Derived.Outline
import Derived.WalkSpells
import Derived.WalkLawsBesides
import Derived.Maps.AppendAt
import Derived.Lib.AppendStr
import Derived.Laws.AppendOwnNone
import Derived.Laws.BytesArg
import Derived.Deep.DeepMust
import Derived.Deep.DeepCutAuto
namespace Go.Proofs.YbulkegsiFmt
set_option linter.unusedVariables false
set_option linter.unusedSimpArgs false
open Go.RowKit

theorem Ybaf.info5 : (Ybaf.prog.info? 5).map (fun i => (i.zero, i.size, i.bytes)) = some (some (.int .u8 0), 1, 1) := by kernel_rfl

/-- The slice value v, nil or one of the call's own rows (blocks from B on), holds the bytes xs. -/
def Own (B : Nat) (w : World) (v : Value) (xs : List Int) : Prop := w.ownsRow B 5 1 v xs.length (xs.map (Value.int .u8))

theorem Own.alloc {B : Nat} {w : World} {v : Value} {xs : List Int} (h : Own B w v xs) (o : Obj) : Own B (w.alloc o) v xs := World.ownsRow.alloc h o
theorem Own.nil (B : Nat) (w : World) : Own B w (.slice none 0 0) [] := World.ownsRow_nil w B 5 1
/-- What lies below B' may turn: the row lies higher. -/
theorem Own.low {B B' : Nat} {w : World} {v : Value} {xs : List Int} (h : Own B w v xs) (hB : B' ≤ B) : Own B' w v xs := by
  refine ⟨h.1, ?_⟩
  rcases h.2 with h2 | ⟨g, cap, cur, hv, hg, r⟩
  · exact .inl h2
  · exact .inr ⟨g, cap, cur, hv, Nat.le_trans hB hg, r⟩
/-- A row that lies below B stays where only blocks from B on turn. -/
theorem Own.kept {B C : Nat} {w w' : World} {v : Value} {xs : List Int} (h : Own B w v xs) (hv : ∀ k, v.ownBlock = some k → k < C) (hb : Below C w w') : Own B w' v xs := by
  refine ⟨h.1, ?_⟩
  rcases h.2 with h2 | ⟨g, cap, cur, rfl, hg, hh, r⟩
  · exact .inl h2
  · exact .inr ⟨g, cap, cur, rfl, hg, by rw [hb.block g (hv g rfl)]; exact hh, r⟩
theorem Own.blk {B : Nat} {w : World} {v : Value} {xs : List Int} (h : Own B w v xs) : ∀ k, v.ownBlock = some k → k < w.heap.size := fun k hk => (World.ownsRow.lt h k hk).2
theorem Own.row {B : Nat} {w : World} {v : Value} {xs : List Int} (h : Own B w v xs) : ∀ k, v.ownBlock = some k → B ≤ k := fun k hk => (World.ownsRow.lt h k hk).1

theorem ints_map_append (xs ys : List Int) : xs.map (Value.int .u8) ++ ys.map (Value.int .u8) = (xs ++ ys).map (Value.int .u8) := by simp

/-- 'append(s, x...)', s the call's own, x a slice of bytes somewhere. -/
theorem ap_ints (w : World) {ops : Array Oper} {rest : List Oper} {o : Oper} {a : Act} {Q : Exit → Act → World → Prop}
    (hgd : o.guard = none) (s x : Operand) (ho : o.op = .call { callee := .builtin .append, args := #[s, x], argTypes := #[28, 28] })
    (B : Nat) (hB : B ≤ w.heap.size) (v : Value) (xs : List Int) (hs : a.eval s = v) (hown : Own B w v xs) (ad : Addr) (m c : Nat) (ys : List Int) (hx : a.eval x = .slice (some ad) m c)
    (hl : ys.length = m) (hc : ∀ j u, (ys.map (Value.int .u8))[j]? = some u → w.cell? (ad.add j) = some u) (hsz : xs.length + ys.length ≤ 70368744177664)
    (h : ∀ v' w', Own B w' v' (xs ++ ys) → Below B w w' → wpList Ybaf.prog ops Q rest (a.put o.dst v') w') : wpList Ybaf.prog ops Q (o :: rest) a w := by
  obtain ⟨i5, hi5, hz0, hz1, hz2⟩ := info_parts Ybaf.info5
  subst hl
  refine wpList_append_own w hgd s x 28 ho B 5 i5 (.int .u8 0) 1 1 Ybaf.underlying28 hi5 hz0 hz1 hz2 rfl (by decide) v xs.length (xs.map (Value.int .u8)) hs hown ad ys.length c (ys.map (Value.int .u8)) hx (by simp) hc (ints_oneCell _ _) (by unfold maxLen; omega) (by omega) hB ?_
  intro v' w' ho' hg _
  refine h v' w' ?_ ((Below.refl B w).grown hg hB (fun k hk => (World.ownsRow.lt hown k hk).1))
  unfold Own
  rw [List.length_append, ← ints_map_append]
  exact ho'

/-- 'append(s, x...)', x nil. -/
theorem ap_none (w : World) {ops : Array Oper} {rest : List Oper} {o : Oper} {a : Act} {Q : Exit → Act → World → Prop}
    (hgd : o.guard = none) (s x : Operand) (ho : o.op = .call { callee := .builtin .append, args := #[s, x], argTypes := #[28, 28] })
    (B : Nat) (v : Value) (xs : List Int) (hs : a.eval s = v) (hown : Own B w v xs) (hx : a.eval x = .slice none 0 0)
    (h : wpList Ybaf.prog ops Q rest (a.put o.dst v) w) : wpList Ybaf.prog ops Q (o :: rest) a w := by
  obtain ⟨i5, hi5, hz0, hz1, hz2⟩ := info_parts Ybaf.info5
  exact wpList_append_own_none hgd s x 28 ho B 5 i5 1 Ybaf.underlying28 hi5 v xs.length _ hs hown hx h

/-- What is known of a slice of bytes that is only read. -/
structure Src (w : World) (a : Option Addr) (n c : Nat) (xs : List Int) : Prop where
  len : xs.length = n
  nil : a = none → n = 0 ∧ c = 0
  cell : ∀ ad, a = some ad → ∀ j u, (xs.map (Value.int .u8))[j]? = some u → w.cell? (ad.add j) = some u

theorem Src.below {w w' : World} {a : Option Addr} {n c : Nat} {xs : List Int} (h : Src w a n c xs) (hb : Below w.heap.size w w') : Src w' a n c xs :=
  ⟨h.len, h.nil, fun ad ha j u hu => cell_later hb (h.cell ad ha j u hu)⟩

/-- 'append(s, x...)', x whatever source. -/
theorem ap_src (w : World) {ops : Array Oper} {rest : List Oper} {o : Oper} {a : Act} {Q : Exit → Act → World → Prop}
    (hgd : o.guard = none) (s x : Operand) (ho : o.op = .call { callee := .builtin .append, args := #[s, x], argTypes := #[28, 28] })
    (B : Nat) (hB : B ≤ w.heap.size) (v : Value) (xs : List Int) (hs : a.eval s = v) (hown : Own B w v xs) (ao : Option Addr) (m c : Nat) (ys : List Int) (hx : a.eval x = .slice ao m c)
    (hsrc : Src w ao m c ys) (hsz : xs.length + ys.length ≤ 70368744177664)
    (h : ∀ v' w', Own B w' v' (xs ++ ys) → Below B w w' → wpList Ybaf.prog ops Q rest (a.put o.dst v') w') : wpList Ybaf.prog ops Q (o :: rest) a w := by
  cases ao with
  | some ad => exact ap_ints w hgd s x ho B hB v xs hs hown ad m c ys hx hsrc.len (hsrc.cell ad rfl) hsz h
  | none =>
    obtain ⟨rfl, rfl⟩ := hsrc.nil rfl
    have hy : ys = [] := List.eq_nil_of_length_eq_zero hsrc.len
    subst hy
    exact ap_none w hgd s x ho B v xs hs hown hx (h v w (by simpa using hown) (Below.refl _ _))

/-- 'append(s, str...)'. -/
theorem ap_str (w : World) {ops : Array Oper} {rest : List Oper} {o : Oper} {a : Act} {Q : Exit → Act → World → Prop}
    (hgd : o.guard = none) (s x : Operand) (ho : o.op = .call { callee := .builtin .append, args := #[s, x], argTypes := #[28, 9] })
    (B : Nat) (hB : B ≤ w.heap.size) (v : Value) (xs : List Int) (hs : a.eval s = v) (hown : Own B w v xs) (t : ByteArray) (ys : List Int) (hx : a.eval x = .string t)
    (hy : Lib.strCells t = ys.map (Value.int .u8)) (hsz : xs.length + ys.length ≤ 70368744177664)
    (h : ∀ v' w', Own B w' v' (xs ++ ys) → Below B w w' → wpList Ybaf.prog ops Q rest (a.put o.dst v') w') : wpList Ybaf.prog ops Q (o :: rest) a w := by
  obtain ⟨i5, hi5, hz0, hz1, hz2⟩ := info_parts Ybaf.info5
  have ht : t.size = ys.length := by rw [← Lib.strCells_length, hy]; simp
  refine Lib.wpList_append_own_string w hgd s x 28 9 ho B 5 i5 Ybaf.underlying28 Ybaf.underlying9 hi5 hz0 hz1 hz2 v xs.length (xs.map (Value.int .u8)) hs hown t hx (by unfold maxLen; omega) (by omega) hB ?_
  intro v' w' ho' hg _
  refine h v' w' ?_ ((Below.refl B w).grown hg hB (fun k hk => (World.ownsRow.lt hown k hk).1))
  unfold Own
  rw [List.length_append, ← ints_map_append, ← hy, ← ht]
  exact ho'

/-- 'string(b)'. -/
theorem conv_own {B : Nat} {w : World} {v : Value} {xs : List Int} (h : Own B w v xs) : (convert 28 9 v).run Ybaf.prog w = .ok (.string (strOfNums xs)) w := by
  rcases h.2 with ⟨rfl, h0⟩ | ⟨g, cap, cur, rfl, r⟩
  · have hx : xs = [] := List.eq_nil_of_length_eq_zero h0
    subst hx
    exact run_convert_bytes_nil w 28 5 Ybaf.underlying28 Ybaf.underlying5 0 0 9 Ybaf.underlying9
  · refine run_convert_bytes_arg w 28 5 Ybaf.underlying28 Ybaf.underlying5 g 0 xs.length cap xs rfl ?_ 9 Ybaf.underlying9
    intro i hi
    rw [Nat.zero_add, World.ownsRow.cellAt h i (by omega)]
    simp [hi, List.getD]
theorem conv_src {w : World} {a : Option Addr} {n c : Nat} {xs : List Int} (h : Src w a n c xs) : (convert 28 9 (.slice a n c)).run Ybaf.prog w = .ok (.string (strOfNums xs)) w := by
  cases a with
  | none =>
    obtain ⟨rfl, rfl⟩ := h.nil rfl
    have hx : xs = [] := List.eq_nil_of_length_eq_zero h.len
    subst hx
    exact run_convert_bytes_nil w 28 5 Ybaf.underlying28 Ybaf.underlying5 0 0 9 Ybaf.underlying9
  | some ad =>
    have hg : ∀ j, j < n → (xs.map (Value.int .u8))[j]? = some (.int .u8 (xs.getD j 0)) := by
      intro j hj
      simp [List.getD, show j < xs.length by have := h.len; omega]
    by_cases h0 : n = 0
    · have hx : xs = [] := List.eq_nil_of_length_eq_zero (by rw [h.len]; exact h0)
      subst hx
      subst h0
      rw [run_convert_bytes_string w 28 9 5 _ 0 c Ybaf.underlying28 Ybaf.underlying5 Ybaf.underlying9, run_bytesToString w _ 0 c [] (by simpa using run_loadCells_list (P := Ybaf.prog) w ad [] (by simp)), foldl_push_bytes]
      rfl
    · obtain ⟨b, off, spot⟩ := ad
      have c0 := h.cell _ rfl 0 _ (hg 0 (by omega))
      have hspot : spot = none := by simpa [Addr.add] using World.cell?_spot c0
      subst hspot
      refine run_convert_bytes_arg w 28 5 Ybaf.underlying28 Ybaf.underlying5 b off n c xs h.len ?_ 9 Ybaf.underlying9
      intro i hi
      rw [← Go.WideShapes.add_plain]
      exact h.cell _ rfl i _ (hg i hi)

/-- bytes.Equal, both the same bytes. -/
theorem equal_same (v1 v2 : Value) (s : ByteArray) (w : World) (h1 : (convert 28 9 v1).run Ybaf.prog w = .ok (.string s) w) (h2 : (convert 28 9 v2).run Ybaf.prog w = .ok (.string s) w) :
    Calls Ybaf.prog 11 #[v1, v2] w fun e w' => e = .returned (.bool true) ∧ w' = w := by
  go_enter Ybaf.func11, Ybaf.ntmps11
  go_wp2
  go_ret
  exact ⟨by simp, rfl⟩

theorem cells_new (w : World) (ys : List Int) : ∀ j u, (ys.map (Value.int .u8))[j]? = some u → (w.alloc (.cells (ys.map (Value.int .u8)).toArray 5)).cell? ((⟨w.heap.size, 0, none⟩ : Addr).add j) = some u := by
  intro j u hu
  rw [Go.WideShapes.add_plain, Nat.zero_add, cell_of_row _ _ _ _ _ _ (heap_alloc_new w _)]
  simpa using hu

theorem Inp.src {w : World} {a : Option Addr} {b off n c : Nat} {X : Nat → Int} (h : Inp w a b off n c X) (hnil : a = none → n = 0 ∧ c = 0) : Src w a n c ((List.range n).map X) := by
  refine ⟨by simp, hnil, fun ad had j u hu => ?_⟩
  have hj : j < n := by
    have := (List.getElem?_eq_some_iff.1 hu).1
    simpa using this
  rcases h.row with h0 | ⟨rfl, hc⟩
  · omega
  · cases had
    rw [Go.WideShapes.add_plain, hc j hj, ← hu]
    simp [hj]

end Go.Proofs.YbulkegsiFmt
