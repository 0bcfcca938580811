/-
  DERIVED. 'newValueSet'.
-/
import Derived.Test.YbulkegqeSelHas
namespace Go.Proofs.Ybulkegqe.lawS6647AWhole
set_option linter.unusedVariables false
set_option linter.unusedSimpArgs false
open Go.RowKit

theorem make109 (n : Int) (w : World) : (Instr.makeMap 109 (some (.int .i64 n))).run Yba.prog w = .ok (.map (some w.heap.size)) (w.alloc (.map #[] 0)) := by
  simp [Instr.makeMap, run_underlying Yba.underlying109, asInt, asIntOf, Result.andThen]

theorem has_put_str {D : DataW Unit} (hm : Maps.IsMap D) (k x : Str) (d : DataW Unit) : Maps.has (D.put (.string k) d) (.string x) = ((k == x) || Maps.has D (.string x)) := by
  by_cases e : k = x
  · subst e
    rw [Maps.has_put_same hm (by simp [WideAt.IsKeyLit])]
    simp
  · rw [Maps.has_put_other (by intro h; exact e (by cases h; rfl))]
    simp [e]

theorem contains_take_succ (L : List Str) (k : Nat) (hk : k < L.length) (x : Str) : (L.take (k + 1)).contains x = ((L.getD k [] == x) || (L.take k).contains x) := by
  have e : L.take (k + 1) = L.take k ++ [L.getD k []] := by
    rw [List.take_add_one]
    simp [List.getD, hk]
  rw [e, Bool.eq_iff_iff]
  simp
  constructor
  · rintro (h | h)
    · exact .inr h
    · exact .inl h.symm
  · rintro (h | h)
    · exact .inr h.symm
    · exact .inl h

/-- The map's own block and the two cells' blocks beside it. -/
def NewInv (w : World) (L : List Str) (k : Nat) (wr : World) : Prop :=
  (∃ D : DataW Unit, wr.ownsMap Yba.prog 9 unitElem (w.heap.size + 1) k D ∧ ∀ x : Str, Maps.has D (.string x) = (L.take k).contains x) ∧
  wr.heap[w.heap.size]? = some (.cells #[.slice none 0 0, .map none] 111 (0, 0)) ∧ wr.heap[w.heap.size + 2]? = some (.cells #[.slice none 0 0, .map (some (w.heap.size + 1))] 111 (0, 0)) ∧ Below w.heap.size w wr

theorem NewInv.step {w wr w1 : World} {L : List Str} {k : Nat} {D : DataW Unit} {d : DataW Unit} (h : NewInv w L k wr) (hk : k < L.length)
    (ho : wr.ownsMap Yba.prog 9 unitElem (w.heap.size + 1) k D) (hD : ∀ x : Str, Maps.has D (.string x) = (L.take k).contains x)
    (ho1 : w1.ownsMap Yba.prog 9 unitElem (w.heap.size + 1) (k + 1) (D.put (.string (L.getD k [])) d)) (hg : wr.grownBy w1 (some (w.heap.size + 1))) : NewInv w L (k + 1) w1 := by
  obtain ⟨_, h0, h2, hb⟩ := h
  have s0 := (Array.getElem?_eq_some_iff.1 h0).1
  have s2 := (Array.getElem?_eq_some_iff.1 h2).1
  refine ⟨⟨_, ho1, fun x => ?_⟩, (hg.block _ s0 (by simp)).trans h0, (hg.block _ s2 (by simp)).trans h2, hb.grown hg hb.size (fun j hj => by cases hj; omega)⟩
  rw [has_put_str ho.isMap, hD, contains_take_succ L k hk]

/-- Two cells written anew. -/
theorem set2 (w : World) (g : Nat) (p q x y : Value) (t : TypeId) (h : w.heap[g]? = some (.cells #[p, q] t (0, 0))) : ((w.setCell ⟨g, 0, none⟩ x).setCell ⟨g, 1, none⟩ y).heap[g]? = some (.cells #[x, y] t (0, 0)) := by
  rw [heap_setCell_same _ g 1 _ t y (heap_setCell_same w g 0 _ t x h)]
  simp

theorem Yba.size111 : (Yba.prog.info? 111).map (·.size) = some 2 := by kernel_rfl

set_option maxRecDepth 100000 in
theorem new_few (v : Value) (n cap : Nat) (a : Option Addr) (w : World) (hv : v = .slice a n cap) (hn : n ≤ 4) :
    Calls Yba.prog 41 #[v] w fun e w' => e = .returned (.agg #[v, .map none]) ∧ Below w.heap.size w w' := by
  subst hv
  have g1 : ∀ m : Nat, m = n → ((m : Int) ≤ 4) = True := fun m hm => eq_true (by omega)
  clear hn
  go_enter Yba.func41, Yba.ntmps41
  go_wp2
  try simp only [Exit.inBlock, Exit.then]
  refine bodyPost_ret_by (results_cell_row rfl _ _ w.heap.size 111 #[.slice a n cap, .map none] (0, 0) _ rfl (heap_alloc_new _ _) Yba.underlying111 rfl Yba.size111) rfl ?_
  exact ⟨rfl, al1 _ _⟩

set_option maxRecDepth 100000 in
theorem new_many (g cap : Nat) (L : List Str) (w : World) (hn : ¬ L.length ≤ 4) (hc : L.length ≤ cap) (hm : cap ≤ maxLen) (hl : g < w.heap.size) (hcell : ∀ j, j < L.length → w.cell? ⟨g, j, none⟩ = some (encStr (L.getD j []))) (hL : ∀ j, (L.getD j []).length ≤ maxLen) :
    Calls Yba.prog 41 #[.slice (some ⟨g, 0, none⟩) L.length cap] w fun e w' => ∃ mv, e = .returned (.agg #[.slice none 0 0, mv]) ∧ SetIs w' (.slice none 0 0) mv (fun x => L.contains x) ∧ Below w.heap.size w w' ∧ setBlk (.slice none 0 0) mv = some (w.heap.size + 1) := by
  have hm2 : L.length ≤ 9223372036854775807 := by have : cap ≤ 9223372036854775807 := hm; omega
  obtain ⟨n, en⟩ : ∃ n, n = L.length := ⟨_, rfl⟩
  rw [← en] at hn hm2 hcell hc ⊢
  have HN : Hid (n = L.length) := en
  have HC : Hid (∀ j, j < n → w.cell? ⟨g, j, none⟩ = some (encStr (L.getD j []))) := hcell
  have HL : Hid (∀ j, (L.getD j []).length ≤ maxLen) := hL
  have hm3 := make109
  clear hcell en hm hL
  go_enter Yba.func41, Yba.ntmps41
  go_wp2
  go_loopw [17] (fun p wr => ∃ k : Nat, p = .int .i64 k ∧ k ≤ n ∧ NewInv w L k wr) (fun p _ => n - (intOf p).toNat)
  case atStart =>
    refine ⟨0, rfl, Nat.zero_le _, ?_⟩
    refine ⟨⟨.map [], ?_, fun x => by simp [Maps.has]⟩, ?_, ?_, (al2 _ _ _).alloc (al2 _ _ _).size _⟩
    · have := World.ownsMap.alloc (World.ownsMap_made (H := Unit) (w.alloc (Obj.cells #[Value.slice none 0 0, Value.map none] 111)) Yba.prog 9 unitElem) (Obj.cells #[Value.slice none 0 0, Value.map (some (w.heap.size + 1))] 111)
      simpa using this
    · rw [Below.heap_alloc _ _ _ (by simp; omega), Below.heap_alloc _ _ _ (by simp), heap_alloc_new]
    · have := heap_alloc_new ((w.alloc (Obj.cells #[Value.slice none 0 0, Value.map none] 111)).alloc (Obj.map #[] 0)) (Obj.cells #[Value.slice none 0 0, Value.map (some (w.heap.size + 1))] 111)
      simpa using this
  case round =>
    obtain ⟨k, rfl, hk, hI⟩ := hrel
    have HI : Hid (NewInv w L k wr) := hI
    obtain ⟨⟨D, ho, hD⟩, h0, h2, hb⟩ := hI
    have c1 : wr.cell? ⟨w.heap.size + 2, 1, none⟩ = some (.map (some (w.heap.size + 1))) := by rw [cell_of_row _ _ _ _ _ _ h2]; rfl
    have c0 : wr.cell? ⟨w.heap.size + 2, 0, none⟩ = some (.slice none 0 0) := by rw [cell_of_row _ _ _ _ _ _ h2]; rfl
    have d1 : wr.cell? ⟨w.heap.size, 1, none⟩ = some (.map none) := by rw [cell_of_row _ _ _ _ _ _ h0]; rfl
    have d0 : wr.cell? ⟨w.heap.size, 0, none⟩ = some (.slice none 0 0) := by rw [cell_of_row _ _ _ _ _ _ h0]; rfl
    have f0 := frozen_of_row wr w.heap.size 0 _ _ h0
    have f1 := frozen_of_row wr w.heap.size 1 _ _ h0
    have HB : Hid (Below w.heap.size w wr) := hb
    have HO : Hid (wr.ownsMap Yba.prog 9 unitElem (w.heap.size + 1) k D) := ho
    have HD : Hid (∀ x : Str, Maps.has D (.string x) = (L.take k).contains x) := hD
    clear h2 ho hD
    have H0 : Hid (wr.heap[w.heap.size]? = some (.cells #[.slice none 0 0, .map none] 111 (0, 0))) := h0
    clear h0
    by_cases hlt : k < n
    · have ck : wr.cell? ⟨g, k, none⟩ = some (encStr (L.getD k [])) := by rw [hb.cell hl]; exact HC.out k hlt
      have hsl := HL.out k
      obtain ⟨s, hs⟩ : ∃ s, s = L.getD k [] := ⟨_, rfl⟩
      rw [← hs] at ck hsl
      have HS : Hid (s = L.getD k []) := hs
      have HSL : Hid (s.length ≤ maxLen) := hsl
      clear hs hb hsl
      go_wp2_with (at_mapUpdate; go_must (refine wpList_mapUpdate_own _ rfl _ _ _ 109 rfl 9 47 law9 Yba.underlying109 unitElem (w.heap.size + 1) k D rfl HO.out (by unfold maxLen; omega) _ _ _ rfl rfl (key9 s HSL.out) _ [] unitElem_mk ?_; intro w1 hown1 hgrow1))
      refine ⟨⟨k + 1, by go_num, by omega, ?_⟩, ?_⟩
      · rw [HS.out] at hown1
        have := HN.out
        exact HI.out.step (by omega) HO.out HD.out hown1 hgrow1
      · simp [intOf]; omega
    · clear hb
      go_wp2
      try simp only [Exit.inBlock, Exit.then]
      refine bodyPost_ret_by (results_cell_row rfl _ _ w.heap.size 111 #[.slice none 0 0, .map (some (w.heap.size + 1))] (0, 0) _ rfl (set2 _ _ _ _ _ _ _ H0.out) Yba.underlying111 rfl Yba.size111) rfl ?_
      refine ⟨_, rfl, .inr ⟨rfl, _, k, D, rfl, ?_, fun x => ?_⟩, ?_, rfl⟩
      · exact (HO.out.setCell (by simp) _).setCell (by simp) _
      · rw [HD.out, List.take_of_length_le (by have := HN.out; omega)]
      · exact (HB.out.setCell (Nat.le_refl _) _).setCell (Nat.le_refl _) _

/-- 'newValueSet'. -/
theorem new_any (v : Value) (B : Nat) (L : List Str) (w : World) (hr : SRow B w v L) (hL : ∀ j, (L.getD j []).length ≤ maxLen) :
    Calls Yba.prog 41 #[v] w fun e w' => ∃ fv mv, e = .returned (.agg #[fv, mv]) ∧ SetIs w' fv mv (fun x => L.contains x) ∧ Below w.heap.size w w' ∧ (setBlk fv mv = v.ownBlock ∨ ∃ b, setBlk fv mv = some b ∧ w.heap.size ≤ b) := by
  have few : ∀ (a : Option Addr) (n cap : Nat), v = .slice a n cap → n ≤ 4 → Calls Yba.prog 41 #[v] w fun e w' => ∃ fv mv, e = .returned (.agg #[fv, mv]) ∧ SetIs w' fv mv (fun x => L.contains x) ∧ Below w.heap.size w w' ∧ (setBlk fv mv = v.ownBlock ∨ ∃ b, setBlk fv mv = some b ∧ w.heap.size ≤ b) :=
    fun a n cap hv hn => (new_few v n cap a w hv hn).mono fun e w' hh => ⟨v, .map none, hh.1, .inl ⟨rfl, L, B, hr.kept (grown_of_below hh.2 none) (by cases v.ownBlock <;> simp), fun x => rfl⟩, hh.2, .inl rfl⟩
  rcases hr.shape with ⟨hv, rfl⟩ | ⟨g, cap, hv, hg, _, hc, hm, hcell⟩
  · exact few none 0 0 hv (by omega)
  · by_cases h4 : L.length ≤ 4
    · exact few _ _ _ hv h4
    · rw [hv]
      exact (new_many g cap L w h4 hc hm hg (fun j hj => (hcell j hj).1) hL).mono fun e w' ⟨mv, h1, h2, h3, h5⟩ => ⟨_, mv, h1, h2, h3, .inr ⟨_, h5, by omega⟩⟩

end Go.Proofs.Ybulkegqe.lawS6647AWhole
