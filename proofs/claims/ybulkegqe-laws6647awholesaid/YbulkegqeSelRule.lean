/-
  DERIVED. '(*ruleBuilder).forbid', 'allow', 'rule'.
-/
import Derived.Test.YbulkegqeSelKept
import Derived.Deep.DrawnRows
import Derived.Deep.RegionHeld3
namespace Go.Proofs.Ybulkegqe.lawS6647AWhole
set_option linter.unusedVariables false
set_option linter.unusedSimpArgs false
open Go.RowKit
attribute [local go_sem ↓] Go.wp_at_zero Go.wp_at_succ

/-- Nothing has turned but the blocks R and new ones. -/
structure Turns (w w' : World) (R : Nat → Prop) : Prop where
  os : w'.os = w.os
  tape : w'.tape = w.tape
  output : w'.output = w.output
  size : w.heap.size ≤ w'.heap.size
  block : ∀ k, k < w.heap.size → ¬ R k → w'.heap[k]? = w.heap[k]?

theorem Turns.of_grown {w w' : World} {row : Option Nat} (h : w.grownBy w' row) : Turns w w' (fun k => row = some k) :=
  ⟨h.os, h.tape, h.output, h.size, fun k hk hn => h.block k hk (fun e => hn e.symm)⟩
theorem Turns.of_below {w w' : World} {R : Nat → Prop} (h : Below w.heap.size w w') : Turns w w' R := ⟨h.os, h.tape, h.output, h.size, fun k hk _ => h.block k hk⟩
theorem Turns.mono {w w' : World} {R R' : Nat → Prop} (h : Turns w w' R) (hR : ∀ k, k < w.heap.size → R k → R' k) : Turns w w' R' := ⟨h.os, h.tape, h.output, h.size, fun k hk hn => h.block k hk (fun hr => hn (hR k hk hr))⟩
theorem Turns.trans {a b c : World} {R R' : Nat → Prop} (h : Turns a b R) (h' : Turns b c R') (hR : ∀ k, k < a.heap.size → R' k → R k) : Turns a c R :=
  ⟨h'.os.trans h.os, h'.tape.trans h.tape, h'.output.trans h.output, Nat.le_trans h.size h'.size, fun k hk hn => (h'.block k (Nat.lt_of_lt_of_le hk h.size) (fun hr => hn (hR k hk hr))).trans (h.block k hk hn)⟩
theorem Turns.setCell {a b : World} {R : Nat → Prop} (h : Turns a b R) (p : Addr) (u : Value) (hp : p.block < a.heap.size → R p.block) : Turns a (b.setCell p u) R :=
  ⟨h.os, h.tape, h.output, by simpa using h.size, fun k hk hn => by
    rw [heap_setCell_other _ _ _ _ (fun e => hn (by subst e; exact hp hk))]
    exact h.block k hk hn⟩

theorem ownsRow_same {w w' : World} {B : Nat} {e : TypeId} {size : Nat} {v : Value} {n : Nat} {xs : List Value} (h : w.ownsRow B e size v n xs) (hh : ∀ k, v.ownBlock = some k → w'.heap[k]? = w.heap[k]?) : w'.ownsRow B e size v n xs := by
  refine ⟨h.1, ?_⟩
  rcases h.2 with h2 | ⟨g, cap, cur, rfl, hg, hh2, r⟩
  · exact .inl h2
  · exact .inr ⟨g, cap, cur, rfl, hg, by rw [hh g rfl]; exact hh2, r⟩
theorem SRow.same {w w' : World} {B : Nat} {v : Value} {L : List Str} (h : SRow B w v L) (hh : ∀ k, v.ownBlock = some k → w'.heap[k]? = w.heap[k]?) : SRow B w' v L := ownsRow_same h hh
theorem SRow.turns {w w' : World} {B : Nat} {v : Value} {L : List Str} {R : Nat → Prop} (h : SRow B w v L) (ht : Turns w w' R) (hR : ∀ k, v.ownBlock = some k → ¬ R k) : SRow B w' v L :=
  h.same fun k hk => ht.block k (h.lt k hk).2 (hR k hk)
theorem SetIs.turns {w w' : World} {fv mv : Value} {S : Str → Bool} {R : Nat → Prop} (h : SetIs w fv mv S) (ht : Turns w w' R) (hR : ∀ k, setBlk fv mv = some k → ¬ R k) : SetIs w' fv mv S := by
  have hl := h.lt
  rcases h with ⟨rfl, L, B, hr, hS⟩ | ⟨rfl, b, n, D, rfl, ho, hS⟩
  · exact .inl ⟨rfl, L, B, hr.turns ht hR, hS⟩
  · obtain ⟨es, clock, hb, r⟩ := ho
    exact .inr ⟨rfl, b, n, D, rfl, ⟨es, clock, by rw [ht.block b (hl b rfl) (hR b rfl)]; exact hb, r⟩, hS⟩

theorem SRow.slice {w : World} {B : Nat} {v : Value} {L : List Str} (h : SRow B w v L) : ∃ a n c, v = .slice a n c := by
  rcases h.2 with ⟨h, _⟩ | ⟨g, cap, cur, h, _⟩
  · exact ⟨_, _, _, h⟩
  · exact ⟨_, _, _, h⟩
theorem cell_add (g j : Nat) : (⟨g, 0, none⟩ : Addr).add j = ⟨g, j, none⟩ := by
  rw [Go.WideShapes.add_plain, Nat.zero_add]

theorem srow_cells {w : World} {B g n cap : Nat} {L : List Str} (h : SRow B w (.slice (some ⟨g, 0, none⟩) n cap) L) : ∀ j u, (L.map encStr)[j]? = some u → w.cell? ((⟨g, 0, none⟩ : Addr).add j) = some u :=
  World.ownsRow.cells h rfl

theorem enc_one (L : List Str) : ∀ u ∈ L.map encStr, u.oneCell' = true := by
  intro u hu
  obtain ⟨x, _, rfl⟩ := List.mem_map.1 hu
  rfl

/-- 'append(s, values...)' on strings. -/
theorem ap_strs (w : World) {ops : Array Oper} {rest : List Oper} {o : Oper} {a : Act} {Q : Exit → Act → World → Prop} (hgd : o.guard = none) (s x : Operand)
    (ho : o.op = .call { callee := .builtin .append, args := #[s, x], argTypes := #[28, 28] })
    (B : Nat) (hB : B ≤ w.heap.size) (v : Value) (L : List Str) (hs : a.eval s = v) (hown : SRow B w v L) (A g m c : Nat) (M : List Str) (hx : a.eval x = .slice (some ⟨g, 0, none⟩) m c) (hM : SRow A w (.slice (some ⟨g, 0, none⟩) m c) M)
    (hsz : L.length + M.length ≤ 4194304)
    (h : ∀ v' w', SRow B w' v' (L ++ M) → w.grownBy w' v.ownBlock → (v'.ownBlock = v.ownBlock ∨ v'.ownBlock = some w.heap.size) → wpList Yba.prog ops Q rest (a.put o.dst v') w') : wpList Yba.prog ops Q (o :: rest) a w := by
  obtain ⟨i9, hi9, hz0, hz1, hz2⟩ := info_parts Yba.info9
  have hm : m = M.length := by
    rcases hM.2 with ⟨h, _⟩ | ⟨g', cap, cur, hv, _⟩
    · cases h
    · cases hv; rfl
  subst hm
  refine wpList_append_own_at w hgd s x 28 ho B 9 i9 (.string ByteArray.empty) 1 16 Yba.underlying28 hi9 hz0 hz1 hz2 rfl (by decide) v L.length (L.map encStr) hs hown ⟨g, 0, none⟩ M.length c (M.map encStr) hx (by simp) (srow_cells hM) (enc_one M) (by unfold maxLen; omega) (by omega) hB ?_
  intro v' w' ho' hg _ hloc
  refine h v' w' ?_ hg hloc
  unfold SRow
  rw [List.length_append, List.map_append]
  exact ho'

/-- A rule builder in its row. -/
def RB (w : World) (gr o : Nat) (iv : Value) (res : Bool) (nv : Value) : Prop :=
  ∃ cs : Array Value, w.heap[gr]? = some (.cells cs 117 (0, 0)) ∧ cs[o]? = some iv ∧ cs[o + 1]? = some (.bool res) ∧ cs[o + 2]? = some nv

theorem RB.cells {w : World} {gr o : Nat} {iv nv : Value} {res : Bool} (h : RB w gr o iv res nv) :
    w.cell? ⟨gr, o, none⟩ = some iv ∧ w.cell? ⟨gr, o + 1, none⟩ = some (.bool res) ∧ w.cell? ⟨gr, o + 2, none⟩ = some nv ∧ w.frozen? ⟨gr, o, none⟩ = false ∧ w.frozen? ⟨gr, o + 1, none⟩ = false ∧ w.frozen? ⟨gr, o + 2, none⟩ = false := by
  obtain ⟨cs, hh, h0, h1, h2⟩ := h
  refine ⟨?_, ?_, ?_, frozen_of_row _ _ _ _ _ hh, frozen_of_row _ _ _ _ _ hh, frozen_of_row _ _ _ _ _ hh⟩ <;> rw [cell_of_row _ _ _ _ _ _ hh] <;> assumption
theorem RB.same {w w' : World} {gr o : Nat} {iv nv : Value} {res : Bool} (h : RB w gr o iv res nv) (hh : w'.heap[gr]? = w.heap[gr]?) : RB w' gr o iv res nv := by
  obtain ⟨cs, h1, r⟩ := h
  exact ⟨cs, hh.trans h1, r⟩
theorem RB.lt {w : World} {gr o : Nat} {iv nv : Value} {res : Bool} (h : RB w gr o iv res nv) : gr < w.heap.size := by
  obtain ⟨cs, h1, r⟩ := h
  exact (Array.getElem?_eq_some_iff.1 h1).1

set_option maxRecDepth 100000 in
theorem forbid_any (gr o B A g m c : Nat) (iv nv : Value) (res : Bool) (nl vl : List Str) (w : World) (hB : B ≤ w.heap.size) (hR : RB w gr o iv res nv) (hn : SRow B w nv nl) (hne : nv.ownBlock ≠ some gr) (hv : SRow A w (.slice (some ⟨g, 0, none⟩) m c) vl) (hsz : nl.length + vl.length ≤ 4194304) :
    Calls Yba.prog 14 #[.pointer (some ⟨gr, o, none⟩), .slice (some ⟨g, 0, none⟩) m c] w fun e w' => e = .returned (.tuple #[]) ∧ ∃ w1 nv', w' = w1.setCell ⟨gr, o + 2, none⟩ nv' ∧ SRow B w1 nv' (nl ++ vl) ∧ w.grownBy w1 nv.ownBlock ∧ (nv'.ownBlock = nv.ownBlock ∨ nv'.ownBlock = some w.heap.size) := by
  obtain ⟨c0, c1, c2, f0, f1, f2⟩ := hR.cells
  have HR : Hid (RB w gr o iv res nv) := hR
  have HN : Hid (SRow B w nv nl) := hn
  have HV : Hid (SRow A w (.slice (some ⟨g, 0, none⟩) m c) vl) := hv
  have HNE : Hid (nv.ownBlock ≠ some gr) := hne
  have HSZ : Hid (nl.length + vl.length ≤ 4194304) := hsz
  clear hR hn hv hne hsz
  go_enter Yba.func14, Yba.ntmps14
  go_wp2_with (at_builtin; go_must (refine ap_strs _ rfl _ _ rfl B hB nv nl rfl HN.out A g m c vl rfl HV.out HSZ.out ?_; intro v' w1 ho' hg hloc; obtain ⟨sa, sn, sc, rfl⟩ := ho'.slice; obtain ⟨d0, d1, d2, e0, e1, e2⟩ := (HR.out.same (hg.block gr HR.out.lt (fun e => HNE.out e.symm))).cells; have HO : Hid (SRow B w1 (.slice sa sn sc) (nl ++ vl)) := ho'; have HG : Hid (w.grownBy w1 nv.ownBlock) := hg; have HLOC : Hid ((Value.slice sa sn sc).ownBlock = nv.ownBlock ∨ (Value.slice sa sn sc).ownBlock = some w.heap.size) := hloc; clear ho' hg hloc))
  go_end0
  exact ⟨rfl, w1, _, rfl, HO.out, HG.out, HLOC.out⟩

set_option maxRecDepth 100000 in
theorem allow_first (gr o B A g m c : Nat) (iv nv : Value) (vl : List Str) (w : World) (hB : B ≤ w.heap.size) (hR : RB w gr o iv false nv) (hv : SRow A w (.slice (some ⟨g, 0, none⟩) m c) vl) (hsz : vl.length ≤ 4194304) :
    Calls Yba.prog 15 #[.pointer (some ⟨gr, o, none⟩), .slice (some ⟨g, 0, none⟩) m c] w fun e w' => e = .returned (.tuple #[]) ∧ ∃ w1 iv', w' = (w1.setCell ⟨gr, o, none⟩ iv').setCell ⟨gr, o + 1, none⟩ (.bool true) ∧ SRow B w1 iv' vl ∧ w.grownBy w1 none ∧ (iv'.ownBlock = none ∨ iv'.ownBlock = some w.heap.size) := by
  obtain ⟨c0, c1, c2, f0, f1, f2⟩ := hR.cells
  have HR : Hid (RB w gr o iv false nv) := hR
  have HV : Hid (SRow A w (.slice (some ⟨g, 0, none⟩) m c) vl) := hv
  have HSZ : Hid (vl.length ≤ 4194304) := hsz
  clear hR hv hsz
  go_enter Yba.func15, Yba.ntmps15
  go_wp2_with (at_builtin; go_must (refine ap_strs _ rfl _ _ rfl B hB (.slice none 0 0) [] rfl (World.ownsRow_nil _ _ _ _) A g m c vl rfl HV.out (by have := HSZ.out; simpa using this) ?_; intro v' w1 ho' hg hloc; obtain ⟨sa, sn, sc, rfl⟩ := ho'.slice; obtain ⟨d0, d1, d2, e0, e1, e2⟩ := (HR.out.same (hg.block gr HR.out.lt (by simp [Value.ownBlock]))).cells; have HO : Hid (SRow B w1 (.slice sa sn sc) ([] ++ vl)) := ho'; have HG : Hid (w.grownBy w1 none) := hg; have HLOC : Hid ((Value.slice sa sn sc).ownBlock = none ∨ (Value.slice sa sn sc).ownBlock = some w.heap.size) := hloc; clear ho' hg hloc))
  try simp only [Exit.inBlock, Exit.then]
  refine bodyPost_ret (results_none rfl _ _ _) rfl ?_
  exact ⟨rfl, w1, _, rfl, HO.out, HG.out, HLOC.out⟩

theorem apart_set {w : World} {B g m c : Nat} {iv fv mv : Value} {il : List Str} (hi : SRow B w iv il) (hne : iv.ownBlock ≠ some g) (h : setBlk fv mv = (Value.slice (some ⟨g, 0, none⟩) m c).ownBlock ∨ ∃ b, setBlk fv mv = some b ∧ w.heap.size ≤ b) : iv.ownBlock = none ∨ setBlk fv mv ≠ iv.ownBlock := by
  refine .inr fun e => ?_
  rcases h with h | ⟨b, h, hb⟩
  · exact hne (by rw [← e, h]; rfl)
  · have := (hi.lt b (by rw [← e, h])).2
    omega

set_option maxRecDepth 100000 in
theorem allow_more (gr o B A g m c : Nat) (iv nv : Value) (il vl : List Str) (w : World) (hB : B ≤ w.heap.size) (hR : RB w gr o iv true nv) (hi : SRow B w iv il) (hne : iv.ownBlock ≠ some gr) (hne2 : iv.ownBlock ≠ some g) (hv : SRow A w (.slice (some ⟨g, 0, none⟩) m c) vl) (hvl : ∀ j, (vl.getD j []).length ≤ maxLen) (hil : ∀ j, (il.getD j []).length ≤ maxLen) :
    Calls Yba.prog 15 #[.pointer (some ⟨gr, o, none⟩), .slice (some ⟨g, 0, none⟩) m c] w fun e w' => e = .returned (.tuple #[]) ∧ ∃ w1 iv', w' = w1.setCell ⟨gr, o, none⟩ iv' ∧ SRow B w1 iv' (il.filter fun x => vl.contains x) ∧ w.grownBy w1 iv.ownBlock ∧ iv'.ownBlock = iv.ownBlock := by
  obtain ⟨c0, c1, c2, f0, f1, f2⟩ := hR.cells
  have HR : Hid (RB w gr o iv true nv) := hR
  have HI : Hid (SRow B w iv il) := hi
  have HV : Hid (SRow A w (.slice (some ⟨g, 0, none⟩) m c) vl) := hv
  have HNE : Hid (iv.ownBlock ≠ some gr) := hne
  have HNE2 : Hid (iv.ownBlock ≠ some g) := hne2
  have HVL : Hid (∀ j, (vl.getD j []).length ≤ maxLen) := hvl
  have HIL : Hid (∀ j, (il.getD j []).length ≤ maxLen) := hil
  obtain ⟨ia, inn, ic, hiv⟩ := hi.slice
  subst hiv
  clear hR hv hi hne hne2 hvl hil
  go_enter Yba.func15, Yba.ntmps15
  go_upto_region 2 with fail
  go_region_with (first
    | (go_at_call 40; have K1 := HS; go_must (refine (kept_any (.slice ia inn ic) B il _ _ _ true _ HI1.out HS.out HNB.out HIL.out).mono ?_; rintro e w2 ⟨v', rfl, hr2, hg2, hb2⟩; obtain ⟨sa, sn, sc, rfl⟩ := hr2.slice; obtain ⟨d0, d1, d2, e0, e1, e2⟩ := (HR1.out.same (hg2.block gr HR1.out.lt (fun e => HNE.out e.symm))).cells; have HO : Hid (SRow B w2 (.slice sa sn sc) (il.filter fun x => vl.contains x == true)) := hr2; have HG2 : Hid (w.grownBy w2 (Value.slice ia inn ic).ownBlock) := HG1.out.trans hg2; have HLOC : Hid ((Value.slice sa sn sc).ownBlock = (Value.slice ia inn ic).ownBlock) := hb2; clear hr2 hg2 hb2))
    | (go_at_call 41; go_must (refine (new_any (.slice (some ⟨g, 0, none⟩) m c) A vl _ ?_ HVL.out).mono ?_; (exact HV.out); rintro e w1 ⟨fv, mv, rfl, hs1, hb1, hl1⟩; replace hb1 : Below w.heap.size w w1 := (Below.refl _ w).drew.trans hb1; have HS : Hid (SetIs w1 fv mv fun x => vl.contains x) := hs1; have HI1 : Hid (SRow B w1 (.slice ia inn ic) il) := HI.out.kept (grown_of_below hb1 none) (by cases (Value.slice ia inn ic).ownBlock <;> simp); have HR1 : Hid (RB w1 gr o (.slice ia inn ic) true nv) := HR.out.same (hb1.block gr HR.out.lt); have HNB : Hid ((Value.slice ia inn ic).ownBlock = none ∨ setBlk fv mv ≠ (Value.slice ia inn ic).ownBlock) := apart_set HI.out HNE2.out hl1; have HG1 : Hid (w.grownBy w1 (Value.slice ia inn ic).ownBlock) := grown_of_below hb1 _; obtain ⟨d0, d1, d2, e0, e1, e2⟩ := HR1.out.cells; clear hs1 hb1 hl1)))
  all_goals (refine bodyPost_end (results_none rfl _ _ _) rfl ?_; exact ⟨rfl, w2, _, rfl, (by simpa using HO.out), HG2.out, HLOC.out⟩)

theorem Yba.size113 : (Yba.prog.info? 113).map (·.size) = some 3 := by kernel_rfl

theorem set3 (w : World) (g : Nat) (p q r x y z : Value) (t : TypeId) (h : w.heap[g]? = some (.cells #[p, q, r] t (0, 0))) : (((w.setCell ⟨g, 0, none⟩ x).setCell ⟨g, 1, none⟩ y).setCell ⟨g, 2, none⟩ z).heap[g]? = some (.cells #[x, y, z] t (0, 0)) := by
  rw [heap_setCell_same _ g 2 _ t z (heap_setCell_same _ g 1 _ t y (heap_setCell_same w g 0 _ t x h))]
  simp

/-- What 'rule' gives. -/
def RuleSet (res : Bool) (il nl : List Str) : Str → Bool := fun x => if res then (il.filter fun y => nl.contains y == false).contains x else nl.contains x

theorem SetIs.shape {w : World} {fv mv : Value} {S : Str → Bool} (h : SetIs w fv mv S) : ∃ a n c mo, fv = .slice a n c ∧ mv = .map mo := by
  rcases h with ⟨rfl, L, B, hr, hS⟩ | ⟨rfl, b, n, D, rfl, ho, hS⟩
  · obtain ⟨a, n, c, h⟩ := hr.slice
    exact ⟨a, n, c, none, h, rfl⟩
  · exact ⟨_, _, _, _, rfl, rfl⟩
theorem cells3 {w : World} {g : Nat} {x y z : Value} {t : TypeId} (h : w.heap[g]? = some (.cells #[x, y, z] t (0, 0))) :
    w.cell? ⟨g, 0, none⟩ = some x ∧ w.cell? ⟨g, 1, none⟩ = some y ∧ w.cell? ⟨g, 2, none⟩ = some z ∧ w.frozen? ⟨g, 0, none⟩ = false ∧ w.frozen? ⟨g, 1, none⟩ = false ∧ w.frozen? ⟨g, 2, none⟩ = false := by
  refine ⟨?_, ?_, ?_, frozen_of_row _ _ _ _ _ h, frozen_of_row _ _ _ _ _ h, frozen_of_row _ _ _ _ _ h⟩ <;> rw [cell_of_row _ _ _ _ _ _ h] <;> rfl
theorem start3 {w w1 : World} {o : Obj} (hb : Below (w.alloc o).heap.size (w.alloc o) w1) : w1.heap[w.heap.size]? = some o := by
  rw [hb.block _ (by simp)]
  exact heap_alloc_new _ _
theorem old3 {w w1 : World} {o : Obj} (hb : Below (w.alloc o).heap.size (w.alloc o) w1) : Below w.heap.size w w1 := (al1 w o).trans (hb.mono (by simp))
theorem late3 {w : World} {o : Obj} {p : Prop} {x : Option Nat} (h : p ∨ ∃ b, x = some b ∧ (w.alloc o).heap.size ≤ b) : p ∨ ∃ b, x = some b ∧ w.heap.size < b := by
  rcases h with h | ⟨b, h, hb⟩
  · exact .inl h
  · exact .inr ⟨b, h, by simp at hb; omega⟩

/-- Behind 'notIn := newValueSet(b.notIn)': the result's block, the box's block bx. -/
structure RInv (w w2 : World) (bx gr o B : Nat) (iv : Value) (res : Bool) (nv fv mv : Value) (nl : List Str) : Prop where
  rb : RB w2 gr o iv res nv
  res : w2.heap[w.heap.size]? = some (.cells #[.slice none 0 0, .map none, .bool false] 113 (0, 0))
  box : w2.heap[bx]? = some (.cells #[fv, mv] 111 (0, 0))
  old : Below w.heap.size w w2
  set : SetIs w2 fv mv (fun x => nl.contains x)
  far : setBlk fv mv = nv.ownBlock ∨ ∃ b, setBlk fv mv = some b ∧ w.heap.size < b

theorem RInv.start {w w1 : World} {gr o B : Nat} {iv nv fv mv : Value} {res : Bool} {nl : List Str} (hR : RB w gr o iv res nv) (hs : SetIs w1 fv mv (fun x => nl.contains x)) (hb : Below (w.alloc (.cells #[.slice none 0 0, .map none, .bool false] 113)).heap.size (w.alloc (.cells #[.slice none 0 0, .map none, .bool false] 113)) w1)
    (hl : setBlk fv mv = nv.ownBlock ∨ ∃ b, setBlk fv mv = some b ∧ (w.alloc (.cells #[.slice none 0 0, .map none, .bool false] 113)).heap.size ≤ b) : RInv w (w1.alloc (.cells #[fv, mv] 111)) w1.heap.size gr o B iv res nv fv mv nl := by
  have hq := start3 hb
  have z1 := (Array.getElem?_eq_some_iff.1 hq).1
  have hgr := hR.lt
  refine ⟨?_, ?_, heap_alloc_new _ _, (old3 hb).alloc (old3 hb).size _, hs.below (al1 _ _), late3 hl⟩
  · refine hR.same ?_
    rw [Below.heap_alloc _ _ _ (by omega)]
    exact (old3 hb).block gr hgr
  · rw [Below.heap_alloc _ _ _ z1]
    exact hq
theorem cells2 {w : World} {g : Nat} {x y : Value} {t : TypeId} (h : w.heap[g]? = some (.cells #[x, y] t (0, 0))) : w.cell? ⟨g, 0, none⟩ = some x ∧ w.cell? ⟨g, 1, none⟩ = some y := by
  refine ⟨?_, ?_⟩ <;> rw [cell_of_row _ _ _ _ _ _ h] <;> rfl

set_option maxRecDepth 100000 in
set_option maxHeartbeats 1600000 in
theorem rule_free (gr o B : Nat) (iv nv : Value) (nl : List Str) (w : World) (hR : RB w gr o iv false nv) (hn : SRow B w nv nl) (hnl : ∀ j, (nl.getD j []).length ≤ maxLen) :
    Calls Yba.prog 16 #[.pointer (some ⟨gr, o, none⟩)] w fun e w' => ∃ fv mv, e = .returned (.agg #[fv, mv, .bool false]) ∧ SetIs w' fv mv (fun x => nl.contains x) ∧ Below w.heap.size w w' ∧ (setBlk fv mv = nv.ownBlock ∨ ∃ b, setBlk fv mv = some b ∧ w.heap.size ≤ b) := by
  obtain ⟨na, nn, nc, rfl⟩ := hn.slice
  obtain ⟨c0, c1, c2, f0, f1, f2⟩ := hR.cells
  have hlt := hR.lt
  have HR : Hid (RB w gr o iv false (.slice na nn nc)) := hR
  have HN : Hid (SRow B w (.slice na nn nc) nl) := hn
  have HNL : Hid (∀ j, (nl.getD j []).length ≤ maxLen) := hnl
  clear hR hn hnl
  go_enter Yba.func16, Yba.ntmps16
  go_upto_region 2 with (go_at_call 41; go_must (refine (new_any (.slice na nn nc) B nl _ ?_ HNL.out).mono ?_; (exact HN.out.kept (World.grownBy_alloc _ _ none) (by cases (Value.slice na nn nc).ownBlock <;> simp)); rintro e w1 ⟨fv, mv, rfl, hs1, hb1, hl1⟩; obtain ⟨fa, fn, fc, mo, rfl, rfl⟩ := hs1.shape; have HH : Hid (RInv w (w1.alloc (.cells #[.slice fa fn fc, .map mo] 111)) w1.heap.size gr o B iv false (.slice na nn nc) (.slice fa fn fc) (.map mo) nl) := RInv.start HR.out hs1 hb1 hl1; clear hs1 hb1 hl1))
  obtain ⟨w2, hw2⟩ : ∃ x, x = w1.alloc (.cells #[.slice fa fn fc, .map mo] 111) := ⟨_, rfl⟩
  obtain ⟨bx, hbx⟩ : ∃ x, x = w1.heap.size := ⟨_, rfl⟩
  rw [← hw2, ← hbx] at HH ⊢
  clear hw2 hbx c0 c1 c2 f0 f1 f2
  obtain ⟨r0, r1, r2, s0, s1, s2⟩ := cells3 HH.out.res
  obtain ⟨b0, b1⟩ := cells2 HH.out.box
  obtain ⟨d0, d1, d2, e0, e1, e2⟩ := HH.out.rb.cells
  go_wp2
  try simp only [Exit.inBlock, Exit.then]
  refine bodyPost_ret_by (results_cell_row rfl _ _ w.heap.size 113 #[.slice fa fn fc, .map mo, .bool false] (0, 0) _ rfl (set3 _ _ _ _ _ _ _ _ _ HH.out.res) Yba.underlying113 rfl Yba.size113) rfl ?_
  refine ⟨_, _, rfl, ?_, ?_, ?_⟩
  · have ht : Turns w2 (((w2.setCell ⟨w.heap.size, 0, none⟩ (.slice fa fn fc)).setCell ⟨w.heap.size, 1, none⟩ (.map mo)).setCell ⟨w.heap.size, 2, none⟩ (.bool false)) (fun k => k = w.heap.size) := (((Turns.of_below (R := fun k => k = w.heap.size) (Below.refl _ _)).setCell ⟨w.heap.size, 0, none⟩ (.slice fa fn fc) (fun _ => rfl)).setCell ⟨w.heap.size, 1, none⟩ (.map mo) (fun _ => rfl)).setCell ⟨w.heap.size, 2, none⟩ (.bool false) (fun _ => rfl)
    refine HH.out.set.turns ht (fun k hk hkk => ?_)
    subst hkk
    rcases HH.out.far with h | ⟨b, h, hb⟩
    · rw [h] at hk
      exact absurd (HN.out.lt _ hk).2 (Nat.lt_irrefl _)
    · rw [h] at hk
      cases hk
      exact absurd hb (Nat.lt_irrefl _)
  · exact ((HH.out.old.setCell (p := ⟨w.heap.size, 0, none⟩) (Nat.le_refl _) _).setCell (p := ⟨w.heap.size, 1, none⟩) (Nat.le_refl _) _).setCell (p := ⟨w.heap.size, 2, none⟩) (Nat.le_refl _) _
  · rcases HH.out.far with h | ⟨b, h, hb⟩
    · exact .inl h
    · exact .inr ⟨b, h, Nat.le_of_lt hb⟩

theorem getD_filter (il : List Str) (p : Str → Bool) (h : ∀ j, (il.getD j []).length ≤ maxLen) : ∀ j, ((il.filter p).getD j []).length ≤ maxLen := by
  intro j
  by_cases hj : j < (il.filter p).length
  · have hm : (il.filter p)[j] ∈ il := (List.mem_filter.1 (List.getElem_mem hj)).1
    obtain ⟨i, hi, e⟩ := List.getElem_of_mem hm
    have := h i
    rw [show il.getD i [] = il[i] by simp [List.getD, hi], e] at this
    rw [show (il.filter p).getD j [] = (il.filter p)[j] by simp [List.getD, hj]]
    exact this
  · rw [show (il.filter p).getD j [] = [] by simp [List.getD, List.getElem?_eq_none (Nat.le_of_not_lt hj)]]
    simp

/-- Behind 'kept' and the second 'newValueSet'. -/
structure RFin (w w4 : World) (iv fv mv : Value) (T : List Str) : Prop where
  res : w4.heap[w.heap.size]? = some (.cells #[.slice none 0 0, .map none, .bool false] 113 (0, 0))
  old : Turns w w4 (fun k => iv.ownBlock = some k)
  set : SetIs w4 fv mv (fun x => T.contains x)
  far : setBlk fv mv = iv.ownBlock ∨ ∃ b, setBlk fv mv = some b ∧ w.heap.size < b

theorem RFin.make {w w2 w3 w4 : World} {bx gr o B : Nat} {iv nv fv mv fv2 mv2 v' : Value} {res : Bool} {nl il T : List Str} (h : RInv w w2 bx gr o B iv res nv fv mv nl) (hi : SRow B w iv il) (hg : w2.grownBy w3 iv.ownBlock) (hv : v'.ownBlock = iv.ownBlock)
    (hb : Below w3.heap.size w3 w4) (hs : SetIs w4 fv2 mv2 (fun x => T.contains x)) (hl : setBlk fv2 mv2 = v'.ownBlock ∨ ∃ b, setBlk fv2 mv2 = some b ∧ w3.heap.size ≤ b) : RFin w w4 iv fv2 mv2 T := by
  have z2 := (Array.getElem?_eq_some_iff.1 h.res).1
  have z3 : w.heap.size < w3.heap.size := Nat.lt_of_lt_of_le z2 hg.size
  refine ⟨?_, ?_, hs, ?_⟩
  · rw [hb.block _ z3, hg.block _ z2 (fun e => absurd (hi.lt _ e.symm).2 (Nat.lt_irrefl _))]
    exact h.res
  · exact ((Turns.of_below h.old).trans (Turns.of_grown hg) (fun k _ e => e)).trans (Turns.of_below (R := fun k => iv.ownBlock = some k) hb) (fun k _ e => e)
  · rcases hl with h | ⟨b, h, hb⟩
    · exact .inl (h.trans hv)
    · exact .inr ⟨b, h, by omega⟩

theorem RFin.ends {w w4 : World} {B : Nat} {iv fv mv : Value} {il T : List Str} (h : RFin w w4 iv fv mv T) (hi : SRow B w iv il) :
    ∃ fv' mv', Ending.returned (.agg #[fv, mv, .bool true]) = .returned (.agg #[fv', mv', .bool true]) ∧ SetIs (((w4.setCell ⟨w.heap.size, 0, none⟩ fv).setCell ⟨w.heap.size, 1, none⟩ mv).setCell ⟨w.heap.size, 2, none⟩ (.bool true)) fv' mv' (fun x => T.contains x) ∧
      Turns w (((w4.setCell ⟨w.heap.size, 0, none⟩ fv).setCell ⟨w.heap.size, 1, none⟩ mv).setCell ⟨w.heap.size, 2, none⟩ (.bool true)) (fun k => iv.ownBlock = some k) ∧ (setBlk fv' mv' = iv.ownBlock ∨ ∃ b, setBlk fv' mv' = some b ∧ w.heap.size ≤ b) := by
  refine ⟨fv, mv, rfl, ?_, ?_, ?_⟩
  · have ht : Turns w4 (((w4.setCell ⟨w.heap.size, 0, none⟩ fv).setCell ⟨w.heap.size, 1, none⟩ mv).setCell ⟨w.heap.size, 2, none⟩ (.bool true)) (fun k => k = w.heap.size) := (((Turns.of_below (R := fun k => k = w.heap.size) (Below.refl _ _)).setCell ⟨w.heap.size, 0, none⟩ fv (fun _ => rfl)).setCell ⟨w.heap.size, 1, none⟩ mv (fun _ => rfl)).setCell ⟨w.heap.size, 2, none⟩ (.bool true) (fun _ => rfl)
    refine h.set.turns ht (fun k hk hkk => ?_)
    subst hkk
    rcases h.far with h' | ⟨b, h', hb⟩
    · rw [h'] at hk
      exact absurd (hi.lt _ hk).2 (Nat.lt_irrefl _)
    · rw [h'] at hk
      cases hk
      exact absurd hb (Nat.lt_irrefl _)
  · exact ((h.old.setCell ⟨w.heap.size, 0, none⟩ fv (fun e => absurd e (Nat.lt_irrefl _))).setCell ⟨w.heap.size, 1, none⟩ mv (fun e => absurd e (Nat.lt_irrefl _))).setCell ⟨w.heap.size, 2, none⟩ (.bool true) (fun e => absurd e (Nat.lt_irrefl _))
  · rcases h.far with h | ⟨b, h, hb⟩
    · exact .inl h
    · exact .inr ⟨b, h, Nat.le_of_lt hb⟩

set_option maxRecDepth 100000 in
set_option maxHeartbeats 1600000 in
theorem rule_in (gr o B : Nat) (iv nv : Value) (il nl : List Str) (w : World) (hR : RB w gr o iv true nv) (hi : SRow B w iv il) (hn : SRow B w nv nl) (hne : iv.ownBlock ≠ some gr) (hne2 : iv.ownBlock = none ∨ nv.ownBlock ≠ iv.ownBlock) (hnl : ∀ j, (nl.getD j []).length ≤ maxLen) (hil : ∀ j, (il.getD j []).length ≤ maxLen) :
    Calls Yba.prog 16 #[.pointer (some ⟨gr, o, none⟩)] w fun e w' => ∃ fv mv, e = .returned (.agg #[fv, mv, .bool true]) ∧ SetIs w' fv mv (fun x => (il.filter fun y => nl.contains y == false).contains x) ∧ Turns w w' (fun k => iv.ownBlock = some k) ∧ (setBlk fv mv = iv.ownBlock ∨ ∃ b, setBlk fv mv = some b ∧ w.heap.size ≤ b) := by
  obtain ⟨na, nn, nc, rfl⟩ := hn.slice
  obtain ⟨ia, inn, ic, rfl⟩ := hi.slice
  obtain ⟨c0, c1, c2, f0, f1, f2⟩ := hR.cells
  have hlt := hR.lt
  have HR : Hid (RB w gr o (.slice ia inn ic) true (.slice na nn nc)) := hR
  have HN : Hid (SRow B w (.slice na nn nc) nl) := hn
  have HI : Hid (SRow B w (.slice ia inn ic) il) := hi
  have HNL : Hid (∀ j, (nl.getD j []).length ≤ maxLen) := hnl
  have HIL : Hid (∀ j, (il.getD j []).length ≤ maxLen) := hil
  have HNE : Hid ((Value.slice ia inn ic).ownBlock ≠ some gr) := hne
  have HNE2 : Hid ((Value.slice ia inn ic).ownBlock = none ∨ (Value.slice na nn nc).ownBlock ≠ (Value.slice ia inn ic).ownBlock) := hne2
  clear hR hn hnl hi hil hne hne2
  go_enter Yba.func16, Yba.ntmps16
  go_upto_region 2 with (go_at_call 41; go_must (refine (new_any (.slice na nn nc) B nl _ ?_ HNL.out).mono ?_; (exact HN.out.kept (World.grownBy_alloc _ _ none) (by cases (Value.slice na nn nc).ownBlock <;> simp)); rintro e w1 ⟨fv, mv, rfl, hs1, hb1, hl1⟩; obtain ⟨fa, fn, fc, mo, rfl, rfl⟩ := hs1.shape; have HH : Hid (RInv w (w1.alloc (.cells #[.slice fa fn fc, .map mo] 111)) w1.heap.size gr o B (.slice ia inn ic) true (.slice na nn nc) (.slice fa fn fc) (.map mo) nl) := RInv.start HR.out hs1 hb1 hl1; clear hs1 hb1 hl1))
  obtain ⟨w2, hw2⟩ : ∃ x, x = w1.alloc (.cells #[.slice fa fn fc, .map mo] 111) := ⟨_, rfl⟩
  obtain ⟨bx, hbx⟩ : ∃ x, x = w1.heap.size := ⟨_, rfl⟩
  rw [← hw2, ← hbx] at HH ⊢
  clear hw2 hbx c0 c1 c2 f0 f1 f2
  obtain ⟨b0, b1⟩ := cells2 HH.out.box
  obtain ⟨d0, d1, d2, e0, e1, e2⟩ := HH.out.rb.cells
  have HI2 : Hid (SRow B w2 (.slice ia inn ic) il) := HI.out.turns (Turns.of_below (R := fun _ => False) HH.out.old) (fun _ _ h => h)
  have HAP : Hid ((Value.slice ia inn ic).ownBlock = none ∨ setBlk (.slice fa fn fc) (.map mo) ≠ (Value.slice ia inn ic).ownBlock) := by
    rcases HNE2.out with h | h
    · exact .inl h
    · refine .inr fun e => ?_
      rcases HH.out.far with h' | ⟨b, h', hb⟩
      · exact h (h'.symm.trans e)
      · have := (HI.out.lt b (by rw [← e, h'])).2
        omega
  go_upto_region 4 with fail
  go_region_with (first
    | (go_at_call 40; go_must (refine (kept_any (.slice ia inn ic) B il _ _ (fun x => nl.contains x) false w2.drew HI2.out HH.out.set HAP.out HIL.out).mono ?_; rintro e w3 ⟨v', rfl, hr2, hg2, hb2⟩; obtain ⟨sa, sn, sc, rfl⟩ := hr2.slice; have HO : Hid (SRow B w3 (.slice sa sn sc) (il.filter fun x => nl.contains x == false)) := hr2; have HG2 : Hid (w2.grownBy w3 (Value.slice ia inn ic).ownBlock) := ⟨hg2.os, hg2.tape, hg2.output, hg2.size, hg2.block⟩; have HLOC : Hid ((Value.slice sa sn sc).ownBlock = (Value.slice ia inn ic).ownBlock) := hb2; clear hr2 hg2 hb2))
    | (go_at_call 41; go_must (refine (new_any (.slice sa sn sc) B (il.filter fun x => nl.contains x == false) _ ?_ (getD_filter _ _ HIL.out)).mono ?_; (exact HO.out); rintro e w4 ⟨fv2, mv2, rfl, hs4, hb4, hl4⟩; obtain ⟨xa, xn, xc, xo, rfl, rfl⟩ := hs4.shape; have HF : Hid (RFin w w4 (.slice ia inn ic) (.slice xa xn xc) (.map xo) (il.filter fun x => nl.contains x == false)) := RFin.make HH.out HI.out HG2.out HLOC.out hb4 hs4 hl4; obtain ⟨r0, r1, r2, s0, s1, s2⟩ := cells3 HF.out.res; clear hs4 hb4 hl4)))
  all_goals (
    go_wp2
    try simp only [Exit.inBlock, Exit.then]
    refine bodyPost_ret_by (results_cell_row rfl _ _ w.heap.size 113 #[.slice xa xn xc, .map xo, .bool true] (0, 0) _ rfl (set3 _ _ _ _ _ _ _ _ _ HF.out.res) Yba.underlying113 rfl Yba.size113) rfl ?_
    exact HF.out.ends HI.out)

end Go.Proofs.Ybulkegqe.lawS6647AWhole
