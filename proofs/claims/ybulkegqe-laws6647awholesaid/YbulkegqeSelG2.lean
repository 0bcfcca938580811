/-
  DERIVED. 'gatherLabels': the round's ends.
-/
import Derived.Test.YbulkegqeSelPlain
namespace Go.Proofs.Ybulkegqe.lawS6647AWhole
set_option linter.unusedVariables false
set_option linter.unusedSimpArgs false
open Go.RowKit

def Short (L : List Str) : Prop := ∀ j, (L.getD j []).length ≤ maxLen
theorem short_mem {L : List Str} : Short L ↔ ∀ x ∈ L, x.length ≤ maxLen := by
  constructor
  · intro h x hx
    obtain ⟨i, hi, rfl⟩ := List.getElem_of_mem hx
    have := h i
    simpa [List.getD, hi] using this
  · intro h j
    by_cases hj : j < L.length
    · rw [show L.getD j [] = L[j] by simp [List.getD, hj]]
      exact h _ (List.getElem_mem hj)
    · rw [show L.getD j [] = [] by simp [List.getD, List.getElem?_eq_none (Nat.le_of_not_lt hj)]]
      simp
def tot (R : List LR) : Nat := (R.map fun r => (r.vals.getD []).length).sum
def Bnd (R : List LR) (S : List G) : Prop := ∀ g ∈ S, g.c.il.length ≤ tot R ∧ g.c.nl.length ≤ tot R ∧ Short g.c.il ∧ Short g.c.nl
/-- Behind k rounds. -/
def GL (w : World) (R : List LR) (k : Nat) (rv : Value) (wr : World) : Prop :=
  ∃ S cv mb D tg, GI w S cv rv mb D tg wr ∧ PInv (R.take k) (S.map (·.c)) ∧ Bnd (R.take k) S ∧ S.length ≤ k

theorem take_next {R : List LR} {k : Nat} {r : LR} (hr : R[k]? = some r) : R.take (k + 1) = R.take k ++ [r] := by
  rw [List.take_add_one, hr]
  rfl
theorem tot_snoc (R : List LR) (r : LR) : tot (R ++ [r]) = tot R + (r.vals.getD []).length := by simp [tot]
theorem tot_append (A B : List LR) : tot (A ++ B) = tot A + tot B := by simp [tot]
theorem tot_take (R : List LR) (k : Nat) : tot (R.take k) ≤ tot R := by
  have := tot_append (R.take k) (R.drop k)
  rw [List.take_append_drop] at this
  omega
theorem tot_mem {R : List LR} {k : Nat} {r : LR} (hr : R[k]? = some r) : (r.vals.getD []).length ≤ tot R := by
  have h := tot_take R (k + 1)
  rw [take_next hr, tot_snoc] at h
  omega

theorem step_short (c : Cl) (r : LR) (T : Nat) (hr : ∀ L, r.vals = some L → Short L) (h : c.il.length ≤ T ∧ c.nl.length ≤ T ∧ Short c.il ∧ Short c.nl) :
    (c.step r).il.length ≤ T + (r.vals.getD []).length ∧ (c.step r).nl.length ≤ T + (r.vals.getD []).length ∧ Short (c.step r).il ∧ Short (c.step r).nl := by
  obtain ⟨h1, h2, h3, h4⟩ := h
  obtain ⟨rk, vals, no⟩ := r
  cases vals with
  | none => cases no <;> simp [Cl.step, *]
  | some L =>
    have hL := hr L rfl
    cases no
    · simp only [Cl.step, Option.getD_some]
      refine ⟨?_, Nat.le_add_right_of_le h2, ?_, h4⟩
      · split
        · exact Nat.le_trans (List.length_filter_le _ _) (by omega)
        · omega
      · split
        · rw [short_mem] at h3 ⊢
          intro x hx
          exact h3 x (List.mem_filter.1 hx).1
        · exact hL
    · simp only [Cl.step, Option.getD_some, List.length_append]
      refine ⟨by omega, by omega, h3, ?_⟩
      rw [short_mem] at h4 hL ⊢
      intro x hx
      rcases List.mem_append.1 hx with hx | hx
      · exact h4 x hx
      · exact hL x hx

theorem GL.next {w wr : World} {R : List LR} {k : Nat} {r : LR} {S : List G} {cv rv : Value} {mb i : Nat} {D : DataW Unit} {tg : Nat → Nat} {g g' : G} (hr : R[k]? = some r) (hq : ∀ L, r.vals = some L → Short L) (hi : S[i]? = some g) (hk : g.c.key = r.key)
    (hP : PInv (R.take k) (S.map (·.c))) (hB : Bnd (R.take k) S) (hS : S.length ≤ k + 1) (hc : g'.c = g.c.step r) (hG : GI w (S.set i g') cv rv mb D tg wr) : GL w R (k + 1) rv wr := by
  refine ⟨_, cv, mb, D, tg, hG, ?_, ?_, by simpa using hS⟩
  · rw [take_next hr, List.map_set, hc]
    exact hP.step (by simp [hi]) hk
  · intro x hx
    rw [take_next hr, tot_snoc]
    obtain ⟨j, hj⟩ := List.getElem?_of_mem hx
    rcases set_get hi hj with ⟨_, rfl⟩ | ⟨_, h⟩
    · rw [hc]
      exact step_short g.c r _ hq (hB g (List.mem_of_getElem? hi))
    · obtain ⟨h1, h2, h3, h4⟩ := hB x (List.mem_of_getElem? h)
      exact ⟨by omega, by omega, h3, h4⟩

theorem own_some {w : World} {B : Nat} {e : TypeId} {sz n : Nat} {v : Value} {xs : List Value} (h : w.ownsRow B e sz v n xs) (hn : 0 < n) : ∃ g c, v = .slice (some ⟨g, 0, none⟩) n c := by
  rcases h.2 with ⟨h, h0⟩ | ⟨g, cap, cur, h, _⟩
  · omega
  · exact ⟨_, _, h⟩

theorem lt_of_get {α : Type} {S : List α} {i : Nat} {a : α} (h : S[i]? = some a) : i < S.length := (List.getElem?_eq_some_iff.1 h).1

/-- The clause's cells. -/
theorem GI3.ccell {w wr : World} {Sm Sc Sr : List G} {rv : Value} {mb cg cap : Nat} {D : DataW Unit} {tg : Nat → Nat} (h : GI3 w Sm Sc Sr (.slice (some ⟨cg, 0, none⟩) Sc.length cap) rv mb D tg wr) {i : Nat} {g : G} (hi : Sc[i]? = some g) :
    wr.cell? ⟨cg, i * 6 + 1, none⟩ = some (.bool g.c.pres) ∧ wr.cell? ⟨cg, i * 6 + 2, none⟩ = some (.bool g.c.abs) ∧ wr.frozen? ⟨cg, i * 6 + 1, none⟩ = false ∧ wr.frozen? ⟨cg, i * 6 + 2, none⟩ = false := by
  have hlt := lt_of_get hi
  refine ⟨?_, ?_, h.crow.frozenAt _, h.crow.frozenAt _⟩
  · rw [h.crow.cellAt _ (by omega), flat_get cce 6 (fun _ => rfl) Sc i 1 g hi (by decide)]; rfl
  · rw [h.crow.cellAt _ (by omega), flat_get cce 6 (fun _ => rfl) Sc i 2 g hi (by decide)]; rfl

theorem row_cur {w : World} {B : Nat} {e : TypeId} {sz g n cap : Nat} {xs : List Value} (h : w.ownsRow B e sz (.slice (some ⟨g, 0, none⟩) n cap) n xs) : ∃ cur : Array Value, w.heap[g]? = some (.cells cur e (0, 0)) ∧ ∀ j, j < n * sz → cur[j]? = xs[j]? := by
  rcases h.2 with ⟨h, _⟩ | ⟨g', cap', cur, hv, hg, hh, hc, hm, hs, ht⟩
  · cases h
  · simp only [Value.slice.injEq, Option.some.injEq, Addr.mk.injEq, and_true, true_and] at hv
    obtain ⟨rfl, rfl⟩ := hv
    refine ⟨cur, hh, fun j hj => ?_⟩
    rw [← ht, List.getElem?_take, if_pos hj]
    simp

theorem GI3.rb {w wr : World} {Sm Sc Sr : List G} {cv : Value} {mb rg cap : Nat} {D : DataW Unit} {tg : Nat → Nat} (h : GI3 w Sm Sc Sr cv (.slice (some ⟨rg, 0, none⟩) Sr.length cap) mb D tg wr) {i : Nat} {g : G} (hi : Sr[i]? = some g) : RB wr rg (i * 3) g.iv g.c.res g.nv := by
  have hlt := lt_of_get hi
  obtain ⟨cur, hh, hc⟩ := row_cur h.rrow
  refine ⟨cur, hh, ?_, ?_, ?_⟩
  · have := flat_get rcells 3 (fun _ => rfl) Sr i 0 g hi (by decide)
    rw [hc _ (by omega), ← Nat.add_zero (i * 3), this]; rfl
  · rw [hc _ (by omega), flat_get rcells 3 (fun _ => rfl) Sr i 1 g hi (by decide)]; rfl
  · rw [hc _ (by omega), flat_get rcells 3 (fun _ => rfl) Sr i 2 g hi (by decide)]; rfl

theorem tag_ne {tg : Nat → Nat} {v : Option Nat} {t b t' : Nat} (h : Tag tg v t) (hb : tg b = t') (hne : t ≠ t') : v ≠ some b := fun e => hne ((h b e).symm.trans hb)

/-- 'forbid' has been called. -/
theorem GI.forbid {w wr w1 : World} {S : List G} {cv : Value} {mb rg cap i : Nat} {D : DataW Unit} {tg : Nat → Nat} (h : GI w S cv (.slice (some ⟨rg, 0, none⟩) S.length cap) mb D tg wr) {g : G} (hi : S[i]? = some g) {nv' : Value} {vl : List Str}
    (hs : SRow w.heap.size w1 nv' (g.c.nl ++ vl)) (hg : wr.grownBy w1 g.nv.ownBlock) (hloc : nv'.ownBlock = g.nv.ownBlock ∨ nv'.ownBlock = some wr.heap.size) :
    ∃ tg', GI w (S.set i ⟨{ g.c with nl := g.c.nl ++ vl }, g.iv, nv'⟩) cv (.slice (some ⟨rg, 0, none⟩) S.length cap) mb D tg' (w1.setCell ⟨rg, i * 3 + 2, none⟩ nv') := by
  have trg := h.tr rg rfl
  have lrg := (h.rrow.lt rg rfl)
  obtain ⟨ti1, ti2⟩ := h.ti i g hi
  obtain ⟨r1, r2⟩ := h.rows i g hi
  have hloc' : nv'.ownBlock = g.nv.ownBlock ∨ ∃ b, nv'.ownBlock = some b ∧ wr.heap.size ≤ b := hloc.imp id (fun e => ⟨_, e, Nat.le_refl _⟩)
  have rt := reTag_other hloc' ti2
  have ht1 : TurnsT wr w1 tg (fun t => t = 11 + 2 * i) := (Turns.of_grown hg).mono fun k _ e => ti2 k e
  have ht : TurnsT wr (w1.setCell ⟨rg, i * 3 + 2, none⟩ nv') tg (fun t => t = 11 + 2 * i ∨ t = 2) := (ht1.mono fun k _ e => Or.inl e).setCell _ _ (fun _ => Or.inr trg)
  have hrow1 := keep_row h.rrow ht1 h.tr (by omega)
  have hst := hrow1.stored (i * 3 + 2) nv'
  have hnr : nv'.ownBlock ≠ some rg := by
    rcases hloc with e | e
    · rw [e]; exact tag_ne ti2 trg (by omega)
    · rw [e]; intro e'; have := Option.some.inj e'; omega
  refine ⟨_, h.setR (t0 := 11 + 2 * i) hi (.inr rfl) rfl rfl ht ?_ rt ?_ ⟨?_, ?_⟩ ⟨?_, reTag_self _ _ _⟩⟩
  · exact ((Below.refl _ wr).grown hg h.old.size (fun k hk => (r2.lt k hk).1)).setCell (p := ⟨rg, i * 3 + 2, none⟩) lrg.1 _
  · rw [← flat_set rcells 3 (fun _ => rfl) S i 2 g ⟨{ g.c with nl := g.c.nl ++ vl }, g.iv, nv'⟩ nv' hi (by decide) rfl]
    exact hst.1
  · exact keep_row r1 ht ti1 (by omega)
  · exact ownsRow_setCell_other hs hnr _
  · intro b hb
    rw [rt b (r1.lt b hb).2 (by rw [ti1 b hb]; omega)]
    exact ti1 b hb

/-- 'allow' has been called: the builder's first cell and its mark are new. -/
theorem GI.allow {w wr w1 w' : World} {S : List G} {cv : Value} {mb rg cap i : Nat} {D : DataW Unit} {tg : Nat → Nat} (h : GI w S cv (.slice (some ⟨rg, 0, none⟩) S.length cap) mb D tg wr) {g : G} (hi : S[i]? = some g) {iv' : Value} {vl : List Str} {row : Option Nat}
    (hs : SRow w.heap.size w1 iv' vl) (hg : wr.grownBy w1 row) (hrow : row = none ∨ row = g.iv.ownBlock) (hloc : iv'.ownBlock = none ∨ iv'.ownBlock = g.iv.ownBlock ∨ iv'.ownBlock = some wr.heap.size)
    (hw : w' = (w1.setCell ⟨rg, i * 3, none⟩ iv').setCell ⟨rg, i * 3 + 1, none⟩ (.bool true) ∨ (g.c.res = true ∧ w' = w1.setCell ⟨rg, i * 3, none⟩ iv')) :
    ∃ tg', GI w (S.set i ⟨{ g.c with res := true, il := vl }, iv', g.nv⟩) cv (.slice (some ⟨rg, 0, none⟩) S.length cap) mb D tg' w' := by
  have trg := h.tr rg rfl
  have lrg := (h.rrow.lt rg rfl)
  obtain ⟨ti1, ti2⟩ := h.ti i g hi
  obtain ⟨r1, r2⟩ := h.rows i g hi
  have rt : ∀ b, b < wr.heap.size → tg b ≠ 10 + 2 * i → reTag tg iv'.ownBlock (10 + 2 * i) b = tg b := by
    rcases hloc with e | e | e
    · intro b _ _; simp [reTag, e]
    · exact reTag_other (.inl e) ti1
    · exact reTag_other (old := g.iv.ownBlock) (.inr ⟨_, e, Nat.le_refl _⟩) ti1
  have ht1 : TurnsT wr w1 tg (fun t => t = 10 + 2 * i) := (Turns.of_grown hg).mono fun k _ e => by
    rcases hrow with e' | e'
    · rw [e'] at e; cases e
    · exact ti1 k (by rw [← e', e])
  have hrow1 := keep_row h.rrow ht1 h.tr (by omega)
  have hst := hrow1.stored (i * 3) iv'
  have hst2 := hst.1.stored (i * 3 + 1) (.bool true)
  have hnr : iv'.ownBlock ≠ some rg := by
    rcases hloc with e | e | e
    · rw [e]; simp
    · rw [e]; exact tag_ne ti1 trg (by omega)
    · rw [e]; intro e'; have := Option.some.inj e'; omega
  have hb1 : Below w.heap.size wr w1 := (Below.refl _ wr).grown hg h.old.size (fun k hk => by
    rcases hrow with e' | e'
    · rw [e'] at hk; cases hk
    · exact (r1.lt k (by rw [← e', hk])).1)
  have hx0 := flat_set rcells 3 (fun _ => rfl) S i 0 g ⟨g.c, iv', g.nv⟩ iv' hi (by decide) rfl
  rw [Nat.add_zero] at hx0
  have hlt := lt_of_get hi
  have hx1 := flat_set rcells 3 (fun _ => rfl) (S.set i ⟨g.c, iv', g.nv⟩) i 1 ⟨g.c, iv', g.nv⟩ ⟨{ g.c with res := true, il := vl }, iv', g.nv⟩ (.bool true) (List.getElem?_set_self hlt) (by decide) rfl
  rw [List.set_set] at hx1
  rcases hw with rfl | ⟨hres, rfl⟩
  · have ht : TurnsT wr ((w1.setCell ⟨rg, i * 3, none⟩ iv').setCell ⟨rg, i * 3 + 1, none⟩ (.bool true)) tg (fun t => t = 10 + 2 * i ∨ t = 2) := by
      have ht2 : TurnsT wr (w1.setCell ⟨rg, i * 3, none⟩ iv') tg (fun t => t = 10 + 2 * i ∨ t = 2) := (ht1.mono fun k _ e => Or.inl e).setCell _ _ (fun _ => Or.inr trg)
      exact Turns.setCell ht2 _ _ (fun _ => Or.inr trg)
    refine ⟨_, h.setR (t0 := 10 + 2 * i) hi (.inl rfl) rfl rfl ht ?_ rt ?_ ⟨?_, ?_⟩ ⟨reTag_self _ _ _, ?_⟩⟩
    · exact (hb1.setCell (p := ⟨rg, i * 3, none⟩) lrg.1 _).setCell (p := ⟨rg, i * 3 + 1, none⟩) lrg.1 _
    · rw [← hx1, ← hx0]
      exact hst2.1
    · exact ownsRow_setCell_other (ownsRow_setCell_other hs hnr _) hnr _
    · exact keep_row r2 ht ti2 (by omega)
    · intro b hb
      rw [rt b (r2.lt b hb).2 (by rw [ti2 b hb]; omega)]
      exact ti2 b hb
  · have ht : TurnsT wr (w1.setCell ⟨rg, i * 3, none⟩ iv') tg (fun t => t = 10 + 2 * i ∨ t = 2) := (ht1.mono fun k _ e => Or.inl e).setCell _ _ (fun _ => Or.inr trg)
    refine ⟨_, h.setR (t0 := 10 + 2 * i) hi (.inl rfl) rfl rfl ht ?_ rt ?_ ⟨?_, ?_⟩ ⟨reTag_self _ _ _, ?_⟩⟩
    · exact hb1.setCell (p := ⟨rg, i * 3, none⟩) lrg.1 _
    · have := flat_same rcells (S.set i ⟨g.c, iv', g.nv⟩) i ⟨g.c, iv', g.nv⟩ ⟨{ g.c with res := true, il := vl }, iv', g.nv⟩ (List.getElem?_set_self hlt) (by simp [rcells, hres])
      rw [List.set_set] at this
      rw [this, ← hx0]
      exact hst.1
    · exact ownsRow_setCell_other hs hnr _
    · exact keep_row r2 ht ti2 (by omega)
    · intro b hb
      rw [rt b (r2.lt b hb).2 (by rw [ti2 b hb]; omega)]
      exact ti2 b hb

end Go.Proofs.Ybulkegqe.lawS6647AWhole
