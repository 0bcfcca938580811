/-
  DERIVED. 'gatherLabels': the second loop's words.
-/
import Derived.Test.YbulkegqeSelG2
namespace Go.Proofs.Ybulkegqe.lawS6647AWhole
set_option linter.unusedVariables false
set_option linter.unusedSimpArgs false
open Go.RowKit

/-- '(*ruleBuilder).rule'. -/
theorem rule_any (gr o B : Nat) (iv nv : Value) (res : Bool) (il nl : List Str) (w : World) (hR : RB w gr o iv res nv) (hi : SRow B w iv il) (hn : SRow B w nv nl) (hne : iv.ownBlock ≠ some gr) (hne2 : iv.ownBlock = none ∨ nv.ownBlock ≠ iv.ownBlock) (hnl : Short nl) (hil : Short il) :
    Calls Yba.prog 16 #[.pointer (some ⟨gr, o, none⟩)] w fun e w' => ∃ fv mv, e = .returned (.agg #[fv, mv, .bool res]) ∧ SetIs w' fv mv (RuleSet res il nl) ∧ Turns w w' (fun k => iv.ownBlock = some k) ∧ (setBlk fv mv = nv.ownBlock ∨ setBlk fv mv = iv.ownBlock ∨ ∃ b, setBlk fv mv = some b ∧ w.heap.size ≤ b) := by
  cases res with
  | false => exact (rule_free gr o B iv nv nl w hR hn hnl).mono fun e w' ⟨fv, mv, h1, h2, h3, h4⟩ => ⟨fv, mv, h1, h2, Turns.of_below h3, h4.imp id .inr⟩
  | true => exact (rule_in gr o B iv nv il nl w hR hi hn hne hne2 hnl hil).mono fun e w' ⟨fv, mv, h1, h2, h3, h4⟩ => ⟨fv, mv, h1, h2, h3, .inr h4⟩

/-- A clause as it lies in the row in the end. -/
structure X where
  g : G
  a : Value
  b : Value
  c : Value
def xcells (x : X) : List Value := [encStr x.g.c.key, .bool x.g.c.pres, .bool x.g.c.abs, x.a, x.b, x.c]
def xr (x : X) : List Value := rcells x.g

structure GI2 (w : World) (i : Nat) (Xs : List X) (cv rv : Value) (mb q : Nat) (D : DataW Unit) (tg : Nat → Nat) (wr : World) : Prop where
  res : wr.heap[w.heap.size]? = some (.cells #[.slice none 0 0, .map none, .int .i64 0] 39 (0, 0))
  svar : wr.heap[w.heap.size + 1]? = some (.cells #[cv, .map (some mb), .int .i64 q] 39 (0, 0))
  crow : wr.ownsRow w.heap.size 115 6 cv Xs.length (Xs.flatMap xcells)
  rrow : wr.ownsRow w.heap.size 117 3 rv Xs.length (Xs.flatMap xr)
  mp : wr.ownsMap Yba.prog 9 (plainElem Yba.prog 3) mb Xs.length D
  mhas : ∀ x : Str, Maps.has D (.string x) = Xs.any (fun y => y.g.c.key == x)
  mat : ∀ (j : Nat) (x : X), Xs[j]? = some x → ∀ z, D.atKey (.string x.g.c.key) z = .lit (.int .i64 j)
  rows : ∀ (j : Nat) (x : X), Xs[j]? = some x → i ≤ j → SRow w.heap.size wr x.g.iv x.g.c.il ∧ SRow w.heap.size wr x.g.nv x.g.c.nl
  sets : ∀ (j : Nat) (x : X), Xs[j]? = some x → j < i → SetIs wr x.a x.b (RuleSet x.g.c.res x.g.c.il x.g.c.nl) ∧ x.c = .bool x.g.c.res ∧ (Tag tg (setBlk x.a x.b) (10 + 2 * j) ∨ Tag tg (setBlk x.a x.b) (11 + 2 * j))
  t0 : tg w.heap.size = 4
  t1 : tg (w.heap.size + 1) = 5
  tc : Tag tg cv.ownBlock 1
  tr : Tag tg rv.ownBlock 2
  tm : tg mb = 3
  ti : ∀ (j : Nat) (x : X), Xs[j]? = some x → i ≤ j → Tag tg x.g.iv.ownBlock (10 + 2 * j) ∧ Tag tg x.g.nv.ownBlock (11 + 2 * j)
  old : Below w.heap.size w wr
  short : ∀ x ∈ Xs, Short x.g.c.il ∧ Short x.g.c.nl

def toX (g : G) : X := ⟨g, .slice none 0 0, .map none, .bool false⟩

theorem GI2.start {w wr : World} {S : List G} {cv rv : Value} {mb : Nat} {D : DataW Unit} {tg : Nat → Nat} {R : List LR} (h : GI w S cv rv mb D tg wr) (hB : Bnd R S) : GI2 w 0 (S.map toX) cv rv mb 0 D tg wr := by
  have e1 : (S.map toX).flatMap xcells = S.flatMap cce := by rw [List.flatMap_map]; rfl
  have e2 : (S.map toX).flatMap xr = S.flatMap rcells := by rw [List.flatMap_map]; rfl
  have hg : ∀ (j : Nat) (x : X), (S.map toX)[j]? = some x → ∃ g, S[j]? = some g ∧ x = toX g := by
    intro j x hx
    rw [List.getElem?_map] at hx
    cases hs : S[j]? with
    | none => rw [hs] at hx; cases hx
    | some g => rw [hs] at hx; exact ⟨g, rfl, by simpa using hx.symm⟩
  refine ⟨h.res, h.svar, by rw [List.length_map, e1]; exact h.crow, by rw [List.length_map, e2]; exact h.rrow, by rw [List.length_map]; exact h.mp, fun x => ?_, fun j x hx => ?_, fun j x hx _ => ?_, fun j x hx hj => absurd hj (Nat.not_lt_zero _), h.t0, h.t1, h.tc, h.tr, h.tm, fun j x hx _ => ?_, h.old, fun x hx => ?_⟩
  · rw [h.mhas x, List.any_map]; rfl
  · obtain ⟨g, hs, rfl⟩ := hg j x hx
    exact h.mat j g hs
  · obtain ⟨g, hs, rfl⟩ := hg j x hx
    exact h.rows j g hs
  · obtain ⟨g, hs, rfl⟩ := hg j x hx
    exact h.ti j g hs
  · obtain ⟨g, hg, rfl⟩ := List.mem_map.1 hx
    exact (hB g hg).2.2

theorem any_setX {S : List X} {i : Nat} {g g' : X} (hi : S[i]? = some g) (hk : g'.g.c.key = g.g.c.key) (x : Str) : (S.set i g').any (fun g => g.g.c.key == x) = S.any (fun g => g.g.c.key == x) := by
  rw [Bool.eq_iff_iff, List.any_eq_true, List.any_eq_true]
  constructor
  · rintro ⟨b, hb, e⟩
    obtain ⟨j, hj⟩ := List.getElem?_of_mem hb
    rcases set_get hi hj with ⟨_, rfl⟩ | ⟨_, h⟩
    · exact ⟨g, List.mem_of_getElem? hi, by rw [← hk]; exact e⟩
    · exact ⟨b, List.mem_of_getElem? h, e⟩
  · rintro ⟨b, hb, e⟩
    obtain ⟨j, hj⟩ := List.getElem?_of_mem hb
    have hlt := (List.getElem?_eq_some_iff.1 hi).1
    by_cases ej : j = i
    · subst ej
      rw [hi] at hj
      cases hj
      exact ⟨g', List.mem_of_getElem? (List.getElem?_set_self hlt), by rw [hk]; exact e⟩
    · exact ⟨b, List.mem_of_getElem? (i := j) (by rw [List.getElem?_set_ne (fun e' => ej e'.symm)]; exact hj), e⟩

theorem keep_set {wr w' : World} {tg : Nat → Nat} {T : Nat → Prop} {fv mv : Value} {S : Str → Bool} {t : Nat} (h : SetIs wr fv mv S) (ht : TurnsT wr w' tg T) (htag : Tag tg (setBlk fv mv) t) (hne : ¬ T t) : SetIs w' fv mv S :=
  h.turns ht fun k hk => by rw [htag k hk]; exact hne

/-- 'c.rule = rules[i].rule()'. -/
theorem GI2.rule {w wr w1 : World} {Xs : List X} {rv : Value} {mb q cg cap i : Nat} {D : DataW Unit} {tg : Nat → Nat} (h : GI2 w i Xs (.slice (some ⟨cg, 0, none⟩) Xs.length cap) rv mb q D tg wr) {x : X} (hi : Xs[i]? = some x) {fv mv : Value}
    (hs : SetIs w1 fv mv (RuleSet x.g.c.res x.g.c.il x.g.c.nl)) (hT : Turns wr w1 (fun k => x.g.iv.ownBlock = some k)) (hl : setBlk fv mv = x.g.nv.ownBlock ∨ setBlk fv mv = x.g.iv.ownBlock ∨ ∃ b, setBlk fv mv = some b ∧ wr.heap.size ≤ b) :
    ∃ tg', GI2 w (i + 1) (Xs.set i ⟨x.g, fv, mv, .bool x.g.c.res⟩) (.slice (some ⟨cg, 0, none⟩) Xs.length cap) rv mb q D tg' (((w1.setCell ⟨cg, i * 6 + 3, none⟩ fv).setCell ⟨cg, i * 6 + 4, none⟩ mv).setCell ⟨cg, i * 6 + 5, none⟩ (.bool x.g.c.res)) := by
  have tcg := h.tc cg rfl
  have lcg := h.crow.lt cg rfl
  have hlt := lt_of_get hi
  obtain ⟨ti1, ti2⟩ := h.ti i x hi (Nat.le_refl _)
  obtain ⟨r1, r2⟩ := h.rows i x hi (Nat.le_refl _)
  have hsb : w.heap.size + 1 < wr.heap.size := (Array.getElem?_eq_some_iff.1 h.svar).1
  -- the new tags
  obtain ⟨tg', rt, tset⟩ : ∃ tg' : Nat → Nat, (∀ b, b < wr.heap.size → tg' b = tg b) ∧ (Tag tg' (setBlk fv mv) (10 + 2 * i) ∨ Tag tg' (setBlk fv mv) (11 + 2 * i)) := by
    rcases hl with e | e | ⟨b, e, hb⟩
    · exact ⟨tg, fun _ _ => rfl, .inr (by rw [e]; exact ti2)⟩
    · exact ⟨tg, fun _ _ => rfl, .inl (by rw [e]; exact ti1)⟩
    · refine ⟨reTag tg (some b) (10 + 2 * i), fun k hk => ?_, .inl (by rw [e]; exact reTag_self _ _ _)⟩
      unfold reTag
      rw [if_neg]
      intro e'
      have := Option.some.inj e'
      omega
  have re : ∀ (v : Option Nat) (t : Nat), (∀ b, v = some b → b < wr.heap.size) → Tag tg v t → Tag tg' v t := fun v t hl hv b hb => by
    rw [rt b (hl b hb)]; exact hv b hb
  have ht1 : TurnsT wr w1 tg (fun t => t = 10 + 2 * i) := hT.mono fun k _ e => ti1 k e
  have hrow1 := keep_row h.crow ht1 h.tc (by omega)
  have s3 := hrow1.stored (i * 6 + 3) fv
  have s4 := s3.1.stored (i * 6 + 4) mv
  have s5 := s4.1.stored (i * 6 + 5) (.bool x.g.c.res)
  have ht : TurnsT wr (((w1.setCell ⟨cg, i * 6 + 3, none⟩ fv).setCell ⟨cg, i * 6 + 4, none⟩ mv).setCell ⟨cg, i * 6 + 5, none⟩ (.bool x.g.c.res)) tg (fun t => t = 10 + 2 * i ∨ t = 1) := by
    have a3 : TurnsT wr (w1.setCell ⟨cg, i * 6 + 3, none⟩ fv) tg (fun t => t = 10 + 2 * i ∨ t = 1) := (ht1.mono fun k _ e => Or.inl e).setCell _ _ (fun _ => Or.inr tcg)
    have a4 : TurnsT wr ((w1.setCell ⟨cg, i * 6 + 3, none⟩ fv).setCell ⟨cg, i * 6 + 4, none⟩ mv) tg (fun t => t = 10 + 2 * i ∨ t = 1) := Turns.setCell a3 _ _ (fun _ => Or.inr tcg)
    exact Turns.setCell a4 _ _ (fun _ => Or.inr tcg)
  have htc : Turns w1 (((w1.setCell ⟨cg, i * 6 + 3, none⟩ fv).setCell ⟨cg, i * 6 + 4, none⟩ mv).setCell ⟨cg, i * 6 + 5, none⟩ (.bool x.g.c.res)) (fun k => k = cg) :=
    (((Turns.of_below (R := fun k => k = cg) (Below.refl _ _)).setCell ⟨cg, i * 6 + 3, none⟩ fv (fun _ => rfl)).setCell ⟨cg, i * 6 + 4, none⟩ mv (fun _ => rfl)).setCell ⟨cg, i * 6 + 5, none⟩ (.bool x.g.c.res) (fun _ => rfl)
  have hx3 := flat_set xcells 6 (fun _ => rfl) Xs i 3 x ⟨x.g, fv, x.b, x.c⟩ fv hi (by decide) rfl
  have hx4 := flat_set xcells 6 (fun _ => rfl) (Xs.set i ⟨x.g, fv, x.b, x.c⟩) i 4 ⟨x.g, fv, x.b, x.c⟩ ⟨x.g, fv, mv, x.c⟩ mv (List.getElem?_set_self hlt) (by decide) rfl
  rw [List.set_set] at hx4
  have hx5 := flat_set xcells 6 (fun _ => rfl) (Xs.set i ⟨x.g, fv, mv, x.c⟩) i 5 ⟨x.g, fv, mv, x.c⟩ ⟨x.g, fv, mv, .bool x.g.c.res⟩ (.bool x.g.c.res) (List.getElem?_set_self hlt) (by decide) rfl
  rw [List.set_set] at hx5
  refine ⟨tg', keep_block h.res ht h.t0 (by omega), keep_block h.svar ht h.t1 (by omega), ?_, ?_, ?_, fun y => (h.mhas y).trans (any_setX (g' := ⟨x.g, fv, mv, .bool x.g.c.res⟩) hi rfl y).symm, fun j y hy => ?_, fun j y hy hj => ?_, fun j y hy hj => ?_, ?_, ?_, re _ _ (fun b hb => (h.crow.lt b hb).2) h.tc, re _ _ (fun b hb => (h.rrow.lt b hb).2) h.tr, ?_, fun j y hy hj => ?_, ?_, fun y hy => ?_⟩
  · rw [List.length_set, ← hx5, ← hx4, ← hx3]
    exact s5.1
  · rw [List.length_set, flat_same xr Xs i x ⟨x.g, fv, mv, .bool x.g.c.res⟩ hi rfl]
    exact keep_row h.rrow ht h.tr (by omega)
  · rw [List.length_set]
    exact keep_map h.mp ht h.tm (by omega)
  · rcases set_get hi hy with ⟨rfl, rfl⟩ | ⟨_, h'⟩
    · exact h.mat _ x hi
    · exact h.mat j y h'
  · rcases set_get hi hy with ⟨rfl, rfl⟩ | ⟨hne, h'⟩
    · omega
    · have a := h.rows j y h' (by omega)
      have b := h.ti j y h' (by omega)
      exact ⟨keep_row a.1 ht b.1 (by omega), keep_row a.2 ht b.2 (by omega)⟩
  · rcases set_get hi hy with ⟨rfl, rfl⟩ | ⟨hne, h'⟩
    · refine ⟨hs.turns htc (fun k hk e => ?_), rfl, tset⟩
      subst e
      have : tg' k = 1 := by rw [rt k lcg.2]; exact tcg
      rcases tset with t | t
      · have := t k hk; omega
      · have := t k hk; omega
    · obtain ⟨a, b, c⟩ := h.sets j y h' (by omega)
      refine ⟨?_, b, ?_⟩
      · rcases c with c | c
        · exact keep_set a ht c (by omega)
        · exact keep_set a ht c (by omega)
      · exact c.imp (re _ _ (fun b hb => a.lt b hb)) (re _ _ (fun b hb => a.lt b hb))
  · rw [rt _ (by omega)]; exact h.t0
  · rw [rt _ (by omega)]; exact h.t1
  · rw [rt _ h.mp.lt]; exact h.tm
  · rcases set_get hi hy with ⟨rfl, rfl⟩ | ⟨hne, h'⟩
    · omega
    · have a := h.rows j y h' (by omega)
      have b := h.ti j y h' (by omega)
      exact ⟨re _ _ (fun k hk => (a.1.lt k hk).2) b.1, re _ _ (fun k hk => (a.2.lt k hk).2) b.2⟩
  · have hb1 : Below w.heap.size wr w1 := ⟨hT.os, hT.tape, hT.output, hT.size, fun k hk => hT.block k (by omega) (fun e => by have := (r1.lt k e).1; omega)⟩
    exact ((h.old.trans hb1).setCell (p := ⟨cg, i * 6 + 3, none⟩) lcg.1 _ |>.setCell (p := ⟨cg, i * 6 + 4, none⟩) lcg.1 _).setCell (p := ⟨cg, i * 6 + 5, none⟩) lcg.1 _
  · obtain ⟨j, hj⟩ := List.getElem?_of_mem hy
    rcases set_get hi hj with ⟨_, rfl⟩ | ⟨_, h'⟩
    · exact h.short x (List.mem_of_getElem? hi)
    · exact h.short y (List.mem_of_getElem? h')

/-- 's.required++'. -/
theorem GI2.count {w wr : World} {i : Nat} {Xs : List X} {cv rv : Value} {mb q : Nat} {D : DataW Unit} {tg : Nat → Nat} (h : GI2 w i Xs cv rv mb q D tg wr) : GI2 w i Xs cv rv mb (q + 1) D tg (wr.setCell ⟨w.heap.size + 1, 2, none⟩ (.int .i64 ((q : Int) + 1))) := by
  have ht : TurnsT wr (wr.setCell ⟨w.heap.size + 1, 2, none⟩ (.int .i64 ((q : Int) + 1))) tg (fun t => t = 5) := (Turns.of_below (Below.refl _ _)).setCell _ _ (fun _ => h.t1)
  refine ⟨keep_block h.res ht h.t0 (by decide), ?_, keep_row h.crow ht h.tc (by decide), keep_row h.rrow ht h.tr (by decide), keep_map h.mp ht h.tm (by decide), h.mhas, h.mat, fun j x hx hj => ?_, fun j x hx hj => ?_, h.t0, h.t1, h.tc, h.tr, h.tm, h.ti, ?_, h.short⟩
  · rw [heap_setCell_same wr (w.heap.size + 1) 2 _ 39 _ h.svar]
    simp
  · have a := h.rows j x hx hj
    have b := h.ti j x hx hj
    exact ⟨keep_row a.1 ht b.1 (by omega), keep_row a.2 ht b.2 (by omega)⟩
  · obtain ⟨a, b, c⟩ := h.sets j x hx hj
    refine ⟨?_, b, c⟩
    rcases c with c | c
    · exact keep_set a ht c (by omega)
    · exact keep_set a ht c (by omega)
  · exact h.old.setCell (p := ⟨w.heap.size + 1, 2, none⟩) (Nat.le_succ _) _

/-- The selector as it is handed back. -/
structure Sel (wr : World) (Xs : List X) (cv mv : Value) : Prop where
  crow : ∃ B, wr.ownsRow B 115 6 cv Xs.length (Xs.flatMap xcells)
  sets : ∀ (j : Nat) (x : X), Xs[j]? = some x → SetIs wr x.a x.b (RuleSet x.g.c.res x.g.c.il x.g.c.nl) ∧ x.c = .bool x.g.c.res
  map : (Xs = [] ∧ mv = .map none) ∨ ∃ mb, ∃ D : DataW Unit, mv = .map (some mb) ∧ wr.ownsMap Yba.prog 9 (plainElem Yba.prog 3) mb Xs.length D ∧ (∀ x : Str, Maps.has D (.string x) = Xs.any (fun y => y.g.c.key == x)) ∧ ∀ (j : Nat) (x : X), Xs[j]? = some x → ∀ z, D.atKey (.string x.g.c.key) z = .lit (.int .i64 j)

theorem Sel.below {w w' : World} {Xs : List X} {cv mv : Value} (h : Sel w Xs cv mv) (hb : Below w.heap.size w w') : Sel w' Xs cv mv := by
  obtain ⟨⟨B, hc⟩, hs, hm⟩ := h
  refine ⟨⟨B, hc.kept (grown_of_below hb none) (by cases cv.ownBlock <;> simp)⟩, fun j x hx => ⟨(hs j x hx).1.below hb, (hs j x hx).2⟩, ?_⟩
  rcases hm with hm | ⟨mb, D, h1, h2, h3⟩
  · exact .inl hm
  · exact .inr ⟨mb, D, h1, h2.kept (grown_of_below hb none) (by simp), h3⟩

/-- The store into the result's own cells. -/
theorem GI2.ends {w wr : World} {Xs : List X} {cv rv x0 x1 x2 : Value} {mb q : Nat} {D : DataW Unit} {tg : Nat → Nat} (h : GI2 w Xs.length Xs cv rv mb q D tg wr) :
    Sel (((wr.setCell ⟨w.heap.size, 0, none⟩ x0).setCell ⟨w.heap.size, 1, none⟩ x1).setCell ⟨w.heap.size, 2, none⟩ x2) Xs cv (.map (some mb)) ∧ Below w.heap.size w (((wr.setCell ⟨w.heap.size, 0, none⟩ x0).setCell ⟨w.heap.size, 1, none⟩ x1).setCell ⟨w.heap.size, 2, none⟩ x2) := by
  have ht : TurnsT wr (((wr.setCell ⟨w.heap.size, 0, none⟩ x0).setCell ⟨w.heap.size, 1, none⟩ x1).setCell ⟨w.heap.size, 2, none⟩ x2) tg (fun t => t = 4) := by
    have a : TurnsT wr (wr.setCell ⟨w.heap.size, 0, none⟩ x0) tg (fun t => t = 4) := (Turns.of_below (Below.refl _ _)).setCell _ _ (fun _ => h.t0)
    have b : TurnsT wr ((wr.setCell ⟨w.heap.size, 0, none⟩ x0).setCell ⟨w.heap.size, 1, none⟩ x1) tg (fun t => t = 4) := Turns.setCell a _ _ (fun _ => h.t0)
    exact Turns.setCell b _ _ (fun _ => h.t0)
  refine ⟨⟨⟨_, keep_row h.crow ht h.tc (by decide)⟩, fun j x hx => ?_, .inr ⟨mb, D, rfl, keep_map h.mp ht h.tm (by decide), h.mhas, h.mat⟩⟩, ?_⟩
  · obtain ⟨a, b, c⟩ := h.sets j x hx (lt_of_get hx)
    refine ⟨?_, b⟩
    rcases c with c | c
    · exact keep_set a ht c (by omega)
    · exact keep_set a ht c (by omega)
  · exact ((h.old.setCell (p := ⟨w.heap.size, 0, none⟩) (Nat.le_refl _) _).setCell (p := ⟨w.heap.size, 1, none⟩) (Nat.le_refl _) _).setCell (p := ⟨w.heap.size, 2, none⟩) (Nat.le_refl _) _

end Go.Proofs.Ybulkegqe.lawS6647AWhole
