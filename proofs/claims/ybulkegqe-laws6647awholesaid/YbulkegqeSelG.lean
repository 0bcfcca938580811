/-
  DERIVED. 'gatherLabels': what lies in memory while the clauses are gathered.
-/
import Derived.Test.YbulkegqeSelRule
import Derived.Laws.OwnMore
import Derived.OneCell
namespace Go.Proofs.Ybulkegqe.lawS6647AWhole
set_option linter.unusedVariables false
set_option linter.unusedSimpArgs false
open Go.RowKit

/-- A clause and its rule builder, plainly. -/
structure Cl where
  key : Str
  pres : Bool
  abs : Bool
  res : Bool
  il : List Str
  nl : List Str
/-- .. with the two slices' values. -/
structure G where
  c : Cl
  iv : Value
  nv : Value

def ccells (c : Cl) : List Value := [encStr c.key, .bool c.pres, .bool c.abs, .slice none 0 0, .map none, .bool false]
def rcells (g : G) : List Value := [g.iv, .bool g.c.res, g.nv]
def cce (g : G) : List Value := ccells g.c

theorem flat_len {α : Type} (f : α → List Value) (c : Nat) (hf : ∀ a, (f a).length = c) : ∀ S : List α, (S.flatMap f).length = S.length * c
  | [] => by simp
  | a :: S => by rw [List.flatMap_cons, List.length_append, hf, flat_len f c hf S, List.length_cons, Nat.add_mul]; omega
theorem flat_get {α : Type} (f : α → List Value) (c : Nat) (hf : ∀ a, (f a).length = c) : ∀ (S : List α) (i j : Nat) (a : α), S[i]? = some a → j < c → (S.flatMap f)[i * c + j]? = (f a)[j]?
  | [], i, j, a, h, _ => by simp at h
  | b :: S, 0, j, a, h, hj => by
    simp at h
    subst h
    rw [List.flatMap_cons, Nat.zero_mul, Nat.zero_add, List.getElem?_append_left (by rw [hf]; exact hj)]
  | b :: S, i + 1, j, a, h, hj => by
    simp only [List.getElem?_cons_succ] at h
    rw [List.flatMap_cons, List.getElem?_append_right (by rw [hf, Nat.add_mul]; omega), hf, show (i + 1) * c + j - c = i * c + j by rw [Nat.add_mul]; omega]
    exact flat_get f c hf S i j a h hj
theorem flat_set {α : Type} (f : α → List Value) (c : Nat) (hf : ∀ a, (f a).length = c) : ∀ (S : List α) (i j : Nat) (a a' : α) (v : Value), S[i]? = some a → j < c → f a' = (f a).set j v → (S.flatMap f).set (i * c + j) v = (S.set i a').flatMap f
  | [], i, j, a, a', v, h, _, _ => by simp at h
  | b :: S, 0, j, a, a', v, h, hj, e => by
    simp at h
    subst h
    rw [List.flatMap_cons, Nat.zero_mul, Nat.zero_add, List.set_append_left _ _ (by rw [hf]; exact hj), ← e]
    rfl
  | b :: S, i + 1, j, a, a', v, h, hj, e => by
    simp only [List.getElem?_cons_succ] at h
    rw [List.flatMap_cons, List.set_append_right _ _ (by rw [hf, Nat.add_mul]; omega), hf, show (i + 1) * c + j - c = i * c + j by rw [Nat.add_mul]; omega]
    rw [flat_set f c hf S i j a a' v h hj e]
    rfl
theorem flat_same {α : Type} (f : α → List Value) : ∀ (S : List α) (i : Nat) (a a' : α), S[i]? = some a → f a' = f a → (S.set i a').flatMap f = S.flatMap f
  | [], i, a, a', h, _ => by simp at h
  | b :: S, 0, a, a', h, e => by
    simp at h
    subst h
    simp [e]
  | b :: S, i + 1, a, a', h, e => by
    simp only [List.getElem?_cons_succ] at h
    simp only [List.set_cons_succ, List.flatMap_cons]
    rw [flat_same f S i a a' h e]

def Tag (tg : Nat → Nat) (v : Option Nat) (t : Nat) : Prop := ∀ b, v = some b → tg b = t

/-- All that 'gatherLabels' has made so far (the map knows Sm, the clauses' row Sc, the rules' row Sr). -/
structure GI3 (w : World) (Sm Sc Sr : List G) (cv rv : Value) (mb : Nat) (D : DataW Unit) (tg : Nat → Nat) (wr : World) : Prop where
  res : wr.heap[w.heap.size]? = some (.cells #[.slice none 0 0, .map none, .int .i64 0] 39 (0, 0))
  svar : wr.heap[w.heap.size + 1]? = some (.cells #[cv, .map (some mb), .int .i64 0] 39 (0, 0))
  crow : wr.ownsRow w.heap.size 115 6 cv Sc.length (Sc.flatMap cce)
  rrow : wr.ownsRow w.heap.size 117 3 rv Sr.length (Sr.flatMap rcells)
  mp : wr.ownsMap Yba.prog 9 (plainElem Yba.prog 3) mb Sm.length D
  mhas : ∀ x : Str, Maps.has D (.string x) = Sm.any (fun g => g.c.key == x)
  mat : ∀ (i : Nat) (g : G), Sm[i]? = some g → ∀ z, D.atKey (.string g.c.key) z = .lit (.int .i64 i)
  rows : ∀ (i : Nat) (g : G), Sr[i]? = some g → SRow w.heap.size wr g.iv g.c.il ∧ SRow w.heap.size wr g.nv g.c.nl
  t0 : tg w.heap.size = 4
  t1 : tg (w.heap.size + 1) = 5
  tc : Tag tg cv.ownBlock 1
  tr : Tag tg rv.ownBlock 2
  tm : tg mb = 3
  ti : ∀ (i : Nat) (g : G), Sr[i]? = some g → Tag tg g.iv.ownBlock (10 + 2 * i) ∧ Tag tg g.nv.ownBlock (11 + 2 * i)
  mbB : w.heap.size ≤ mb
  old : Below w.heap.size w wr
abbrev GI (w : World) (S : List G) (cv rv : Value) (mb : Nat) (D : DataW Unit) (tg : Nat → Nat) (wr : World) : Prop := GI3 w S S S cv rv mb D tg wr

def TurnsT (wr w' : World) (tg : Nat → Nat) (T : Nat → Prop) : Prop := Turns wr w' (fun k => T (tg k))

/-- What bears another tag stays. -/
theorem keep_row {wr w' : World} {tg : Nat → Nat} {T : Nat → Prop} {B : Nat} {e : TypeId} {sz : Nat} {v : Value} {n : Nat} {xs : List Value} {t : Nat} (h : wr.ownsRow B e sz v n xs) (ht : TurnsT wr w' tg T) (htag : Tag tg v.ownBlock t) (hne : ¬ T t) : w'.ownsRow B e sz v n xs :=
  ownsRow_same h fun k hk => ht.block k (h.lt k hk).2 (by rw [htag k hk]; exact hne)
theorem keep_block {wr w' : World} {tg : Nat → Nat} {T : Nat → Prop} {b t : Nat} {o : Obj} (h : wr.heap[b]? = some o) (ht : TurnsT wr w' tg T) (htag : tg b = t) (hne : ¬ T t) : w'.heap[b]? = some o :=
  (ht.block b (Array.getElem?_eq_some_iff.1 h).1 (by rw [htag]; exact hne)).trans h
theorem keep_map {wr w' : World} {tg : Nat → Nat} {T : Nat → Prop} {b t n : Nat} {R : Value → Option (DataW Unit × List MemPlace)} {D : DataW Unit} (h : wr.ownsMap Yba.prog 9 R b n D) (ht : TurnsT wr w' tg T) (htag : tg b = t) (hne : ¬ T t) : w'.ownsMap Yba.prog 9 R b n D := by
  obtain ⟨es, clock, hb, r⟩ := h
  exact ⟨es, clock, keep_block hb ht htag hne, r⟩

theorem GI3.blocks {w wr : World} {Sm Sc Sr : List G} {cv rv : Value} {mb : Nat} {D : DataW Unit} {tg : Nat → Nat} (h : GI3 w Sm Sc Sr cv rv mb D tg wr) : w.heap.size + 1 < wr.heap.size := (Array.getElem?_eq_some_iff.1 h.svar).1

theorem GI3.below {w wr w' : World} {Sm Sc Sr : List G} {cv rv : Value} {mb : Nat} {D : DataW Unit} {tg : Nat → Nat} (h : GI3 w Sm Sc Sr cv rv mb D tg wr) (hb : Below wr.heap.size wr w') : GI3 w Sm Sc Sr cv rv mb D tg w' := by
  have ht : TurnsT wr w' tg (fun _ => False) := Turns.of_below hb
  exact ⟨keep_block h.res ht h.t0 id, keep_block h.svar ht h.t1 id, keep_row h.crow ht h.tc id, keep_row h.rrow ht h.tr id, keep_map h.mp ht h.tm id, h.mhas, h.mat,
    fun i g hg => ⟨keep_row (h.rows i g hg).1 ht (h.ti i g hg).1 id, keep_row (h.rows i g hg).2 ht (h.ti i g hg).2 id⟩, h.t0, h.t1, h.tc, h.tr, h.tm, h.ti, h.mbB, h.old.trans (hb.mono (by have := h.blocks; omega))⟩

theorem set_get {α : Type} {S : List α} {i j : Nat} {a a' b : α} (hi : S[i]? = some a) (h : (S.set i a')[j]? = some b) : (j = i ∧ b = a') ∨ (j ≠ i ∧ S[j]? = some b) := by
  have hlt := (List.getElem?_eq_some_iff.1 hi).1
  by_cases e : j = i
  · subst e
    rw [List.getElem?_set_self hlt] at h
    exact .inl ⟨rfl, by simpa using h.symm⟩
  · rw [List.getElem?_set_ne (fun e' => e e'.symm)] at h
    exact .inr ⟨e, h⟩

theorem any_set {S : List G} {i : Nat} {g g' : G} (hi : S[i]? = some g) (hk : g'.c.key = g.c.key) (x : Str) : (S.set i g').any (fun g => g.c.key == x) = S.any (fun g => g.c.key == x) := by
  rw [Bool.eq_iff_iff, List.any_eq_true, List.any_eq_true]
  constructor
  · rintro ⟨b, hb, e⟩
    obtain ⟨j, hj⟩ := List.getElem?_of_mem hb
    rcases set_get hi hj with ⟨_, rfl⟩ | ⟨_, h⟩
    · exact ⟨g, List.mem_of_getElem? hi, by rw [← hk]; exact e⟩
    · exact ⟨b, List.mem_of_getElem? h, e⟩
  · rintro ⟨b, hb, e⟩
    obtain ⟨j, hj⟩ := List.getElem?_of_mem hb
    have hlt := (List.getElem?_eq_some_iff.1 hi).1
    by_cases ej : j = i
    · subst ej
      rw [hi] at hj
      cases hj
      exact ⟨g', List.mem_of_getElem? (List.getElem?_set_self hlt), by rw [hk]; exact e⟩
    · exact ⟨b, List.mem_of_getElem? (i := j) (by rw [List.getElem?_set_ne (fun e' => ej e'.symm)]; exact hj), e⟩

/-- One cell of a clause is written. -/
theorem GI.setC {w wr : World} {S : List G} {rv : Value} {mb cg cap : Nat} {D : DataW Unit} {tg : Nat → Nat} (h : GI w S (.slice (some ⟨cg, 0, none⟩) S.length cap) rv mb D tg wr) {i j : Nat} {g : G} {c' : Cl} {v : Value} (hi : S[i]? = some g) (hj : j < 6)
    (hk : c'.key = g.c.key) (hr : c'.res = g.c.res) (hil : c'.il = g.c.il) (hnl : c'.nl = g.c.nl) (hc : ccells c' = (ccells g.c).set j v) : GI w (S.set i ⟨c', g.iv, g.nv⟩) (.slice (some ⟨cg, 0, none⟩) S.length cap) rv mb D tg (wr.setCell ⟨cg, i * 6 + j, none⟩ v) := by
  have hst := h.crow.stored (i * 6 + j) v
  have ht : TurnsT wr (wr.setCell ⟨cg, i * 6 + j, none⟩ v) tg (fun t => t = 1) := (Turns.of_grown hst.2).mono fun k _ e => by cases e; exact h.tc cg rfl
  refine ⟨keep_block h.res ht h.t0 (by decide), keep_block h.svar ht h.t1 (by decide), ?_, ?_, ?_, fun x => (h.mhas x).trans (any_set hi hk x).symm, fun i' g' hg' => ?_, fun i' g' hg' => ?_, h.t0, h.t1, h.tc, h.tr, h.tm, fun i' g' hg' => ?_, h.mbB, ?_⟩
  · rw [List.length_set, ← flat_set cce 6 (fun _ => rfl) S i j g ⟨c', g.iv, g.nv⟩ v hi hj hc]
    exact hst.1
  · rw [List.length_set, flat_same rcells S i g ⟨c', g.iv, g.nv⟩ hi (by simp [rcells, hr])]
    exact keep_row h.rrow ht h.tr (by decide)
  · rw [List.length_set]
    exact keep_map h.mp ht h.tm (by decide)
  · rcases set_get hi hg' with ⟨rfl, rfl⟩ | ⟨_, h'⟩
    · intro z; simp only [hk]; exact h.mat _ g hi z
    · exact h.mat i' g' h'
  · rcases set_get hi hg' with ⟨rfl, rfl⟩ | ⟨_, h'⟩
    · have hrow := h.rows i' g hi
      simp only [hil, hnl]
      exact ⟨keep_row hrow.1 ht (h.ti i' g hi).1 (by omega), keep_row hrow.2 ht (h.ti i' g hi).2 (by omega)⟩
    · have hrow := h.rows i' g' h'
      exact ⟨keep_row hrow.1 ht (h.ti i' g' h').1 (by omega), keep_row hrow.2 ht (h.ti i' g' h').2 (by omega)⟩
  · rcases set_get hi hg' with ⟨rfl, rfl⟩ | ⟨_, h'⟩
    · exact h.ti i' g hi
    · exact h.ti i' g' h'
  · exact h.old.setCell (p := ⟨cg, i * 6 + j, none⟩) (h.crow.lt cg rfl).1 _

/-- The rule builder's turn: one of its two rows, and its cells, are new. -/
theorem GI.setR {w wr w' : World} {S : List G} {cv rv : Value} {mb : Nat} {D : DataW Unit} {tg tg' : Nat → Nat} (h : GI w S cv rv mb D tg wr) {i t0 : Nat} {g g' : G} (hi : S[i]? = some g) (ht0 : t0 = 10 + 2 * i ∨ t0 = 11 + 2 * i)
    (hk : ccells g'.c = ccells g.c) (hkey : g'.c.key = g.c.key) (ht : TurnsT wr w' tg (fun t => t = t0 ∨ t = 2)) (hold : Below w.heap.size wr w') (htg : ∀ b, b < wr.heap.size → tg b ≠ t0 → tg' b = tg b)
    (hrow : w'.ownsRow w.heap.size 117 3 rv S.length ((S.set i g').flatMap rcells)) (hrows : SRow w.heap.size w' g'.iv g'.c.il ∧ SRow w.heap.size w' g'.nv g'.c.nl) (hti : Tag tg' g'.iv.ownBlock (10 + 2 * i) ∧ Tag tg' g'.nv.ownBlock (11 + 2 * i)) : GI w (S.set i g') cv rv mb D tg' w' := by
  have n4 : ¬ (4 = t0 ∨ 4 = 2) := by omega
  have n5 : ¬ (5 = t0 ∨ 5 = 2) := by omega
  have n1 : ¬ (1 = t0 ∨ 1 = 2) := by omega
  have n3 : ¬ (3 = t0 ∨ 3 = 2) := by omega
  have lres := (Array.getElem?_eq_some_iff.1 h.res).1
  have lsv := (Array.getElem?_eq_some_iff.1 h.svar).1
  have re : ∀ (v : Option Nat) (t : Nat), (∀ b, v = some b → b < wr.heap.size) → Tag tg v t → t ≠ t0 → Tag tg' v t := fun v t hl hv hne b hb => by
    rw [htg b (hl b hb) (by rw [hv b hb]; exact hne)]; exact hv b hb
  refine ⟨keep_block h.res ht h.t0 n4, keep_block h.svar ht h.t1 n5, ?_, ?_, ?_, fun x => (h.mhas x).trans (any_set hi hkey x).symm, fun i' g1 hg1 => ?_, fun i' g1 hg1 => ?_, ?_, ?_, ?_, ?_, ?_, fun i' g1 hg1 => ?_, h.mbB, h.old.trans hold⟩
  · rw [List.length_set, flat_same cce S i g g' hi hk]
    exact keep_row h.crow ht h.tc n1
  · rw [List.length_set]; exact hrow
  · rw [List.length_set]; exact keep_map h.mp ht h.tm n3
  · rcases set_get hi hg1 with ⟨rfl, rfl⟩ | ⟨_, h'⟩
    · intro z; rw [hkey]; exact h.mat _ g hi z
    · exact h.mat i' g1 h'
  · rcases set_get hi hg1 with ⟨rfl, rfl⟩ | ⟨hne, h'⟩
    · exact hrows
    · have hrow := h.rows i' g1 h'
      exact ⟨keep_row hrow.1 ht (h.ti i' g1 h').1 (by omega), keep_row hrow.2 ht (h.ti i' g1 h').2 (by omega)⟩
  · rw [htg _ lres (by rw [h.t0]; omega)]; exact h.t0
  · rw [htg _ lsv (by rw [h.t1]; omega)]; exact h.t1
  · exact re _ _ (fun b hb => (h.crow.lt b hb).2) h.tc (by omega)
  · exact re _ _ (fun b hb => (h.rrow.lt b hb).2) h.tr (by omega)
  · rw [htg _ h.mp.lt (by rw [h.tm]; omega)]; exact h.tm
  · rcases set_get hi hg1 with ⟨rfl, rfl⟩ | ⟨hne, h'⟩
    · exact hti
    · have hrow := h.rows i' g1 h'
      exact ⟨re _ _ (fun b hb => (hrow.1.lt b hb).2) (h.ti i' g1 h').1 (by omega), re _ _ (fun b hb => (hrow.2.lt b hb).2) (h.ti i' g1 h').2 (by omega)⟩

def reTag (tg : Nat → Nat) (v : Option Nat) (t0 : Nat) : Nat → Nat := fun b => if v = some b then t0 else tg b
theorem reTag_self (tg : Nat → Nat) (v : Option Nat) (t0 : Nat) : Tag (reTag tg v t0) v t0 := fun b hb => by simp [reTag, hb]
/-- The new block is the old one of this tag, or a new one. -/
theorem reTag_other {tg : Nat → Nat} {new old : Option Nat} {t0 H : Nat} (hloc : new = old ∨ ∃ b, new = some b ∧ H ≤ b) (ho : Tag tg old t0) : ∀ b, b < H → tg b ≠ t0 → reTag tg new t0 b = tg b := by
  intro b hb hne
  unfold reTag
  rw [if_neg]
  intro e
  rcases hloc with h | ⟨c, h, hc⟩
  · exact hne (ho b (by rw [← h, e]))
  · rw [e] at h
    cases h
    omega

def newG (key : Str) : G := ⟨⟨key, false, false, false, [], []⟩, .slice none 0 0, .slice none 0 0⟩

theorem GI.grow1 {w wr wa : World} {S : List G} {cv rv : Value} {mb : Nat} {D : DataW Unit} {tg : Nat → Nat} (h : GI w S cv rv mb D tg wr) (key : Str) (hnew : S.any (fun g => g.c.key == key) = false)
    (ho : wa.ownsMap Yba.prog 9 (plainElem Yba.prog 3) mb (S.length + 1) (D.put (.string key) (.lit (.int .i64 S.length)))) (hg : wr.grownBy wa (some mb)) : GI3 w (S ++ [newG key]) S S cv rv mb (D.put (.string key) (.lit (.int .i64 S.length))) tg wa := by
  have ht : TurnsT wr wa tg (fun t => t = 3) := (Turns.of_grown hg).mono fun k _ e => by cases e; exact h.tm
  refine ⟨keep_block h.res ht h.t0 (by decide), keep_block h.svar ht h.t1 (by decide), keep_row h.crow ht h.tc (by decide), keep_row h.rrow ht h.tr (by decide), by rw [List.length_append]; exact ho, fun x => ?_, fun i g hi => ?_,
    fun i g hi => ⟨keep_row (h.rows i g hi).1 ht (h.ti i g hi).1 (by omega), keep_row (h.rows i g hi).2 ht (h.ti i g hi).2 (by omega)⟩, h.t0, h.t1, h.tc, h.tr, h.tm, h.ti, h.mbB, ?_⟩
  · rw [has_put_str h.mp.isMap, h.mhas x, List.any_append]
    simp [newG, Bool.or_comm]
  · intro z
    by_cases e : g.c.key = key
    · by_cases hi' : i < S.length
      · rw [List.getElem?_append_left hi'] at hi
        have : S.any (fun g => g.c.key == key) = true := List.any_eq_true.2 ⟨g, List.mem_of_getElem? hi, by simp [e]⟩
        rw [hnew] at this
        cases this
      · have hle := (List.getElem?_eq_some_iff.1 hi).1
        simp at hle
        obtain rfl : i = S.length := by omega
        rw [e, Maps.atKey_put_same h.mp.isMap (by simp [WideAt.IsKeyLit])]
    · rw [Maps.atKey_put_other (by intro h'; exact e (by cases h'; rfl))]
      by_cases hi' : i < S.length
      · rw [List.getElem?_append_left hi'] at hi
        exact h.mat i g hi z
      · have hle := (List.getElem?_eq_some_iff.1 hi).1
        simp at hle
        obtain rfl : i = S.length := by omega
        simp at hi
        subst hi
        exact absurd rfl e
  · exact h.old.grown hg h.old.size (fun k hk => by cases hk; exact h.mbB)

theorem GI3.grow2 {w wb wc : World} {Sm S : List G} {cv cv' rv : Value} {mb : Nat} {D : DataW Unit} {tg : Nat → Nat} (h : GI3 w Sm S S cv rv mb D tg wb) (key : Str)
    (ho : wc.ownsRow w.heap.size 115 6 cv' (S.length + 1) (S.flatMap cce ++ cce (newG key))) (hg : wb.grownBy wc cv.ownBlock) (hloc : cv'.ownBlock = cv.ownBlock ∨ cv'.ownBlock = some wb.heap.size) :
    GI3 w Sm (S ++ [newG key]) S cv' rv mb D (reTag tg cv'.ownBlock 1) (wc.setCell ⟨w.heap.size + 1, 0, none⟩ cv') := by
  have hsb := h.blocks
  have hloc' : cv'.ownBlock = cv.ownBlock ∨ ∃ b, cv'.ownBlock = some b ∧ wb.heap.size ≤ b := hloc.imp id (fun e => ⟨_, e, Nat.le_refl _⟩)
  have rt := reTag_other hloc' h.tc
  have ht1 : TurnsT wb wc tg (fun t => t = 1) := (Turns.of_grown hg).mono fun k _ e => h.tc k e
  have ht : TurnsT wb (wc.setCell ⟨w.heap.size + 1, 0, none⟩ cv') tg (fun t => t = 1 ∨ t = 5) := (ht1.mono fun k _ e => Or.inl e).setCell _ _ (fun _ => Or.inr h.t1)
  have re : ∀ (v : Option Nat) (t : Nat), (∀ b, v = some b → b < wb.heap.size) → Tag tg v t → t ≠ 1 → Tag (reTag tg cv'.ownBlock 1) v t := fun v t hl hv hne b hb => by
    rw [rt b (hl b hb) (by rw [hv b hb]; exact hne)]; exact hv b hb
  have hcs : cv'.ownBlock ≠ some (w.heap.size + 1) := by
    intro e
    rcases hloc with h' | h'
    · have := h.tc _ (by rw [← h', e])
      rw [h.t1] at this
      cases this
    · rw [h'] at e
      have := Option.some.inj e
      omega
  refine ⟨keep_block h.res ht h.t0 (by decide), ?_, ?_, keep_row h.rrow ht h.tr (by decide), keep_map h.mp ht h.tm (by decide), h.mhas, h.mat,
    fun i g hi => ⟨keep_row (h.rows i g hi).1 ht (h.ti i g hi).1 (by omega), keep_row (h.rows i g hi).2 ht (h.ti i g hi).2 (by omega)⟩, ?_, ?_, reTag_self _ _ _, re _ _ (fun b hb => (h.rrow.lt b hb).2) h.tr (by decide), ?_,
    fun i g hi => ⟨re _ _ (fun b hb => ((h.rows i g hi).1.lt b hb).2) (h.ti i g hi).1 (by omega), re _ _ (fun b hb => ((h.rows i g hi).2.lt b hb).2) (h.ti i g hi).2 (by omega)⟩, h.mbB, ?_⟩
  · rw [heap_setCell_same wc (w.heap.size + 1) 0 _ 39 cv' (keep_block h.svar ht1 h.t1 (by decide))]
    rfl
  · rw [List.length_append, List.flatMap_append]
    have : ((wc.setCell ⟨w.heap.size + 1, 0, none⟩ cv').ownsRow w.heap.size 115 6 cv' (S.length + 1) (S.flatMap cce ++ cce (newG key))) := ownsRow_setCell_other ho hcs _
    simpa using this
  · rw [rt _ (by omega) (by rw [h.t0]; decide)]; exact h.t0
  · rw [rt _ (by omega) (by rw [h.t1]; decide)]; exact h.t1
  · rw [rt _ h.mp.lt (by rw [h.tm]; decide)]; exact h.tm
  · exact (h.old.grown hg h.old.size (fun k hk => (h.crow.lt k hk).1)).setCell (p := ⟨w.heap.size + 1, 0, none⟩) (Nat.le_succ _) _

theorem GI3.grow3 {w we wf : World} {S : List G} {cv rv rv' : Value} {mb : Nat} {D : DataW Unit} {tg : Nat → Nat} {key : Str} (h : GI3 w (S ++ [newG key]) (S ++ [newG key]) S cv rv mb D tg we)
    (ho : wf.ownsRow w.heap.size 117 3 rv' (S.length + 1) (S.flatMap rcells ++ rcells (newG key))) (hg : we.grownBy wf rv.ownBlock) (hloc : rv'.ownBlock = rv.ownBlock ∨ rv'.ownBlock = some we.heap.size) :
    GI w (S ++ [newG key]) cv rv' mb D (reTag tg rv'.ownBlock 2) wf := by
  have hsb := h.blocks
  have hloc' : rv'.ownBlock = rv.ownBlock ∨ ∃ b, rv'.ownBlock = some b ∧ we.heap.size ≤ b := hloc.imp id (fun e => ⟨_, e, Nat.le_refl _⟩)
  have rt := reTag_other hloc' h.tr
  have ht : TurnsT we wf tg (fun t => t = 2) := (Turns.of_grown hg).mono fun k _ e => h.tr k e
  have re : ∀ (v : Option Nat) (t : Nat), (∀ b, v = some b → b < we.heap.size) → Tag tg v t → t ≠ 2 → Tag (reTag tg rv'.ownBlock 2) v t := fun v t hl hv hne b hb => by
    rw [rt b (hl b hb) (by rw [hv b hb]; exact hne)]; exact hv b hb
  refine ⟨keep_block h.res ht h.t0 (by decide), keep_block h.svar ht h.t1 (by decide), keep_row h.crow ht h.tc (by decide), ?_, keep_map h.mp ht h.tm (by decide), h.mhas, h.mat, fun i g hi => ?_, ?_, ?_, re _ _ (fun b hb => (h.crow.lt b hb).2) h.tc (by decide), reTag_self _ _ _, ?_, fun i g hi => ?_, h.mbB, ?_⟩
  · rw [List.length_append, List.flatMap_append]
    simpa using ho
  · by_cases hi' : i < S.length
    · rw [List.getElem?_append_left hi'] at hi
      exact ⟨keep_row (h.rows i g hi).1 ht (h.ti i g hi).1 (by omega), keep_row (h.rows i g hi).2 ht (h.ti i g hi).2 (by omega)⟩
    · have hle := (List.getElem?_eq_some_iff.1 hi).1
      simp at hle
      obtain rfl : i = S.length := by omega
      simp at hi
      subst hi
      exact ⟨World.ownsRow_nil _ _ _ _, World.ownsRow_nil _ _ _ _⟩
  · rw [rt _ (by omega) (by rw [h.t0]; decide)]; exact h.t0
  · rw [rt _ (by omega) (by rw [h.t1]; decide)]; exact h.t1
  · rw [rt _ h.mp.lt (by rw [h.tm]; decide)]; exact h.tm
  · by_cases hi' : i < S.length
    · rw [List.getElem?_append_left hi'] at hi
      exact ⟨re _ _ (fun b hb => ((h.rows i g hi).1.lt b hb).2) (h.ti i g hi).1 (by omega), re _ _ (fun b hb => ((h.rows i g hi).2.lt b hb).2) (h.ti i g hi).2 (by omega)⟩
    · have hle := (List.getElem?_eq_some_iff.1 hi).1
      simp at hle
      obtain rfl : i = S.length := by omega
      simp at hi
      subst hi
      exact ⟨fun b hb => by simp [newG, Value.ownBlock] at hb, fun b hb => by simp [newG, Value.ownBlock] at hb⟩
  · exact h.old.grown hg h.old.size (fun k hk => (h.rrow.lt k hk).1)

end Go.Proofs.Ybulkegqe.lawS6647AWhole
