/-
  DERIVED. The plain law of the clauses.
-/
import Derived.Test.YbulkegqeSelG
namespace Go.Proofs.Ybulkegqe.lawS6647AWhole
set_option linter.unusedVariables false
set_option linter.unusedSimpArgs false

/-- A requirement, plainly. -/
structure LR where
  key : Str
  vals : Option (List Str)
  no : Bool

def isIn (L : List Str) : Option Str → Bool
  | some v => L.contains v
  | none => false
def LR.holds (r : LR) (o : Option Str) : Bool := match r.vals with
  | none => o.isSome != r.no
  | some L => isIn L o != r.no
def Cl.holds (c : Cl) : Option Str → Bool
  | none => !c.pres
  | some v => !c.abs && (RuleSet c.res c.il c.nl v == c.res)
def Cl.step (c : Cl) (r : LR) : Cl := match r.vals, r.no with
  | none, true => { c with abs := true }
  | none, false => { c with pres := true }
  | some L, true => { c with nl := c.nl ++ L }
  | some L, false => { c with pres := true, res := true, il := if c.res then c.il.filter (fun x => L.contains x) else L }

theorem step_key (c : Cl) (r : LR) : (c.step r).key = c.key := by
  unfold Cl.step
  split <;> rfl

theorem step_holds (c : Cl) (r : LR) (o : Option Str) : (c.step r).holds o = (c.holds o && r.holds o) := by
  obtain ⟨key, pres, abs, res, il, nl⟩ := c
  obtain ⟨rk, vals, no⟩ := r
  cases o with
  | none => cases vals <;> cases no <;> simp [Cl.step, Cl.holds, LR.holds, isIn]
  | some v =>
    cases vals with
    | none => cases no <;> simp [Cl.step, Cl.holds, LR.holds, isIn]
    | some L =>
      have h1 : ∀ (A : List Str) (p : Str → Bool), (A.filter p).contains v = (A.contains v && p v) := fun A p => by
        rw [Bool.eq_iff_iff]; simp
      have h2 : (nl ++ L).contains v = (nl.contains v || L.contains v) := by rw [Bool.eq_iff_iff]; simp
      cases no <;> cases res <;> simp only [Cl.step, Cl.holds, LR.holds, isIn, RuleSet, h1, h2, if_true, if_false, Bool.false_eq_true] <;> cases abs <;> cases (L.contains v) <;> cases (nl.contains v) <;> (try cases (il.contains v)) <;> rfl

structure PInv (R : List LR) (S : List Cl) : Prop where
  nodup : (S.map (·.key)).Nodup
  cover : ∀ r ∈ R, ∃ c ∈ S, c.key = r.key
  mean : ∀ c ∈ S, ∀ o, c.holds o = R.all (fun r => !(r.key == c.key) || r.holds o)

theorem PInv.nil : PInv [] [] := ⟨by simp, by simp, by simp⟩
theorem PInv.grow {R : List LR} {S : List Cl} (h : PInv R S) (key : Str) (hn : S.any (fun c => c.key == key) = false) : PInv R (S ++ [⟨key, false, false, false, [], []⟩]) := by
  have hne : ∀ c ∈ S, c.key ≠ key := by
    intro c hc e
    have : S.any (fun c => c.key == key) = true := List.any_eq_true.2 ⟨c, hc, by simp [e]⟩
    rw [hn] at this
    cases this
  refine ⟨?_, fun r hr => ?_, fun c hc o => ?_⟩
  · rw [List.map_append, List.nodup_append]
    refine ⟨h.nodup, by simp, ?_⟩
    intro a ha b hb
    simp at hb
    subst hb
    obtain ⟨c, hc, rfl⟩ := List.mem_map.1 ha
    exact hne c hc
  · obtain ⟨c, hc, e⟩ := h.cover r hr
    exact ⟨c, by simp [hc], e⟩
  · rcases List.mem_append.1 hc with hc | hc
    · exact h.mean c hc o
    · simp at hc
      subst hc
      have : R.all (fun r => !(r.key == key) || r.holds o) = true := by
        rw [List.all_eq_true]
        intro r hr
        obtain ⟨c, hc, e⟩ := h.cover r hr
        have := hne c hc
        rw [e] at this
        simp [this]
      rw [this]
      cases o <;> simp [Cl.holds, RuleSet]

theorem nodup_getElem {α : Type} {l : List α} (h : l.Nodup) {i j : Nat} {a : α} (hi : l[i]? = some a) (hj : l[j]? = some a) : i = j := by
  obtain ⟨h1, e1⟩ := List.getElem?_eq_some_iff.1 hi
  obtain ⟨h2, e2⟩ := List.getElem?_eq_some_iff.1 hj
  have hp := List.pairwise_iff_getElem.1 h
  rcases Nat.lt_trichotomy i j with hlt | rfl | hlt
  · exact absurd (e1.trans e2.symm) (hp i j h1 h2 hlt)
  · rfl
  · exact absurd (e2.trans e1.symm) (hp j i h2 h1 hlt)

theorem PInv.step {R : List LR} {S : List Cl} (h : PInv R S) {i : Nat} {c : Cl} {r : LR} (hi : S[i]? = some c) (hk : c.key = r.key) : PInv (R ++ [r]) (S.set i (c.step r)) := by
  have hkeys : (S.set i (c.step r)).map (·.key) = S.map (·.key) := by
    rw [List.map_set, step_key]
    apply List.ext_getElem?
    intro j
    by_cases e : j = i
    · subst e
      have hlt := (List.getElem?_eq_some_iff.1 hi).1
      rw [List.getElem?_set_self (by simpa using hlt)]
      simp [hi]
    · rw [List.getElem?_set_ne (fun e' => e e'.symm)]
  refine ⟨by rw [hkeys]; exact h.nodup, fun r' hr' => ?_, fun c' hc' o => ?_⟩
  · have hex : ∃ c ∈ S, c.key = r'.key := by
      rcases List.mem_append.1 hr' with hr' | hr'
      · exact h.cover r' hr'
      · simp at hr'
        subst hr'
        exact ⟨c, List.mem_of_getElem? hi, hk⟩
    obtain ⟨c0, hc0, e0⟩ := hex
    have : r'.key ∈ (S.set i (c.step r)).map (·.key) := by rw [hkeys]; exact List.mem_map.2 ⟨c0, hc0, e0⟩
    obtain ⟨c1, hc1, e1⟩ := List.mem_map.1 this
    exact ⟨c1, hc1, e1⟩
  · obtain ⟨j, hj⟩ := List.getElem?_of_mem hc'
    rw [List.all_append]
    rcases set_get hi hj with ⟨rfl, rfl⟩ | ⟨hne, hj'⟩
    · rw [step_holds, h.mean c (List.mem_of_getElem? hi) o, step_key]
      simp [hk]
    · rw [h.mean c' (List.mem_of_getElem? hj') o]
      have : r.key ≠ c'.key := by
        intro e
        refine hne (nodup_getElem h.nodup (i := j) (j := i) (a := r.key) ?_ ?_)
        · simp [hj', e]
        · simp [hi, hk]
      simp [this]

/-- All clauses hold just where all requirements do. -/
theorem PInv.all {R : List LR} {S : List Cl} (h : PInv R S) (f : Str → Option Str) : S.all (fun c => c.holds (f c.key)) = R.all (fun r => r.holds (f r.key)) := by
  rw [Bool.eq_iff_iff, List.all_eq_true, List.all_eq_true]
  constructor
  · intro hs r hr
    obtain ⟨c, hc, e⟩ := h.cover r hr
    have := hs c hc
    rw [h.mean c hc, List.all_eq_true] at this
    have := this r hr
    simpa [e] using this
  · intro hs c hc
    rw [h.mean c hc, List.all_eq_true]
    intro r hr
    by_cases e : r.key = c.key
    · have := hs r hr
      rw [e] at this
      simp [this]
    · simp [e]

end Go.Proofs.Ybulkegqe.lawS6647AWhole
