/-
  DERIVED. '(*labelSelector).matches'.
-/
import Derived.Test.YbulkegqeSelHold
namespace Go.Proofs.Ybulkegqe.lawS6647AWhole
set_option linter.unusedVariables false
set_option linter.unusedSimpArgs false
open Go.RowKit
attribute [local go_sem ↓] Go.wp_at_zero Go.wp_at_succ

/-- The clause of index i holds. -/
def xh (L : List (Str × Str)) (x : X) : Bool := x.g.c.holds (look L x.g.c.key)

/-- What 'matches' reads. -/
structure MI (w : World) (sb : Nat) (Xs : List X) (cv mv : Value) (q : Nat) (T : Str) (L : List (Str × Str)) : Prop where
  sel : Sel w Xs cv mv
  recv : w.heap[sb]? = some (.cells #[cv, mv, .int .i64 q] 39 (0, 0))
  txt : Txt T L
  asc : Asc L
  nodup : (Xs.map (·.g.c.key)).Nodup
  cnt : q = (Xs.filter (fun x => x.g.c.pres)).length
  num : Xs.length ≤ 1048576
  lkey : ∀ p ∈ L, p.1.length ≤ maxLen ∧ p.2.length ≤ maxLen

theorem MI.below {w w' : World} {sb : Nat} {Xs : List X} {cv mv : Value} {q : Nat} {T : Str} {L : List (Str × Str)} (h : MI w sb Xs cv mv q T L) (hb : Below w.heap.size w w') : MI w' sb Xs cv mv q T L :=
  ⟨h.sel.below hb, (hb.block sb (Array.getElem?_eq_some_iff.1 h.recv).1).trans h.recv, h.txt, h.asc, h.nodup, h.cnt, h.num, h.lkey⟩

theorem MI.look {w : World} {sb : Nat} {Xs : List X} {cv mv : Value} {q : Nat} {T : Str} {L : List (Str × Str)} (h : MI w sb Xs cv mv q T L) (k : Str) : ((look L k).getD []).length ≤ maxLen := by
  unfold lawS6647AWhole.look
  cases hf : L.find? (fun p => p.1 == k) with
  | none => simp
  | some p => exact (h.lkey p (List.mem_of_find?_eq_some hf)).2

/-- The clause's cells. -/
theorem MI.cells {w : World} {sb : Nat} {Xs : List X} {mv : Value} {q cg n cap : Nat} {T : Str} {L : List (Str × Str)} (h : MI w sb Xs (.slice (some ⟨cg, 0, none⟩) n cap) mv q T L) {i : Nat} {x : X} (hi : Xs[i]? = some x) :
    w.cell? ⟨cg, i * 6, none⟩ = some (encStr x.g.c.key) ∧ w.cell? ⟨cg, i * 6 + 1, none⟩ = some (.bool x.g.c.pres) ∧ w.cell? ⟨cg, i * 6 + 2, none⟩ = some (.bool x.g.c.abs) ∧ w.cell? ⟨cg, i * 6 + 3, none⟩ = some x.a ∧ w.cell? ⟨cg, i * 6 + 4, none⟩ = some x.b ∧ w.cell? ⟨cg, i * 6 + 5, none⟩ = some x.c := by
  obtain ⟨B, hr⟩ := h.sel.crow
  have hlt := lt_of_get hi
  obtain ⟨g', c', hv⟩ := own_some hr (by omega)
  simp only [Value.slice.injEq, Option.some.injEq, Addr.mk.injEq, and_true] at hv
  obtain ⟨rfl, rfl, rfl⟩ := hv
  have e : ∀ j, j < 6 → w.cell? ⟨cg, i * 6 + j, none⟩ = (xcells x)[j]? := fun j hj => by
    rw [hr.cellAt _ (by omega), flat_get xcells 6 (fun _ => rfl) Xs i j x hi hj]
  exact ⟨e 0 (by decide), e 1 (by decide), e 2 (by decide), e 3 (by decide), e 4 (by decide), e 5 (by decide)⟩

theorem MI.holds {w : World} {sb : Nat} {Xs : List X} {mv : Value} {q cg n cap : Nat} {T : Str} {L : List (Str × Str)} (h : MI w sb Xs (.slice (some ⟨cg, 0, none⟩) n cap) mv q T L) {i : Nat} {x : X} (hi : Xs[i]? = some x) (v : Str) (has : Bool) (hv : v.length ≤ maxLen) :
    Calls Yba.prog 19 #[.pointer (some ⟨cg, i * 6, none⟩), encStr v, .bool has] w fun e w' => e = .returned (.bool (x.g.c.holds (if has then some v else none))) ∧ Below w.heap.size w w' := by
  obtain ⟨_, c1, c2, c3, c4, c5⟩ := h.cells hi
  obtain ⟨s1, s2⟩ := h.sel.sets i x hi
  exact holds_any cg (i * 6) x v has w c1 c2 c3 c4 c5 s1 s2 hv

theorem some_getD (o : Option Str) : (if o.isSome then some (o.getD []) else none) = o := by cases o <;> rfl

theorem MI.holdsX {w : World} {sb : Nat} {Xs : List X} {mv : Value} {q cg n cap : Nat} {T : Str} {L : List (Str × Str)} (h : MI w sb Xs (.slice (some ⟨cg, 0, none⟩) n cap) mv q T L) {i : Nat} {x : X} (hi : Xs[i]? = some x) :
    Calls Yba.prog 19 #[.pointer (some ⟨cg, i * 6, none⟩), encStr ((lawS6647AWhole.look L x.g.c.key).getD []), .bool (lawS6647AWhole.look L x.g.c.key).isSome] w fun e w' => e = .returned (.bool (xh L x)) ∧ Below w.heap.size w w' := by
  have := h.holds hi ((lawS6647AWhole.look L x.g.c.key).getD []) (lawS6647AWhole.look L x.g.c.key).isSome (h.look _)
  rw [some_getD] at this
  exact this
theorem all_false {Xs : List X} {f : X → Bool} {i : Nat} {x : X} (hi : Xs[i]? = some x) (h : f x = false) : Xs.all f = false := by
  rw [List.all_eq_false]
  exact ⟨x, List.mem_of_getElem? hi, by simp [h]⟩
theorem all_true {Xs : List X} {f : X → Bool} (h : ∀ (j : Nat) (x : X), Xs[j]? = some x → f x = true) : Xs.all f = true := by
  rw [List.all_eq_true]
  intro x hx
  obtain ⟨j, hj⟩ := List.getElem?_of_mem hx
  exact h j x hj

/-- How many required clauses the first j labels meet. -/
def one (Xs : List X) (k : Str) : Nat := (Xs.filter (fun x => x.g.c.key == k && x.g.c.pres)).length
def fnd (Xs : List X) (L : List (Str × Str)) (j : Nat) : Nat := ((L.take j).map (fun p => one Xs p.1)).sum

theorem one_at {Xs : List X} (hn : (Xs.map (·.g.c.key)).Nodup) {i : Nat} {x : X} (hi : Xs[i]? = some x) : one Xs x.g.c.key = if x.g.c.pres then 1 else 0 := by
  induction Xs generalizing i with
  | nil => simp at hi
  | cons y Xs ih =>
    rw [List.map_cons, List.nodup_cons] at hn
    obtain ⟨hy, hn⟩ := hn
    cases i with
    | zero =>
      simp at hi
      subst hi
      have h0 : Xs.filter (fun z => z.g.c.key == y.g.c.key && z.g.c.pres) = [] := by
        rw [List.filter_eq_nil_iff]
        intro z hz
        have : z.g.c.key ≠ y.g.c.key := fun e => hy (List.mem_map.2 ⟨z, hz, e⟩)
        simp [this]
      simp only [one, List.filter_cons, h0]
      cases y.g.c.pres <;> simp
    | succ i =>
      simp only [List.getElem?_cons_succ] at hi
      have hne : y.g.c.key ≠ x.g.c.key := fun e => hy (List.mem_map.2 ⟨x, List.mem_of_getElem? hi, e.symm⟩)
      have := ih hn hi
      simp only [one, List.filter_cons, show (y.g.c.key == x.g.c.key) = false by simpa using hne, Bool.false_and] at this ⊢
      simpa using this
theorem one_none {Xs : List X} {k : Str} (h : Xs.any (fun y => y.g.c.key == k) = false) : one Xs k = 0 := by
  rw [List.any_eq_false] at h
  have : Xs.filter (fun x => x.g.c.key == k && x.g.c.pres) = [] := by
    rw [List.filter_eq_nil_iff]
    intro z hz
    have := h z hz
    simp only [Bool.not_eq_true] at this
    simp [this]
  simp [one, this]
theorem one_le {Xs : List X} (hn : (Xs.map (·.g.c.key)).Nodup) (k : Str) : one Xs k ≤ 1 := by
  cases h : Xs.any (fun y => y.g.c.key == k) with
  | false => rw [one_none h]; omega
  | true =>
    obtain ⟨y, hy, e⟩ := List.any_eq_true.1 h
    obtain ⟨i, hi⟩ := List.getElem?_of_mem hy
    have e : y.g.c.key = k := by simpa using e
    rw [← e, one_at hn hi]
    split <;> omega
theorem fnd_succ {Xs : List X} {L : List (Str × Str)} {j : Nat} {p : Str × Str} (hj : L[j]? = some p) : fnd Xs L (j + 1) = fnd Xs L j + one Xs p.1 := by
  unfold fnd
  rw [List.take_add_one, hj]
  simp

theorem filter_or (Xs : List X) (a b : X → Bool) (h : ∀ x ∈ Xs, ¬ (a x = true ∧ b x = true)) : (Xs.filter (fun x => a x || b x)).length = (Xs.filter a).length + (Xs.filter b).length := by
  induction Xs with
  | nil => rfl
  | cons x Xs ih =>
    have ih := ih (fun y hy => h y (List.mem_cons_of_mem _ hy))
    have hx := h x (List.mem_cons_self)
    simp only [List.filter_cons]
    cases ha : a x <;> cases hb : b x <;> simp [ha, hb] at hx ⊢ <;> omega

theorem fnd_all (Xs : List X) : ∀ (L : List (Str × Str)), Asc L → (L.map (fun p => one Xs p.1)).sum = (Xs.filter (fun x => x.g.c.pres && L.any (fun p => p.1 == x.g.c.key))).length
  | [], _ => by
    have : Xs.filter (fun x => x.g.c.pres && ([] : List (Str × Str)).any (fun p => p.1 == x.g.c.key)) = [] := List.filter_eq_nil_iff.2 fun x _ => by simp
    rw [this]; rfl
  | p :: L, h => by
    have h' : Asc L := (List.pairwise_cons.1 h).2
    have hp := (List.pairwise_cons.1 h).1
    have ih := fnd_all Xs L h'
    rw [List.map_cons, List.sum_cons, ih]
    have e : (fun x : X => x.g.c.pres && (p :: L).any (fun p => p.1 == x.g.c.key)) = fun x => (x.g.c.key == p.1 && x.g.c.pres) || (x.g.c.pres && L.any (fun p => p.1 == x.g.c.key)) := by
      funext x
      rw [List.any_cons, show (p.1 == x.g.c.key) = (x.g.c.key == p.1) from Bool.beq_comm]
      cases x.g.c.pres <;> cases (x.g.c.key == p.1) <;> cases (L.any fun p => p.1 == x.g.c.key) <;> rfl
    rw [e, filter_or]
    · rfl
    · rintro x _ ⟨h1, h2⟩
      simp only [Bool.and_eq_true, beq_iff_eq, List.any_eq_true] at h1 h2
      obtain ⟨q, hq, e⟩ := h2.2
      have := hp q hq
      rw [e, h1.1] at this
      exact str_irrefl _ this

theorem any_look (L : List (Str × Str)) (k : Str) : L.any (fun p => p.1 == k) = (look L k).isSome := by
  unfold look
  rw [Option.isSome_map, List.isSome_find?]

/-- The last comparison says whether every clause holds. -/
theorem fin_eq {Xs : List X} {L : List (Str × Str)} {q : Nat} (hA : Asc L) (hq : q = (Xs.filter (fun x => x.g.c.pres)).length) (hall : ∀ (t : Nat) (p : Str × Str) (x : X), L[t]? = some p → x ∈ Xs → x.g.c.key = p.1 → x.g.c.holds (some p.2) = true) :
    ((fnd Xs L L.length : Int) == (q : Int)) = Xs.all (xh L) := by
  have e1 : fnd Xs L L.length = (Xs.filter (fun x => x.g.c.pres && (look L x.g.c.key).isSome)).length := by
    unfold fnd
    rw [List.take_length, fnd_all Xs L hA]
    simp only [any_look]
  have e2 : Xs.filter (fun x => x.g.c.pres && (look L x.g.c.key).isSome) = (Xs.filter (fun x => x.g.c.pres)).filter (fun x => (look L x.g.c.key).isSome) := by
    rw [List.filter_filter]
    congr 1
    funext x
    exact Bool.and_comm _ _
  have hx : ∀ x ∈ Xs, xh L x = (!x.g.c.pres || (look L x.g.c.key).isSome) := by
    intro x hxm
    unfold xh
    cases ho : look L x.g.c.key with
    | none => simp [Cl.holds]
    | some v =>
      unfold look at ho
      cases hf : L.find? (fun p => p.1 == x.g.c.key) with
      | none => rw [hf] at ho; cases ho
      | some p =>
        rw [hf] at ho
        have hv : p.2 = v := by simpa using ho
        have hk : p.1 = x.g.c.key := by simpa using List.find?_some hf
        obtain ⟨t, ht⟩ := List.getElem?_of_mem (List.mem_of_find?_eq_some hf)
        rw [← hv, hall t p x ht hxm hk.symm]
        simp
  rw [e1, e2, hq, Bool.eq_iff_iff, beq_iff_eq, List.all_eq_true]
  constructor
  · intro h x hxm
    have h' : ((Xs.filter (fun x => x.g.c.pres)).filter (fun x => (look L x.g.c.key).isSome)).length = (Xs.filter (fun x => x.g.c.pres)).length := by omega
    rw [List.length_filter_eq_length_iff] at h'
    rw [hx x hxm]
    cases hp : x.g.c.pres with
    | false => rfl
    | true => rw [h' x (List.mem_filter.2 ⟨hxm, hp⟩)]; rfl
  · intro h
    have : ((Xs.filter (fun x => x.g.c.pres)).filter (fun x => (look L x.g.c.key).isSome)).length = (Xs.filter (fun x => x.g.c.pres)).length := by
      rw [List.length_filter_eq_length_iff]
      intro x hxm
      obtain ⟨h1, h2⟩ := List.mem_filter.1 hxm
      have := h x h1
      rw [hx x h1, h2] at this
      simpa using this
    omega

/-- The two numbers that are compared first. -/
def MH (w : World) (sb : Nat) (Xs : List X) (cv mv : Value) (q : Nat) (T : Str) (L : List (Str × Str)) (wc : World) : Prop :=
  Below w.heap.size w wc ∧ MI wc sb Xs cv mv q T L ∧ wc.cell? ⟨w.heap.size, 0, none⟩ = some (encStr T)

theorem MH.later {w : World} {sb : Nat} {Xs : List X} {cv mv : Value} {q : Nat} {T : Str} {L : List (Str × Str)} {w1 w2 : World} (h : MH w sb Xs cv mv q T L w1) (hb : Below w1.heap.size w1 w2) : MH w sb Xs cv mv q T L w2 :=
  ⟨blw h.1 hb, h.2.1.below hb, box_keep h.2.2 hb⟩

set_option maxRecDepth 100000 in
set_option maxHeartbeats 3200000 in
theorem match_any (sb q : Nat) (Xs : List X) (cv mv : Value) (T : Str) (L : List (Str × Str)) (w : World) (h : MI w sb Xs cv mv q T L) :
    Calls Yba.prog 8 #[.pointer (some ⟨sb, 0, none⟩), .agg #[encStr T]] w fun e w' => e = .returned (.bool (Xs.all (xh L))) ∧ Below w.heap.size w w' := by
  obtain ⟨B, hrow⟩ := h.sel.crow
  obtain ⟨ca, cc, rfl⟩ := own_slice hrow
  have hnX := h.num
  have hnL := h.txt.num
  have HM0 : Hid (MH w sb Xs (.slice ca Xs.length cc) mv q T L (w.alloc (.cells #[encStr T] 43))) := ⟨al1 _ _, h.below (al1 _ _), alc⟩
  clear h hrow
  obtain ⟨n, en⟩ : ∃ n, n = Xs.length := ⟨_, rfl⟩
  obtain ⟨m, em⟩ : ∃ m, m = L.length := ⟨_, rfl⟩
  have HN : Hid (n = Xs.length) := en
  have HLm : Hid (m = L.length) := em
  rw [← en] at hnX HM0
  rw [← em] at hnL
  clear en em
  go_enter Yba.func8, Yba.ntmps8
  go_upto_region 1 with fail
  obtain ⟨w1, hw1⟩ : ∃ x, x = w.alloc (.cells #[encStr T] 43) := ⟨_, rfl⟩
  rw [← hw1] at HM0
  simp only [← hw1]
  clear hw1
  obtain ⟨s0, s1, s2, sf0, sf1, sf2⟩ := cells3 HM0.out.2.1.recv
  have bx := HM0.out.2.2
  go_cut [23] (fun p wc => ∃ b : Bool, p = .bool b ∧ b = decide (n ≤ m) ∧ MH w sb Xs (.slice ca n cc) mv q T L wc)
  case first =>
    go_region_held3 (fun w' => w'.cell? ⟨sb, 0, none⟩ = some (.slice ca n cc) ∧ w'.cell? ⟨w.heap.size, 0, none⟩ = some (encStr T)) (go_keep) (first | (go_at_call 17; refine (len_any T L w1.drew HM0.out.2.1.txt).mono ?_; rintro e2 w2 ⟨rfl, hb2⟩; rw [← HLm.out]; have HM2 : Hid (MH w sb Xs (.slice ca n cc) mv q T L w2) := MH.later HM0.out ((Below.refl _ w1).drew.trans hb2); obtain ⟨t0, t1, t2, tf0, tf1, tf2⟩ := cells3 HM2.out.2.1.recv; have bx2 := HM2.out.2.2; clear hb2))
    all_goals (
      go_wp2
      go_meet
      exact ⟨_, rfl, rfl, HM2.out⟩)
  case rest =>
    obtain ⟨b, rfl, hbb, hM⟩ := hcut
    have HM : Hid (MH w sb Xs (.slice ca n cc) mv q T L wc) := hM
    have HBB : Hid (b = decide (n ≤ m)) := hbb
    clear hM HM0 s0 s1 s2 sf0 sf1 sf2 bx hbb
    cases b with
    | true =>
      obtain ⟨s0, s1, s2, sf0, sf1, sf2⟩ := cells3 HM.out.2.1.recv
      go_wp2
      go_loopw [29] (fun p wr => ∃ i : Nat, p = .int .i64 i ∧ i ≤ n ∧ (∀ (j : Nat) (x : X), Xs[j]? = some x → j < i → xh L x = true) ∧ MH w sb Xs (.slice ca n cc) mv q T L wr) (fun p _ => n - (intOf p).toNat)
      case atStart => exact ⟨0, rfl, Nat.zero_le _, fun j x _ h => absurd h (Nat.not_lt_zero _), HM.out⟩
      case round =>
        obtain ⟨i, rfl, hi, hall, hM⟩ := hrel
        have HM2 : Hid (MH w sb Xs (.slice ca n cc) mv q T L wr) := hM
        have HALL : Hid (∀ (j : Nat) (x : X), Xs[j]? = some x → j < i → xh L x = true) := hall
        clear s0 s1 s2 sf0 sf1 sf2 hM hall HM
        obtain ⟨s0, s1, s2, sf0, sf1, sf2⟩ := cells3 HM2.out.2.1.recv
        have bx := HM2.out.2.2
        by_cases hlt : i < n
        · obtain ⟨x, hx⟩ : ∃ x, Xs[i]? = some x := ⟨Xs[i]'(by have := HN.out; omega), by simp [show i < Xs.length by have := HN.out; omega]⟩
          obtain ⟨B', hrow⟩ := HM2.out.2.1.sel.crow
          obtain ⟨cg, cc', hcv⟩ := own_some hrow (by have := HN.out; omega)
          simp only [Value.slice.injEq] at hcv
          obtain ⟨rfl, -, rfl⟩ := hcv
          have HX : Hid (Xs[i]? = some x) := hx
          clear hx hrow
          obtain ⟨k0, k1, k2, k3, k4, k5⟩ := HM2.out.2.1.cells HX.out
          clear k1 k2 k3 k4 k5
          go_upto_region 6 with fail
          go_region_held3 (fun w' => w'.cell? ⟨cg, i * 6, none⟩ = some (encStr x.g.c.key) ∧ w'.cell? ⟨w.heap.size, 0, none⟩ = some (encStr T)) (go_keep) (first | (go_at_call 18; refine (get_any T L x.g.c.key wr.drew HM2.out.2.1.txt HM2.out.2.1.asc).mono ?_; rintro e3 w3 ⟨rfl, hb3⟩; have HM3 : Hid (MH w sb Xs (.slice (some ⟨cg, 0, none⟩) n cc) mv q T L w3) := MH.later HM2.out ((Below.refl _ wr).drew.trans hb3); obtain ⟨t0, t1, t2, t3, t4, t5⟩ := HM3.out.2.1.cells HX.out; have bx3 := HM3.out.2.2; clear hb3 t1 t2 t3 t4 t5))
          all_goals (
            obtain ⟨bv, hbv⟩ : ∃ b, b = xh L x := ⟨_, rfl⟩
            have HBV : Hid (bv = xh L x) := hbv
            clear hbv
            cases bv with
            | true =>
              go_wp2_with (go_at_call 19; go_must (refine (HM3.out.2.1.holdsX HX.out).mono ?_; rintro e4 w4 ⟨rfl, hb4⟩; rw [← HBV.out]; have HM4 : Hid (MH w sb Xs (.slice (some ⟨cg, 0, none⟩) n cc) mv q T L w4) := MH.later HM3.out hb4; clear hb4))
              refine ⟨⟨i + 1, by go_num, by omega, fun j y hy hj => ?_, HM4.out⟩, ?_⟩
              · by_cases e : j = i
                · subst e
                  have := hy.symm.trans HX.out
                  cases this
                  exact HBV.out.symm
                · exact HALL.out j y hy (by omega)
              · simp [intOf]; omega
            | false =>
              go_wp2_with (go_at_call 19; go_must (refine (HM3.out.2.1.holdsX HX.out).mono ?_; rintro e4 w4 ⟨rfl, hb4⟩; rw [← HBV.out]; have HM4 : Hid (MH w sb Xs (.slice (some ⟨cg, 0, none⟩) n cc) mv q T L w4) := MH.later HM3.out hb4; clear hb4))
              go_ret
              refine ⟨?_, HM4.out.1⟩
              rw [show Xs.all (xh L) = false from all_false HX.out HBV.out.symm]
              rfl)
        · obtain rfl : i = n := by omega
          go_wp2
          go_ret
          refine ⟨?_, HM2.out.1⟩
          rw [show Xs.all (xh L) = true from all_true fun j x hx => HALL.out j x hx (by have := HN.out; have := lt_of_get hx; omega)]
          rfl
    | false =>
      have bx0 := HM.out.2.2
      have hnm : m < n := by have := HBB.out; simp at this; omega
      obtain ⟨mb, D, hmv, hmp, hmh, hma⟩ : ∃ mb, ∃ D : DataW Unit, mv = .map (some mb) ∧ wc.ownsMap Yba.prog 9 (plainElem Yba.prog 3) mb Xs.length D ∧ (∀ x : Str, Maps.has D (.string x) = Xs.any (fun y => y.g.c.key == x)) ∧ ∀ (j : Nat) (x : X), Xs[j]? = some x → ∀ z, D.atKey (.string x.g.c.key) z = .lit (.int .i64 j) := by
        rcases HM.out.2.1.sel.map with ⟨e, _⟩ | h
        · have := HN.out
          rw [e] at this
          simp at this
          omega
        · exact h
      subst hmv
      have HMP : Hid (wc.ownsMap Yba.prog 9 (plainElem Yba.prog 3) mb Xs.length D) := hmp
      have HMH : Hid (∀ x : Str, Maps.has D (.string x) = Xs.any (fun y => y.g.c.key == x)) := hmh
      have HMA : Hid (∀ (j : Nat) (x : X), Xs[j]? = some x → ∀ z, D.atKey (.string x.g.c.key) z = .lit (.int .i64 j)) := hma
      clear hmp hmh hma
      obtain ⟨B', hrow⟩ := HM.out.2.1.sel.crow
      obtain ⟨cg, cc', hcv⟩ := own_some hrow (by have := HN.out; omega)
      simp only [Value.slice.injEq] at hcv
      obtain ⟨rfl, -, rfl⟩ := hcv
      clear hrow hnm
      go_wp2_with (go_at_call 17; go_must (refine (len_any T L _ HM.out.2.1.txt).mono ?_; rintro e2 w2 ⟨rfl, hb2⟩; rw [← HLm.out]; have HM2 : Hid (MH w sb Xs (.slice (some ⟨cg, 0, none⟩) n cc) (.map (some mb)) q T L w2) := MH.later HM.out hb2; have HMP2 : Hid (w2.ownsMap Yba.prog 9 (plainElem Yba.prog 3) mb Xs.length D) := World.ownsMap.kept HMP.out (grown_of_below hb2 none) (by simp); clear hb2))
      clear HM HMP bx0
      go_loopw [55, 9] (fun p p9 wr => ∃ j f : Nat, p = .int .i64 j ∧ p9 = .int .i64 f ∧ j ≤ m ∧ f ≤ j ∧ f = fnd Xs L j ∧ (∀ (t : Nat) (p : Str × Str) (x : X), L[t]? = some p → t < j → x ∈ Xs → x.g.c.key = p.1 → x.g.c.holds (some p.2) = true) ∧ MH w sb Xs (.slice (some ⟨cg, 0, none⟩) n cc) (.map (some mb)) q T L wr ∧ wr.ownsMap Yba.prog 9 (plainElem Yba.prog 3) mb Xs.length D) (fun p _ _ => m - (intOf p).toNat)
      case atStart => exact ⟨0, 0, rfl, rfl, Nat.zero_le _, Nat.le_refl _, rfl, fun t p x _ h => absurd h (Nat.not_lt_zero _), HM2.out, HMP2.out⟩
      case round =>
        clear HM2 HMP2
        obtain ⟨j, f, rfl, rfl, hj, hfj, hf, hall, hM, hmp⟩ := hrel
        have HM : Hid (MH w sb Xs (.slice (some ⟨cg, 0, none⟩) n cc) (.map (some mb)) q T L wr) := hM
        have HF : Hid (f = fnd Xs L j) := hf
        have HALL : Hid (∀ (t : Nat) (p : Str × Str) (x : X), L[t]? = some p → t < j → x ∈ Xs → x.g.c.key = p.1 → x.g.c.holds (some p.2) = true) := hall
        have HMP : Hid (wr.ownsMap Yba.prog 9 (plainElem Yba.prog 3) mb Xs.length D) := hmp
        clear hM hf hall hmp
        by_cases hlt : j < m
        · have hlt2 : j < L.length := by have := HLm.out; omega
          obtain ⟨p, hp⟩ : ∃ p, L[j]? = some p := ⟨_, getD_of hlt2⟩
          obtain ⟨p1, p2⟩ := p
          have HP : Hid (L[j]? = some (p1, p2)) := hp
          have HPL : Hid (p1.length ≤ maxLen ∧ p2.length ≤ maxLen) := HM.out.2.1.lkey _ (List.mem_of_getElem? hp)
          have bx := HM.out.2.2
          clear hlt2 hp
          go_upto_region 16 with (go_at_call 20; go_must (refine (at_any T L j (p1, p2) _ HM.out.2.1.txt HP.out).mono ?_; rintro e3 w3 ⟨rfl, hb3⟩; have HM3 : Hid (MH w sb Xs (.slice (some ⟨cg, 0, none⟩) n cc) (.map (some mb)) q T L w3) := MH.later HM.out hb3; have HMP3 : Hid (w3.ownsMap Yba.prog 9 (plainElem Yba.prog 3) mb Xs.length D) := World.ownsMap.kept HMP.out (grown_of_below hb3 none) (by simp); clear hb3))
          clear HM HMP bx
          obtain ⟨s0, s1, s2, sf0, sf1, sf2⟩ := cells3 HM3.out.2.1.recv
          go_upto_region 17 with (at_lookup; go_must (refine wpList_lookup_own_ok_int _ rfl _ _ 37 rfl 9 3 .i64 law9 Yba.underlying37 Yba.underlying3 (zero3 _) mb Xs.length D rfl HMP3.out _ _ rfl (key9 p1 HPL.out.1) ?_; intro c hat hwc; obtain ⟨hb, ehb⟩ : ∃ b, b = Maps.has D (.string p1) := ⟨_, rfl⟩; rw [← ehb]; have HHB : Hid (hb = Maps.has D (.string p1)) := ehb; clear ehb; have HAT : Hid (D.atKey (.string p1) (.lit (.int .i64 0)) = .lit (.int .i64 c)) := hat; clear hat hwc))
          cases hb with
          | false =>
            have hany : Xs.any (fun y => y.g.c.key == p1) = false := (HMH.out p1).symm.trans HHB.out.symm
            have HNY : Hid (Xs.any (fun y => y.g.c.key == p1) = false) := hany
            clear hany
            go_wp2
            refine ⟨⟨j + 1, f, by go_num, rfl, by omega, by omega, ?_, fun t p x ht htj hx hk => ?_, HM3.out, HMP3.out⟩, ?_⟩
            · rw [fnd_succ HP.out, one_none HNY.out, HF.out]; rfl
            · by_cases e : t = j
              · subst e
                have := ht.symm.trans HP.out
                cases this
                have h1 : Xs.any (fun y => y.g.c.key == p1) = true := List.any_eq_true.2 ⟨x, hx, by simpa using hk⟩
                rw [HNY.out] at h1
                cases h1
              · exact HALL.out t p x ht (by omega) hx hk
            · simp [intOf]; omega
          | true =>
            have hany : Xs.any (fun y => y.g.c.key == p1) = true := (HMH.out p1).symm.trans HHB.out.symm
            obtain ⟨x, hxm, hxk⟩ := List.any_eq_true.1 hany
            obtain ⟨i, hi⟩ := List.getElem?_of_mem hxm
            have hxk : x.g.c.key = p1 := by simpa using hxk
            have hci : c = (i : Int) := by
              have e := HMA.out i x hi (.lit (.int .i64 0))
              rw [hxk, HAT.out] at e
              simpa using e
            subst hci
            have HX : Hid (Xs[i]? = some x) := hi
            have HXK : Hid (x.g.c.key = p1) := hxk
            have hin : i < n := by have := HN.out; have := lt_of_get hi; omega
            clear hany hxm hi hxk
            obtain ⟨bv, hbv⟩ : ∃ b, b = x.g.c.holds (some p2) := ⟨_, rfl⟩
            have HBV : Hid (bv = x.g.c.holds (some p2)) := hbv
            clear hbv
            have HONE : Hid (fnd Xs L (j + 1) = f + if x.g.c.pres then 1 else 0) := by
              show fnd Xs L (j + 1) = f + if x.g.c.pres then 1 else 0
              rw [fnd_succ HP.out, HF.out]
              congr 1
              rw [show (p1, p2).1 = x.g.c.key from HXK.out.symm]
              exact one_at HM3.out.2.1.nodup HX.out
            have HALL2 : Hid (x.g.c.holds (some p2) = true → ∀ (t : Nat) (p : Str × Str) (y : X), L[t]? = some p → t < j + 1 → y ∈ Xs → y.g.c.key = p.1 → y.g.c.holds (some p.2) = true) := fun hh t p y ht htj hy hk => by
              by_cases e : t = j
              · subst e
                have := ht.symm.trans HP.out
                cases this
                obtain ⟨i', hi'⟩ := List.getElem?_of_mem hy
                have : i' = i := nodup_getElem HM3.out.2.1.nodup (a := p1) (by simp [hi', hk]) (by simp [HX.out, HXK.out])
                subst this
                rw [HX.out] at hi'
                cases hi'
                exact hh
              · exact HALL.out t p y ht (by omega) hy hk
            obtain ⟨k0, k1, k2, k3, k4, k5⟩ := HM3.out.2.1.cells HX.out
            clear k0 k2 k3 k4 k5
            cases bv with
            | false =>
              go_wp2_with (go_at_call 19; go_must (refine (HM3.out.2.1.holds HX.out p2 true HPL.out.2).mono ?_; rintro e4 w4 ⟨rfl, hb4⟩; rw [if_pos rfl, ← HBV.out]; have HM4 : Hid (MH w sb Xs (.slice (some ⟨cg, 0, none⟩) n cc) (.map (some mb)) q T L w4) := MH.later HM3.out hb4; clear hb4))
              go_ret
              refine ⟨?_, HM4.out.1⟩
              rw [show Xs.all (xh L) = false from all_false HX.out (by unfold xh; rw [HXK.out, look_at HM3.out.2.1.asc HP.out]; exact HBV.out.symm)]
              rfl
            | true =>
              obtain ⟨pr, hpr⟩ : ∃ b, b = x.g.c.pres := ⟨_, rfl⟩
              have HPR : Hid (pr = x.g.c.pres) := hpr
              rw [← hpr] at k1
              clear hpr
              cases pr with
              | true =>
                go_wp2_with (go_at_call 19; go_must (refine (HM3.out.2.1.holds HX.out p2 true HPL.out.2).mono ?_; rintro e4 w4 ⟨rfl, hb4⟩; rw [if_pos rfl, ← HBV.out]; have HM4 : Hid (MH w sb Xs (.slice (some ⟨cg, 0, none⟩) n cc) (.map (some mb)) q T L w4) := MH.later HM3.out hb4; have HMP4 : Hid (w4.ownsMap Yba.prog 9 (plainElem Yba.prog 3) mb Xs.length D) := World.ownsMap.kept HMP3.out (grown_of_below hb4 none) (by simp); have k41 := (HM4.out.2.1.cells HX.out).2.1; rw [← HPR.out] at k41; clear hb4))
                refine ⟨⟨j + 1, f + 1, by go_num, by go_num, by omega, by omega, ?_, HALL2.out HBV.out.symm, HM4.out, HMP4.out⟩, ?_⟩
                · rw [HONE.out, ← HPR.out]; rfl
                · simp [intOf]; omega
              | false =>
                go_wp2_with (go_at_call 19; go_must (refine (HM3.out.2.1.holds HX.out p2 true HPL.out.2).mono ?_; rintro e4 w4 ⟨rfl, hb4⟩; rw [if_pos rfl, ← HBV.out]; have HM4 : Hid (MH w sb Xs (.slice (some ⟨cg, 0, none⟩) n cc) (.map (some mb)) q T L w4) := MH.later HM3.out hb4; have HMP4 : Hid (w4.ownsMap Yba.prog 9 (plainElem Yba.prog 3) mb Xs.length D) := World.ownsMap.kept HMP3.out (grown_of_below hb4 none) (by simp); have k41 := (HM4.out.2.1.cells HX.out).2.1; rw [← HPR.out] at k41; clear hb4))
                refine ⟨⟨j + 1, f, by go_num, rfl, by omega, by omega, ?_, HALL2.out HBV.out.symm, HM4.out, HMP4.out⟩, ?_⟩
                · rw [HONE.out, ← HPR.out]; rfl
                · simp [intOf]; omega
        · obtain rfl : j = m := by omega
          obtain ⟨s0, s1, s2, sf0, sf1, sf2⟩ := cells3 HM.out.2.1.recv
          have HFIN : Hid (((f : Int) == (q : Int)) = Xs.all (xh L)) := by
            have := fin_eq HM.out.2.1.asc HM.out.2.1.cnt (fun t p x ht hx hk => HALL.out t p x ht (by have := HLm.out; have := lt_of_get ht; omega) hx hk)
            rw [← HLm.out, ← HF.out] at this
            exact this
          go_wp2
          go_ret
          refine ⟨?_, HM.out.1⟩
          rw [← HFIN.out]
          rfl

end Go.Proofs.Ybulkegqe.lawS6647AWhole
