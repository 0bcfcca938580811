/-
  DERIVED. '(Strings).Get': its closure, sort.Search.
-/
import Derived.Test.YbulkegqeSelWord
import Derived.Shelf.SlSorted.Search
namespace Go.Proofs.Ybulkegqe.lawS6647AWhole
set_option linter.unusedVariables false
set_option linter.unusedSimpArgs false
open Go.RowKit

set_option maxRecDepth 100000 in
theorem clo_any (T : Str) (L : List (Str × Str)) (name : Str) (i sb nb : Nat) (p : Str × Str) (w : World) (h : Txt T L) (hp : L[i]? = some p) (hs : w.cell? ⟨sb, 0, none⟩ = some (encStr T)) (hn : w.cell? ⟨nb, 0, none⟩ = some (encStr name)) :
    Calls Yba.prog 44 #[.int .i64 i, .pointer (some ⟨sb, 0, none⟩), .pointer (some ⟨nb, 0, none⟩)] w fun e w' => e = .returned (.bool (!decide (p.1 < name))) ∧ Below w.heap.size w w' := by
  have HT : Hid (Txt T L) := h
  have HP : Hid (L[i]? = some p) := hp
  obtain ⟨p1, p2⟩ := p
  clear h hp
  go_enter Yba.func44, Yba.ntmps44
  go_wp2_with (go_at_call 20; go_must (refine (at_any T L i (p1, p2) _ HT.out HP.out).mono ?_; rintro e w1 ⟨rfl, hb⟩; have cn := box_keep hn hb; have HB : Hid (Below w.heap.size w w1) := hb; clear hb))
  go_ret
  exact ⟨by rw [← bytesLess_eq]; rfl, HB.out⟩

set_option maxRecDepth 100000 in
set_option maxHeartbeats 1600000 in
theorem search_any (n : Nat) (sp np : Value) (p : Nat → Bool) (w : World) (hn : n ≤ 131072)
    (hf : ∀ (i : Nat) (wr : World), i < n → Below w.heap.size w wr → Calls Yba.prog 44 #[.int .i64 i, sp, np] wr fun e w' => e = .returned (.bool (p i)) ∧ Below wr.heap.size wr w')
    (hmono : ∀ a b, a ≤ b → b < n → p a = true → p b = true) :
    Calls Yba.prog 43 #[.int .i64 n, .func (.func 44) #[] #[sp, np]] w fun e w' => ∃ r : Nat, e = .returned (.int .i64 r) ∧ r ≤ n ∧ (∀ t, t < r → p t = false) ∧ (∀ t, r ≤ t → t < n → p t = true) ∧ Below w.heap.size w w' := by
  have HF : Hid (∀ (i : Nat) (wr : World), i < n → Below w.heap.size w wr → Calls Yba.prog 44 #[.int .i64 i, sp, np] wr fun e w' => e = .returned (.bool (p i)) ∧ Below wr.heap.size wr w') := hf
  have M : Hid (∀ a b, a ≤ b → b < n → p a = true → p b = true) := hmono
  clear hf hmono
  go_enter Yba.func43, Yba.ntmps43
  go_wp2
  go_loopw [5, 6] (fun s5 s6 wr => ∃ (lo hi : Nat), s5 = .int .i64 lo ∧ s6 = .int .i64 hi ∧ lo ≤ hi ∧ hi ≤ n ∧ (∀ t, t < lo → p t = false) ∧ (∀ t, hi ≤ t → t < n → p t = true) ∧ Below w.heap.size w wr) (fun s5 s6 _ => (intOf s6 - intOf s5).toNat)
  case atStart => exact ⟨0, n, rfl, rfl, Nat.zero_le _, Nat.le_refl _, fun t ht => absurd ht (Nat.not_lt_zero _), fun t h1 h2 => absurd h2 (by omega), Below.refl _ _⟩
  case round =>
    obtain ⟨lo, hi, rfl, rfl, hlh, hin, hl, hh, hb⟩ := hrel
    have HL : Hid (∀ t, t < lo → p t = false) := hl
    have HH : Hid (∀ t, hi ≤ t → t < n → p t = true) := hh
    have HB : Hid (Below w.heap.size w wr) := hb
    by_cases hlt : lo < hi
    · have hc := HF.out ((lo + hi) / 2) wr (by omega) hb
      rw [show (((lo + hi) / 2 : Nat) : Int) = ((lo : Int) + (hi : Int)) / 2 by omega] at hc
      clear hl hh hb
      cases hp : p ((lo + hi) / 2) <;> rw [hp] at hc
      · have HP : Hid (p ((lo + hi) / 2) = false) := hp
        clear hp
        go_wp2_with (go_at_call 44; go_must (refine hc.mono ?_; rintro e w' ⟨rfl, hb2⟩))
        refine ⟨⟨(lo + hi) / 2 + 1, hi, by rw [show ((lo : Int) + (hi : Int)) / 2 + 1 = (((lo + hi) / 2 + 1 : Nat) : Int) by omega], rfl, by omega, hin, fun t ht => ?_, HH.out, blw HB.out hb2⟩, ?_⟩
        · cases h : p t with
          | false => rfl
          | true => have := M.out t ((lo + hi) / 2) (by omega) (by omega) h; rw [HP.out] at this; cases this
        · simp [intOf]; omega
      · have HP : Hid (p ((lo + hi) / 2) = true) := hp
        clear hp
        go_wp2_with (go_at_call 44; go_must (refine hc.mono ?_; rintro e w' ⟨rfl, hb2⟩))
        refine ⟨⟨lo, (lo + hi) / 2, rfl, by rw [show ((lo : Int) + (hi : Int)) / 2 = (((lo + hi) / 2 : Nat) : Int) by omega], by omega, by omega, HL.out, fun t ht htn => M.out ((lo + hi) / 2) t ht htn HP.out, blw HB.out hb2⟩, ?_⟩
        · simp [intOf]; omega
    · obtain rfl : hi = lo := by omega
      clear hl hh hb
      go_wp2
      go_ret
      exact ⟨hi, rfl, hin, HL.out, HH.out, HB.out⟩

/-- The value of a name. -/
def look (L : List (Str × Str)) (name : Str) : Option Str := (L.find? (fun p => p.1 == name)).map (·.2)
def Asc (L : List (Str × Str)) : Prop := L.Pairwise (fun a b => a.1 < b.1)

theorem Asc.lt {L : List (Str × Str)} (h : Asc L) {i j : Nat} {a b : Str × Str} (hi : L[i]? = some a) (hj : L[j]? = some b) (hij : i < j) : a.1 < b.1 := by
  obtain ⟨h1, e1⟩ := List.getElem?_eq_some_iff.1 hi
  obtain ⟨h2, e2⟩ := List.getElem?_eq_some_iff.1 hj
  have := List.pairwise_iff_getElem.1 h i j h1 h2 hij
  rwa [e1, e2] at this
theorem str_irrefl (a : Str) : ¬ a < a := List.lt_irrefl a
theorem str_trans {a b c : Str} (h : a < b) (k : b < c) : a < c := List.lt_trans h k

theorem look_at {L : List (Str × Str)} (h : Asc L) {i : Nat} {p : Str × Str} (hi : L[i]? = some p) : look L p.1 = some p.2 := by
  unfold look
  have hex : (L.find? (fun q => q.1 == p.1)).isSome = true := by
    rw [List.find?_isSome]
    exact ⟨p, List.mem_of_getElem? hi, by simp⟩
  obtain ⟨q, hq⟩ := Option.isSome_iff_exists.1 hex
  have hq1 : q.1 = p.1 := by simpa using List.find?_some hq
  obtain ⟨j, hj⟩ := List.getElem?_of_mem (List.mem_of_find?_eq_some hq)
  have : q = p := by
    rcases Nat.lt_trichotomy i j with hlt | rfl | hlt
    · have := h.lt hi hj hlt; rw [hq1] at this; exact absurd this (str_irrefl _)
    · rw [hi] at hj; exact (Option.some.inj hj).symm
    · have := h.lt hj hi hlt; rw [hq1] at this; exact absurd this (str_irrefl _)
  rw [hq, this]
  rfl
theorem look_none {L : List (Str × Str)} {name : Str} (h : ∀ p ∈ L, p.1 ≠ name) : look L name = none := by
  unfold look
  rw [List.find?_eq_none.2 (fun p hp => by simpa using h p hp)]
  rfl

/-- What the search tells. -/
theorem look_search {L : List (Str × Str)} (h : Asc L) (name : Str) {r : Nat} (hr : r ≤ L.length) (hlo : ∀ t, t < r → (!decide ((L.getD t ([], [])).1 < name)) = false) (hhi : ∀ t, r ≤ t → t < L.length → (!decide ((L.getD t ([], [])).1 < name)) = true) :
    (r = L.length → look L name = none) ∧ ∀ p, L[r]? = some p → p.1 ≠ name → look L name = none := by
  have key : (∀ t q, L[t]? = some q → r ≤ t → q.1 ≠ name) → look L name = none := by
    intro hk
    refine look_none fun q hq => ?_
    obtain ⟨t, ht⟩ := List.getElem?_of_mem hq
    by_cases htr : t < r
    · have := hlo t htr
      rw [show L.getD t ([], []) = q by simp [List.getD, ht]] at this
      intro e
      rw [e] at this
      simp [str_irrefl] at this
    · exact hk t q ht (by omega)
  refine ⟨fun e => key fun t q ht htr => ?_, fun p hp hne => key fun t q ht htr => ?_⟩
  · have := (List.getElem?_eq_some_iff.1 ht).1
    omega
  · by_cases e : t = r
    · subst e
      rw [hp] at ht
      cases ht
      exact hne
    · intro e'
      have h1 := h.lt hp ht (by omega)
      have h2 := hhi r (Nat.le_refl _) (List.getElem?_eq_some_iff.1 hp).1
      rw [show L.getD r ([], []) = p by simp [List.getD, hp]] at h2
      rw [e'] at h1
      simp [h1] at h2

theorem mono_of {L : List (Str × Str)} (h : Asc L) {name : Str} {a b : Nat} (hab : a ≤ b) (hb : b < L.length) (ha : (!decide ((L.getD a ([], [])).1 < name)) = true) : (!decide ((L.getD b ([], [])).1 < name)) = true := by
  by_cases e : a = b
  · subst e; exact ha
  · have h1 := h.lt (i := a) (j := b) (a := L.getD a ([], [])) (b := L.getD b ([], [])) (by simp [List.getD, show a < L.length by omega]) (by simp [List.getD, hb]) (by omega)
    simp only [Bool.not_eq_true', decide_eq_false_iff_not] at ha ⊢
    exact fun h2 => ha (str_trans h1 h2)
theorem two_a {w : World} {v u : Value} : ((w.alloc (.cells #[v] 43)).alloc (.cells #[u] 9)).cell? ⟨w.heap.size, 0, none⟩ = some v := by
  rw [(al1 (w.alloc (.cells #[v] 43)) (.cells #[u] 9)).cell (by simp)]; exact alc
theorem two_b {w : World} {v u : Value} : ((w.alloc (.cells #[v] 43)).alloc (.cells #[u] 9)).cell? ⟨w.heap.size + 1, 0, none⟩ = some u := by
  have h := alc (w := w.alloc (.cells #[v] 43)) (v := u) (t := 9)
  rw [World.size_alloc] at h
  exact h
theorem getD_of {L : List (Str × Str)} {i : Nat} (hi : i < L.length) : L[i]? = some (L.getD i ([], [])) := by simp [List.getD, hi]

set_option maxRecDepth 100000 in
set_option maxHeartbeats 1600000 in
/-- '(Strings).Get'. -/
theorem get_any (T : Str) (L : List (Str × Str)) (name : Str) (w : World) (h : Txt T L) (hA : Asc L) :
    Calls Yba.prog 18 #[.agg #[encStr T], encStr name] w fun e w' => e = .returned (.tuple #[encStr ((look L name).getD []), .bool (look L name).isSome]) ∧ Below w.heap.size w w' := by
  have HT : Hid (Txt T L) := h
  have HA : Hid (Asc L) := hA
  have hnum : L.length ≤ 131072 := h.num
  have e0 : (look L name = none → ∀ (v : Value), v = .tuple #[.string ⟨#[]⟩, .bool false] → v = .tuple #[encStr ((look L name).getD []), .bool (look L name).isSome]) := fun h v hv => by rw [h, hv]; rfl
  have HE : Hid (look L name = none → ∀ (v : Value), v = .tuple #[.string ⟨#[]⟩, .bool false] → v = .tuple #[encStr ((look L name).getD []), .bool (look L name).isSome]) := e0
  clear h hA e0
  go_enter Yba.func18, Yba.ntmps18
  go_upto_region 3 with (first
    | (go_at_call 43; go_must (refine (search_any L.length _ _ (fun i => !decide ((L.getD i ([], [])).1 < name)) w2 hnum (fun i wr hi hb => clo_any T L name i w.heap.size (w.heap.size + 1) _ wr HT.out (getD_of hi) (box_keep c2 hb) (box_keep d2 hb)) (fun a b hab hb ha => ?_)).mono ?_; (exact mono_of HA.out hab hb ha); rintro e3 w3 ⟨r, rfl, hr, hlo, hhi, hb3⟩; have HL := look_search HA.out name hr hlo hhi; have HLS : Hid ((r = L.length → look L name = none) ∧ ∀ p, L[r]? = some p → p.1 ≠ name → look L name = none) := HL; have c3 := box_keep c2 hb3; have d3 := box_keep d2 hb3; have HB3 : Hid (Below w.heap.size w w3) := blw HB2.out hb3; clear HL hlo hhi hb3))
    | (go_at_call 17; go_must (refine (len_any T L _ HT.out).mono ?_; rintro e2 w2 ⟨rfl, hb2⟩; have c2 := box_keep (two_a (v := encStr T) (u := encStr name)) hb2; have d2 := box_keep (two_b (v := encStr T) (u := encStr name)) hb2; have HB2 : Hid (Below w.heap.size w w2) := blw (al2 _ _ _) hb2; clear hb2)))
  clear c2 d2 HB2
  by_cases hrn : r = L.length
  · have HN : Hid (look L name = none) := HLS.out.1 hrn
    have hb : ((r : Int) == (L.length : Int)) = true := by simp [hrn]
    clear hrn
    go_wp2
    go_ret2
    exact ⟨congrArg Ending.returned (HE.out HN.out _ rfl), HB3.out⟩
  · have hb : ((r : Int) == (L.length : Int)) = false := by simp; omega
    have hlt : r < L.length := by omega
    obtain ⟨p, hp⟩ : ∃ p, L[r]? = some p := ⟨_, getD_of hlt⟩
    have HP : Hid (L[r]? = some p) := hp
    obtain ⟨p1, p2⟩ := p
    clear hrn hp
    by_cases hpn : p1 = name
    · have hbn : (p1 == name) = true := by simp [hpn]
      have HF : Hid (look L name = some p2) := by rw [← hpn]; exact look_at HA.out HP.out
      clear hpn
      go_wp2_with (go_at_call 20; go_must (refine (at_any T L r (p1, p2) _ HT.out HP.out).mono ?_; rintro e4 w4 ⟨rfl, hb4⟩; have d4 := box_keep d3 hb4; have HB4 : Hid (Below w.heap.size w w4) := blw HB3.out hb4; clear hb4))
      go_ret2
      exact ⟨by rw [HF.out]; rfl, HB4.out⟩
    · have hbn : (p1 == name) = false := by simp [hpn]
      have HF : Hid (look L name = none) := HLS.out.2 _ HP.out hpn
      clear hpn
      go_wp2_with (go_at_call 20; go_must (refine (at_any T L r (p1, p2) _ HT.out HP.out).mono ?_; rintro e4 w4 ⟨rfl, hb4⟩; have d4 := box_keep d3 hb4; have HB4 : Hid (Below w.heap.size w w4) := blw HB3.out hb4; clear hb4))
      go_ret2
      exact ⟨congrArg Ending.returned (HE.out HF.out _ rfl), HB4.out⟩

end Go.Proofs.Ybulkegqe.lawS6647AWhole
