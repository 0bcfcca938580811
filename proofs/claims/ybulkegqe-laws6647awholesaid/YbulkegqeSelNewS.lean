/-
  DERIVED. 'NewStrings'.
-/
import Derived.Test.YbulkegqeSelNames
import Derived.Test.YbulkegqeSelGet
import Derived.Test.YbulkegqeSelRule
namespace Go.Proofs.Ybulkegqe.lawS6647AWhole
set_option linter.unusedVariables false
set_option linter.unusedSimpArgs false
open Go.RowKit Go.Sort

def KEYS : List Str := [[97, 112, 112], [116, 105, 101, 114], [], [97], [101, 110, 118]]

theorem nodup_len {α : Type} [DecidableEq α] : ∀ (l m : List α), l.Nodup → (∀ x ∈ l, x ∈ m) → l.length ≤ m.length
  | [], m, _, _ => by simp
  | a :: l, m, hn, hs => by
    rw [List.nodup_cons] at hn
    have ham : a ∈ m := hs a (by simp)
    have := nodup_len l (m.erase a) hn.2 (fun x hx => by
      rw [List.mem_erase_of_ne (fun e => hn.1 (by rw [← e]; exact hx))]
      exact hs x (by simp [hx]))
    rw [List.length_erase_of_mem ham] at this
    have hp : 0 < m.length := List.length_pos_of_mem ham
    simp only [List.length_cons]
    omega

/-- The keys of the map. -/
theorem map_keys {w : World} {mb n : Nat} {D : DataW Unit} (h : SM w mb n D) : (strKeys D).Nodup ∧ (∀ x, x ∈ strKeys D ↔ Maps.has D (.string x) = true) ∧ Maps.size D = (strKeys D).length := by
  obtain ⟨es, hD, hpw, hlit⟩ := h.entries law9
  obtain ⟨es', hD', hks⟩ := h.keysOf
  rw [hD] at hD'
  cases hD'
  subst hD
  have hstr : ∀ p ∈ es, ∃ x, p.1 = .string x := fun p hp => by
    obtain ⟨v, hv⟩ := hks p hp
    obtain ⟨x, _, e, _⟩ := Maps.keyOf_str Yba.underlying9 hv
    exact ⟨x, e⟩
  refine ⟨?_, fun x => ?_, by simp [Maps.size, strKeys]⟩
  · refine List.pairwise_map.2 (hpw.imp_of_mem fun {p q} hp hq hne e => hne ?_)
    obtain ⟨a, ha⟩ := hstr p hp
    obtain ⟨b, hb⟩ := hstr q hq
    rw [ha, hb] at e ⊢
    exact congrArg _ e
  · rw [Maps.has_eq, List.any_eq_true]
    simp only [strKeys, List.mem_map]
    constructor
    · rintro ⟨p, hp, e⟩
      obtain ⟨a, ha⟩ := hstr p hp
      rw [ha] at e
      have e : a = x := e
      exact ⟨p, hp, by rw [ha, e]; exact WideAt.sameKey_self (by simp [WideAt.IsKeyLit])⟩
    · rintro ⟨p, hp, e⟩
      have := (WideAt.sameKey_iff (by simp [WideAt.IsKeyLit])).1 e
      exact ⟨p, hp, by rw [this]; rfl⟩

theorem asc_sorted {ss : List Str} (hn : ss.Nodup) (D : DataW Unit) : Asc (pairs D (ss.mergeSort (fun x y => decide (x ≤ y)))) := by
  unfold Asc pairs
  rw [List.pairwise_map]
  have hp := List.pairwise_mergeSort (le := fun x y : Str => decide (x ≤ y)) (fun a b c h1 h2 => by simp only [decide_eq_true_eq] at *; exact List.le_trans h1 h2) (fun a b => by simp only [Bool.or_eq_true, decide_eq_true_eq]; exact List.le_total a b) ss
  have hnd : (ss.mergeSort (fun x y => decide (x ≤ y))).Nodup := (List.mergeSort_perm ss _).nodup_iff.2 hn
  refine (hp.and hnd).imp fun {a b} h => ?_
  have h1 : a ≤ b := by simpa using h.1
  show a < b
  by_cases hlt : a < b
  · exact hlt
  · exact absurd (List.le_antisymm h1 (List.not_lt.1 hlt)) h.2

theorem look_pairs (D : DataW Unit) (ts : List Str) (k : Str) : look (pairs D ts) k = if k ∈ ts then some (valD D k) else none := by
  unfold look pairs
  rw [List.find?_map]
  by_cases hk : k ∈ ts
  · rw [if_pos hk]
    have hex : (ts.find? ((fun p : Str × Str => p.1 == k) ∘ fun k => (k, valD D k))).isSome = true := by
      rw [List.find?_isSome]
      exact ⟨k, hk, by simp⟩
    obtain ⟨q, hq⟩ := Option.isSome_iff_exists.1 hex
    have : q = k := by simpa using List.find?_some hq
    rw [hq, this]
    rfl
  · rw [if_neg hk, List.find?_eq_none.2 (fun x hx => by simp; exact fun e => hk (by rw [← e]; exact hx))]
    rfl

theorem body_bound (D : DataW Unit) (hv : ∀ x, (valD D x).length ≤ 3) : ∀ ts : List Str, (∀ x ∈ ts, x.length ≤ 4) → (body (pairs D ts)).length ≤ 7 * ts.length
  | [], _ => by simp [body, pairs]
  | a :: ts, h => by
    have ih := body_bound D hv ts (fun x hx => h x (by simp [hx]))
    have h1 := h a (by simp)
    have h2 := hv a
    simp only [pairs, body, List.map_cons, List.flatMap_cons, List.length_append, List.length_cons] at ih ⊢
    omega

theorem keys_short : ∀ x ∈ KEYS, x.length ≤ 4 := by decide

/-- What 'NewStrings' hands back. -/
def NPost (D : DataW Unit) (w : World) (e : Ending) (w' : World) : Prop :=
  ∃ T L, e = .returned (.agg #[encStr T]) ∧ Txt T L ∧ Asc L ∧ (∀ k, look L k = if Maps.has D (.string k) then some (valD D k) else none) ∧ (∀ p ∈ L, p.1.length ≤ maxLen ∧ p.2.length ≤ maxLen) ∧ Below w.heap.size w w'

theorem Yba.size43 : (Yba.prog.info? 43).map (·.size) = some 1 := by kernel_rfl

/-- What the names are good for. -/
theorem names_good {w w1 : World} {mb n : Nat} {D : DataW Unit} {g cap A : Nat} {ss : List Str} (hown : SM w1 mb n D) (hk : ∀ x, Maps.has D (.string x) = true → x ∈ KEYS) (hv : ∀ x, (valD D x).length ≤ 3)
    (hp : ss.Perm (strKeys D)) (hr : w1.ownsRow A 9 1 (.slice (some ⟨g, 0, none⟩) ss.length cap) ss.length ((ss.mergeSort (fun x y => decide (x ≤ y))).map encStr)) :
    ∃ ts, ts.length = ss.length ∧ NM w1 w1.heap.size mb n D g cap ts ∧ Txt (encT (pairs D ts)) (pairs D ts) ∧ Asc (pairs D ts) ∧ (∀ k, look (pairs D ts) k = if Maps.has D (.string k) then some (valD D k) else none) ∧ ∀ p ∈ pairs D ts, p.1.length ≤ maxLen ∧ p.2.length ≤ maxLen := by
  obtain ⟨m1, m2, m3⟩ := map_keys hown
  have hnd : ss.Nodup := hp.nodup_iff.2 m1
  have hmem : ∀ x, x ∈ ss.mergeSort (fun x y => decide (x ≤ y)) ↔ Maps.has D (.string x) = true := fun x => by
    rw [(List.mergeSort_perm ss _).mem_iff, hp.mem_iff, m2 x]
  have hlen : (ss.mergeSort (fun x y => decide (x ≤ y))).length = ss.length := (List.mergeSort_perm ss _).length_eq
  have hnd2 : (ss.mergeSort (fun x y => decide (x ≤ y))).Nodup := (List.mergeSort_perm ss _).nodup_iff.2 hnd
  have h5 : (ss.mergeSort (fun x y => decide (x ≤ y))).length ≤ 5 := nodup_len _ KEYS hnd2 (fun x hx => hk x ((hmem x).1 hx))
  have hsh : ∀ x ∈ ss.mergeSort (fun x y => decide (x ≤ y)), x.length ≤ 4 := fun x hx => keys_short x (hk x ((hmem x).1 hx))
  have hbb := body_bound D hv _ hsh
  obtain ⟨ts, hts⟩ : ∃ ts, ts = ss.mergeSort (fun x y => decide (x ≤ y)) := ⟨_, rfl⟩
  rw [← hts] at hmem hlen hnd2 h5 hsh hbb hr
  refine ⟨ts, hlen, ⟨⟨A, ?_⟩, hown, ?_, hown.lt, fun x hx => ?_, by omega, by omega⟩, encT_txt _ (by rw [pairs_len]; omega) (by omega), by rw [hts]; exact asc_sorted hnd D, fun k => ?_, fun p hp => ?_⟩
  · unfold SRow
    rw [hlen]
    exact hr
  · exact (hr.lt g rfl).2
  · have := hsh x hx
    unfold maxLen
    omega
  · rw [look_pairs]
    by_cases h : k ∈ ts
    · rw [if_pos h, if_pos ((hmem k).1 h)]
    · rw [if_neg h, if_neg (fun e => h ((hmem k).2 e))]
  · obtain ⟨x, hx, rfl⟩ := List.mem_map.1 hp
    have h1 := hsh x hx
    have h2 := hv x
    unfold maxLen
    simp only
    omega

set_option maxRecDepth 100000 in
set_option maxHeartbeats 1600000 in
theorem newS_any (mb n : Nat) (D : DataW Unit) (w : World) (hown : SM w mb n D) (hk : ∀ x, Maps.has D (.string x) = true → x ∈ KEYS) (hv : ∀ x, (valD D x).length ≤ 3) :
    Calls Yba.prog 9 #[.map (some mb)] w (NPost D w) := by
  have hsz : Maps.size D ≤ 1000000 := by
    obtain ⟨m1, m2, m3⟩ := map_keys hown
    have := nodup_len _ KEYS m1 (fun x hx => hk x ((m2 x).1 hx))
    rw [m3]
    have h5 : KEYS.length = 5 := rfl
    omega
  have HO : Hid (SM w mb n D) := hown
  have HK : Hid (∀ x, Maps.has D (.string x) = true → x ∈ KEYS) := hk
  have HV : Hid (∀ x, (valD D x).length ≤ 3) := hv
  have HSZ : Hid (Maps.size D ≤ 1000000) := hsz
  clear hown hk hv hsz
  go_enter Yba.func9, Yba.ntmps9
  go_upto_region 3 with (go_at_call 21; go_must (refine (names_any mb n D _ (HO.out.alloc _) HSZ.out).mono ?_; rintro e w1 ⟨g, cap, ss, rfl, hp, hr, hb1⟩; have hom : SM w1 mb n D := World.ownsMap.kept (HO.out.alloc _) (grown_of_below hb1 none) (by simp); obtain ⟨ts, htl, hN, hT, hA, hl, hpl⟩ := names_good (w := w) hom HK.out HV.out hp hr; rw [← htl]; have HN1 : Hid (NM w1 w1.heap.size mb n D g cap ts) := hN; have HG : Hid (Txt (encT (pairs D ts)) (pairs D ts) ∧ Asc (pairs D ts) ∧ (∀ k, look (pairs D ts) k = if Maps.has D (.string k) then some (valD D k) else none) ∧ ∀ p ∈ pairs D ts, p.1.length ≤ maxLen ∧ p.2.length ≤ maxLen) := ⟨hT, hA, hl, hpl⟩; have HR1 : Hid (w1.heap[w.heap.size]? = some (.cells #[encStr []] 43 (0, 0))) := start3 hb1; have HB1 : Hid (Below w.heap.size w w1) := old3 hb1; clear hp hr hb1 hom hN hT hA hl hpl htl))
  have HN2 : Hid (NM (w1.alloc (.cells #[.pointer none, .slice none 0 0] 130)) w1.heap.size mb n D g cap ts) := HN1.out.below (al1 _ _)
  have HBK : Hid ((w1.alloc (.cells #[.pointer none, .slice none 0 0] 130)).heap[w1.heap.size]? = some (.cells #[.pointer none, .slice none 0 0] 130 (0, 0))) := heap_alloc_new _ _
  have HR2 : Hid ((w1.alloc (.cells #[.pointer none, .slice none 0 0] 130)).heap[w.heap.size]? = some (.cells #[encStr []] 43 (0, 0))) := by
    show (w1.alloc (.cells #[.pointer none, .slice none 0 0] 130)).heap[w.heap.size]? = _
    rw [Below.heap_alloc _ _ _ (Array.getElem?_eq_some_iff.1 HR1.out).1]
    exact HR1.out
  have HB2 : Hid (Below w.heap.size w (w1.alloc (.cells #[.pointer none, .slice none 0 0] 130))) := HB1.out.alloc HB1.out.size _
  obtain ⟨w2, hw2⟩ : ∃ x, x = w1.alloc (.cells #[.pointer none, .slice none 0 0] 130) := ⟨_, rfl⟩
  obtain ⟨B, hB⟩ : ∃ x, x = w1.heap.size := ⟨_, rfl⟩
  have hBw : B ≤ w2.heap.size := by rw [hw2, hB]; simp
  have hwB : w.heap.size < B := by rw [hB]; exact (Array.getElem?_eq_some_iff.1 HR1.out).1
  rw [← hw2, ← hB] at HN2 HBK
  rw [← hw2] at HR2 HB2
  simp only [← hw2, ← hB]
  clear hw2 hB HN1 HR1 HB1
  go_wp2_with (first
    | (go_at_call 23; go_must (refine (tlen_any B mb n D g cap ts _ HN2.out).mono ?_; rintro e w3 ⟨r, rfl, hr, hw3⟩; obtain rfl := hw3.symm))
    | (go_at_call 22; go_must (refine (Yba.Builder_Grow_fresh B B r _ (Nat.le_refl _) HBK.out hBw (by omega)).mono ?_; rintro e w4 ⟨rfl, h1, h2⟩; have HB4 : Hid (Bld B B [] w4) := h1; have HBL4 : Hid (Below B w2 w4) := h2; have hB4 : B ≤ w4.heap.size := Nat.le_trans hBw h2.size; have HN4 : Hid (NM w4 B mb n D g cap ts) := HN2.out.below h2; clear h1 h2))
    | (go_at_call 24; go_must (refine (wstrings_any B B mb n D g cap ts _ HN4.out HB4.out hB4).mono ?_; rintro e w5 ⟨rfl, h1, h2⟩; have HB5 : Hid (Bld B B (encT (pairs D ts)) w5) := h1; have HBL5 : Hid (Below B w2 w5) := HBL4.out.trans h2; have hB5 : B ≤ w5.heap.size := Nat.le_trans hB4 h2.size; clear h1 h2))
    | (go_at_call 25; go_must (refine (Yba.Builder_String_any B B (encT (pairs D ts)) _ (Or.inr HB5.out) hB5).mono ?_; rintro e w6 ⟨rfl, h2⟩; have HBL6 : Hid (Below B w2 w6) := HBL5.out.trans h2; have hR6 := (HBL6.out.block w.heap.size hwB).trans HR2.out; have c6 : w6.cell? ⟨w.heap.size, 0, none⟩ = some (encStr []) := (by rw [cell_of_row _ _ _ _ _ _ hR6]; rfl); have f6 := frozen_of_row _ _ 0 _ _ hR6; have HR6 : Hid (w6.heap[w.heap.size]? = some (.cells #[encStr []] 43 (0, 0))) := hR6; clear h2 hR6)))
  try simp only [Exit.inBlock, Exit.then]
  refine bodyPost_ret_by (results_cell_row rfl _ _ w.heap.size 43 #[encStr (encT (pairs D ts))] (0, 0) _ rfl (by rw [heap_setCell_same _ _ _ _ _ _ HR6.out]; rfl) Yba.underlying43 rfl Yba.size43) rfl ?_
  exact ⟨_, _, rfl, HG.out.1, HG.out.2.1, HG.out.2.2.1, HG.out.2.2.2, (HB2.out.trans (HBL6.out.mono (Nat.le_of_lt hwB))).setCell (p := ⟨w.heap.size, 0, none⟩) (Nat.le_refl _) _⟩

end Go.Proofs.Ybulkegqe.lawS6647AWhole
