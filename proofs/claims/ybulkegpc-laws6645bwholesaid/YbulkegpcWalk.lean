import Derived.Test.YbulkegpcMake
import Derived.WalkSpells
import Derived.WalkLawsBesides
import Derived.LaidEql
namespace Go.Proofs.Ybulkegpc.lawS6645BWhole
set_option linter.unusedVariables false
set_option linter.unusedSimpArgs false
open Go.RowKit Go.WideShapes

/-- The copy has been made. -/
theorem ready_of {w wq w' : World} {gp n : Nat} {xs : List Value} (hn : xs.length = n) (hp : wq.ownsRow w.heap.size 5 1 (.slice (some ⟨gp, 0, none⟩) n n) n xs)
    (gq : Nat) (hgp : gp < gq) (hgq : w.heap.size ≤ gq) (hm : n ≤ maxLen) (hb : Below w.heap.size w wq) (hq : w'.heap[gq]? = some (.cells (splice (List.replicate n (Value.int .u8 0)) 0 xs).toArray 5 (0, 0))) (hB : Below gq wq w') :
    Ready w w' gp gq n xs := by
  have e : splice (List.replicate n (Value.int .u8 0)) 0 xs = xs := by simp [splice, hn]
  rw [e] at hq
  refine ⟨⟨hp.1, ?_⟩, ⟨by simp [hn], .inr ⟨gq, n, xs.toArray, rfl, hgq, hq, Nat.le_refl _, hm, by simp [hn], by simp [← hn]⟩⟩, hb.trans (hB.mono hgq)⟩
  rcases hp.2 with ⟨h, _⟩ | ⟨g, cap, cur, hv, hg, hh, r⟩
  · simp at h
  · simp only [Value.slice.injEq, Option.some.injEq, Addr.mk.injEq, and_true] at hv
    obtain ⟨rfl, _⟩ := hv
    exact .inr ⟨gp, cap, cur, by simp_all, hg, by rw [hB.block gp hgp]; exact hh, r⟩

theorem own_full {w : World} {base g n : Nat} {e : TypeId} {xs : List Value} (h : w.ownsRow base e 1 (.slice (some ⟨g, 0, none⟩) n n) n xs) : w.heap[g]? = some (.cells xs.toArray e (0, 0)) := by
  rcases h.2 with ⟨h, _⟩ | ⟨g', cap, cur, hv, hg, hh, _, _, hs, ht⟩
  · simp at h
  · simp only [Value.slice.injEq, Option.some.injEq, Addr.mk.injEq, and_true] at hv
    obtain ⟨rfl, _, rfl⟩ := hv
    rw [hh, ← ht, List.take_of_length_le (by simp [hs])]

/-- The payload's bytes. -/
def pay (a0 a1 a2 a3 : Int) (D : List Int) (j : Nat) : Int := if j < 18 then hdX a0 a1 a2 a3 8 j else D.getD (j - 18) 0

theorem pay_cell {w : World} {base g len4 : Nat} {a0 a1 a2 a3 : Int} {D : List Int} (hD : D.length = len4) (h : w.ownsRow base 5 1 (.slice (some ⟨g, 0, none⟩) (18 + len4) (18 + len4)) (18 + len4) (hdV a0 a1 a2 a3 8 ++ D.map (Value.int .u8))) :
    ∀ j, j < 18 + len4 → w.cell? ⟨g, j, none⟩ = some (.int .u8 (pay a0 a1 a2 a3 D j)) := by
  intro j hj
  rw [h.cellAt j (by omega)]
  unfold pay
  split
  · rw [List.getElem?_append_left (by simp [hdV]; omega), hdV_get _ _ _ _ _ _ (by omega)]
  · have e : (hdV a0 a1 a2 a3 8).length = 18 := by simp [hdV]
    rw [List.getElem?_append_right (by omega), e]
    simp [List.getD, show j - 18 < D.length by omega]

/-- The data's cells, where there are any. -/
theorem data_at {w : World} {a4 : Option Addr} {len4 cap4 : Nat} {D : List Int} (a0 a1 a2 a3 : Int) (h0 : ¬ len4 = 0) (hD : D.length = len4) (hnone : a4 = none → len4 = 0 ∧ cap4 = 0)
    (hcell : ∀ ad, a4 = some ad → ∀ j u, (D.map (Value.int .u8))[j]? = some u → w.cell? (ad.add j) = some u) :
    ∃ b off, a4 = some ⟨b, off, none⟩ ∧ b < w.heap.size ∧ ∀ j, j < len4 → w.cell? ⟨b, off + j, none⟩ = some (.int .u8 (pay a0 a1 a2 a3 D (18 + j))) := by
  cases a4 with
  | none => exact absurd (hnone rfl).1 h0
  | some ad =>
    have hc := hcell ad rfl
    have hg : ∀ j, j < len4 → (D.map (Value.int .u8))[j]? = some (.int .u8 (pay a0 a1 a2 a3 D (18 + j))) := by
      intro j hj
      have e : pay a0 a1 a2 a3 D (18 + j) = D.getD j 0 := by unfold pay; rw [if_neg (by omega), show 18 + j - 18 = j by omega]
      rw [e]
      simp [List.getD, show j < D.length by omega]
    obtain ⟨b, off, spot⟩ := ad
    have c0 := hc 0 _ (hg 0 (by omega))
    have hspot : spot = none := by simpa [Addr.add] using World.cell?_spot c0
    subst hspot
    refine ⟨b, off, rfl, ?_, fun j hj => ?_⟩
    · have := World.block_lt_of_cell? w _ c0
      simpa [Addr.add] using this
    · rw [← add_plain]
      exact hc j _ (hg j hj)

theorem eqIn_same (d : Nat) (a : Addr) (w : World) : (Op.equalIn (d + 1) 29 (.pointer (some a)) (.pointer (some a))).run Yba.prog w = .ok true w := by
  obtain ⟨i5, hi5, hz0, hz1, hz2⟩ := info_parts Yba.info5
  simp [Op.equalIn, run_underlying Yba.underlying29, sizeOf, typeInfo, hi5, run_sameAddr_same]

/-- '&x != &x'. -/
theorem neq_same (a : Addr) (w : World) : (binOp .neq 29 (.pointer (some a)) (.pointer (some a))).run Yba.prog w = .ok (.bool false) w := by
  simp only [binOp]
  simp [Op.equal, Op.maxDepth, eqIn_same 9999]

theorem Yba.size5 : (Yba.prog.info? 5).map (·.size) = some 1 := by kernel_rfl

set_option maxHeartbeats 1600000 in
set_option maxRecDepth 100000 in
theorem walkTry (a0 a1 a2 a3 : Int) (a4 : Option Addr) (len4 cap4 : Nat) (D : List Int) (w : World) (w0 : 0 ≤ a0 ∧ a0 ≤ 255) (w1 : 0 ≤ a1 ∧ a1 ≤ 255) (w2 : 0 ≤ a2 ∧ a2 ≤ 18446744073709551615) (w3 : 0 ≤ a3 ∧ a3 ≤ 18446744073709551615) (hlen : len4 ≤ 1048576)
    (hD : D.length = len4) (hnone : a4 = none → len4 = 0 ∧ cap4 = 0) (hcell : ∀ ad, a4 = some ad → ∀ j u, (D.map (Value.int .u8))[j]? = some u → w.cell? (ad.add j) = some u) :
    Calls Yba.prog 3 #[.int .u8 a0, .int .u8 a1, .int .u64 a2, .int .u64 a3, .slice a4 len4 cap4] w fun e w' => e = .returned (.bool true) ∧ Below w.heap.size w w' := by
  obtain ⟨i5, hi5, hz0, hz1, hz2⟩ := info_parts Yba.info5
  have HN : Hid (a4 = none → len4 = 0 ∧ cap4 = 0) := hnone
  have HC : Hid (∀ ad, a4 = some ad → ∀ j u, (D.map (Value.int .u8))[j]? = some u → w.cell? (ad.add j) = some u) := hcell
  have HD : Hid (D.length = len4) := hD
  clear hnone hcell hD
  go_enter Yba.func3, Yba.ntmps3
  go_wp2_with (at_make; go_must (refine wpList_make_part _ rfl _ _ 23 rfl w.heap.size 5 i5 (.int .u8 0) Yba.underlying23 hi5 hz0 hz1 rfl _ _ _ _ 18 (18 + len4) rfl rfl (by omega) (by omega) (by omega) (by rw [hz2]; omega) (by unfold maxLen; omega) (Nat.le_refl _) ?_; intro wa own1 grow1; have c0 : wa.cell? ⟨w.heap.size, 0, none⟩ = some (.int .u8 0) := own1.cellAt 0 (by omega); have f0 : wa.frozen? ⟨w.heap.size, 0, none⟩ = false := own1.frozenAt 0; have c1 : wa.cell? ⟨w.heap.size, 1, none⟩ = some (.int .u8 0) := own1.cellAt 1 (by omega); have f1 : wa.frozen? ⟨w.heap.size, 1, none⟩ = false := own1.frozenAt 1))
  have R0 := ((own1.stored 0 (.int .u8 a0)).1.stored 1 (.int .u8 a1)).1
  rw [hdV_zero a0 a1 a2 a3] at R0
  have B0 : Below w.heap.size w ((wa.setCell ⟨w.heap.size, 0, none⟩ (.int .u8 a0)).setCell ⟨w.heap.size, 1, none⟩ (.int .u8 a1)) := (((Below.refl _ w).grown grow1 (Nat.le_refl _) (fun k h => by cases h)).setCell (Nat.le_refl _) _).setCell (Nat.le_refl _) _
  clear own1 grow1 c0 f0 c1 f1
  go_loopw [12] (fun i wr => ∃ k : Nat, k ≤ 8 ∧ i = .int .i64 k ∧ wr.ownsRow w.heap.size 5 1 (.slice (some ⟨w.heap.size, 0, none⟩) 18 (18 + len4)) 18 (hdV a0 a1 a2 a3 k) ∧ Below w.heap.size w wr) (fun i _ => 8 - (intOf i).toNat)
  case atStart => exact ⟨0, by omega, rfl, R0, B0⟩
  case round =>
    clear R0 B0
    obtain ⟨k, hk, rfl, hown, hb⟩ := hrel
    by_cases hlt : k < 8
    · have c0 : wr.cell? ⟨w.heap.size, 2 + k, none⟩ = some (.int .u8 (hdX a0 a1 a2 a3 k (2 + k))) := (hown.cellAt (2 + k) (by omega)).trans (hdV_get _ _ _ _ _ _ (by omega))
      have c1 : wr.cell? ⟨w.heap.size, 10 + k, none⟩ = some (.int .u8 (hdX a0 a1 a2 a3 k (10 + k))) := (hown.cellAt (10 + k) (by omega)).trans (hdV_get _ _ _ _ _ _ (by omega))
      have f0 : wr.frozen? ⟨w.heap.size, 2 + k, none⟩ = false := hown.frozenAt (2 + k)
      have f1 : wr.frozen? ⟨w.heap.size, 10 + k, none⟩ = false := hown.frozenAt (10 + k)
      rcases (show k = 0 ∨ k = 1 ∨ k = 2 ∨ k = 3 ∨ k = 4 ∨ k = 5 ∨ k = 6 ∨ k = 7 by omega) with rfl | rfl | rfl | rfl | rfl | rfl | rfl | rfl
      all_goals
        have R := fun t u ht hu => rel_round (a0 := a0) (a1 := a1) (a2 := a2) (a3 := a3) hlt t u ht hu hown hb
        have RR : Hid _ := R
        clear R hown hb
        simp only [Nat.reduceAdd, Nat.add_zero] at c0 c1 f0 f1
        go_wp2
        go_roundw
        case rel =>
          refine ⟨_, by decide, rfl, (RR.out _ _ ?_ ?_).1, (RR.out _ _ ?_ ?_).2⟩
          all_goals first | (simp [byteAt]; done) | (simp only [byteAt]; omega)
        case measure => simp [intOf]
    · obtain rfl : k = 8 := by omega
      have hpB := hb.size
      go_upto_region 13 with (first
        | (at_builtin; go_must (refine wpList_append_fits_any _ rfl _ _ 23 rfl w.heap.size 5 i5 1 Yba.underlying23 hi5 hz1 w.heap.size 18 (18 + len4) (hdV a0 a1 a2 a3 8) rfl hown a4 len4 cap4 (D.map (Value.int .u8)) rfl (by simpa using HD.out) HN.out (fun ad h j u hu => cell_later hb (HC.out ad h j u hu)) (ints_oneCell _ _) (by omega) ?_; intro wb own2 grow2))
        | (at_make; go_must (refine wpList_make_full _ rfl _ _ 23 rfl w.heap.size 5 i5 (.int .u8 0) 1 Yba.underlying23 hi5 hz0 hz1 _ _ _ _ (18 + len4) rfl rfl (by omega) (by omega) (by rw [hz2]; omega) (by unfold maxLen; omega) (by have := grow2.size; omega) ?_; intro wd own3 grow3)))
      have hlt := (own2.lt w.heap.size rfl).2
      have own2d := own2.kept grow3 (by simp [Value.ownBlock])
      have hbd : Below w.heap.size w wd := (hb.grown grow2 (by omega) (fun k h => by simp at h; omega)).grown grow3 (by have := grow2.size; omega) (fun k h => by cases h)
      have hq := own_full own3
      rw [show (Value.int IntKind.u8 0).cells = #[Value.int IntKind.u8 0] from rfl, toList_madeCells_one, Nat.mul_one] at hq
      have hxs : (hdV a0 a1 a2 a3 8 ++ D.map (Value.int .u8)).length = 18 + len4 := by have := HD.out; simp [hdV]; omega
      obtain ⟨gq, hgq⟩ : ∃ gq, gq = wb.heap.size := ⟨_, rfl⟩
      rw [← hgq] at hq hlt own3 ⊢
      have hgs := grow2.size
      have hge : w.heap.size ≤ gq := by omega
      clear hgq
      go_wp2_with (refine wpList_copy_splice rfl (.tmp 60) (.tmp 61) 23 23 rfl 5 Yba.underlying23 Yba.size5 (some ⟨gq, 0, none⟩) (some ⟨w.heap.size, 0, none⟩) (18 + len4) (18 + len4) (18 + len4) (18 + len4) rfl rfl gq 0 (List.replicate (18 + len4) (.int .u8 0)) 5 hq (hdV a0 a1 a2 a3 8 ++ D.map (Value.int .u8)) (by rw [hxs]; simp) (fun _ => ⟨rfl, _, rfl, own2d.cells rfl⟩) (by rw [hxs]; simp) (fun v hv => by simp [hdV] at hv; rcases hv with ⟨_, _, rfl⟩ | ⟨_, _, rfl⟩ <;> rfl) gq wd (Below.refl _ _) (Nat.le_refl _) ?_; intro we hqe hbe)
      have R : Ready w we w.heap.size gq (18 + len4) (hdV a0 a1 a2 a3 8 ++ D.map (Value.int .u8)) := ready_of hxs own2d gq hlt hge (by unfold maxLen; omega) hbd hqe.out hbe
      have E := entry_use w0 w1 w2 w3 HD.out hlen R
      have P1 := pay_cell HD.out R.p
      have Q1 := pay_cell HD.out R.q
      have gpl : w.heap.size < we.heap.size := (R.p.lt w.heap.size rfl).2
      have gql : gq < we.heap.size := (R.q.lt gq rfl).2
      have RB := R.b
      by_cases h0 : len4 = 0
      · refine (E.1 h0).mono ?_
        rintro e w5 ⟨rfl, hb5⟩
        have B5 : Hid (Below w.heap.size w w5) := bcall RB hb5
        have P5 : ∀ j, j < 18 + len4 → w5.cell? ⟨w.heap.size, j, none⟩ = some (.int .u8 (pay a0 a1 a2 a3 D j)) := fun j hj => (hb5.cell (p := ⟨w.heap.size, j, none⟩) gpl).trans (P1 j hj)
        have Q5 : ∀ j, j < 18 + len4 → w5.cell? ⟨gq, j, none⟩ = some (.int .u8 (pay a0 a1 a2 a3 D j)) := fun j hj => (hb5.cell (p := ⟨gq, j, none⟩) gql).trans (Q1 j hj)
        have s5 := hb5.size
        have gpl5 : w.heap.size < w5.heap.size := by omega
        have gql5 : gq < w5.heap.size := by omega
        have PH : Hid _ := P5
        have QH : Hid _ := Q5
        have hz : ((len4 : Int) == 0) = true := by simp [h0]
        clear h0 E R P1 Q1 hq hqe hbe own2 own2d own3 grow2 grow3 hbd hb hown hxs hb5 P5 Q5 hi5 hz0 hz1 hz2 HN HC HD RB hlt gpl gql
        go_wp2
        go_loopw [16] (fun i wr => ∃ k n : Nat, k ≤ 18 + len4 ∧ i = .int .i64 k ∧ wr = (w5.alloc (.cells #[.int .u64 a3, .int .u64 a2, .int .u8 a0, .slice none 0 0] 27)).drewN n) (fun i _ => 18 + len4 - (intOf i).toNat)
        case atStart => exact ⟨0, 0, by omega, rfl, rfl⟩
        case round =>
          obtain ⟨k, n, hk, rfl, rfl⟩ := hrel
          by_cases hlt : k < 18 + len4
          · have cp := PH.out k hlt
            have cq := QH.out k hlt
            have ki : (k : Int) < 18 + (len4 : Int) := by omega
            go_wp2
            go_quiet (fail)
            go_wp2
            go_roundw
            case rel => exact ⟨k + 1, _, by omega, by go_num, rfl⟩
            case measure => simp [intOf]; omega
          · have ki : ¬ (k : Int) < 18 + (len4 : Int) := by omega
            go_wp2
            go_ret
            exact ⟨rfl, (B5.out.alloc (by omega) _).trans ⟨rfl, rfl, rfl, Nat.le_refl _, fun _ _ => rfl⟩⟩
      · obtain ⟨b, off, rfl, hbl, hdat⟩ := data_at a0 a1 a2 a3 h0 HD.out HN.out HC.out
        refine (E.2 (by omega)).mono ?_
        rintro e w5 ⟨rfl, hb5⟩
        have B5 : Hid (Below w.heap.size w w5) := bcall RB hb5
        have P5 : ∀ j, j < 18 + len4 → w5.cell? ⟨w.heap.size, j, none⟩ = some (.int .u8 (pay a0 a1 a2 a3 D j)) := fun j hj => (hb5.cell (p := ⟨w.heap.size, j, none⟩) gpl).trans (P1 j hj)
        have Q5 : ∀ j, j < 18 + len4 → w5.cell? ⟨gq, j, none⟩ = some (.int .u8 (pay a0 a1 a2 a3 D j)) := fun j hj => (hb5.cell (p := ⟨gq, j, none⟩) gql).trans (Q1 j hj)
        have D5 : ∀ j, j < len4 → w5.cell? ⟨b, off + j, none⟩ = some (.int .u8 (pay a0 a1 a2 a3 D (18 + j))) := fun j hj => (B5.out.cell (p := ⟨b, off + j, none⟩) hbl).trans (hdat j hj)
        have s5 := hb5.size
        have gpl5 : w.heap.size < w5.heap.size := by omega
        have gql5 : gq < w5.heap.size := by omega
        have gbl5 : b < w5.heap.size := by omega
        have PH : Hid _ := P5
        have QH : Hid _ := Q5
        have DH : Hid _ := D5
        have hz : ((len4 : Int) == 0) = false := by simp [h0]
        have hpos : 0 < len4 := by omega
        have hlp : (18 : Int) < 18 + (len4 : Int) := by omega
        have hps := neq_same
        clear h0 E R P1 Q1 hq hqe hbe own2 own2d own3 grow2 grow3 hbd hb hown hxs hb5 P5 Q5 D5 hdat hi5 hz0 hz1 hz2 HN HC HD RB hlt gpl gql
        go_wp2
        go_loopw [15] (fun i wr => ∃ k n : Nat, k ≤ len4 ∧ i = .int .i64 k ∧ wr = (w5.alloc (.cells #[.int .u64 a3, .int .u64 a2, .int .u8 a0, .slice (some ⟨w.heap.size, 18, none⟩) len4 len4] 27)).drewN n) (fun i _ => len4 - (intOf i).toNat)
        case atStart => exact ⟨0, 0, by omega, rfl, rfl⟩
        case round =>
          obtain ⟨k, n, hk, rfl, rfl⟩ := hrel
          by_cases hlt : k < len4
          · have cp := PH.out (18 + k) (by omega)
            have cd := DH.out k hlt
            have ki : (k : Int) < (len4 : Int) := by omega
            go_wp2
            go_quiet (fail)
            go_wp2
            go_roundw
            case rel => exact ⟨k + 1, _, by omega, by go_num, rfl⟩
            case measure => simp [intOf]; omega
          · have ki : ¬ (k : Int) < (len4 : Int) := by omega
            go_wp2
            go_quiet (fail)
            go_wp2
            go_loopw [16] (fun i wr => ∃ k n : Nat, k ≤ 18 + len4 ∧ i = .int .i64 k ∧ wr = (w5.alloc (.cells #[.int .u64 a3, .int .u64 a2, .int .u8 a0, .slice (some ⟨w.heap.size, 18, none⟩) len4 len4] 27)).drewN n) (fun i _ => 18 + len4 - (intOf i).toNat)
            case atStart => exact ⟨0, _, by omega, rfl, rfl⟩
            case round =>
              obtain ⟨k', n', hk', rfl, rfl⟩ := hrel
              by_cases hlt' : k' < 18 + len4
              · have cp := PH.out k' hlt'
                have cq := QH.out k' hlt'
                have ki' : (k' : Int) < 18 + (len4 : Int) := by omega
                go_wp2
                go_quiet (fail)
                go_wp2
                go_roundw
                case rel => exact ⟨k' + 1, _, by omega, by go_num, rfl⟩
                case measure => simp [intOf]; omega
              · have ki' : ¬ (k' : Int) < 18 + (len4 : Int) := by omega
                go_wp2
                go_ret
                exact ⟨rfl, (B5.out.alloc (by omega) _).trans ⟨rfl, rfl, rfl, Nat.le_refl _, fun _ _ => rfl⟩⟩
end Go.Proofs.Ybulkegpc.lawS6645BWhole
