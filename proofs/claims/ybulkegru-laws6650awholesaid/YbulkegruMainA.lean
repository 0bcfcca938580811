import Derived.Test.YbulkegruAppE
namespace Go.Proofs.Ybulkegru
set_option linter.unusedVariables false
set_option linter.unusedSimpArgs false
open Go.RowKit

theorem Digs.src {w : World} {db doff nd cd : Nat} {d0 : Int} {ds : List Int} (h : Digs w db doff nd cd d0 ds) : Src w (some ⟨db, doff, none⟩) nd cd (d0 :: ds) := by
  have h1 := h.len
  refine ⟨by simpa using h1, fun hn => (by cases hn), fun ad ha j u hu => ?_⟩
  cases ha
  have hj : j < (d0 :: ds).length := by
    have := (List.getElem?_eq_some_iff.1 hu).1
    simpa using this
  rw [Go.WideShapes.add_plain, h.cell j (by simp at hj; omega), ← hu]
  simp only [List.getElem?_map, List.getElem?_eq_getElem hj, Option.map_some, List.getD, Option.getD_some]

theorem Digs.below {B : Nat} {w w' : World} {db doff nd cd : Nat} {d0 : Int} {ds : List Int} (h : Digs w db doff nd cd d0 ds) (hb : Below B w w') (hdb : db < B) : Digs w' db doff nd cd d0 ds :=
  ⟨h.len, h.cap, h.lim, fun j hj => (hb.cell (p := ⟨db, doff + j, none⟩) hdb).trans (h.cell j hj)⟩

/-- The digits as the law takes them: '7' where there are none. -/
theorem digs_seven (w : World) : Digs (w.alloc (.cells #[.int .u8 55] 5)) w.heap.size 0 1 1 55 [] := by
  refine ⟨rfl, Nat.le_refl _, by omega, fun j hj => ?_⟩
  obtain rfl : j = 0 := by omega
  simp

theorem digs_arg {w : World} {a : Option Addr} {n c : Nat} {xs : List Int} (h : Src w a n c xs) (hn : 0 < n) (hnc : n ≤ c) (hl : n ≤ 1048576) :
    ∃ db doff d0 ds, a = some ⟨db, doff, none⟩ ∧ db < w.heap.size ∧ Digs w db doff n c d0 ds := by
  cases a with
  | none => have := (h.nil rfl).1; omega
  | some ad =>
    have hxl := h.len
    obtain ⟨d0, ds, rfl⟩ : ∃ d0 ds, xs = d0 :: ds := by
      cases xs with
      | nil => simp at hxl; omega
      | cons d0 ds => exact ⟨d0, ds, rfl⟩
    have hg : ∀ j, j < n → ((d0 :: ds).map (Value.int .u8))[j]? = some (.int .u8 ((d0 :: ds).getD j 0)) := by
      intro j hj
      simp only [List.getElem?_map, List.getElem?_eq_getElem (show j < (d0 :: ds).length by omega), Option.map_some, List.getD, Option.getD_some]
    obtain ⟨b, off, spot⟩ := ad
    have c0 := h.cell _ rfl 0 _ (hg 0 (by omega))
    have hspot : spot = none := by simpa [Addr.add] using World.cell?_spot c0
    subst hspot
    refine ⟨b, off, d0, ds, rfl, ?_, ?_⟩
    · have := World.block_lt_of_cell? w _ c0
      simpa [Addr.add] using this
    · refine ⟨by simpa using hxl, hnc, hl, fun j hj => ?_⟩
      rw [← Go.WideShapes.add_plain]
      exact h.cell _ rfl j _ (hg j hj)

theorem tmod1000 (x : Int) : -1000 < x.tmod 1000 ∧ x.tmod 1000 < 1000 := by
  by_cases h : 0 ≤ x
  · rw [Int.tmod_eq_emod_of_nonneg h]; omega
  · obtain ⟨m, rfl⟩ : ∃ m : Nat, x = -(m : Int) := ⟨(-x).toNat, by omega⟩
    rw [Int.neg_tmod, Int.tmod_eq_emod_of_nonneg (by omega)]
    omega

theorem Src.low {B : Nat} {w w' : World} {a : Option Addr} {n c : Nat} {xs : List Int} (h : Src w a n c xs) (hb : Below w.heap.size w w') : Src w' a n c xs := h.below hb

set_option maxRecDepth 100000 in
set_option maxHeartbeats 3200000 in
theorem lawA (a0 : Option Addr) (len0 cap0 : Nat) (X : List Int) (neg : Bool) (a2 : Option Addr) (len2 cap2 : Nat) (Y : List Int) (exp prec letter : Int) (w : World)
    (h0 : Src w a0 len0 cap0 X) (h2 : Src w a2 len2 cap2 Y) (hc2 : len2 ≤ cap2) (hl0 : len0 ≤ 1048576) (hl2 : len2 ≤ 1048576) (hp : prec ≤ 1048576) (hplo : -9223372036854775808 ≤ prec) (hlet : 0 ≤ letter ∧ letter ≤ 255) (hexp : -9223372036854775808 ≤ exp ∧ exp ≤ 9223372036854775807) :
    Calls Yba.prog 3 #[.slice a0 len0 cap0, .bool neg, .slice a2 len2 cap2, .int .i64 exp, .int .i64 prec, .int .u8 letter] w fun e w' => e = .returned (.bool true) ∧ Below w.heap.size w w' := by
  have S0 : Hid (Src w a0 len0 cap0 X) := h0
  have S2 : Hid (Src w a2 len2 cap2 Y) := h2
  clear h0 h2
  go_enter Yba.func3, Yba.ntmps3
  go_upto_if 38 with fail
  go_cut [13] (fun p13 wc => ∃ db doff nd cd d0 ds, p13 = .slice (some ⟨db, doff, none⟩) nd cd ∧ Digs wc db doff nd cd d0 ds ∧ db < wc.heap.size ∧ Below w.heap.size w wc)
  case first =>
    by_cases hz : len2 = 0
    · have hz' : ((len2 : Int) == 0) = true := by simp [hz]
      clear hz
      go_wp2_with fail
      go_meet
      exact ⟨_, _, _, _, _, _, rfl, digs_seven w, by simp, (Below.refl _ w).alloc (Nat.le_refl _) _⟩
    · have hz' : ((len2 : Int) == 0) = false := by simp [hz]
      obtain ⟨db, doff, d0, ds, rfl, hlt, hdg⟩ := digs_arg S2.out (by omega) hc2 hl2
      have HG : Hid (Digs w db doff len2 cap2 d0 ds) := hdg
      clear hz hdg
      go_wp2_with fail
      go_meet
      exact ⟨_, _, _, _, _, _, rfl, HG.out, hlt, Below.refl _ w⟩
  case rest =>
    obtain ⟨db, doff, nd, cd, d0, ds, rfl, hdg, hdb, hb1⟩ := hcut
    obtain ⟨w1, rfl⟩ : ∃ x, x = wc := ⟨wc, rfl⟩
    have HG : Hid (Digs w1 db doff nd cd d0 ds) := hdg
    have HB1 : Hid (Below w.heap.size w w1) := hb1
    have hnl := hdg.lim
    have hnl1 : 1 ≤ nd := by have := hdg.len; omega
    have hncd : nd ≤ cd := hdg.cap
    have hE := tmod1000 exp
    have hXl := S0.out.len
    have HX : Hid (X.length = len0) := hXl
    clear hdg hb1 hXl S2
    go_upto_if 56 with (first
      | (go_at_call 5; have KK := OK2; go_must (refine (clone_any a0 len0 cap0 X _ ((S0.out.below HB1.out).below BK2.out) hl0).mono ?_; rintro r w3 ⟨vi, rfl, oi, bi⟩; have OI3 : Hid (Own w2.heap.size w3 vi X) := oi; have BI3 : Hid (Below w2.heap.size w2 w3) := bi; have z3 : w2.heap.size ≤ w3.heap.size := bi.size; clear oi bi KK))
      | (go_at_call 5; go_must (refine (clone_any (some ⟨db, doff, none⟩) nd cd (d0 :: ds) _ HG.out.src hnl).mono ?_; rintro r w2 ⟨vk, rfl, ok, bk⟩; have OK2 : Hid (Own w1.heap.size w2 vk (d0 :: ds)) := ok; have BK2 : Hid (Below w1.heap.size w1 w2) := bk; have z2 : w1.heap.size ≤ w2.heap.size := bk.size; clear ok bk))
      | (go_at_call 6; go_must (refine (appE_any w2.heap.size vi X neg db doff nd cd d0 ds (exp.tmod 1000) prec letter _ OI3.out z3 (by rw [HX.out]; omega) ((HG.out.below BK2.out hdb).below BI3.out (by omega)) (by omega) hE.1 hE.2 hp).mono ?_; rintro r w4 ⟨vg, rfl, og, bg⟩; have OG4 : Hid (Own w2.heap.size w4 vg (X ++ bodyE neg d0 ds (exp.tmod 1000) prec letter)) := og; have BG4 : Hid (Below w2.heap.size w3 w4) := bg; have z4 : w3.heap.size ≤ w4.heap.size := bg.size; clear og bg))
      | (at_builtin; go_must (refine ap_src _ rfl (.tmp 53) (.tmp 54) rfl w4.heap.size (Nat.le_refl _) (.slice none 0 0) [] rfl (Own.nil _ _) a0 len0 cap0 X rfl (((S0.out.below HB1.out).below BK2.out).below (BI3.out.trans BG4.out)) (by rw [HX.out]; simp; omega) ?_; intro v5 w5 o5 b5; have O5 : Hid (Own w4.heap.size w5 v5 X) := o5; have B5 : Hid (Below w4.heap.size w4 w5) := b5; have z5 : w4.heap.size ≤ w5.heap.size := b5.size; clear o5 b5)))
    have FG : Hid (∀ w', Below w4.heap.size w4 w' → Own w2.heap.size w' vg (X ++ bodyE neg d0 ds (exp.tmod 1000) prec letter)) := fun w' hb => OG4.out.kept OG4.out.blk hb
    have FK : Hid (∀ w', Below w4.heap.size w4 w' → Own w1.heap.size w' vk (d0 :: ds)) := fun w' hb => OK2.out.kept OK2.out.blk ((BI3.out.trans BG4.out).trans (hb.mono (by omega)))
    have FD : Hid (∀ w', Below w4.heap.size w4 w' → Digs w' db doff nd cd d0 ds) := fun w' hb => (HG.out.below BK2.out hdb).below ((BI3.out.trans BG4.out).trans (hb.mono (by omega))) (by omega)
    have FB : Hid (∀ w', Below w4.heap.size w4 w' → Below w.heap.size w w') := fun w' hb => HB1.out.trans ((BK2.out.mono HB1.out.size).trans (((BI3.out.trans BG4.out).trans (hb.mono (by omega))).mono (by have := HB1.out.size; omega)))
    have hDl : ds.length + 1 = nd := HG.out.len
    have HDL : Hid (ds.length + 1 = nd) := hDl
    have hdsl : ds.length ≤ 1048576 := by omega
    have hXX : X.length ≤ 1048576 := by rw [HX.out]; omega
    have hNL : (negL neg).length ≤ 1 := by unfold negL; split <;> simp
    have q0 : 0 < nd := by omega
    clear OG4 OK2 BI3 BG4 BK2 HG OI3 HB1 S0 hDl HX
    go_cut [18] (fun p wc => Own w4.heap.size wc p (X ++ negL neg) ∧ Below w4.heap.size w4 wc)
    case first =>
      cases neg
      · go_wp2_with fail
        go_meet
        exact ⟨by simpa [negL] using O5.out, B5.out⟩
      · go_wp2_with (at_builtin; go_must (refine ap_ints _ rfl (.tmp 57) (.tmp 58) rfl w4.heap.size (by simp; omega) v5 X rfl (O5.out.alloc _) ⟨w5.heap.size, 0, none⟩ 1 1 [45] rfl rfl (cells_new _ [45]) (by simp; omega) ?_; intro v6 w6 o6 b6))
        go_meet
        exact ⟨o6, (B5.out.alloc z5 _).trans b6⟩
    case rest =>
      obtain ⟨o6, b6⟩ := hcut
      obtain ⟨w6, rfl⟩ : ∃ x, x = wc := ⟨wc, rfl⟩
      obtain ⟨v6, rfl⟩ : ∃ x, x = u18 := ⟨u18, rfl⟩
      have O6 : Hid (Own w4.heap.size w6 v6 (X ++ negL neg)) := o6
      have B6 : Hid (Below w4.heap.size w4 w6) := b6
      have z6 : w4.heap.size ≤ w6.heap.size := b6.size
      have cd6 : w6.cell? ⟨db, doff, none⟩ = some (.int .u8 d0) := (FD.out w6 b6).cell 0 (by omega)
      clear o6 b6
      go_upto_if 67 with (at_builtin; go_must (refine ap_ints _ rfl (.tmp 60) (.tmp 64) rfl w4.heap.size (by simp; omega) v6 (X ++ negL neg) rfl (O6.out.alloc _) ⟨w6.heap.size, 0, none⟩ 1 1 [d0] rfl rfl (cells_new _ [d0]) (by simp; omega) ?_; intro v7 w7 o7 b7; have O7 : Hid (Own w4.heap.size w7 v7 (X ++ negL neg ++ [d0])) := o7; have B7 : Hid (Below w4.heap.size w4 w7) := (B6.out.alloc z6 _).trans b7; have z7 : w4.heap.size ≤ w7.heap.size := B7.out.size; clear o7 b7))
      go_cut [18] (fun p wc => Own w4.heap.size wc p (X ++ negL neg ++ [d0] ++ fracL ds prec) ∧ Below w4.heap.size w4 wc)
      case first =>
        by_cases hpos : 0 < prec
        · go_wp2_with (at_builtin; go_must (refine ap_ints _ rfl (.tmp 68) (.tmp 69) rfl w4.heap.size (by simp; omega) v7 (X ++ negL neg ++ [d0]) rfl (O7.out.alloc _) ⟨w7.heap.size, 0, none⟩ 1 1 [46] rfl rfl (cells_new _ [46]) (by simp; omega) ?_; intro v8 w8 o8 b8; have O8 : Hid (Own w4.heap.size w8 v8 (X ++ negL neg ++ [d0] ++ [46])) := o8; have B8 : Hid (Below w4.heap.size w4 w8) := (B7.out.alloc z7 _).trans b8; clear o8 b8))
          go_loopw [18, 19] (fun p i wr => ∃ k : Nat, 1 ≤ k ∧ k ≤ nd ∧ i = .int .i64 k ∧ Own w4.heap.size wr p (X ++ negL neg ++ [d0] ++ [46] ++ ds.take (k - 1)) ∧ Below w4.heap.size w4 wr) (fun _ i _ => nd - (intOf i).toNat)
          case atStart => exact ⟨1, by omega, by omega, rfl, by simpa using O8.out, B8.out⟩
          case round =>
            obtain ⟨k, hk1, hk2, rfl, ho, hb⟩ := hrel
            obtain ⟨p0, rfl⟩ : ∃ x, x = u18 := ⟨u18, rfl⟩
            have OR : Hid (Own w4.heap.size wr p0 (X ++ negL neg ++ [d0] ++ [46] ++ ds.take (k - 1))) := ho
            have BR : Hid (Below w4.heap.size w4 wr) := hb
            have zr : w4.heap.size ≤ wr.heap.size := hb.size
            have hlen : (X ++ negL neg ++ [d0] ++ [46] ++ ds.take (k - 1)).length ≤ 3145728 := by simp only [List.length_append, List.length_take, List.length_singleton]; omega
            have HLEN : Hid ((X ++ negL neg ++ [d0] ++ [46] ++ ds.take (k - 1)).length ≤ 3145728) := hlen
            clear ho hb hlen
            by_cases hlt : k < nd
            · have ck : wr.cell? ⟨db, doff + k, none⟩ = some (.int .u8 ((d0 :: ds).getD k 0)) := (FD.out wr BR.out).cell k hlt
              have ek : (d0 :: ds).getD k 0 = ds.getD (k - 1) 0 := by
                obtain ⟨j, rfl⟩ : ∃ j, k = j + 1 := ⟨k - 1, by omega⟩
                simp [List.getD]
              rw [ek] at ck
              obtain ⟨dk, hdk⟩ : ∃ x, x = ds.getD (k - 1) 0 := ⟨_, rfl⟩
              rw [← hdk] at ck
              have HDK : Hid (dk = ds.getD (k - 1) 0) := hdk
              have ki : (k : Int) < (nd : Int) := by omega
              clear ek hdk
              go_wp2_with (at_builtin; go_must (refine ap_ints _ rfl (.tmp 77) (.tmp 82) rfl w4.heap.size (by simp; omega) p0 _ rfl (OR.out.alloc _) ⟨wr.heap.size, 0, none⟩ 1 1 [dk] rfl rfl (cells_new _ [dk]) (by have := HLEN.out; simp only [List.length_singleton]; omega) ?_; intro v9 w9 o9 b9; have O9 : Hid (Own w4.heap.size w9 v9 (X ++ negL neg ++ [d0] ++ [46] ++ ds.take (k - 1) ++ [dk])) := o9; have B9 : Hid (Below w4.heap.size w4 w9) := (BR.out.alloc zr _).trans b9; clear o9 b9))
              have et : ds.take (k + 1 - 1) = ds.take (k - 1) ++ [dk] := by
                have hl := HDL.out
                rw [HDK.out, show k + 1 - 1 = (k - 1) + 1 by omega, List.take_succ_eq_append_getElem (show k - 1 < ds.length by omega)]
                simp [List.getD, List.getElem?_eq_getElem (show k - 1 < ds.length by omega)]
              have HET : Hid (ds.take (k + 1 - 1) = ds.take (k - 1) ++ [dk]) := et
              clear et
              go_roundw
              case rel => exact ⟨k + 1, by omega, by omega, by go_num, by rw [HET.out, ← List.append_assoc]; exact O9.out, B9.out⟩
              case measure => simp [intOf]; omega
            · have ki : ¬ (k : Int) < (nd : Int) := by omega
              have ek : ds.take (k - 1) = ds := List.take_of_length_le (by have := HDL.out; omega)
              have OS : Hid (Own w4.heap.size wr p0 (X ++ negL neg ++ [d0] ++ [46] ++ ds)) := by have := OR.out; rw [ek] at this; exact this
              clear ek OR HLEN
              go_wp2
              go_loopw [18, 20] (fun p i wz => ∃ k : Nat, i = .int .i64 ((nd : Int) - 1 + k) ∧ (k = 0 ∨ (nd : Int) - 1 + k ≤ prec) ∧ Own w4.heap.size wz p (X ++ negL neg ++ [d0] ++ [46] ++ ds ++ List.replicate k 48) ∧ Below w4.heap.size w4 wz) (fun _ i _ => (prec - intOf i).toNat)
              case atStart => exact ⟨0, by go_num, .inl rfl, by simpa using OS.out, BR.out⟩
              case round =>
                obtain ⟨m, rfl, hm, ho, hb⟩ := hrel
                obtain ⟨p1, rfl⟩ : ∃ x, x = u18 := ⟨u18, rfl⟩
                obtain ⟨wz, rfl⟩ : ∃ x, x = wr := ⟨wr, rfl⟩
                have OZ : Hid (Own w4.heap.size wz p1 (X ++ negL neg ++ [d0] ++ [46] ++ ds ++ List.replicate m 48)) := ho
                have BZ : Hid (Below w4.heap.size w4 wz) := hb
                have zz : w4.heap.size ≤ wz.heap.size := hb.size
                have HM : Hid (m = 0 ∨ (nd : Int) - 1 + m ≤ prec) := hm
                have hml : m ≤ 1048576 := by omega
                have hlen : (X ++ negL neg ++ [d0] ++ [46] ++ ds ++ List.replicate m 48).length ≤ 4194304 := by simp only [List.length_append, List.length_replicate, List.length_singleton]; omega
                have HLEN : Hid ((X ++ negL neg ++ [d0] ++ [46] ++ ds ++ List.replicate m (48 : Int)).length ≤ 4194304) := hlen
                clear ho hb hm hlen
                by_cases hlz : (nd : Int) - 1 + m < prec
                · go_wp2_with (at_builtin; go_must (refine ap_ints _ rfl (.tmp 92) (.tmp 93) rfl w4.heap.size (by simp; omega) p1 _ rfl (OZ.out.alloc _) ⟨wz.heap.size, 0, none⟩ 1 1 [48] rfl rfl (cells_new _ [48]) (by have := HLEN.out; simp only [List.length_singleton]; omega) ?_; intro v9 w9 o9 b9; have O9 : Hid (Own w4.heap.size w9 v9 (X ++ negL neg ++ [d0] ++ [46] ++ ds ++ List.replicate m 48 ++ [48])) := o9; have B9 : Hid (Below w4.heap.size w4 w9) := (BZ.out.alloc zz _).trans b9; clear o9 b9))
                  go_roundw
                  case rel => exact ⟨m + 1, by go_num, .inr (by omega), by rw [List.replicate_succ', ← List.append_assoc]; exact O9.out, B9.out⟩
                  case measure => simp [intOf]; omega
                · go_wp2
                  go_meet
                  have hmm : (prec - ds.length).toNat = m := by have h1 := HM.out; have h2 := HDL.out; omega
                  have hf : fracL ds prec = 46 :: (ds ++ List.replicate m 48) := by unfold fracL; rw [if_pos hpos, hmm]
                  refine ⟨?_, BZ.out⟩
                  rw [hf]
                  have := OZ.out
                  simpa using this
        · go_wp2_with fail
          go_meet
          have hf : fracL ds prec = [] := by unfold fracL; rw [if_neg (show ¬ 0 < prec by omega)]
          exact ⟨by rw [hf]; simpa using O7.out, B7.out⟩
      case rest =>
        obtain ⟨o8, b8⟩ := hcut
        obtain ⟨w8, rfl⟩ : ∃ x, x = wc := ⟨wc, rfl⟩
        obtain ⟨v8, rfl⟩ : ∃ x, x = u18 := ⟨u18, rfl⟩
        obtain ⟨L, hL⟩ : ∃ L, L = X ++ negL neg ++ [d0] ++ fracL ds prec := ⟨_, rfl⟩
        have HL : Hid (L = X ++ negL neg ++ [d0] ++ fracL ds prec) := hL
        have hLl : L.length ≤ 5242880 := by
          have h2 := HDL.out
          rw [hL]
          unfold fracL
          split <;> simp only [List.length_append, List.length_cons, List.length_replicate, List.length_nil] <;> omega
        have O8 : Hid (Own w4.heap.size w8 v8 L) := by rw [hL]; exact o8
        have B8 : Hid (Below w4.heap.size w4 w8) := b8
        have z8 : w4.heap.size ≤ w8.heap.size := b8.size
        clear o8 b8 hL O6 B6 O7 B7 O5 B5 cd6
        go_upto_if 101 with (at_builtin; go_must (refine ap_ints _ rfl (.tmp 95) (.tmp 97) rfl w4.heap.size (by simp; omega) v8 L rfl (O8.out.alloc _) ⟨w8.heap.size, 0, none⟩ 1 1 [letter] rfl rfl (cells_new _ [letter]) (by simp; omega) ?_; intro v9 w9 o9 b9; have O9 : Hid (Own w4.heap.size w9 v9 (L ++ [letter])) := o9; have B9 : Hid (Below w4.heap.size w4 w9) := (B8.out.alloc z8 _).trans b9; have z9 : w4.heap.size ≤ w9.heap.size := B9.out.size; clear o9 b9))
        have hmb := mag_bd hE.1 hE.2
        go_cut [21, 22] (fun p q wc => p = .int .i64 (mag (exp.tmod 1000)) ∧ q = .int .u8 (sgn (exp.tmod 1000)) ∧ wc = w9)
        case first =>
          by_cases hneg : exp.tmod 1000 < 0
          · have e1 : mag (exp.tmod 1000) = -(exp.tmod 1000) := by unfold mag; rw [if_pos hneg]
            have e2 : sgn (exp.tmod 1000) = 45 := by unfold sgn; rw [if_pos hneg]
            have H1 : Hid (mag (exp.tmod 1000) = -(exp.tmod 1000)) := e1
            have H2 : Hid (sgn (exp.tmod 1000) = 45) := e2
            clear e1 e2
            go_wp2_with fail
            go_meet
            exact ⟨by rw [H1.out], by rw [H2.out], rfl⟩
          · have e1 : mag (exp.tmod 1000) = exp.tmod 1000 := by unfold mag; rw [if_neg hneg]
            have e2 : sgn (exp.tmod 1000) = 43 := by unfold sgn; rw [if_neg hneg]
            have H1 : Hid (mag (exp.tmod 1000) = exp.tmod 1000) := e1
            have H2 : Hid (sgn (exp.tmod 1000) = 43) := e2
            clear e1 e2
            go_wp2_with fail
            go_meet
            exact ⟨by rw [H1.out], by rw [H2.out], rfl⟩
        case rest =>
          obtain ⟨rfl, rfl, hwc⟩ := hcut
          obtain rfl := hwc.symm
          go_upto_if 109 with (at_builtin; go_must (refine ap_ints _ rfl (.tmp 104) (.tmp 106) rfl w4.heap.size (by simp; omega) v9 (L ++ [letter]) rfl (O9.out.alloc _) ⟨w9.heap.size, 0, none⟩ 1 1 [sgn (exp.tmod 1000)] rfl rfl (cells_new _ [sgn (exp.tmod 1000)]) (by simp; omega) ?_; intro v10 w10 o10 b10; have O10 : Hid (Own w4.heap.size w10 v10 (L ++ [letter] ++ [sgn (exp.tmod 1000)])) := o10; have B10 : Hid (Below w4.heap.size w4 w10) := (B9.out.alloc z9 _).trans b10; have z10 : w4.heap.size ≤ w10.heap.size := B10.out.size; clear o10 b10))
          go_cut [18] (fun p wc => Own w4.heap.size wc p (L ++ [letter] ++ [sgn (exp.tmod 1000)] ++ (if mag (exp.tmod 1000) < 100 then [] else [48 + mag (exp.tmod 1000) / 100])) ∧ Below w4.heap.size w4 wc)
          case first =>
            by_cases hbig : 100 ≤ mag (exp.tmod 1000)
            · go_wp2_with (at_builtin; go_must (refine ap_ints _ rfl (.tmp 110) (.tmp 115) rfl w4.heap.size (by simp; omega) v10 (L ++ [letter] ++ [sgn (exp.tmod 1000)]) rfl (O10.out.alloc _) ⟨w10.heap.size, 0, none⟩ 1 1 [48 + mag (exp.tmod 1000) / 100] rfl rfl (cells_new _ [48 + mag (exp.tmod 1000) / 100]) (by simp; omega) ?_; intro v11 w11 o11 b11; have O11 : Hid (Own w4.heap.size w11 v11 (L ++ [letter] ++ [sgn (exp.tmod 1000)] ++ [48 + mag (exp.tmod 1000) / 100])) := o11; have B11 : Hid (Below w4.heap.size w4 w11) := (B10.out.alloc z10 _).trans b11; clear o11 b11))
              go_meet
              exact ⟨by rw [if_neg (show ¬ mag (exp.tmod 1000) < 100 by omega)]; exact O11.out, B11.out⟩
            · go_wp2_with fail
              go_meet
              exact ⟨by rw [if_pos (show mag (exp.tmod 1000) < 100 by omega)]; simpa using O10.out, B10.out⟩
          case rest =>
            obtain ⟨o11, b11⟩ := hcut
            obtain ⟨w11, rfl⟩ : ∃ x, x = wc := ⟨wc, rfl⟩
            obtain ⟨v11, rfl⟩ : ∃ x, x = u18 := ⟨u18, rfl⟩
            obtain ⟨M, hM⟩ : ∃ M, M = L ++ [letter] ++ [sgn (exp.tmod 1000)] ++ (if mag (exp.tmod 1000) < 100 then [] else [48 + mag (exp.tmod 1000) / 100]) := ⟨_, rfl⟩
            have HM : Hid (M = L ++ [letter] ++ [sgn (exp.tmod 1000)] ++ (if mag (exp.tmod 1000) < 100 then [] else [48 + mag (exp.tmod 1000) / 100])) := hM
            have hMl : M.length ≤ 6291456 := by
              rw [hM]
              split <;> simp only [List.length_append, List.length_singleton, List.length_nil] <;> omega
            have O11 : Hid (Own w4.heap.size w11 v11 M) := by rw [hM]; exact o11
            have B11 : Hid (Below w4.heap.size w4 w11) := b11
            have z11 : w4.heap.size ≤ w11.heap.size := b11.size
            have hh : M ++ [48 + mag (exp.tmod 1000) / 10 % 10, 48 + mag (exp.tmod 1000) % 10] = X ++ bodyE neg d0 ds (exp.tmod 1000) prec letter := by
              rw [hM, HL.out]
              unfold bodyE expL
              by_cases hlow : mag (exp.tmod 1000) < 100
              · rw [if_pos hlow, if_pos hlow, show mag (exp.tmod 1000) / 10 % 10 = mag (exp.tmod 1000) / 10 by omega]
                simp
              · rw [if_neg hlow, if_neg hlow]
                simp
            have HH : Hid (M ++ [48 + mag (exp.tmod 1000) / 10 % 10, 48 + mag (exp.tmod 1000) % 10] = X ++ bodyE neg d0 ds (exp.tmod 1000) prec letter) := hh
            clear hh o11 b11 hM O8 B8 O9 B9 O10 B10
            go_wp2_with (first
              | (at_builtin; go_must (refine ap_ints _ rfl (.tmp 117) (.tmp 127) rfl w4.heap.size (by simp; omega) v11 M rfl (O11.out.alloc _) ⟨w11.heap.size, 0, none⟩ 2 2 [48 + mag (exp.tmod 1000) / 10 % 10, 48 + mag (exp.tmod 1000) % 10] rfl rfl (cells_new _ [48 + mag (exp.tmod 1000) / 10 % 10, 48 + mag (exp.tmod 1000) % 10]) (by simp; omega) ?_; intro v12 w12 o12 b12; have O12 : Hid (Own w4.heap.size w12 v12 (X ++ bodyE neg d0 ds (exp.tmod 1000) prec letter)) := (by rw [← HH.out]; exact o12); have B12 : Hid (Below w4.heap.size w4 w12) := (B11.out.alloc z11 _).trans b12; clear o12 b12))
              | (go_at_call 7; have KK := EQ1; go_must (refine (equal_same (.slice (some ⟨db, doff, none⟩) nd cd) vk _ _ (conv_src (FD.out w12 B12.out).src) (conv_own (FK.out w12 B12.out))).mono ?_; rintro r w' ⟨rfl, hw⟩; obtain rfl := hw.symm))
              | (go_at_call 7; go_must (refine (equal_same vg v12 _ _ (conv_own (FG.out w12 B12.out)) (conv_own O12.out)).mono ?_; rintro r w' ⟨rfl, hw⟩; obtain rfl := hw.symm; have EQ1 : Hid True := trivial)))
            go_ret
            exact ⟨rfl, FB.out w12 B12.out⟩
end Go.Proofs.Ybulkegru
