import Derived.Test.YbulkegruZeros
namespace Go.Proofs.Ybulkegru
set_option linter.unusedVariables false
set_option linter.unusedSimpArgs false
open Go.RowKit
def sgn (e : Int) : Int := if e < 0 then 45 else 43
def mag (e : Int) : Int := if e < 0 then -e else e
theorem mag_bd {e : Int} (h1 : -1000 < e) (h2 : e < 1000) : 0 ≤ mag e ∧ mag e < 1000 := by unfold mag; split <;> omega
theorem sign_any (e : Int) (w : World) (h1 : -1000 < e) (h2 : e < 1000) : Calls Yba.prog 11 #[.int .i64 e] w fun r w' => r = .returned (.tuple #[.int .u8 (sgn e), .int .i64 (mag e)]) ∧ w' = w := by
  by_cases h : e < 0
  · have := sign_neg e w h h1
    unfold sgn mag
    rw [if_pos h, if_pos h]
    exact this
  · have := sign_pos e w (by omega)
    unfold sgn mag
    rw [if_neg h, if_neg h]
    exact this

/-- The digits. -/
structure Digs (w : World) (db doff nd cd : Nat) (d0 : Int) (ds : List Int) : Prop where
  len : ds.length + 1 = nd
  cap : nd ≤ cd
  lim : nd ≤ 1048576
  cell : ∀ j, j < nd → w.cell? ⟨db, doff + j, none⟩ = some (.int .u8 ((d0 :: ds).getD j 0))


theorem cells_new (w : World) (ys : List Int) : ∀ j u, (ys.map (Value.int .u8))[j]? = some u → (w.alloc (.cells (ys.map (Value.int .u8)).toArray 5)).cell? ((⟨w.heap.size, 0, none⟩ : Addr).add j) = some u := by
  intro j u hu
  rw [Go.WideShapes.add_plain, Nat.zero_add, cell_of_row _ _ _ _ _ _ (heap_alloc_new w _)]
  simpa using hu

theorem tail_src {w w' : World} {B db doff nd cd : Nat} {d0 : Int} {ds : List Int} (h : Digs w db doff nd cd d0 ds) (hb : Below B w w') (hdb : db < B) :
    Src w' (if cd = 1 then some ⟨db, doff, none⟩ else some ⟨db, doff + 1, none⟩) (nd - 1) (cd - 1) ds := by
  have h1 := h.len
  have h2 := h.cap
  refine ⟨by omega, fun hn => (by split at hn <;> cases hn), fun ad ha j u hu => ?_⟩
  have hj : j < ds.length := by
    have := (List.getElem?_eq_some_iff.1 hu).1
    simpa using this
  rw [if_neg (by omega)] at ha
  cases ha
  rw [Go.WideShapes.add_plain, hb.cell (p := ⟨db, doff + 1 + j, none⟩) hdb, Nat.add_assoc, h.cell (1 + j) (by omega), ← hu]
  simp [List.getD, hj, Nat.add_comm 1 j]

def negL (neg : Bool) : List Int := if neg then [45] else []
def fracL (ds : List Int) (prec : Int) : List Int := if 0 < prec then 46 :: (ds ++ List.replicate (prec - ds.length).toNat 48) else []
def expL (e : Int) : List Int := if mag e < 100 then [48 + mag e / 10, 48 + mag e % 10] else [48 + mag e / 100, 48 + mag e / 10 % 10, 48 + mag e % 10]
/-- What appendE appends. -/
def bodyE (neg : Bool) (d0 : Int) (ds : List Int) (e prec letter : Int) : List Int := negL neg ++ (d0 :: (fracL ds prec ++ (letter :: sgn e :: expL e)))

set_option maxRecDepth 100000 in
set_option maxHeartbeats 1600000 in
theorem appE000 (B : Nat) (v : Value) (xs : List Int) (db doff nd cd : Nat) (d0 : Int) (ds : List Int) (e prec letter : Int) (w : World) (hown : Own B w v xs) (hB : B ≤ w.heap.size) (hxs : xs.length ≤ 1048576)
    (hD : Digs w db doff nd cd d0 ds) (hdb : db < B) (he1 : -1000 < e) (he2 : e < 1000) (hp : prec ≤ 1048576) (hpos : ¬ 0 < prec) (hmag : 100 ≤ mag e) :
    Calls Yba.prog 6 #[v, .bool false, .slice (some ⟨db, doff, none⟩) nd cd, .int .i64 e, .int .i64 prec, .int .u8 letter] w fun r w' => ∃ v', r = .returned v' ∧ Own B w' v' (xs ++ bodyE false d0 ds e prec letter) ∧ Below B w w' := by
  have O0 : Hid (Own B w v xs) := hown
  have B0 : Hid (Below B w w) := Below.refl B w
  have HD : Hid (Digs w db doff nd cd d0 ds) := hD
  have hmb := mag_bd he1 he2
  have hnd := hD.len
  have HN : Hid (ds.length + 1 = nd) := hnd
  have hnd1 : 1 ≤ nd := by omega
  have hdsl : ds.length ≤ 1048576 := by have := hD.lim; omega
  have hcd := hD.cap
  have hlim := hD.lim
  have q0 : 0 < nd := by omega
  have q1 : (1 : Int) ≤ (nd : Int) := by omega
  have z0 : B ≤ w.heap.size := hB
  have cd0 : w.cell? ⟨db, doff, none⟩ = some (.int .u8 d0) := hD.cell 0 (by omega)
  have HB0 : Hid (0 ≤ mag e ∧ mag e < 1000) := hmb
  clear hown hD hnd
  go_enter Yba.func6, Yba.ntmps6
  go_wp2_with (first
    | (at_builtin; refine ap_ints _ rfl (.tmp 18) (.tmp 22) rfl B (by simp; omega) v (xs) rfl (O0.out.alloc _) ⟨w.heap.size, 0, none⟩ 1 1 [d0] rfl rfl (cells_new _ [d0]) (by simp; omega) ?_; intro v1 w1 o b; have O1 : Hid (Own B w1 v1 (xs ++ [d0])) := o; have B1 : Hid (Below B w w1) := (B0.out.alloc z0 _).trans b; have z1 : B ≤ w1.heap.size := Nat.le_trans hB B1.out.size; clear o b)
    | (go_at_call 11; go_must (refine (sign_any e _ he1 he2).mono ?_; rintro r w' ⟨rfl, hw⟩; obtain rfl := hw.symm))
    | (at_builtin; refine ap_ints _ rfl (.tmp 60) (.tmp 76) rfl B (by simp; omega) v1 (xs ++ [d0]) rfl (O1.out.alloc _) ⟨w1.heap.size, 0, none⟩ 5 5 [letter, sgn e, 48 + mag e / 100, 48 + mag e / 10 % 10, 48 + mag e % 10] rfl rfl (cells_new _ [letter, sgn e, 48 + mag e / 100, 48 + mag e / 10 % 10, 48 + mag e % 10]) (by simp; omega) ?_; intro v2 w2 o b; have O2 : Hid (Own B w2 v2 (xs ++ [d0] ++ [letter, sgn e, 48 + mag e / 100, 48 + mag e / 10 % 10, 48 + mag e % 10])) := o; have B2 : Hid (Below B w w2) := (B1.out.alloc z1 _).trans b; have z2 : B ≤ w2.heap.size := Nat.le_trans hB B2.out.size; clear o b))
  all_goals
    go_ret
    refine ⟨_, rfl, ?_, B2.out⟩
    have hl := HN.out
    have e1 : (xs ++ [d0] ++ [letter, sgn e, 48 + mag e / 100, 48 + mag e / 10 % 10, 48 + mag e % 10]) = xs ++ bodyE false d0 ds e prec letter := by
      unfold bodyE negL fracL expL
      rw [if_neg (show ¬ 0 < prec by omega), if_neg (show ¬ mag e < 100 by omega)]

      simp
    rw [← e1]
    exact O2.out

set_option maxRecDepth 100000 in
set_option maxHeartbeats 1600000 in
theorem appE001 (B : Nat) (v : Value) (xs : List Int) (db doff nd cd : Nat) (d0 : Int) (ds : List Int) (e prec letter : Int) (w : World) (hown : Own B w v xs) (hB : B ≤ w.heap.size) (hxs : xs.length ≤ 1048576)
    (hD : Digs w db doff nd cd d0 ds) (hdb : db < B) (he1 : -1000 < e) (he2 : e < 1000) (hp : prec ≤ 1048576) (hpos : ¬ 0 < prec) (hmag : mag e < 100) :
    Calls Yba.prog 6 #[v, .bool false, .slice (some ⟨db, doff, none⟩) nd cd, .int .i64 e, .int .i64 prec, .int .u8 letter] w fun r w' => ∃ v', r = .returned v' ∧ Own B w' v' (xs ++ bodyE false d0 ds e prec letter) ∧ Below B w w' := by
  have O0 : Hid (Own B w v xs) := hown
  have B0 : Hid (Below B w w) := Below.refl B w
  have HD : Hid (Digs w db doff nd cd d0 ds) := hD
  have hmb := mag_bd he1 he2
  have hnd := hD.len
  have HN : Hid (ds.length + 1 = nd) := hnd
  have hnd1 : 1 ≤ nd := by omega
  have hdsl : ds.length ≤ 1048576 := by have := hD.lim; omega
  have hcd := hD.cap
  have hlim := hD.lim
  have q0 : 0 < nd := by omega
  have q1 : (1 : Int) ≤ (nd : Int) := by omega
  have z0 : B ≤ w.heap.size := hB
  have cd0 : w.cell? ⟨db, doff, none⟩ = some (.int .u8 d0) := hD.cell 0 (by omega)
  have HB0 : Hid (0 ≤ mag e ∧ mag e < 1000) := hmb
  clear hown hD hnd
  go_enter Yba.func6, Yba.ntmps6
  go_wp2_with (first
    | (at_builtin; refine ap_ints _ rfl (.tmp 18) (.tmp 22) rfl B (by simp; omega) v (xs) rfl (O0.out.alloc _) ⟨w.heap.size, 0, none⟩ 1 1 [d0] rfl rfl (cells_new _ [d0]) (by simp; omega) ?_; intro v1 w1 o b; have O1 : Hid (Own B w1 v1 (xs ++ [d0])) := o; have B1 : Hid (Below B w w1) := (B0.out.alloc z0 _).trans b; have z1 : B ≤ w1.heap.size := Nat.le_trans hB B1.out.size; clear o b)
    | (go_at_call 11; go_must (refine (sign_any e _ he1 he2).mono ?_; rintro r w' ⟨rfl, hw⟩; obtain rfl := hw.symm))
    | (at_builtin; refine ap_ints _ rfl (.tmp 47) (.tmp 58) rfl B (by simp; omega) v1 (xs ++ [d0]) rfl (O1.out.alloc _) ⟨w1.heap.size, 0, none⟩ 4 4 [letter, sgn e, 48 + mag e / 10, 48 + mag e % 10] rfl rfl (cells_new _ [letter, sgn e, 48 + mag e / 10, 48 + mag e % 10]) (by simp; omega) ?_; intro v2 w2 o b; have O2 : Hid (Own B w2 v2 (xs ++ [d0] ++ [letter, sgn e, 48 + mag e / 10, 48 + mag e % 10])) := o; have B2 : Hid (Below B w w2) := (B1.out.alloc z1 _).trans b; have z2 : B ≤ w2.heap.size := Nat.le_trans hB B2.out.size; clear o b))
  all_goals
    go_ret
    refine ⟨_, rfl, ?_, B2.out⟩
    have hl := HN.out
    have e1 : (xs ++ [d0] ++ [letter, sgn e, 48 + mag e / 10, 48 + mag e % 10]) = xs ++ bodyE false d0 ds e prec letter := by
      unfold bodyE negL fracL expL
      rw [if_neg (show ¬ 0 < prec by omega), if_pos hmag]

      simp
    rw [← e1]
    exact O2.out

set_option maxRecDepth 100000 in
set_option maxHeartbeats 1600000 in
theorem appE010 (B : Nat) (v : Value) (xs : List Int) (db doff nd cd : Nat) (d0 : Int) (ds : List Int) (e prec letter : Int) (w : World) (hown : Own B w v xs) (hB : B ≤ w.heap.size) (hxs : xs.length ≤ 1048576)
    (hD : Digs w db doff nd cd d0 ds) (hdb : db < B) (he1 : -1000 < e) (he2 : e < 1000) (hp : prec ≤ 1048576) (hpos : 0 < prec) (hmag : 100 ≤ mag e) :
    Calls Yba.prog 6 #[v, .bool false, .slice (some ⟨db, doff, none⟩) nd cd, .int .i64 e, .int .i64 prec, .int .u8 letter] w fun r w' => ∃ v', r = .returned v' ∧ Own B w' v' (xs ++ bodyE false d0 ds e prec letter) ∧ Below B w w' := by
  have O0 : Hid (Own B w v xs) := hown
  have B0 : Hid (Below B w w) := Below.refl B w
  have HD : Hid (Digs w db doff nd cd d0 ds) := hD
  have hmb := mag_bd he1 he2
  have hnd := hD.len
  have HN : Hid (ds.length + 1 = nd) := hnd
  have hnd1 : 1 ≤ nd := by omega
  have hdsl : ds.length ≤ 1048576 := by have := hD.lim; omega
  have hcd := hD.cap
  have hlim := hD.lim
  have q0 : 0 < nd := by omega
  have q1 : (1 : Int) ≤ (nd : Int) := by omega
  have z0 : B ≤ w.heap.size := hB
  have cd0 : w.cell? ⟨db, doff, none⟩ = some (.int .u8 d0) := hD.cell 0 (by omega)
  have HB0 : Hid (0 ≤ mag e ∧ mag e < 1000) := hmb
  clear hown hD hnd
  go_enter Yba.func6, Yba.ntmps6
  go_wp2_with (first
    | (at_builtin; refine ap_ints _ rfl (.tmp 18) (.tmp 22) rfl B (by simp; omega) v (xs) rfl (O0.out.alloc _) ⟨w.heap.size, 0, none⟩ 1 1 [d0] rfl rfl (cells_new _ [d0]) (by simp; omega) ?_; intro v1 w1 o b; have O1 : Hid (Own B w1 v1 (xs ++ [d0])) := o; have B1 : Hid (Below B w w1) := (B0.out.alloc z0 _).trans b; have z1 : B ≤ w1.heap.size := Nat.le_trans hB B1.out.size; clear o b)
    | (at_builtin; refine ap_ints _ rfl (.tmp 26) (.tmp 27) rfl B (by simp; omega) v1 (xs ++ [d0]) rfl (O1.out.alloc _) ⟨w1.heap.size, 0, none⟩ 1 1 [46] rfl rfl (cells_new _ [46]) (by simp; omega) ?_; intro v2 w2 o b; have O2 : Hid (Own B w2 v2 (xs ++ [d0] ++ [46])) := o; have B2 : Hid (Below B w w2) := (B1.out.alloc z1 _).trans b; have z2 : B ≤ w2.heap.size := Nat.le_trans hB B2.out.size; clear o b)
    | (at_builtin; refine ap_src _ rfl (.tmp 29) (.tmp 31) rfl B z2 v2 (xs ++ [d0] ++ [46]) rfl O2.out _ _ _ ds rfl (tail_src HD.out B2.out hdb) (by simp; omega) ?_; intro v3 w3 o b; have O3 : Hid (Own B w3 v3 (xs ++ [d0] ++ [46] ++ ds)) := o; have B3 : Hid (Below B w w3) := B2.out.trans b; have z3 : B ≤ w3.heap.size := Nat.le_trans hB B3.out.size; clear o b)
    | (go_at_call 10; go_must (refine (zeros_any B v3 (xs ++ [d0] ++ [46] ++ ds) (prec - ((nd : Int) - 1)) _ O3.out z3 (by omega) (by omega) (by simp; omega)).mono ?_; rintro r w4 ⟨v4, rfl, o, b⟩; have O4 : Hid (Own B w4 v4 (xs ++ [d0] ++ [46] ++ ds ++ List.replicate (prec - ((nd : Int) - 1)).toNat 48)) := o; have B4 : Hid (Below B w w4) := B3.out.trans b; have z4 : B ≤ w4.heap.size := Nat.le_trans hB B4.out.size; clear o b))
    | (go_at_call 11; go_must (refine (sign_any e _ he1 he2).mono ?_; rintro r w' ⟨rfl, hw⟩; obtain rfl := hw.symm))
    | (at_builtin; refine ap_ints _ rfl (.tmp 60) (.tmp 76) rfl B (by simp; omega) v4 (xs ++ [d0] ++ [46] ++ ds ++ List.replicate (prec - ((nd : Int) - 1)).toNat 48) rfl (O4.out.alloc _) ⟨w4.heap.size, 0, none⟩ 5 5 [letter, sgn e, 48 + mag e / 100, 48 + mag e / 10 % 10, 48 + mag e % 10] rfl rfl (cells_new _ [letter, sgn e, 48 + mag e / 100, 48 + mag e / 10 % 10, 48 + mag e % 10]) (by simp; omega) ?_; intro v5 w5 o b; have O5 : Hid (Own B w5 v5 (xs ++ [d0] ++ [46] ++ ds ++ List.replicate (prec - ((nd : Int) - 1)).toNat 48 ++ [letter, sgn e, 48 + mag e / 100, 48 + mag e / 10 % 10, 48 + mag e % 10])) := o; have B5 : Hid (Below B w w5) := (B4.out.alloc z4 _).trans b; have z5 : B ≤ w5.heap.size := Nat.le_trans hB B5.out.size; clear o b))
  all_goals
    go_ret
    refine ⟨_, rfl, ?_, B5.out⟩
    have hl := HN.out
    have e1 : (xs ++ [d0] ++ [46] ++ ds ++ List.replicate (prec - ((nd : Int) - 1)).toNat 48 ++ [letter, sgn e, 48 + mag e / 100, 48 + mag e / 10 % 10, 48 + mag e % 10]) = xs ++ bodyE false d0 ds e prec letter := by
      unfold bodyE negL fracL expL
      rw [if_pos hpos, if_neg (show ¬ mag e < 100 by omega)]
      rw [show prec - ((nd : Int) - 1) = prec - ds.length by omega]
      simp
    rw [← e1]
    exact O5.out

set_option maxRecDepth 100000 in
set_option maxHeartbeats 1600000 in
theorem appE011 (B : Nat) (v : Value) (xs : List Int) (db doff nd cd : Nat) (d0 : Int) (ds : List Int) (e prec letter : Int) (w : World) (hown : Own B w v xs) (hB : B ≤ w.heap.size) (hxs : xs.length ≤ 1048576)
    (hD : Digs w db doff nd cd d0 ds) (hdb : db < B) (he1 : -1000 < e) (he2 : e < 1000) (hp : prec ≤ 1048576) (hpos : 0 < prec) (hmag : mag e < 100) :
    Calls Yba.prog 6 #[v, .bool false, .slice (some ⟨db, doff, none⟩) nd cd, .int .i64 e, .int .i64 prec, .int .u8 letter] w fun r w' => ∃ v', r = .returned v' ∧ Own B w' v' (xs ++ bodyE false d0 ds e prec letter) ∧ Below B w w' := by
  have O0 : Hid (Own B w v xs) := hown
  have B0 : Hid (Below B w w) := Below.refl B w
  have HD : Hid (Digs w db doff nd cd d0 ds) := hD
  have hmb := mag_bd he1 he2
  have hnd := hD.len
  have HN : Hid (ds.length + 1 = nd) := hnd
  have hnd1 : 1 ≤ nd := by omega
  have hdsl : ds.length ≤ 1048576 := by have := hD.lim; omega
  have hcd := hD.cap
  have hlim := hD.lim
  have q0 : 0 < nd := by omega
  have q1 : (1 : Int) ≤ (nd : Int) := by omega
  have z0 : B ≤ w.heap.size := hB
  have cd0 : w.cell? ⟨db, doff, none⟩ = some (.int .u8 d0) := hD.cell 0 (by omega)
  have HB0 : Hid (0 ≤ mag e ∧ mag e < 1000) := hmb
  clear hown hD hnd
  go_enter Yba.func6, Yba.ntmps6
  go_wp2_with (first
    | (at_builtin; refine ap_ints _ rfl (.tmp 18) (.tmp 22) rfl B (by simp; omega) v (xs) rfl (O0.out.alloc _) ⟨w.heap.size, 0, none⟩ 1 1 [d0] rfl rfl (cells_new _ [d0]) (by simp; omega) ?_; intro v1 w1 o b; have O1 : Hid (Own B w1 v1 (xs ++ [d0])) := o; have B1 : Hid (Below B w w1) := (B0.out.alloc z0 _).trans b; have z1 : B ≤ w1.heap.size := Nat.le_trans hB B1.out.size; clear o b)
    | (at_builtin; refine ap_ints _ rfl (.tmp 26) (.tmp 27) rfl B (by simp; omega) v1 (xs ++ [d0]) rfl (O1.out.alloc _) ⟨w1.heap.size, 0, none⟩ 1 1 [46] rfl rfl (cells_new _ [46]) (by simp; omega) ?_; intro v2 w2 o b; have O2 : Hid (Own B w2 v2 (xs ++ [d0] ++ [46])) := o; have B2 : Hid (Below B w w2) := (B1.out.alloc z1 _).trans b; have z2 : B ≤ w2.heap.size := Nat.le_trans hB B2.out.size; clear o b)
    | (at_builtin; refine ap_src _ rfl (.tmp 29) (.tmp 31) rfl B z2 v2 (xs ++ [d0] ++ [46]) rfl O2.out _ _ _ ds rfl (tail_src HD.out B2.out hdb) (by simp; omega) ?_; intro v3 w3 o b; have O3 : Hid (Own B w3 v3 (xs ++ [d0] ++ [46] ++ ds)) := o; have B3 : Hid (Below B w w3) := B2.out.trans b; have z3 : B ≤ w3.heap.size := Nat.le_trans hB B3.out.size; clear o b)
    | (go_at_call 10; go_must (refine (zeros_any B v3 (xs ++ [d0] ++ [46] ++ ds) (prec - ((nd : Int) - 1)) _ O3.out z3 (by omega) (by omega) (by simp; omega)).mono ?_; rintro r w4 ⟨v4, rfl, o, b⟩; have O4 : Hid (Own B w4 v4 (xs ++ [d0] ++ [46] ++ ds ++ List.replicate (prec - ((nd : Int) - 1)).toNat 48)) := o; have B4 : Hid (Below B w w4) := B3.out.trans b; have z4 : B ≤ w4.heap.size := Nat.le_trans hB B4.out.size; clear o b))
    | (go_at_call 11; go_must (refine (sign_any e _ he1 he2).mono ?_; rintro r w' ⟨rfl, hw⟩; obtain rfl := hw.symm))
    | (at_builtin; refine ap_ints _ rfl (.tmp 47) (.tmp 58) rfl B (by simp; omega) v4 (xs ++ [d0] ++ [46] ++ ds ++ List.replicate (prec - ((nd : Int) - 1)).toNat 48) rfl (O4.out.alloc _) ⟨w4.heap.size, 0, none⟩ 4 4 [letter, sgn e, 48 + mag e / 10, 48 + mag e % 10] rfl rfl (cells_new _ [letter, sgn e, 48 + mag e / 10, 48 + mag e % 10]) (by simp; omega) ?_; intro v5 w5 o b; have O5 : Hid (Own B w5 v5 (xs ++ [d0] ++ [46] ++ ds ++ List.replicate (prec - ((nd : Int) - 1)).toNat 48 ++ [letter, sgn e, 48 + mag e / 10, 48 + mag e % 10])) := o; have B5 : Hid (Below B w w5) := (B4.out.alloc z4 _).trans b; have z5 : B ≤ w5.heap.size := Nat.le_trans hB B5.out.size; clear o b))
  all_goals
    go_ret
    refine ⟨_, rfl, ?_, B5.out⟩
    have hl := HN.out
    have e1 : (xs ++ [d0] ++ [46] ++ ds ++ List.replicate (prec - ((nd : Int) - 1)).toNat 48 ++ [letter, sgn e, 48 + mag e / 10, 48 + mag e % 10]) = xs ++ bodyE false d0 ds e prec letter := by
      unfold bodyE negL fracL expL
      rw [if_pos hpos, if_pos hmag]
      rw [show prec - ((nd : Int) - 1) = prec - ds.length by omega]
      simp
    rw [← e1]
    exact O5.out

set_option maxRecDepth 100000 in
set_option maxHeartbeats 1600000 in
theorem appE100 (B : Nat) (v : Value) (xs : List Int) (db doff nd cd : Nat) (d0 : Int) (ds : List Int) (e prec letter : Int) (w : World) (hown : Own B w v xs) (hB : B ≤ w.heap.size) (hxs : xs.length ≤ 1048576)
    (hD : Digs w db doff nd cd d0 ds) (hdb : db < B) (he1 : -1000 < e) (he2 : e < 1000) (hp : prec ≤ 1048576) (hpos : ¬ 0 < prec) (hmag : 100 ≤ mag e) :
    Calls Yba.prog 6 #[v, .bool true, .slice (some ⟨db, doff, none⟩) nd cd, .int .i64 e, .int .i64 prec, .int .u8 letter] w fun r w' => ∃ v', r = .returned v' ∧ Own B w' v' (xs ++ bodyE true d0 ds e prec letter) ∧ Below B w w' := by
  have O0 : Hid (Own B w v xs) := hown
  have B0 : Hid (Below B w w) := Below.refl B w
  have HD : Hid (Digs w db doff nd cd d0 ds) := hD
  have hmb := mag_bd he1 he2
  have hnd := hD.len
  have HN : Hid (ds.length + 1 = nd) := hnd
  have hnd1 : 1 ≤ nd := by omega
  have hdsl : ds.length ≤ 1048576 := by have := hD.lim; omega
  have hcd := hD.cap
  have hlim := hD.lim
  have q0 : 0 < nd := by omega
  have q1 : (1 : Int) ≤ (nd : Int) := by omega
  have z0 : B ≤ w.heap.size := hB
  have cd0 : w.cell? ⟨db, doff, none⟩ = some (.int .u8 d0) := hD.cell 0 (by omega)
  have HB0 : Hid (0 ≤ mag e ∧ mag e < 1000) := hmb
  clear hown hD hnd
  go_enter Yba.func6, Yba.ntmps6
  go_wp2_with (first
    | (at_builtin; refine ap_ints _ rfl (.tmp 15) (.tmp 16) rfl B (by simp; omega) v (xs) rfl (O0.out.alloc _) ⟨w.heap.size, 0, none⟩ 1 1 [45] rfl rfl (cells_new _ [45]) (by simp; omega) ?_; intro v1 w1 o b; have O1 : Hid (Own B w1 v1 (xs ++ [45])) := o; have B1 : Hid (Below B w w1) := (B0.out.alloc z0 _).trans b; have z1 : B ≤ w1.heap.size := Nat.le_trans hB B1.out.size; have cd1 : w1.cell? ⟨db, doff, none⟩ = some (.int .u8 d0) := (B1.out.cell (p := ⟨db, doff, none⟩) hdb).trans cd0; clear o b)
    | (at_builtin; refine ap_ints _ rfl (.tmp 18) (.tmp 22) rfl B (by simp; omega) v1 (xs ++ [45]) rfl (O1.out.alloc _) ⟨w1.heap.size, 0, none⟩ 1 1 [d0] rfl rfl (cells_new _ [d0]) (by simp; omega) ?_; intro v2 w2 o b; have O2 : Hid (Own B w2 v2 (xs ++ [45] ++ [d0])) := o; have B2 : Hid (Below B w w2) := (B1.out.alloc z1 _).trans b; have z2 : B ≤ w2.heap.size := Nat.le_trans hB B2.out.size; clear o b)
    | (go_at_call 11; go_must (refine (sign_any e _ he1 he2).mono ?_; rintro r w' ⟨rfl, hw⟩; obtain rfl := hw.symm))
    | (at_builtin; refine ap_ints _ rfl (.tmp 60) (.tmp 76) rfl B (by simp; omega) v2 (xs ++ [45] ++ [d0]) rfl (O2.out.alloc _) ⟨w2.heap.size, 0, none⟩ 5 5 [letter, sgn e, 48 + mag e / 100, 48 + mag e / 10 % 10, 48 + mag e % 10] rfl rfl (cells_new _ [letter, sgn e, 48 + mag e / 100, 48 + mag e / 10 % 10, 48 + mag e % 10]) (by simp; omega) ?_; intro v3 w3 o b; have O3 : Hid (Own B w3 v3 (xs ++ [45] ++ [d0] ++ [letter, sgn e, 48 + mag e / 100, 48 + mag e / 10 % 10, 48 + mag e % 10])) := o; have B3 : Hid (Below B w w3) := (B2.out.alloc z2 _).trans b; have z3 : B ≤ w3.heap.size := Nat.le_trans hB B3.out.size; clear o b))
  all_goals
    go_ret
    refine ⟨_, rfl, ?_, B3.out⟩
    have hl := HN.out
    have e1 : (xs ++ [45] ++ [d0] ++ [letter, sgn e, 48 + mag e / 100, 48 + mag e / 10 % 10, 48 + mag e % 10]) = xs ++ bodyE true d0 ds e prec letter := by
      unfold bodyE negL fracL expL
      rw [if_neg (show ¬ 0 < prec by omega), if_neg (show ¬ mag e < 100 by omega)]

      simp
    rw [← e1]
    exact O3.out

set_option maxRecDepth 100000 in
set_option maxHeartbeats 1600000 in
theorem appE101 (B : Nat) (v : Value) (xs : List Int) (db doff nd cd : Nat) (d0 : Int) (ds : List Int) (e prec letter : Int) (w : World) (hown : Own B w v xs) (hB : B ≤ w.heap.size) (hxs : xs.length ≤ 1048576)
    (hD : Digs w db doff nd cd d0 ds) (hdb : db < B) (he1 : -1000 < e) (he2 : e < 1000) (hp : prec ≤ 1048576) (hpos : ¬ 0 < prec) (hmag : mag e < 100) :
    Calls Yba.prog 6 #[v, .bool true, .slice (some ⟨db, doff, none⟩) nd cd, .int .i64 e, .int .i64 prec, .int .u8 letter] w fun r w' => ∃ v', r = .returned v' ∧ Own B w' v' (xs ++ bodyE true d0 ds e prec letter) ∧ Below B w w' := by
  have O0 : Hid (Own B w v xs) := hown
  have B0 : Hid (Below B w w) := Below.refl B w
  have HD : Hid (Digs w db doff nd cd d0 ds) := hD
  have hmb := mag_bd he1 he2
  have hnd := hD.len
  have HN : Hid (ds.length + 1 = nd) := hnd
  have hnd1 : 1 ≤ nd := by omega
  have hdsl : ds.length ≤ 1048576 := by have := hD.lim; omega
  have hcd := hD.cap
  have hlim := hD.lim
  have q0 : 0 < nd := by omega
  have q1 : (1 : Int) ≤ (nd : Int) := by omega
  have z0 : B ≤ w.heap.size := hB
  have cd0 : w.cell? ⟨db, doff, none⟩ = some (.int .u8 d0) := hD.cell 0 (by omega)
  have HB0 : Hid (0 ≤ mag e ∧ mag e < 1000) := hmb
  clear hown hD hnd
  go_enter Yba.func6, Yba.ntmps6
  go_wp2_with (first
    | (at_builtin; refine ap_ints _ rfl (.tmp 15) (.tmp 16) rfl B (by simp; omega) v (xs) rfl (O0.out.alloc _) ⟨w.heap.size, 0, none⟩ 1 1 [45] rfl rfl (cells_new _ [45]) (by simp; omega) ?_; intro v1 w1 o b; have O1 : Hid (Own B w1 v1 (xs ++ [45])) := o; have B1 : Hid (Below B w w1) := (B0.out.alloc z0 _).trans b; have z1 : B ≤ w1.heap.size := Nat.le_trans hB B1.out.size; have cd1 : w1.cell? ⟨db, doff, none⟩ = some (.int .u8 d0) := (B1.out.cell (p := ⟨db, doff, none⟩) hdb).trans cd0; clear o b)
    | (at_builtin; refine ap_ints _ rfl (.tmp 18) (.tmp 22) rfl B (by simp; omega) v1 (xs ++ [45]) rfl (O1.out.alloc _) ⟨w1.heap.size, 0, none⟩ 1 1 [d0] rfl rfl (cells_new _ [d0]) (by simp; omega) ?_; intro v2 w2 o b; have O2 : Hid (Own B w2 v2 (xs ++ [45] ++ [d0])) := o; have B2 : Hid (Below B w w2) := (B1.out.alloc z1 _).trans b; have z2 : B ≤ w2.heap.size := Nat.le_trans hB B2.out.size; clear o b)
    | (go_at_call 11; go_must (refine (sign_any e _ he1 he2).mono ?_; rintro r w' ⟨rfl, hw⟩; obtain rfl := hw.symm))
    | (at_builtin; refine ap_ints _ rfl (.tmp 47) (.tmp 58) rfl B (by simp; omega) v2 (xs ++ [45] ++ [d0]) rfl (O2.out.alloc _) ⟨w2.heap.size, 0, none⟩ 4 4 [letter, sgn e, 48 + mag e / 10, 48 + mag e % 10] rfl rfl (cells_new _ [letter, sgn e, 48 + mag e / 10, 48 + mag e % 10]) (by simp; omega) ?_; intro v3 w3 o b; have O3 : Hid (Own B w3 v3 (xs ++ [45] ++ [d0] ++ [letter, sgn e, 48 + mag e / 10, 48 + mag e % 10])) := o; have B3 : Hid (Below B w w3) := (B2.out.alloc z2 _).trans b; have z3 : B ≤ w3.heap.size := Nat.le_trans hB B3.out.size; clear o b))
  all_goals
    go_ret
    refine ⟨_, rfl, ?_, B3.out⟩
    have hl := HN.out
    have e1 : (xs ++ [45] ++ [d0] ++ [letter, sgn e, 48 + mag e / 10, 48 + mag e % 10]) = xs ++ bodyE true d0 ds e prec letter := by
      unfold bodyE negL fracL expL
      rw [if_neg (show ¬ 0 < prec by omega), if_pos hmag]

      simp
    rw [← e1]
    exact O3.out

set_option maxRecDepth 100000 in
set_option maxHeartbeats 1600000 in
theorem appE110 (B : Nat) (v : Value) (xs : List Int) (db doff nd cd : Nat) (d0 : Int) (ds : List Int) (e prec letter : Int) (w : World) (hown : Own B w v xs) (hB : B ≤ w.heap.size) (hxs : xs.length ≤ 1048576)
    (hD : Digs w db doff nd cd d0 ds) (hdb : db < B) (he1 : -1000 < e) (he2 : e < 1000) (hp : prec ≤ 1048576) (hpos : 0 < prec) (hmag : 100 ≤ mag e) :
    Calls Yba.prog 6 #[v, .bool true, .slice (some ⟨db, doff, none⟩) nd cd, .int .i64 e, .int .i64 prec, .int .u8 letter] w fun r w' => ∃ v', r = .returned v' ∧ Own B w' v' (xs ++ bodyE true d0 ds e prec letter) ∧ Below B w w' := by
  have O0 : Hid (Own B w v xs) := hown
  have B0 : Hid (Below B w w) := Below.refl B w
  have HD : Hid (Digs w db doff nd cd d0 ds) := hD
  have hmb := mag_bd he1 he2
  have hnd := hD.len
  have HN : Hid (ds.length + 1 = nd) := hnd
  have hnd1 : 1 ≤ nd := by omega
  have hdsl : ds.length ≤ 1048576 := by have := hD.lim; omega
  have hcd := hD.cap
  have hlim := hD.lim
  have q0 : 0 < nd := by omega
  have q1 : (1 : Int) ≤ (nd : Int) := by omega
  have z0 : B ≤ w.heap.size := hB
  have cd0 : w.cell? ⟨db, doff, none⟩ = some (.int .u8 d0) := hD.cell 0 (by omega)
  have HB0 : Hid (0 ≤ mag e ∧ mag e < 1000) := hmb
  clear hown hD hnd
  go_enter Yba.func6, Yba.ntmps6
  go_wp2_with (first
    | (at_builtin; refine ap_ints _ rfl (.tmp 15) (.tmp 16) rfl B (by simp; omega) v (xs) rfl (O0.out.alloc _) ⟨w.heap.size, 0, none⟩ 1 1 [45] rfl rfl (cells_new _ [45]) (by simp; omega) ?_; intro v1 w1 o b; have O1 : Hid (Own B w1 v1 (xs ++ [45])) := o; have B1 : Hid (Below B w w1) := (B0.out.alloc z0 _).trans b; have z1 : B ≤ w1.heap.size := Nat.le_trans hB B1.out.size; have cd1 : w1.cell? ⟨db, doff, none⟩ = some (.int .u8 d0) := (B1.out.cell (p := ⟨db, doff, none⟩) hdb).trans cd0; clear o b)
    | (at_builtin; refine ap_ints _ rfl (.tmp 18) (.tmp 22) rfl B (by simp; omega) v1 (xs ++ [45]) rfl (O1.out.alloc _) ⟨w1.heap.size, 0, none⟩ 1 1 [d0] rfl rfl (cells_new _ [d0]) (by simp; omega) ?_; intro v2 w2 o b; have O2 : Hid (Own B w2 v2 (xs ++ [45] ++ [d0])) := o; have B2 : Hid (Below B w w2) := (B1.out.alloc z1 _).trans b; have z2 : B ≤ w2.heap.size := Nat.le_trans hB B2.out.size; clear o b)
    | (at_builtin; refine ap_ints _ rfl (.tmp 26) (.tmp 27) rfl B (by simp; omega) v2 (xs ++ [45] ++ [d0]) rfl (O2.out.alloc _) ⟨w2.heap.size, 0, none⟩ 1 1 [46] rfl rfl (cells_new _ [46]) (by simp; omega) ?_; intro v3 w3 o b; have O3 : Hid (Own B w3 v3 (xs ++ [45] ++ [d0] ++ [46])) := o; have B3 : Hid (Below B w w3) := (B2.out.alloc z2 _).trans b; have z3 : B ≤ w3.heap.size := Nat.le_trans hB B3.out.size; clear o b)
    | (at_builtin; refine ap_src _ rfl (.tmp 29) (.tmp 31) rfl B z3 v3 (xs ++ [45] ++ [d0] ++ [46]) rfl O3.out _ _ _ ds rfl (tail_src HD.out B3.out hdb) (by simp; omega) ?_; intro v4 w4 o b; have O4 : Hid (Own B w4 v4 (xs ++ [45] ++ [d0] ++ [46] ++ ds)) := o; have B4 : Hid (Below B w w4) := B3.out.trans b; have z4 : B ≤ w4.heap.size := Nat.le_trans hB B4.out.size; clear o b)
    | (go_at_call 10; go_must (refine (zeros_any B v4 (xs ++ [45] ++ [d0] ++ [46] ++ ds) (prec - ((nd : Int) - 1)) _ O4.out z4 (by omega) (by omega) (by simp; omega)).mono ?_; rintro r w5 ⟨v5, rfl, o, b⟩; have O5 : Hid (Own B w5 v5 (xs ++ [45] ++ [d0] ++ [46] ++ ds ++ List.replicate (prec - ((nd : Int) - 1)).toNat 48)) := o; have B5 : Hid (Below B w w5) := B4.out.trans b; have z5 : B ≤ w5.heap.size := Nat.le_trans hB B5.out.size; clear o b))
    | (go_at_call 11; go_must (refine (sign_any e _ he1 he2).mono ?_; rintro r w' ⟨rfl, hw⟩; obtain rfl := hw.symm))
    | (at_builtin; refine ap_ints _ rfl (.tmp 60) (.tmp 76) rfl B (by simp; omega) v5 (xs ++ [45] ++ [d0] ++ [46] ++ ds ++ List.replicate (prec - ((nd : Int) - 1)).toNat 48) rfl (O5.out.alloc _) ⟨w5.heap.size, 0, none⟩ 5 5 [letter, sgn e, 48 + mag e / 100, 48 + mag e / 10 % 10, 48 + mag e % 10] rfl rfl (cells_new _ [letter, sgn e, 48 + mag e / 100, 48 + mag e / 10 % 10, 48 + mag e % 10]) (by simp; omega) ?_; intro v6 w6 o b; have O6 : Hid (Own B w6 v6 (xs ++ [45] ++ [d0] ++ [46] ++ ds ++ List.replicate (prec - ((nd : Int) - 1)).toNat 48 ++ [letter, sgn e, 48 + mag e / 100, 48 + mag e / 10 % 10, 48 + mag e % 10])) := o; have B6 : Hid (Below B w w6) := (B5.out.alloc z5 _).trans b; have z6 : B ≤ w6.heap.size := Nat.le_trans hB B6.out.size; clear o b))
  all_goals
    go_ret
    refine ⟨_, rfl, ?_, B6.out⟩
    have hl := HN.out
    have e1 : (xs ++ [45] ++ [d0] ++ [46] ++ ds ++ List.replicate (prec - ((nd : Int) - 1)).toNat 48 ++ [letter, sgn e, 48 + mag e / 100, 48 + mag e / 10 % 10, 48 + mag e % 10]) = xs ++ bodyE true d0 ds e prec letter := by
      unfold bodyE negL fracL expL
      rw [if_pos hpos, if_neg (show ¬ mag e < 100 by omega)]
      rw [show prec - ((nd : Int) - 1) = prec - ds.length by omega]
      simp
    rw [← e1]
    exact O6.out

set_option maxRecDepth 100000 in
set_option maxHeartbeats 1600000 in
theorem appE111 (B : Nat) (v : Value) (xs : List Int) (db doff nd cd : Nat) (d0 : Int) (ds : List Int) (e prec letter : Int) (w : World) (hown : Own B w v xs) (hB : B ≤ w.heap.size) (hxs : xs.length ≤ 1048576)
    (hD : Digs w db doff nd cd d0 ds) (hdb : db < B) (he1 : -1000 < e) (he2 : e < 1000) (hp : prec ≤ 1048576) (hpos : 0 < prec) (hmag : mag e < 100) :
    Calls Yba.prog 6 #[v, .bool true, .slice (some ⟨db, doff, none⟩) nd cd, .int .i64 e, .int .i64 prec, .int .u8 letter] w fun r w' => ∃ v', r = .returned v' ∧ Own B w' v' (xs ++ bodyE true d0 ds e prec letter) ∧ Below B w w' := by
  have O0 : Hid (Own B w v xs) := hown
  have B0 : Hid (Below B w w) := Below.refl B w
  have HD : Hid (Digs w db doff nd cd d0 ds) := hD
  have hmb := mag_bd he1 he2
  have hnd := hD.len
  have HN : Hid (ds.length + 1 = nd) := hnd
  have hnd1 : 1 ≤ nd := by omega
  have hdsl : ds.length ≤ 1048576 := by have := hD.lim; omega
  have hcd := hD.cap
  have hlim := hD.lim
  have q0 : 0 < nd := by omega
  have q1 : (1 : Int) ≤ (nd : Int) := by omega
  have z0 : B ≤ w.heap.size := hB
  have cd0 : w.cell? ⟨db, doff, none⟩ = some (.int .u8 d0) := hD.cell 0 (by omega)
  have HB0 : Hid (0 ≤ mag e ∧ mag e < 1000) := hmb
  clear hown hD hnd
  go_enter Yba.func6, Yba.ntmps6
  go_wp2_with (first
    | (at_builtin; refine ap_ints _ rfl (.tmp 15) (.tmp 16) rfl B (by simp; omega) v (xs) rfl (O0.out.alloc _) ⟨w.heap.size, 0, none⟩ 1 1 [45] rfl rfl (cells_new _ [45]) (by simp; omega) ?_; intro v1 w1 o b; have O1 : Hid (Own B w1 v1 (xs ++ [45])) := o; have B1 : Hid (Below B w w1) := (B0.out.alloc z0 _).trans b; have z1 : B ≤ w1.heap.size := Nat.le_trans hB B1.out.size; have cd1 : w1.cell? ⟨db, doff, none⟩ = some (.int .u8 d0) := (B1.out.cell (p := ⟨db, doff, none⟩) hdb).trans cd0; clear o b)
    | (at_builtin; refine ap_ints _ rfl (.tmp 18) (.tmp 22) rfl B (by simp; omega) v1 (xs ++ [45]) rfl (O1.out.alloc _) ⟨w1.heap.size, 0, none⟩ 1 1 [d0] rfl rfl (cells_new _ [d0]) (by simp; omega) ?_; intro v2 w2 o b; have O2 : Hid (Own B w2 v2 (xs ++ [45] ++ [d0])) := o; have B2 : Hid (Below B w w2) := (B1.out.alloc z1 _).trans b; have z2 : B ≤ w2.heap.size := Nat.le_trans hB B2.out.size; clear o b)
    | (at_builtin; refine ap_ints _ rfl (.tmp 26) (.tmp 27) rfl B (by simp; omega) v2 (xs ++ [45] ++ [d0]) rfl (O2.out.alloc _) ⟨w2.heap.size, 0, none⟩ 1 1 [46] rfl rfl (cells_new _ [46]) (by simp; omega) ?_; intro v3 w3 o b; have O3 : Hid (Own B w3 v3 (xs ++ [45] ++ [d0] ++ [46])) := o; have B3 : Hid (Below B w w3) := (B2.out.alloc z2 _).trans b; have z3 : B ≤ w3.heap.size := Nat.le_trans hB B3.out.size; clear o b)
    | (at_builtin; refine ap_src _ rfl (.tmp 29) (.tmp 31) rfl B z3 v3 (xs ++ [45] ++ [d0] ++ [46]) rfl O3.out _ _ _ ds rfl (tail_src HD.out B3.out hdb) (by simp; omega) ?_; intro v4 w4 o b; have O4 : Hid (Own B w4 v4 (xs ++ [45] ++ [d0] ++ [46] ++ ds)) := o; have B4 : Hid (Below B w w4) := B3.out.trans b; have z4 : B ≤ w4.heap.size := Nat.le_trans hB B4.out.size; clear o b)
    | (go_at_call 10; go_must (refine (zeros_any B v4 (xs ++ [45] ++ [d0] ++ [46] ++ ds) (prec - ((nd : Int) - 1)) _ O4.out z4 (by omega) (by omega) (by simp; omega)).mono ?_; rintro r w5 ⟨v5, rfl, o, b⟩; have O5 : Hid (Own B w5 v5 (xs ++ [45] ++ [d0] ++ [46] ++ ds ++ List.replicate (prec - ((nd : Int) - 1)).toNat 48)) := o; have B5 : Hid (Below B w w5) := B4.out.trans b; have z5 : B ≤ w5.heap.size := Nat.le_trans hB B5.out.size; clear o b))
    | (go_at_call 11; go_must (refine (sign_any e _ he1 he2).mono ?_; rintro r w' ⟨rfl, hw⟩; obtain rfl := hw.symm))
    | (at_builtin; refine ap_ints _ rfl (.tmp 47) (.tmp 58) rfl B (by simp; omega) v5 (xs ++ [45] ++ [d0] ++ [46] ++ ds ++ List.replicate (prec - ((nd : Int) - 1)).toNat 48) rfl (O5.out.alloc _) ⟨w5.heap.size, 0, none⟩ 4 4 [letter, sgn e, 48 + mag e / 10, 48 + mag e % 10] rfl rfl (cells_new _ [letter, sgn e, 48 + mag e / 10, 48 + mag e % 10]) (by simp; omega) ?_; intro v6 w6 o b; have O6 : Hid (Own B w6 v6 (xs ++ [45] ++ [d0] ++ [46] ++ ds ++ List.replicate (prec - ((nd : Int) - 1)).toNat 48 ++ [letter, sgn e, 48 + mag e / 10, 48 + mag e % 10])) := o; have B6 : Hid (Below B w w6) := (B5.out.alloc z5 _).trans b; have z6 : B ≤ w6.heap.size := Nat.le_trans hB B6.out.size; clear o b))
  all_goals
    go_ret
    refine ⟨_, rfl, ?_, B6.out⟩
    have hl := HN.out
    have e1 : (xs ++ [45] ++ [d0] ++ [46] ++ ds ++ List.replicate (prec - ((nd : Int) - 1)).toNat 48 ++ [letter, sgn e, 48 + mag e / 10, 48 + mag e % 10]) = xs ++ bodyE true d0 ds e prec letter := by
      unfold bodyE negL fracL expL
      rw [if_pos hpos, if_pos hmag]
      rw [show prec - ((nd : Int) - 1) = prec - ds.length by omega]
      simp
    rw [← e1]
    exact O6.out

theorem appE_any (B : Nat) (v : Value) (xs : List Int) (neg : Bool) (db doff nd cd : Nat) (d0 : Int) (ds : List Int) (e prec letter : Int) (w : World) (hown : Own B w v xs) (hB : B ≤ w.heap.size) (hxs : xs.length ≤ 1048576)
    (hD : Digs w db doff nd cd d0 ds) (hdb : db < B) (he1 : -1000 < e) (he2 : e < 1000) (hp : prec ≤ 1048576) :
    Calls Yba.prog 6 #[v, .bool neg, .slice (some ⟨db, doff, none⟩) nd cd, .int .i64 e, .int .i64 prec, .int .u8 letter] w fun r w' => ∃ v', r = .returned v' ∧ Own B w' v' (xs ++ bodyE neg d0 ds e prec letter) ∧ Below B w w' := by
  by_cases hpos : 0 < prec <;> by_cases hm : mag e < 100 <;> cases neg
  · exact appE011 B v xs db doff nd cd d0 ds e prec letter w hown hB hxs hD hdb he1 he2 hp hpos hm
  · exact appE111 B v xs db doff nd cd d0 ds e prec letter w hown hB hxs hD hdb he1 he2 hp hpos hm
  · exact appE010 B v xs db doff nd cd d0 ds e prec letter w hown hB hxs hD hdb he1 he2 hp hpos (by omega)
  · exact appE110 B v xs db doff nd cd d0 ds e prec letter w hown hB hxs hD hdb he1 he2 hp hpos (by omega)
  · exact appE001 B v xs db doff nd cd d0 ds e prec letter w hown hB hxs hD hdb he1 he2 hp hpos hm
  · exact appE101 B v xs db doff nd cd d0 ds e prec letter w hown hB hxs hD hdb he1 he2 hp hpos hm
  · exact appE000 B v xs db doff nd cd d0 ds e prec letter w hown hB hxs hD hdb he1 he2 hp hpos (by omega)
  · exact appE100 B v xs db doff nd cd d0 ds e prec letter w hown hB hxs hD hdb he1 he2 hp hpos (by omega)
end Go.Proofs.Ybulkegru
