/-
  DERIVED. 'textLength', 'writeStrings'.
-/
import Derived.Test.YbulkegqeSelBuild
namespace Go.Proofs.Ybulkegqe.lawS6647AWhole
set_option linter.unusedVariables false
set_option linter.unusedSimpArgs false
open Go.RowKit

/-- The string that the map has at a key ("" where it has none). -/
def valD (D : DataW Unit) (k : Str) : Str := match D.atKey (.string k) (.lit (.string [])) with
  | .lit (.string s) => s
  | _ => []
abbrev SM (w : World) (mb n : Nat) (D : DataW Unit) : Prop := w.ownsMap Yba.prog 9 (plainElem Yba.prog 9) mb n D

theorem zero9' (w : World) : (zeroValue 9).run Yba.prog w = .ok (.string ⟨#[]⟩) w := by kernel_rfl
theorem plain_nil : plainElem (H := Unit) Yba.prog 9 (.string ⟨#[]⟩) = some (.lit (.string []), []) := plainElem_string Yba.underlying9 (by decide)

theorem val_of {D : DataW Unit} {k : Str} {v : Value} {ps : List MemPlace} (h : plainElem Yba.prog 9 v = some (D.atKey (.string k) (.lit (.string [])), ps)) : v = encStr (valD D k) := by
  obtain ⟨s, rfl, e, _⟩ := plainElem_string_inv Yba.underlying9 h
  have e1 : D.atKey (.string k) (.lit (.string [])) = .lit (.string s.data.toList) := congrArg Prod.fst e
  simp only [valD, e1, encStr]

/-- 'm[k]' on a map of strings. -/
theorem lookS (w : World) {ops : Array Oper} {rest : List Oper} {o : Oper} {a : Act} {Q : Exit → Act → World → Prop} (hg : o.guard = none) (m x : Operand) (hop : o.op = Op.lookup 32 m x false)
    (b n : Nat) (D : DataW Unit) (k : Str) (hm : a.eval m = .map (some b)) (hown : SM w b n D) (hx : a.eval x = encStr k) (hk : k.length ≤ maxLen)
    (hK : wpList Yba.prog ops Q rest (a.put o.dst (encStr (valD D k))) w) : wpList Yba.prog ops Q (o :: rest) a w := by
  refine wpList_plain hg fun K' hK' => ?_
  obtain ⟨v, ps, hrun, hv⟩ := hown.lookup law9 Yba.underlying32 (zero9' w) plain_nil (key9 k hk)
  obtain rfl := val_of hv
  unfold Oper.wp
  simp [execOp, hop, hm, hx, hrun, Result.andThen]
  exact hK' _ _ hK
/-- 'v, ok := m[k]' on a map of strings. -/
theorem lookS_ok (w : World) {ops : Array Oper} {rest : List Oper} {o : Oper} {a : Act} {Q : Exit → Act → World → Prop} (hg : o.guard = none) (m x : Operand) (hop : o.op = Op.lookup 32 m x true)
    (b n : Nat) (D : DataW Unit) (k : Str) (hm : a.eval m = .map (some b)) (hown : SM w b n D) (hx : a.eval x = encStr k) (hk : k.length ≤ maxLen)
    (hK : wpList Yba.prog ops Q rest (a.put o.dst (.tuple #[encStr (valD D k), .bool (Maps.has D (.string k))])) w) : wpList Yba.prog ops Q (o :: rest) a w := by
  refine wpList_plain hg fun K' hK' => ?_
  obtain ⟨v, ps, hrun, hv⟩ := hown.look_ok law9 Yba.underlying32 (zero9' w) plain_nil (key9 k hk)
  obtain rfl := val_of hv
  unfold Oper.wp
  simp [execOp, hop, hm, hx, hrun, Result.andThen]
  exact hK' _ _ hK

/-- The pairs of the names ts. -/
def pairs (D : DataW Unit) (ts : List Str) : List (Str × Str) := ts.map fun k => (k, valD D k)

theorem pairs_take (D : DataW Unit) (ts : List Str) (k : Nat) (hk : k < ts.length) : (pairs D ts).take (k + 1) = (pairs D ts).take k ++ [(ts.getD k [], valD D (ts.getD k []))] := by
  rw [List.take_add_one]
  simp [pairs, List.getD, hk]
theorem body_snoc (L : List (Str × Str)) (p : Str × Str) : body (L ++ [p]) = body L ++ p.1 ++ p.2 := by simp [body]
theorem body_take_le (L : List (Str × Str)) (k : Nat) : (body (L.take k)).length ≤ (body L).length := by
  have : body (L.take k ++ L.drop k) = body (L.take k) ++ body (L.drop k) := by simp [body, -List.take_append_drop]
  rw [List.take_append_drop] at this
  rw [this, List.length_append]
  omega
theorem offs_snoc : ∀ (s : Nat) (L : List (Str × Str)) (p : Str × Str), offs s (L ++ [p]) = offs s L ++ [s + (body L).length + p.1.length, s + (body L).length + p.1.length + p.2.length]
  | s, [], p => by simp [offs, body]
  | s, q :: L, p => by
    have e : (body (q :: L)).length = q.1.length + q.2.length + (body L).length := by simp [body]; omega
    rw [List.cons_append, offs, offs_snoc _ L p, offs, e]
    simp only [List.cons_append]
    congr 2
    simp only [Nat.add_assoc]

/-- The names' row and the map below B. -/
structure NM (w : World) (B : Nat) (mb n : Nat) (D : DataW Unit) (ng cap : Nat) (ts : List Str) : Prop where
  row : ∃ A, SRow A w (.slice (some ⟨ng, 0, none⟩) ts.length cap) ts
  map : SM w mb n D
  ngB : ng < B
  mbB : mb < B
  keyl : ∀ x ∈ ts, x.length ≤ maxLen
  num : ts.length ≤ 1000
  bod : (body (pairs D ts)).length ≤ 100000

theorem NM.below {w w' : World} {B mb n : Nat} {D : DataW Unit} {ng cap : Nat} {ts : List Str} (h : NM w B mb n D ng cap ts) (hb : Below B w w') : NM w' B mb n D ng cap ts := by
  obtain ⟨A, hr⟩ := h.row
  refine ⟨⟨A, ?_⟩, ?_, h.ngB, h.mbB, h.keyl, h.num, h.bod⟩
  · refine ⟨hr.1, ?_⟩
    rcases hr.2 with h2 | ⟨g, c, cur, hv, hg, hh, r⟩
    · exact .inl h2
    · refine .inr ⟨g, c, cur, hv, hg, ?_, r⟩
      simp only [Value.slice.injEq, Option.some.injEq, Addr.mk.injEq, and_true] at hv
      rw [hb.block g (by rw [← hv.1]; exact h.ngB)]
      exact hh
  · obtain ⟨es, clock, hbk, r⟩ := h.map
    exact ⟨es, clock, by rw [hb.block mb h.mbB]; exact hbk, r⟩
theorem NM.cell {w : World} {B mb n : Nat} {D : DataW Unit} {ng cap : Nat} {ts : List Str} (h : NM w B mb n D ng cap ts) {k : Nat} (hk : k < ts.length) : w.cell? ⟨ng, k, none⟩ = some (encStr (ts.getD k [])) ∧ ts.length ≤ cap ∧ (ts.getD k []).length ≤ maxLen := by
  obtain ⟨A, hr⟩ := h.row
  rcases hr.shape with ⟨h', _⟩ | ⟨g, c, hv, _, _, hc, _, hcell⟩
  · cases h'
  · simp only [Value.slice.injEq, Option.some.injEq, Addr.mk.injEq, and_true, true_and] at hv
    obtain ⟨rfl, rfl⟩ := hv
    refine ⟨(hcell k hk).1, hc, ?_⟩
    rw [show ts.getD k [] = ts[k] by simp [List.getD, hk]]
    exact h.keyl _ (List.getElem_mem hk)

set_option maxRecDepth 100000 in
set_option maxHeartbeats 1600000 in
theorem tlen_any (B mb n : Nat) (D : DataW Unit) (ng cap : Nat) (ts : List Str) (w : World) (h : NM w B mb n D ng cap ts) :
    Calls Yba.prog 23 #[.map (some mb), .slice (some ⟨ng, 0, none⟩) ts.length cap] w fun e w' => ∃ r : Nat, e = .returned (.int .i64 r) ∧ r ≤ 1048576 ∧ w' = w := by
  have H : Hid (NM w B mb n D ng cap ts) := h
  have hn := h.num
  have hbd := h.bod
  obtain ⟨t, et⟩ : ∃ t, t = ts.length := ⟨_, rfl⟩
  have HT : Hid (t = ts.length) := et
  rw [← et] at hn ⊢
  clear h et
  by_cases h0 : t = 0
  · subst h0
    go_enter Yba.func23, Yba.ntmps23
    go_wp2
    go_ret
    exact ⟨0, rfl, by omega, rfl⟩
  · have hb0 : ((t : Int) == 0) = false := by simp; omega
    have hpos : 0 < t := by omega
    clear h0
    go_enter Yba.func23, Yba.ntmps23
    go_wp2
    go_loopw [18, 5] (fun p p5 wr => ∃ k : Nat, p = .int .i64 k ∧ k ≤ t ∧ p5 = .int .i64 ((4 * (1 + 2 * t) + (body ((pairs D ts).take k)).length : Nat) : Int) ∧ wr = w) (fun p _ _ => t - (intOf p).toNat)
    case atStart => exact ⟨0, rfl, Nat.zero_le _, by simp [body], rfl⟩
    case round =>
      obtain ⟨k, rfl, hk, rfl, hw⟩ := hrel
      obtain rfl := hw.symm
      have hle := body_take_le (pairs D ts) k
      by_cases hlt : k < t
      · have hlt2 : k < ts.length := by have := HT.out; omega
        obtain ⟨ck, hcap, hkl⟩ := H.out.cell hlt2
        rw [← HT.out] at hcap
        have hstep : (body ((pairs D ts).take (k + 1))).length = (body ((pairs D ts).take k)).length + ((ts.getD k []).length + (valD D (ts.getD k [])).length) := by
          rw [pairs_take D ts k hlt2, body_snoc]; simp only [List.length_append]; omega
        have hle2 := body_take_le (pairs D ts) (k + 1)
        obtain ⟨s, hs⟩ : ∃ s, s = ts.getD k [] := ⟨_, rfl⟩
        rw [← hs] at ck hkl hstep
        obtain ⟨bl, hbl⟩ : ∃ x, x = (body ((pairs D ts).take k)).length := ⟨_, rfl⟩
        rw [← hbl] at hstep hle ⊢
        obtain ⟨bl2, hbl2⟩ : ∃ x, x = (body ((pairs D ts).take (k + 1))).length := ⟨_, rfl⟩
        rw [← hbl2] at hstep hle2
        have HKL : Hid (s.length ≤ maxLen) := hkl
        have HB2 : Hid (bl2 = (body ((pairs D ts).take (k + 1))).length) := hbl2
        obtain ⟨vs, hvs⟩ : ∃ v, v = valD D s := ⟨_, rfl⟩
        rw [← hvs] at hstep
        have HVS : Hid (vs = valD D s) := hvs
        have hsm : s.length + vs.length ≤ 100000 := by omega
        clear hs hbl hbl2 hkl hvs hlt2
        go_wp2_with (at_lookup; go_must (refine lookS _ rfl _ _ rfl mb n D s rfl H.out.map rfl HKL.out ?_; rw [← HVS.out]))
        refine ⟨⟨k + 1, by go_num, by omega, ?_, by first | rfl | trivial⟩, ?_⟩
        · rw [← HB2.out, hstep]; congr 1; omega
        · simp [intOf]; omega
      · obtain rfl : k = t := by omega
        go_wp2
        go_ret
        refine ⟨4 * (1 + 2 * k) + (body ((pairs D ts).take k)).length, rfl, ?_, rfl⟩
        omega

/-- 'writeWord' at an integer that the walk has reckoned. -/
theorem wword_int (B b : Nat) (v : Int) (n : Nat) (l : Str) (w : World) (hv : v = (n : Int)) (h : Bld B b l w) (hn : n ≤ 1048576) (hlen : l.length + 4 ≤ 1048576) (hBw : B ≤ w.heap.size) :
    Calls Yba.prog 49 #[.pointer (some ⟨b, 0, none⟩), .int .i64 v] w fun e w' => e = .returned (.tuple #[]) ∧ Bld B b (l ++ le4 n) w' ∧ Below B w w' := by
  subst hv
  exact wword_any B b n l w h hn hlen hBw
theorem encT_cons {L : List (Str × Str)} (h : L ≠ []) : encT L = le4 L.length ++ (offs (4 * (1 + 2 * L.length)) L).flatMap le4 ++ body L := by
  cases L with
  | nil => exact absurd rfl h
  | cons p M => rfl
theorem pairs_len (D : DataW Unit) (ts : List Str) : (pairs D ts).length = ts.length := by simp [pairs]

/-- What the builder holds behind k rounds of the first loop. -/
def hdr (D : DataW Unit) (ts : List Str) (k : Nat) : Str := le4 ts.length ++ (offs (4 * (1 + 2 * ts.length)) ((pairs D ts).take k)).flatMap le4
theorem hdr_len (D : DataW Unit) (ts : List Str) (k : Nat) : (hdr D ts k).length = 4 + 8 * (min k ts.length) := by
  rw [hdr, List.length_append, gflat_len le4 4 (fun _ => rfl), offs_len, List.length_take, pairs_len]
  simp [le4]
  omega
theorem hdr_step (D : DataW Unit) (ts : List Str) (k : Nat) (hk : k < ts.length) : hdr D ts (k + 1) = hdr D ts k ++ le4 (4 * (1 + 2 * ts.length) + (body ((pairs D ts).take k)).length + (ts.getD k []).length) ++ le4 (4 * (1 + 2 * ts.length) + (body ((pairs D ts).take k)).length + (ts.getD k []).length + (valD D (ts.getD k [])).length) := by
  unfold hdr
  rw [pairs_take D ts k hk, offs_snoc]
  simp

set_option maxRecDepth 100000 in
set_option maxHeartbeats 3200000 in
theorem wstrings_any (B b mb n : Nat) (D : DataW Unit) (ng cap : Nat) (ts : List Str) (w : World) (h : NM w B mb n D ng cap ts) (hb : Bld B b [] w) (hBw : B ≤ w.heap.size) :
    Calls Yba.prog 24 #[.pointer (some ⟨b, 0, none⟩), .map (some mb), .slice (some ⟨ng, 0, none⟩) ts.length cap] w fun e w' => e = .returned (.tuple #[]) ∧ Bld B b (encT (pairs D ts)) w' ∧ Below B w w' := by
  have H : Hid (NM w B mb n D ng cap ts) := h
  have HB0 : Hid (Bld B b [] w) := hb
  have hn := h.num
  have hbd := h.bod
  obtain ⟨t, et⟩ : ∃ t, t = ts.length := ⟨_, rfl⟩
  have HT : Hid (t = ts.length) := et
  rw [← et] at hn ⊢
  clear h et hb
  by_cases h0 : t = 0
  · have HZ : Hid (pairs D ts = []) := by
      have : ts = [] := List.eq_nil_of_length_eq_zero (by rw [← HT.out]; exact h0)
      rw [this]; rfl
    subst h0
    go_enter Yba.func24, Yba.ntmps24
    go_wp2
    refine bodyPost_ret (results_none rfl _ _ _) rfl ?_
    exact ⟨rfl, by rw [HZ.out]; exact HB0.out, Below.refl _ _⟩
  · have hb0 : ((t : Int) == 0) = false := by simp; omega
    have hpos : 0 < t := by omega
    clear h0
    go_enter Yba.func24, Yba.ntmps24
    go_wp2_with (go_at_call 49; go_must (refine (wword_any B b t [] _ HB0.out (by omega) (by simp) hBw).mono ?_; rintro e w1 ⟨rfl, h1, h2⟩; have HB1 : Hid (Bld B b ([] ++ le4 t) w1) := h1; have HBL1 : Hid (Below B w w1) := h2; clear h1 h2))
    go_loopw [25, 6] (fun p p6 wr => ∃ k : Nat, p = .int .i64 k ∧ k ≤ t ∧ p6 = .int .i64 ((4 * (1 + 2 * t) + (body ((pairs D ts).take k)).length : Nat) : Int) ∧ Bld B b (hdr D ts k) wr ∧ Below B w wr) (fun p _ _ => t - (intOf p).toNat)
    case atStart => exact ⟨0, rfl, Nat.zero_le _, by simp [body], by have := HB1.out; simpa [hdr, offs, ← HT.out] using this, HBL1.out⟩
    case round =>
      clear HB1 HBL1
      obtain ⟨k, rfl, hk, rfl, hB, hBl⟩ := hrel
      have HB : Hid (Bld B b (hdr D ts k) wr) := hB
      have HBL : Hid (Below B w wr) := hBl
      have hBw2 : B ≤ wr.heap.size := Nat.le_trans hBw hBl.size
      have hle := body_take_le (pairs D ts) k
      have HN : Hid (NM wr B mb n D ng cap ts) := H.out.below hBl
      clear hB hBl
      by_cases hlt : k < t
      · have hlt2 : k < ts.length := by have := HT.out; omega
        obtain ⟨ck, hcap, hkl⟩ := HN.out.cell hlt2
        rw [← HT.out] at hcap
        have hstep : (body ((pairs D ts).take (k + 1))).length = (body ((pairs D ts).take k)).length + (ts.getD k []).length + (valD D (ts.getD k [])).length := by
          rw [pairs_take D ts k hlt2, body_snoc]; simp only [List.length_append]
        have hle2 := body_take_le (pairs D ts) (k + 1)
        have hhs := hdr_step D ts k hlt2
        have hhl := hdr_len D ts k
        have hhl2 : (hdr D ts k).length ≤ 10000 := by rw [hhl]; have := HT.out; omega
        rw [← HT.out] at hhs
        obtain ⟨s, hs⟩ : ∃ s, s = ts.getD k [] := ⟨_, rfl⟩
        rw [← hs] at ck hkl hstep hhs
        obtain ⟨bl, hbl⟩ : ∃ x, x = (body ((pairs D ts).take k)).length := ⟨_, rfl⟩
        rw [← hbl] at hstep hle hhs ⊢
        obtain ⟨bl2, hbl2⟩ : ∃ x, x = (body ((pairs D ts).take (k + 1))).length := ⟨_, rfl⟩
        rw [← hbl2] at hstep hle2
        obtain ⟨vs, hvs⟩ : ∃ v, v = valD D s := ⟨_, rfl⟩
        rw [← hvs] at hstep hhs
        have HKL : Hid (s.length ≤ maxLen) := hkl
        have HB2 : Hid (bl2 = (body ((pairs D ts).take (k + 1))).length) := hbl2
        have HVS : Hid (vs = valD D s) := hvs
        have HHS : Hid (hdr D ts (k + 1) = hdr D ts k ++ le4 (4 * (1 + 2 * t) + bl + s.length) ++ le4 (4 * (1 + 2 * t) + bl + s.length + vs.length)) := hhs
        have HST : Hid (bl2 = bl + s.length + vs.length) := hstep
        have hsm : bl + s.length + vs.length ≤ 100000 := by omega
        have HHL : Hid ((hdr D ts k).length ≤ 10000) := hhl2
        clear hs hbl hbl2 hkl hvs hlt2 hhs hstep hle2 hhl hhl2
        go_wp2_with (first
          | (go_at_call 49; have KK := HBa; go_must (refine (wword_int B b _ (4 * (1 + 2 * t) + bl + s.length + vs.length) (hdr D ts k ++ le4 (4 * (1 + 2 * t) + bl + s.length)) _ (by omega) HBa.out (by omega) (by have := HHL.out; simp [le4]; omega) hBa).mono ?_; rintro e wb ⟨rfl, h3, h4⟩; have HBb : Hid (Bld B b (hdr D ts k ++ le4 (4 * (1 + 2 * t) + bl + s.length) ++ le4 (4 * (1 + 2 * t) + bl + s.length + vs.length)) wb) := h3; have HBLb : Hid (Below B w wb) := HBLa.out.trans h4; clear h3 h4))
          | (go_at_call 49; go_must (refine (wword_int B b _ (4 * (1 + 2 * t) + bl + s.length) (hdr D ts k) _ (by omega) HB.out (by omega) (by have := HHL.out; omega) hBw2).mono ?_; rintro e wa ⟨rfl, h1, h2⟩; have HBa : Hid (Bld B b (hdr D ts k ++ le4 (4 * (1 + 2 * t) + bl + s.length)) wa) := h1; have HBLa : Hid (Below B w wa) := HBL.out.trans h2; have hBa : B ≤ wa.heap.size := Nat.le_trans hBw2 h2.size; have HNa : Hid (NM wa B mb n D ng cap ts) := HN.out.below h2; clear h1 h2))
          | (at_lookup; go_must (refine lookS _ rfl _ _ rfl mb n D s rfl HNa.out.map rfl HKL.out ?_; rw [← HVS.out])))
        refine ⟨⟨k + 1, by go_num, by omega, ?_, by rw [HHS.out]; exact HBb.out, HBLb.out⟩, ?_⟩
        · rw [← HB2.out, HST.out]; congr 1; omega
        · simp [intOf]; omega
      · obtain rfl : k = t := by omega
        clear hle
        have HB' : Hid (Bld B b (hdr D ts ts.length ++ body ((pairs D ts).take 0)) wr) := by
          have h1 := HB.out
          rw [HT.out] at h1
          show Bld B b (hdr D ts ts.length ++ body ((pairs D ts).take 0)) wr
          simpa [body] using h1
        clear HB
        generalize ((4 * (1 + 2 * k) + (body ((pairs D ts).take k)).length : Nat) : Int) = z6
        go_wp2
        go_loopw [48] (fun p wr => ∃ j : Nat, p = .int .i64 j ∧ j ≤ k ∧ Bld B b (hdr D ts ts.length ++ body ((pairs D ts).take j)) wr ∧ Below B w wr) (fun p _ => k - (intOf p).toNat)
        case atStart => exact ⟨0, rfl, Nat.zero_le _, HB'.out, HBL.out⟩
        case round =>
          clear HB' HBL HN
          obtain ⟨j, rfl, hj, hB, hBl⟩ := hrel
          have HB : Hid (Bld B b (hdr D ts ts.length ++ body ((pairs D ts).take j)) wr) := hB
          have HBL : Hid (Below B w wr) := hBl
          have hBw3 : B ≤ wr.heap.size := Nat.le_trans hBw hBl.size
          have HN : Hid (NM wr B mb n D ng cap ts) := H.out.below hBl
          clear hB hBl
          have hhl := hdr_len D ts ts.length
          have HHL : Hid ((hdr D ts ts.length).length ≤ 10000) := by
            have := HT.out
            show (hdr D ts ts.length).length ≤ 10000
            omega
          clear hhl
          by_cases hlt : j < k
          · have hlt2 : j < ts.length := by have := HT.out; omega
            obtain ⟨ck, hcap, hkl⟩ := HN.out.cell hlt2
            rw [← HT.out] at hcap
            have hstep : body ((pairs D ts).take (j + 1)) = body ((pairs D ts).take j) ++ (ts.getD j []) ++ (valD D (ts.getD j [])) := by
              rw [pairs_take D ts j hlt2, body_snoc]
            have hle2 := body_take_le (pairs D ts) (j + 1)
            obtain ⟨s, hs⟩ : ∃ s, s = ts.getD j [] := ⟨_, rfl⟩
            rw [← hs] at ck hkl hstep
            obtain ⟨vs, hvs⟩ : ∃ v, v = valD D s := ⟨_, rfl⟩
            rw [← hvs] at hstep
            have HKL : Hid (s.length ≤ maxLen) := hkl
            have HVS : Hid (vs = valD D s) := hvs
            have HST : Hid (body ((pairs D ts).take (j + 1)) = body ((pairs D ts).take j) ++ s ++ vs) := hstep
            have HLE : Hid ((body ((pairs D ts).take j)).length + s.length + vs.length ≤ 100000) := by
              rw [hstep] at hle2
              simp only [List.length_append] at hle2
              show (body ((pairs D ts).take j)).length + s.length + vs.length ≤ 100000
              omega
            clear hs hkl hvs hlt2 hstep hle2
            go_wp2_with (first
              | (go_at_call 50; have KK := HBa; go_must (refine (wstr_any B b (hdr D ts ts.length ++ body ((pairs D ts).take j) ++ s) vs _ HBa.out (by have h1 := HHL.out; have h2 := HLE.out; simp only [List.length_append]; omega) hBa).mono ?_; rintro e wb ⟨rfl, h3, h4⟩; have HBb : Hid (Bld B b (hdr D ts ts.length ++ body ((pairs D ts).take j) ++ s ++ vs) wb) := h3; have HBLb : Hid (Below B w wb) := HBLa.out.trans h4; clear h3 h4))
              | (go_at_call 50; go_must (refine (wstr_any B b (hdr D ts ts.length ++ body ((pairs D ts).take j)) s _ HB.out (by have h1 := HHL.out; have h2 := HLE.out; simp only [List.length_append]; omega) hBw3).mono ?_; rintro e wa ⟨rfl, h1, h2⟩; have HBa : Hid (Bld B b (hdr D ts ts.length ++ body ((pairs D ts).take j) ++ s) wa) := h1; have HBLa : Hid (Below B w wa) := HBL.out.trans h2; have hBa : B ≤ wa.heap.size := Nat.le_trans hBw3 h2.size; have HNa : Hid (NM wa B mb n D ng cap ts) := HN.out.below h2; clear h1 h2))
              | (at_lookup; go_must (refine lookS _ rfl _ _ rfl mb n D s rfl HNa.out.map rfl HKL.out ?_; rw [← HVS.out])))
            refine ⟨⟨j + 1, by go_num, by omega, ?_, HBLb.out⟩, ?_⟩
            · rw [HST.out]
              have h1 := HBb.out
              simpa [List.append_assoc] using h1
            · simp [intOf]; omega
          · obtain rfl : j = k := by omega
            have HE : Hid (hdr D ts ts.length ++ body ((pairs D ts).take j) = encT (pairs D ts)) := by
              have hne : pairs D ts ≠ [] := by
                intro e
                have h1 := pairs_len D ts
                rw [e] at h1
                have h2 := HT.out
                simp at h1
                omega
              show hdr D ts ts.length ++ body ((pairs D ts).take j) = encT (pairs D ts)
              rw [encT_cons hne, HT.out, hdr, ← pairs_len D ts, List.take_length]
            go_wp2
            go_end0
            exact ⟨rfl, by rw [← HE.out]; exact HB.out, HBL.out⟩

end Go.Proofs.Ybulkegqe.lawS6647AWhole
