/-
  'Rows.LawS6647AWholeSaid' ('example.com/revwatch/revwatch/selector.LawS6647AWhole'), proved: the frame (after the frame of a law with slices); the walk: YbulkegqeSelMain.lean.
-/
import Derived.Test.YbulkegqeRows
import Derived.Test.YbulkegqeSelMain
import Derived.WalkKit
import Derived.ProofKit
import Derived.OpenShut
import Derived.ShutString
import Derived.ChangeOld
import Derived.Below
import Derived.SizedLaws
import Derived.Deep.Slices
import Derived.Deep.SlicePairs
import Derived.Lib.SmallJoins
namespace Go.Proofs.Ybulkegqe.lawS6647AWhole
open Go.ChangeShapes Go.WideShapes Go.ChangeAt Go.RowKit Go.Deep
set_option linter.unusedVariables false
set_option linter.unusedSimpArgs false

theorem own : ownKnob Yba.prog.godebug = none := by kernel_rfl
theorem laidOut : laidOutB Yba.prog = true := by kernel_rfl
theorem Yba.cells26 : Yba.prog.cellsOf 26 = 4 := by kernel_rfl
theorem Yba.cells34 : Yba.prog.cellsOf 34 = 2 := by kernel_rfl
theorem Yba.cells5 : Yba.prog.cellsOf 5 = 1 := by kernel_rfl
theorem Yba.cells24 : Yba.prog.cellsOf 24 = 1 := by kernel_rfl
theorem Yba.cells4 : Yba.prog.cellsOf 4 = 1 := by kernel_rfl
theorem Yba.bytes26 : Yba.prog.bytesOf 26 = 40 := by kernel_rfl
theorem Yba.bytes34 : Yba.prog.bytesOf 34 = 2 := by kernel_rfl
theorem Yba.bytes5 : Yba.prog.bytesOf 5 = 1 := by kernel_rfl

theorem u8_wf {x : Int} (h : (Lit.int .u8 x).wf = true) : 0 ≤ x ∧ x ≤ 255 := by
  have e1 : IntKind.u8.min = 0 := rfl
  have e2 : IntKind.u8.max = 255 := rfl
  simpa [Lit.wf, e1, e2] using h

theorem list4 {l : List Value} (h : l.length = 4) : ∃ a b c d, l = [a, b, c, d] := by
  match l, h with
  | [a, b, c, d], _ => exact ⟨a, b, c, d, rfl⟩

set_option maxRecDepth 100000 in
/-- One requirement, opened. -/
theorem open_req {H : Type} {enc : TypeId × Value → H} {W : World} {fuel : Nat} {cs : List Value} {d : DataW H} {ps : List MemPlace} (h : DataW.trod enc Yba.prog W 0 (fun _ => true) true fuel 26 cs = some (d, ps)) (hw : ∀ x ∈ d.weights Yba.prog 26, x ≤ reachBytes) :
    ∃ q : RQ, cs = [.int .u8 q.key, .slice q.va q.vn q.vc, .bool q.has, .bool q.no] ∧ q.ok W ∧ q.vn ≤ 140737488355328 := by
  obtain ⟨y0, y1, y2, y3, n, hx, hl, h0, h1, h2, h3⟩ := Joins.trod_struct4 Yba.underlying26 h
  rw [Yba.cells26] at hl
  obtain ⟨c0, c1, c2, c3, rfl⟩ := list4 hl
  simp only [Yba.cells5, Yba.cells24, Yba.cells4, List.drop_zero, List.drop_succ_cons, List.take_succ_cons, List.take_zero] at h0 h1 h2 h3
  obtain ⟨key, e0, _, w0⟩ := DataW.trod_int Yba.underlying5 h0
  obtain ⟨hs, e2, _⟩ := DataW.trod_bool Yba.underlying4 h2
  obtain ⟨no, e3, _⟩ := DataW.trod_bool Yba.underlying4 h3
  simp only [List.cons.injEq, and_true] at e0 e2 e3
  subst e0 e2 e3
  rcases open_ints Yba.underlying24 Yba.underlying5 Yba.cells5 h1 with ⟨e1, _⟩ | ⟨a, len, cap, zs, e1, _, hlc, hm, hz, hy, hcell, hwz⟩
  · simp only [List.cons.injEq, and_true] at e1
    subst e1
    exact ⟨⟨key, none, 0, 0, [], hs, no⟩, rfl, ⟨u8_wf w0, rfl, Nat.le_refl _, by simp, .inl rfl⟩, by simp⟩
  · simp only [List.cons.injEq, and_true] at e1
    subst e1
    simp only [if_true] at hz
    have hlen : (zs.take len).length = len := by rw [List.length_take]; omega
    have hbig : len ≤ 140737488355328 := by
      have hd : d = .agg [y0.1, y1.1, y2.1, y3.1] := congrArg Prod.fst hx
      have h4 := hw ((lits .u8 (zs.take len) : List (DataW H)).length + (lits .u8 (zs.drop len) : List (DataW H)).length) (by
        rw [hd, hy]
        simp [DataW.weights, Yba.underlying26, DataW.weightsEach, Yba.underlying24, Yba.bytes5])
      have h5 := reachBytes_lt
      have h6 : (lits .u8 (zs.take len) : List (DataW H)).length = len := by simp [lits]; omega
      omega
    refine ⟨⟨key, some a, len, cap, zs.take len, hs, no⟩, rfl, ⟨u8_wf w0, hlen, hlc, fun x hx => u8_wf (hwz x (List.mem_of_mem_take hx)), ?_⟩, hbig⟩
    by_cases hl0 : len = 0
    · exact .inl hl0
    · right
      have c0' := hcell 0 (by omega)
      obtain ⟨vb, vo, sp⟩ := a
      have hsp : sp = none := by simpa [Addr.add] using World.cell?_spot c0'
      subst hsp
      refine ⟨vb, vo, rfl, ?_, fun i hi => ?_⟩
      · have := World.block_lt_of_cell? W _ c0'
        simpa [Addr.add] using this
      · replace hi : i < len := hi
        have := hcell i (by omega)
        rw [Go.WideShapes.add_plain] at this
        rw [this]
        simp [List.getD, hi]

theorem mem_weightsAll {H : Type} {P : Program} {e : TypeId} : ∀ {l : List (DataW H)} {d : DataW H}, d ∈ l → ∀ n ∈ d.weights P e, n ∈ DataW.weightsAll P e l
  | d0 :: l, d, hd, n, hn => by
    simp only [DataW.weightsAll, List.mem_append]
    rcases List.mem_cons.1 hd with rfl | hd
    · exact .inl hn
    · exact .inr (mem_weightsAll hd n hn)
  | [], d, hd, _, _ => by simp at hd

/-- The requirements, opened. -/
theorem open_reqs {H : Type} {enc : TypeId × Value → H} {W : World} {fuel : Nat} {a : Option Addr} {len cap : Nat} {d : DataW H} {ps : List MemPlace} (h : DataW.trod enc Yba.prog W 0 (fun _ => true) true fuel 22 [.slice a len cap] = some (d, ps)) (hw : ∀ x ∈ d.weights Yba.prog 22, x ≤ reachBytes) :
    ∃ Q, InQ W a len cap Q ∧ len ≤ 140737488355328 ∧ ∀ q ∈ Q, q.vn ≤ 140737488355328 := by
  rcases open_slice Yba.underlying22 h with ⟨hcs, _⟩ | ⟨ad, l, c, m, n, D, Pl, hcs, _, hlc, hm, hmm, hx, hel⟩
  · simp only [List.cons.injEq, Value.slice.injEq, and_true] at hcs
    obtain ⟨rfl, rfl, rfl⟩ := hcs
    exact ⟨[], ⟨rfl, Nat.le_refl _, .inl rfl, by simp⟩, by omega, by simp⟩
  · simp only [List.cons.injEq, Value.slice.injEq, and_true] at hcs
    obtain ⟨rfl, rfl, rfl⟩ := hcs
    simp only [if_true] at hmm
    subst hmm
    have hd : d = .slice ((List.range len).map D) ((List.range (m - len)).map fun j => D (len + j)) := congrArg Prod.fst hx
    have hwe : ∀ i, i < len → ∀ x ∈ (D i).weights Yba.prog 26, x ≤ reachBytes := fun i hi x hxm => hw x (by
      rw [hd]
      simp only [DataW.weights, Yba.underlying22, List.mem_cons, List.mem_append]
      exact .inr (.inl (mem_weightsAll (List.mem_map.2 ⟨i, List.mem_range.2 hi, rfl⟩) x hxm)))
    have hbig : len ≤ 140737488355328 := by
      have h1 := hw ((len + (m - len)) * 40) (by rw [hd]; simp [DataW.weights, Yba.underlying22, Yba.bytes26])
      have h2 := reachBytes_lt
      omega
    have each : ∀ i, i < len → ∃ q : RQ, (W.cell? (ad.add (i * 4)) = some (.int .u8 q.key) ∧ W.cell? (ad.add (i * 4 + 1)) = some (.slice q.va q.vn q.vc) ∧ W.cell? (ad.add (i * 4 + 2)) = some (.bool q.has) ∧ W.cell? (ad.add (i * 4 + 3)) = some (.bool q.no)) ∧ q.ok W ∧ q.vn ≤ 140737488355328 := by
      intro i hi
      obtain ⟨cs', h1, h2⟩ := hel i (by omega)
      rw [Yba.cells26] at h1
      obtain ⟨_, _, hcell⟩ := World.cells?_some h1
      obtain ⟨q, rfl, hok, hq⟩ := open_req h2 (hwe i hi)
      refine ⟨q, ⟨?_, ?_, ?_, ?_⟩, hok, hq⟩
      · have := hcell 0 (by omega); rw [add_add] at this; exact this
      · have := hcell 1 (by omega); rw [add_add] at this; exact this
      · have := hcell 2 (by omega); rw [add_add] at this; exact this
      · have := hcell 3 (by omega); rw [add_add] at this; exact this
    obtain ⟨q, hq⟩ := @choose_lt RQ ⟨⟨0, none, 0, 0, [], false, false⟩⟩ _ _ each
    have hmem : ∀ x ∈ (List.range len).map q, ∃ i, i < len ∧ x = q i := fun x hx => by
      obtain ⟨i, hi, rfl⟩ := List.mem_map.1 hx
      exact ⟨i, List.mem_range.1 hi, rfl⟩
    refine ⟨(List.range len).map q, ⟨by simp, hlc, ?_, fun x hx => ?_⟩, hbig, fun x hx => ?_⟩
    · by_cases h0 : len = 0
      · exact .inl h0
      · right
        have c0 := (hq 0 (by omega)).1.1
        obtain ⟨b, off, sp⟩ := ad
        have hsp : sp = none := by simpa [Addr.add] using World.cell?_spot c0
        subst hsp
        refine ⟨b, off, rfl, ?_, fun j x hx => ?_⟩
        · have := World.block_lt_of_cell? W _ c0
          simpa [Addr.add] using this
        · have hj : j < len := by
            have := (List.getElem?_eq_some_iff.1 hx).1
            simpa using this
          have e : x = q j := by
            simp [hj] at hx
            exact hx.symm
          subst e
          obtain ⟨⟨e0, e1, e2, e3⟩, _⟩ := hq j hj
          rw [Go.WideShapes.add_plain] at e0 e1 e2 e3
          exact ⟨e0, e1, e2, e3⟩
    · obtain ⟨i, hi, rfl⟩ := hmem x hx
      exact (hq i hi).2.1
    · obtain ⟨i, hi, rfl⟩ := hmem x hx
      exact (hq i hi).2.2

/-- The labels, opened. -/
theorem open_labels {H : Type} {enc : TypeId × Value → H} {W : World} {fuel : Nat} {a : Option Addr} {len cap : Nat} {d : DataW H} {ps : List MemPlace} (h : DataW.trod enc Yba.prog W 0 (fun _ => true) true fuel 23 [.slice a len cap] = some (d, ps)) (hw : ∀ x ∈ d.weights Yba.prog 23, x ≤ reachBytes) :
    ∃ K V, InL W a len cap K V ∧ len ≤ 140737488355328 := by
  rcases open_slice_pairs Yba.underlying23 Yba.underlying34 Yba.cells34 rfl rfl Yba.cells5 Yba.cells5 h with ⟨hcs, _⟩ | ⟨ad, l, c, m, n, V0, V1, D0, D1, P0, P1, hcs, _, hlc, hm, hmm, hx, hel⟩
  · simp only [List.cons.injEq, Value.slice.injEq, and_true] at hcs
    obtain ⟨rfl, rfl, rfl⟩ := hcs
    exact ⟨fun _ => 0, fun _ => 0, ⟨Nat.le_refl _, .inl rfl, fun j hj => absurd hj (Nat.not_lt_zero _)⟩, by omega⟩
  · simp only [List.cons.injEq, Value.slice.injEq, and_true] at hcs
    obtain ⟨rfl, rfl, rfl⟩ := hcs
    simp only [if_true] at hmm
    subst hmm
    simp only [Prod.mk.injEq] at hx
    have hbig : len ≤ 140737488355328 := by
      have h1 := hw ((len + (m - len)) * 2) (by rw [hx.1]; simp [DataW.weights, Yba.underlying23, Yba.bytes34])
      have h2 := reachBytes_lt
      omega
    have each : ∀ i, i < len → ∃ kv : Int × Int, W.cell? (ad.add (i * 2)) = some (.int .u8 kv.1) ∧ W.cell? (ad.add (i * 2 + 1)) = some (.int .u8 kv.2) ∧ (0 ≤ kv.1 ∧ kv.1 ≤ 255) ∧ (0 ≤ kv.2 ∧ kv.2 ≤ 255) := by
      intro i hi
      obtain ⟨c0, c1, t0, t1⟩ := hel i (by omega)
      obtain ⟨k, e0, _, w0⟩ := DataW.trod_int Yba.underlying5 t0
      obtain ⟨v, e1, _, w1⟩ := DataW.trod_int Yba.underlying5 t1
      simp only [List.cons.injEq, and_true] at e0 e1
      rw [e0] at c0
      rw [e1] at c1
      exact ⟨(k, v), c0, c1, u8_wf w0, u8_wf w1⟩
    obtain ⟨q, hq⟩ := choose_lt each
    refine ⟨fun i => (q i).1, fun i => (q i).2, ⟨hlc, ?_, fun j hj => ⟨(hq j hj).2.2.1, (hq j hj).2.2.2⟩⟩, hbig⟩
    by_cases h0 : len = 0
    · exact .inl h0
    · right
      have c0 := (hq 0 (by omega)).1
      obtain ⟨b, off, sp⟩ := ad
      have hsp : sp = none := by simpa [Addr.add] using World.cell?_spot c0
      subst hsp
      refine ⟨b, off, rfl, ?_, fun j hj => ?_⟩
      · have := World.block_lt_of_cell? W _ c0
        simpa [Addr.add] using this
      · obtain ⟨e0, e1, _⟩ := hq j hj
        rw [Go.WideShapes.add_plain] at e0 e1
        exact ⟨e0, e1⟩

/-! ### THE ROW's STEP -/
set_option maxRecDepth 100000 in
theorem lifted (os : Os) (started : os.Started) (H : Type) (enc : TypeId × Value → H) :
    ReturnsInHanded {} Yba.checked os 3 .any (Rows.lawS6647AWholeSpec.pre6 enc Yba.prog Yba.f3 Rows.lawS6647AWholeRow.domain false) (Rows.lawS6647AWholeSpec.post enc Yba.prog Yba.f3 false true false false) := by
  refine returnsInHanded_of_change_sized (C := Yba.checked) own started (by kernel_rfl) Yba.func3
    (ChangeSpec.witness6 (enc := enc) (C := Yba.checked) false ⟨#[], #[.slice none 0 0, .slice none 0 0], []⟩ 8 (by kernel_rfl) (by kernel_rfl) (by kernel_rfl) (by kernel_rfl)) ?_
  intro W base args ds gs before hval0 hW hcnd hsz0 _
  have hval : ∀ (j : Nat) t v, Yba.f3.params[j]? = some t → args[j]? = some v → Value.okWide Yba.prog W .any base t v := hval0
  have hsz : (DataW.weightsEach Yba.prog (Yba.f3.params.toList ++ Rows.lawS6647AWholeSpec.plain.varTypes Yba.prog) (ds ++ gs)).all (· ≤ reachBytes) = true := hsz0
  have hW' := hW
  obtain ⟨p, q, hA0, hV, rfl, hfz, hnd⟩ := hW
  have hA : DataW.TrodAll enc Yba.prog W 0 (fun _ => true) true Yba.f3.params.toList args.toList ds p := hA0
  rw [Yba.params3] at hA hval hsz
  obtain ⟨v0, vs0, d0, ds0, p0, q0, hargs, rfl, rfl, h0, r0⟩ := trodAll_cons hA
  obtain ⟨v1, vs1, d1, ds1, p1, q1, rfl, rfl, rfl, h1, r1⟩ := trodAll_cons r0
  obtain ⟨rfl, rfl, rfl⟩ := trodAll_nil r1
  obtain rfl : args = #[v0, v1] := by cases args; simp_all
  obtain ⟨rfl, rfl⟩ := trodVars_none hV
  obtain ⟨a0, len0, cap0, rfl⟩ := okWide_slice Yba.underlying22 (hval 0 22 v0 rfl rfl)
  obtain ⟨a1, len1, cap1, rfl⟩ := okWide_slice Yba.underlying23 (hval 1 23 v1 rfl rfl)
  have k0 := h0
  have k1 := h1
  have lt0 : ∀ x ∈ p0, x.block < W.heap.size := by obtain ⟨m, hm⟩ := k0; exact DataW.trod_lt m _ _ _ hm
  have lt1 : ∀ x ∈ p1, x.block < W.heap.size := by obtain ⟨m, hm⟩ := k1; exact DataW.trod_lt m _ _ _ hm
  have hw0 : ∀ x ∈ d0.weights Yba.prog 22, x ≤ reachBytes := fun x hx => by
    have := List.all_eq_true.1 hsz x (DataW.weights_mem_each (j := 0) rfl rfl x hx)
    simpa using this
  have hw1 : ∀ x ∈ d1.weights Yba.prog 23, x ≤ reachBytes := fun x hx => by
    have := List.all_eq_true.1 hsz x (DataW.weights_mem_each (j := 1) rfl rfl x hx)
    simpa using this
  obtain ⟨Q, hQ, hn, hvn⟩ : ∃ Q, InQ W a0 len0 cap0 Q ∧ len0 ≤ 140737488355328 ∧ ∀ q ∈ Q, q.vn ≤ 140737488355328 := by
    obtain ⟨fuel, hf⟩ := h0
    exact open_reqs hf hw0
  obtain ⟨K, V, hL, hm⟩ : ∃ K V, InL W a1 len1 cap1 K V ∧ len1 ≤ 140737488355328 := by
    obtain ⟨fuel, hf⟩ := h1
    exact open_labels hf hw1
  clear hA0 hval0 hsz0
  refine (main_any a0 len0 cap0 Q a1 len1 cap1 K V W hQ hL hn hm hvn).mono fun e W' ⟨he, bel⟩ => ?_
  subst he
  exact ⟨_, rfl, _, _, _, [], _, [], hW', trodAll_mk1 (shut_bool Yba.underlying4 _), (trodAll_cons_mk (Below.trod laidOut (by kernel_rfl) (of_decide_eq_true (by kernel_rfl)) k0 bel lt0) (trodAll_cons_mk (Below.trod laidOut (by kernel_rfl) (of_decide_eq_true (by kernel_rfl)) k1 bel lt1) trodAll_mk0)), rfl, bel.frame _, fun h => by cases h⟩

theorem over : Rows.lawS6647AWholeRow.holds Yba.pinned (OpenSpec.ofChange Rows.lawS6647AWholeSpec) :=
  OpenClaim.holds_of_wide 3 Yba.f3 rfl rfl rfl rfl rfl rfl rfl ⟨rfl, rfl, rfl, rfl, rfl⟩ rfl rfl rfl rfl rfl (by kernel_rfl) Yba.func3 (by kernel_rfl)
    (of_decide_eq_true (by kernel_rfl)) (by unfold Func.isWrapper; first | (rw [if_pos (by decide +kernel)]; kernel_rfl) | (rw [if_neg (by decide +kernel)]; exact ⟨rfl, rfl⟩))
    (fun os started H enc _ => lifted os started H enc)

/-- ████ THE STATEMENT ████ -/
theorem proved : Rows.LawS6647AWholeSaid := over
#print axioms proved
end Go.Proofs.Ybulkegqe.lawS6647AWhole
