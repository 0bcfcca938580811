/-
  DERIVED. 'LawS6647AWhole': what the walk is told; its first loop.
-/
import Derived.Test.YbulkegqeSelMatch
import Derived.Test.YbulkegqeSelNewS
import Derived.Deep.CutBlock
import Derived.Deep.AppendLies
namespace Go.Proofs.Ybulkegqe.lawS6647AWhole
set_option linter.unusedVariables false
set_option linter.unusedSimpArgs false
open Go.RowKit
attribute [local go_sem ↓] Go.wp_at_zero Go.wp_at_succ

/-- A drawn requirement as it came in. -/
structure RQ where
  key : Int
  va : Option Addr
  vn : Nat
  vc : Nat
  vs : List Int
  has : Bool
  no : Bool
def RQ.ok (w : World) (q : RQ) : Prop := (0 ≤ q.key ∧ q.key ≤ 255) ∧ q.vs.length = q.vn ∧ q.vn ≤ q.vc ∧ (∀ x ∈ q.vs, 0 ≤ x ∧ x ≤ 255) ∧
  (q.vn = 0 ∨ ∃ vb vo, q.va = some ⟨vb, vo, none⟩ ∧ vb < w.heap.size ∧ ∀ i, i < q.vn → w.cell? ⟨vb, vo + i, none⟩ = some (.int .u8 (q.vs.getD i 0)))
def RQ.cells (w : World) (b o : Nat) (q : RQ) : Prop := w.cell? ⟨b, o, none⟩ = some (.int .u8 q.key) ∧ w.cell? ⟨b, o + 1, none⟩ = some (.slice q.va q.vn q.vc) ∧ w.cell? ⟨b, o + 2, none⟩ = some (.bool q.has) ∧ w.cell? ⟨b, o + 3, none⟩ = some (.bool q.no)
structure InQ (w : World) (a : Option Addr) (n c : Nat) (Q : List RQ) : Prop where
  len : Q.length = n
  cap : n ≤ c
  row : n = 0 ∨ ∃ b off, a = some ⟨b, off, none⟩ ∧ b < w.heap.size ∧ ∀ (j : Nat) (q : RQ), Q[j]? = some q → q.cells w b (off + j * 4)
  ok : ∀ q ∈ Q, q.ok w
structure InL (w : World) (a : Option Addr) (m c : Nat) (K V : Nat → Int) : Prop where
  cap : m ≤ c
  row : m = 0 ∨ ∃ b off, a = some ⟨b, off, none⟩ ∧ b < w.heap.size ∧ ∀ j, j < m → w.cell? ⟨b, off + j * 2, none⟩ = some (.int .u8 (K j)) ∧ w.cell? ⟨b, off + j * 2 + 1, none⟩ = some (.int .u8 (V j))
  ok : ∀ j, j < m → (0 ≤ K j ∧ K j ≤ 255) ∧ (0 ≤ V j ∧ V j ≤ 255)

theorem InQ.below {w w' : World} {a : Option Addr} {n c : Nat} {Q : List RQ} (h : InQ w a n c Q) (hb : Below w.heap.size w w') : InQ w' a n c Q := by
  refine ⟨h.len, h.cap, ?_, fun q hq => ?_⟩
  · rcases h.row with h0 | ⟨b, off, ha, hl, hc⟩
    · exact .inl h0
    · refine .inr ⟨b, off, ha, Nat.lt_of_lt_of_le hl hb.size, fun j q hq => ?_⟩
      obtain ⟨c0, c1, c2, c3⟩ := hc j q hq
      exact ⟨by rw [hb.cell hl]; exact c0, by rw [hb.cell hl]; exact c1, by rw [hb.cell hl]; exact c2, by rw [hb.cell hl]; exact c3⟩
  · obtain ⟨h1, h2, h3, h4, h5⟩ := h.ok q hq
    refine ⟨h1, h2, h3, h4, ?_⟩
    rcases h5 with h0 | ⟨vb, vo, ha, hl, hc⟩
    · exact .inl h0
    · exact .inr ⟨vb, vo, ha, Nat.lt_of_lt_of_le hl hb.size, fun i hi => by rw [hb.cell hl]; exact hc i hi⟩
theorem InL.below {w w' : World} {a : Option Addr} {m c : Nat} {K V : Nat → Int} (h : InL w a m c K V) (hb : Below w.heap.size w w') : InL w' a m c K V := by
  refine ⟨h.cap, ?_, h.ok⟩
  rcases h.row with h0 | ⟨b, off, ha, hl, hc⟩
  · exact .inl h0
  · exact .inr ⟨b, off, ha, Nat.lt_of_lt_of_le hl hb.size, fun j hj => ⟨by rw [hb.cell hl]; exact (hc j hj).1, by rw [hb.cell hl]; exact (hc j hj).2⟩⟩

theorem RQ.ok.below {w w' : World} {q : RQ} (h : q.ok w) (hb : Below w.heap.size w w') : q.ok w' := by
  obtain ⟨h1, h2, h3, h4, h5⟩ := h
  refine ⟨h1, h2, h3, h4, ?_⟩
  rcases h5 with h0 | ⟨vb, vo, ha, hl, hc⟩
  · exact .inl h0
  · exact .inr ⟨vb, vo, ha, Nat.lt_of_lt_of_le hl hb.size, fun i hi => by rw [hb.cell hl]; exact hc i hi⟩
theorem cells4 {w : World} {g : Nat} {x y z u : Value} {t : TypeId} (h : w.heap[g]? = some (.cells #[x, y, z, u] t (0, 0))) : w.cell? ⟨g, 0, none⟩ = some x ∧ w.cell? ⟨g, 1, none⟩ = some y ∧ w.cell? ⟨g, 2, none⟩ = some z ∧ w.cell? ⟨g, 3, none⟩ = some u := by
  refine ⟨?_, ?_, ?_, ?_⟩ <;> rw [cell_of_row _ _ _ _ _ _ h] <;> rfl
def sumV (Q : List RQ) : Nat := (Q.map (·.vn)).sum

theorem sumV_take (Q : List RQ) (i : Nat) (q : RQ) (h : Q[i]? = some q) : sumV (Q.take (i + 1)) = sumV (Q.take i) + q.vn := by
  unfold sumV
  rw [List.take_add_one, h]
  simp

theorem sumV_le (Q : List RQ) (i : Nat) : sumV (Q.take i) ≤ sumV Q := by
  have h1 : sumV (Q.take i ++ Q.drop i) = sumV (Q.take i) + sumV (Q.drop i) := by simp [sumV, -List.take_append_drop]
  rw [List.take_append_drop] at h1
  omega
theorem srow_new (w : World) (s : Str) : SRow 0 (w.alloc (.cells #[encStr s] 9)) (.slice (some ⟨w.heap.size, 0, none⟩) 1 1) [s] :=
  ⟨rfl, .inr ⟨w.heap.size, 1, #[encStr s], rfl, Nat.zero_le _, heap_alloc_new _ _, Nat.le_refl _, by unfold maxLen; omega, rfl, rfl⟩⟩
theorem srow_some {w : World} {B : Nat} {v : Value} {L : List Str} (h : SRow B w v L) (hL : L ≠ []) : ∃ g c, v = .slice (some ⟨g, 0, none⟩) L.length c := by
  rcases h.shape with ⟨_, h0⟩ | ⟨g, cap, hv, _⟩
  · exact absurd h0 hL
  · exact ⟨g, cap, hv⟩

/-- A requirement in the row that the law lays. -/
structure LE where
  r : LR
  v : Value
def lcells (e : LE) : List Value := [encStr e.r.key, e.v, .bool e.r.no]
def VOk (w : World) (B : Nat) (r : LR) (v : Value) : Prop := (r.vals = none ∧ v = .slice none 0 0) ∨ ∃ L g c, r.vals = some L ∧ v = .slice (some ⟨g, 0, none⟩) L.length c ∧ SRow B w v L ∧ Short L
structure LRI (B : Nat) (E : List LE) (lg cap : Nat) (wr : World) : Prop where
  row : wr.ownsRow B 31 3 (.slice (some ⟨lg, 0, none⟩) E.length cap) E.length (E.flatMap lcells)
  vals : ∀ e ∈ E, VOk wr B e.r e.v ∧ e.v.ownBlock ≠ some lg
def lrOf (q : RQ) : LR := ⟨keyS q.key, if q.has then some (q.vs.map valS) else none, q.no⟩

theorem VOk.lt {w : World} {B : Nat} {r : LR} {v : Value} (h : VOk w B r v) : ∀ k, v.ownBlock = some k → k < w.heap.size := by
  rcases h with ⟨_, rfl⟩ | ⟨L, g, c, _, _, hs, _⟩
  · intro k hk; cases hk
  · exact fun k hk => (hs.lt k hk).2
theorem VOk.kept {w w' : World} {B : Nat} {r : LR} {v : Value} {row : Option Nat} (h : VOk w B r v) (hg : w.grownBy w' row) (hne : v.ownBlock = none ∨ v.ownBlock ≠ row) : VOk w' B r v := by
  rcases h with h | ⟨L, g, c, h1, h2, hs, h3⟩
  · exact .inl h
  · exact .inr ⟨L, g, c, h1, h2, hs.kept hg hne, h3⟩
theorem VOk.below {w w' : World} {B : Nat} {r : LR} {v : Value} (h : VOk w B r v) (hb : Below w.heap.size w w') : VOk w' B r v := h.kept (grown_of_below hb none) (by cases v.ownBlock <;> simp)
theorem LRI.below {B : Nat} {E : List LE} {lg cap : Nat} {w w' : World} (h : LRI B E lg cap w) (hb : Below w.heap.size w w') : LRI B E lg cap w' :=
  ⟨h.row.kept (grown_of_below hb none) (by simp [Value.ownBlock]), fun e he => ⟨(h.vals e he).1.below hb, (h.vals e he).2⟩⟩
theorem LRI.push {B : Nat} {E : List LE} {lg cap g' cap' : Nat} {w1 w2 : World} {e : LE} (h : LRI B E lg cap w1) (ho : w2.ownsRow B 31 3 (.slice (some ⟨g', 0, none⟩) (E.length + 1) cap') (E.length + 1) (E.flatMap lcells ++ lcells e)) (hg : w1.grownBy w2 (some lg)) (hat : some lg = some g' ∨ g' = w1.heap.size)
    (hv : VOk w1 B e.r e.v) (hne : e.v.ownBlock ≠ some lg) : LRI B (E ++ [e]) g' cap' w2 := by
  have key : ∀ x : LE, VOk w1 B x.r x.v → x.v.ownBlock ≠ some lg → VOk w2 B x.r x.v ∧ x.v.ownBlock ≠ some g' := fun x hx hxn => by
    refine ⟨hx.kept hg (.inr hxn), fun e' => ?_⟩
    rcases hat with h' | h'
    · exact hxn (by rw [e', ← h'])
    · have := hx.lt g' e'
      omega
  refine ⟨?_, fun x hx => ?_⟩
  · rw [List.length_append, List.flatMap_append]
    simpa using ho
  · rcases List.mem_append.1 hx with hx | hx
    · exact key x (h.vals x hx).1 (h.vals x hx).2
    · simp at hx
      subst hx
      exact key x hv hne

theorem Yba.info31 : (Yba.prog.info? 31).map (fun i => (i.zero, i.size, i.bytes)) = some (some (.agg #[.string ByteArray.empty, .slice none 0 0, .bool false]), 3, 48) := by kernel_rfl
theorem keyS_short (k : Int) : (keyS k).length ≤ maxLen := by
  unfold keyS maxLen
  repeat' split
  all_goals simp
theorem valS_short (k : Int) : (valS k).length ≤ 3 := by
  unfold valS
  repeat' split
  all_goals simp
theorem keyS_mem (k : Int) : keyS k ∈ KEYS := by
  unfold keyS KEYS
  repeat' split
  all_goals simp

theorem LRI.reqs {B : Nat} {E : List LE} {lg cap : Nat} {w : World} (h : LRI B E lg cap w) (hk : ∀ e ∈ E, e.r.key.length ≤ maxLen) : Reqs w lg B (E.map (·.r)) (fun j => (E.getD j ⟨⟨[], none, false⟩, .slice none 0 0⟩).v) := by
  have hg : ∀ (j : Nat) (r : LR), (E.map (·.r))[j]? = some r → ∃ e, E[j]? = some e ∧ e.r = r ∧ E.getD j ⟨⟨[], none, false⟩, .slice none 0 0⟩ = e := fun j r hr => by
    rw [List.getElem?_map] at hr
    cases he : E[j]? with
    | none => rw [he] at hr; cases hr
    | some e => rw [he] at hr; exact ⟨e, rfl, by simpa using hr, by simp [List.getD, he]⟩
  refine ⟨fun j r hr => ?_, fun j r hr => ?_, fun r hr => ?_, (h.row.lt lg rfl).2⟩
  · obtain ⟨e, he, rfl, hd⟩ := hg j r hr
    have hlt := lt_of_get he
    have c : ∀ f, f < 3 → w.cell? ⟨lg, j * 3 + f, none⟩ = (lcells e)[f]? := fun f hf => by
      rw [h.row.cellAt _ (by omega), flat_get lcells 3 (fun _ => rfl) E j f e he hf]
    rw [hd]
    exact ⟨c 0 (by decide), c 1 (by decide), c 2 (by decide)⟩
  · obtain ⟨e, he, rfl, hd⟩ := hg j r hr
    rw [hd]
    exact (h.vals e (List.mem_of_getElem? he)).1
  · obtain ⟨e, he, rfl⟩ := List.mem_map.1 hr
    exact hk e he

/-- What the labels' map is good for. -/
structure MG (D : DataW Unit) : Prop where
  key : ∀ x, Maps.has D (.string x) = true → x ∈ KEYS
  val : ∀ x, (valD D x).length ≤ 3
theorem MG.nil : MG (.map []) := ⟨fun x h => by simp [Maps.has] at h, fun x => by simp [valD, DataW.atKey]⟩
theorem MG.put {D : DataW Unit} {w : World} {mb n : Nat} (h : MG D) (ho : SM w mb n D) (k v : Int) : MG (D.put (.string (keyS k)) (.lit (.string (valS v)))) := by
  refine ⟨fun x hx => ?_, fun x => ?_⟩
  · rw [has_put_str ho.isMap] at hx
    by_cases e : keyS k = x
    · rw [← e]; exact keyS_mem k
    · exact h.key x (by simpa [e] using hx)
  · unfold valD
    by_cases e : keyS k = x
    · subst e
      rw [Maps.atKey_put_same ho.isMap (by simp [WideAt.IsKeyLit])]
      exact valS_short v
    · rw [Maps.atKey_put_other (by intro h'; exact e (by cases h'; rfl))]
      exact h.val x

theorem contains_snoc (A : List Str) (x y : Str) : (A ++ [x]).contains y = (A.contains y || (x == y)) := by
  rw [Bool.eq_iff_iff]
  simp
  constructor
  · rintro (h | h)
    · exact .inl h
    · exact .inr h.symm
  · rintro (h | h)
    · exact .inl h
    · exact .inr h.symm
/-- What the map says of a key. -/
def fD (D : DataW Unit) (k : Str) : Option Str := if Maps.has D (.string k) then some (valD D k) else none

theorem gather_all (lg cap n : Nat) (E : List LE) (w : World) (B : Nat) (hLI : LRI B E lg cap w) (hn : E.length = n) (hn20 : n ≤ 1048576) (hcap : n ≤ cap) (hk : ∀ e ∈ E, e.r.key.length ≤ maxLen) (htot : tot (E.map (·.r)) ≤ 1048576) :
    Calls Yba.prog 7 #[.slice (some ⟨lg, 0, none⟩) n cap] w (GPost (E.map (·.r)) w) := by
  subst hn
  by_cases h0 : E = []
  · subst h0
    exact gather_nil _ cap w
  · have hp : 0 < E.length := List.length_pos_iff.2 h0
    have hl : (E.map (·.r)).length = E.length := by simp
    have := gather_any lg B cap (E.map (·.r)) _ w (hLI.reqs hk) (by omega) (by omega) (by omega) htot
    rwa [hl] at this
theorem tot_sum : ∀ (Q : List RQ), (∀ q ∈ Q, q.vs.length = q.vn) → tot (Q.map lrOf) ≤ sumV Q
  | [], _ => by simp [tot, sumV]
  | q :: Q, h => by
    have ih := tot_sum Q (fun x hx => h x (by simp [hx]))
    have h1 := h q (by simp)
    simp only [tot, sumV, List.map_cons, List.sum_cons] at ih ⊢
    have h2 : ((lrOf q).vals.getD []).length ≤ q.vn := by
      unfold lrOf
      cases q.has <;> simp [h1]
    omega
theorem Sel.mshape {w : World} {Xs : List X} {cv mv : Value} (h : Sel w Xs cv mv) : ∃ mo, mv = .map mo := by
  rcases h.map with ⟨_, h⟩ | ⟨mb, D, h, _⟩
  · exact ⟨none, h⟩
  · exact ⟨_, h⟩
theorem all_want {Q : List RQ} {Xs : List X} {L : List (Str × Str)} {D : DataW Unit} {want : Bool} (hP : PInv (Q.map lrOf) (Xs.map (·.g.c))) (hl : ∀ k, look L k = fD D k) (hw : want = (Q.all fun q => (lrOf q).holds (fD D (keyS q.key)))) : Xs.all (xh L) = want := by
  have h1 := hP.all (look L)
  rw [List.all_map, List.all_map] at h1
  rw [hw]
  refine Eq.trans h1 ?_
  congr 1
  funext q
  show (lrOf q).holds (look L (lrOf q).key) = _
  rw [hl]
  rfl

set_option maxRecDepth 100000 in
set_option maxHeartbeats 3200000 in
theorem main_any (a : Option Addr) (n c : Nat) (Q : List RQ) (a' : Option Addr) (m c' : Nat) (K V : Nat → Int) (w : World) (hQ : InQ w a n c Q) (hL : InL w a' m c' K V) (hn : n ≤ 140737488355328) (hm : m ≤ 140737488355328) (hvn : ∀ q ∈ Q, q.vn ≤ 140737488355328) :
    Calls Yba.prog 3 #[.slice a n c, .slice a' m c'] w fun e w' => e = .returned (.bool true) ∧ Below w.heap.size w w' := by
  have HQ : Hid (InQ w a n c Q) := hQ
  have HL : Hid (InL w a' m c' K V) := hL
  have HVN : Hid (∀ q ∈ Q, q.vn ≤ 140737488355328) := hvn
  have hcap := hQ.cap
  obtain ⟨i31, hi31, hz0, hz1, hz2⟩ := info_parts Yba.info31
  obtain ⟨i9, hi9, hy0, hy1, hy2⟩ := info_parts Yba.info9
  clear hQ hL hvn
  by_cases hbig : 1048576 < n + m
  · have g1 : ∀ x : Int, x = (n : Int) + (m : Int) → (1048576 < x) = True := fun x hx => eq_true (by omega)
    clear hbig
    go_enter Yba.func3, Yba.ntmps3
    go_wp2
    go_ret
    exact ⟨rfl, Below.refl _ _⟩
  · have g1 : ∀ x : Int, x = (n : Int) + (m : Int) → (1048576 < x) = False := fun x hx => eq_false (by omega)
    have hnm : n + m ≤ 1048576 := by omega
    clear hbig
    go_enter Yba.func3, Yba.ntmps3
    go_upto_block 0 with fail
    go_cut [5] (fun p wc => wc = w ∧ n + m + sumV Q ≤ 1048576)
    case first =>
      go_wp2
      go_loopw [33, 5] (fun p p5 wr => ∃ i t : Nat, p = .int .i64 i ∧ p5 = .int .i64 t ∧ i ≤ n ∧ t = n + m + sumV (Q.take i) ∧ t ≤ 1048576 ∧ wr = w) (fun p _ _ => n - (intOf p).toNat)
      case atStart => exact ⟨0, n + m, rfl, rfl, Nat.zero_le _, by simp [sumV], hnm, rfl⟩
      case round =>
        obtain ⟨i, t, rfl, rfl, hi, ht, htb, hw⟩ := hrel
        obtain rfl := hw.symm
        have HT : Hid (t = n + m + sumV (Q.take i)) := ht
        clear ht g1
        by_cases hlt : i < n
        · obtain ⟨q, hq⟩ : ∃ q, Q[i]? = some q := ⟨Q[i]'(by have := HQ.out.len; omega), by simp [HQ.out.len, hlt]⟩
          rcases HQ.out.row with h0 | ⟨b, off, rfl, hbl, hcells⟩
          · omega
          obtain ⟨k0, k1, k2, k3⟩ := hcells i q hq
          have hv := HVN.out q (List.mem_of_getElem? hq)
          have HTS : Hid (n + m + sumV (Q.take (i + 1)) = t + q.vn) := by
            show n + m + sumV (Q.take (i + 1)) = t + q.vn
            rw [sumV_take Q i q hq, HT.out]; omega
          obtain ⟨key, va, vn, vc, vs, has, no⟩ := q
          simp only at k0 k1 k2 k3 hv HTS
          clear hcells hq
          by_cases hov : 1048576 < t + vn
          · have g2 : ∀ x : Int, x = (t : Int) + (vn : Int) → (1048576 < x) = True := fun x hx => eq_true (by omega)
            clear hov
            go_wp2
            go_ret
            exact ⟨rfl, Below.refl _ _⟩
          · have g2 : ∀ x : Int, x = (t : Int) + (vn : Int) → (1048576 < x) = False := fun x hx => eq_false (by omega)
            go_wp2
            refine ⟨⟨i + 1, t + vn, by go_num, by go_num, by omega, HTS.out.symm, by omega, by first | rfl | trivial⟩, ?_⟩
            simp [intOf]; omega
        · obtain rfl : i = n := by omega
          go_wp2
          go_meet
          refine ⟨rfl, ?_⟩
          have h1 := HT.out
          rw [List.take_of_length_le (Nat.le_of_eq HQ.out.len)] at h1
          omega
    case rest =>
      obtain ⟨hw, hsum⟩ := hcut
      obtain rfl := hw.symm
      have HSUM : Hid (n + m + sumV Q ≤ 1048576) := hsum
      clear hsum g1
      have hn20 : n ≤ 1048576 := by omega
      go_upto_block 2 with (at_make; go_must (refine wpList_make_own _ rfl _ _ 27 rfl w.heap.size 31 i31 _ 3 Yba.underlying27 hi31 hz0 hz1 _ _ _ n rfl rfl rfl (by rw [hz2]; omega) (by unfold maxLen; omega) (Nat.le_refl _) ?_; intro w1 hrow1 hg1; have HB1 : Hid (Below w.heap.size w w1) := below_of_grown hg1; have HL1 : Hid (LRI w.heap.size [] w.heap.size n w1) := ⟨hrow1, fun e he => by simp at he⟩; clear hrow1 hg1))
      go_cut [7] (fun p7 wc => ∃ E lg cap, p7 = .slice (some ⟨lg, 0, none⟩) n cap ∧ n ≤ cap ∧ LRI w.heap.size E lg cap wc ∧ E.map (·.r) = Q.map lrOf ∧ Below w.heap.size w wc)
      case first =>
        go_wp2
        go_loopw [52, 7] (fun p p7 wr => ∃ (i : Nat) (E : List LE) (lg cap : Nat), p = .int .i64 i ∧ p7 = .slice (some ⟨lg, 0, none⟩) i cap ∧ i ≤ n ∧ LRI w.heap.size E lg cap wr ∧ E.map (·.r) = (Q.take i).map lrOf ∧ Below w.heap.size w wr) (fun p _ _ => n - (intOf p).toNat)
        case atStart => exact ⟨0, [], _, _, rfl, rfl, Nat.zero_le _, HL1.out, by simp, HB1.out⟩
        case round =>
          clear HL1 HB1
          obtain ⟨i, E, lg, cap, rfl, rfl, hi, hLI, hE, hB⟩ := hrel
          have HLI : Hid (LRI w.heap.size E lg cap wr) := hLI
          have HE : Hid (E.map (·.r) = (Q.take i).map lrOf) := hE
          have HB : Hid (Below w.heap.size w wr) := hB
          have HQr : Hid (InQ wr a n c Q) := HQ.out.below hB
          have HEL : Hid (E.length = i) := by
            have h1 := congrArg List.length hE
            simp only [List.length_map, List.length_take, HQ.out.len] at h1
            show E.length = i
            omega
          clear hLI hE hB
          by_cases hlt : i < n
          · obtain ⟨q, hq⟩ : ∃ q, Q[i]? = some q := ⟨Q[i]'(by have := HQ.out.len; omega), by simp [HQ.out.len, hlt]⟩
            rcases HQr.out.row with h0 | ⟨b, off, rfl, hbl, hcells⟩
            · omega
            obtain ⟨k0, k1, k2, k3⟩ := hcells i q hq
            have HQQ : Hid (Q[i]? = some q) := hq
            have HOK : Hid (q.ok wr) := HQr.out.ok q (List.mem_of_getElem? hq)
            clear hcells hq
            go_upto_region 16 with fail
            have HLI1 : Hid (LRI w.heap.size E lg cap (wr.alloc (.cells #[.int .u8 q.key, .slice q.va q.vn q.vc, .bool q.has, .bool q.no] 26))) := HLI.out.below (al1 _ _)
            have HRB : Hid ((wr.alloc (.cells #[.int .u8 q.key, .slice q.va q.vn q.vc, .bool q.has, .bool q.no] 26)).heap[wr.heap.size]? = some (.cells #[.int .u8 q.key, .slice q.va q.vn q.vc, .bool q.has, .bool q.no] 26 (0, 0))) := heap_alloc_new _ _
            have HB1 : Hid (Below w.heap.size w (wr.alloc (.cells #[.int .u8 q.key, .slice q.va q.vn q.vc, .bool q.has, .bool q.no] 26))) := HB.out.alloc HB.out.size _
            have HOK1 : Hid (q.ok (wr.alloc (.cells #[.int .u8 q.key, .slice q.va q.vn q.vc, .bool q.has, .bool q.no] 26))) := HOK.out.below (al1 _ _)
            have hlr : lg < wr.heap.size := (HLI.out.row.lt lg rfl).2
            obtain ⟨w1, hw1⟩ : ∃ x, x = wr.alloc (.cells #[.int .u8 q.key, .slice q.va q.vn q.vc, .bool q.has, .bool q.no] 26) := ⟨_, rfl⟩
            obtain ⟨rb, hrb⟩ : ∃ x, x = wr.heap.size := ⟨_, rfl⟩
            rw [← hw1] at HLI1 HRB HB1 HOK1
            rw [← hrb] at HRB hlr
            simp only [← hw1, ← hrb]
            clear hw1 hrb k0 k1 k2 k3 HLI HB HQr HOK
            obtain ⟨k0, k1, k2, k3⟩ := cells4 HRB.out
            go_upto_if 60 with fail
            go_cut [10, 11, 52] from 52 to 91 (fun p10 p11 p52 wc => p52 = .int .i64 i ∧ LRI w.heap.size E lg cap wc ∧ Below w.heap.size w wc ∧ wc.heap[rb]? = some (.cells #[.int .u8 q.key, .slice q.va q.vn q.vc, .bool q.has, .bool q.no] 26 (0, 0)) ∧ VOk wc w.heap.size (lrOf q) p10 ∧ p10.ownBlock ≠ some lg)
            case first =>
              obtain ⟨hs, ehs⟩ : ∃ b, b = q.has := ⟨_, rfl⟩
              have HHS : Hid (hs = q.has) := ehs
              rw [← ehs] at k2
              simp only [← ehs]
              clear ehs
              cases hs with
              | false =>
                go_wp2
                go_meet
                exact ⟨rfl, HLI1.out, HB1.out, HRB.out, .inl ⟨by simp [lrOf, ← HHS.out], rfl⟩, by simp [Value.ownBlock]⟩
              | true =>
                have hvn : q.vn ≤ 1048576 := by
                  have h1 := sumV_take Q i q HQQ.out
                  have h2 := sumV_le Q (i + 1)
                  have h3 := HSUM.out
                  omega
                have hvc : q.vn ≤ q.vc := HOK1.out.2.2.1
                have hrl : rb < w1.heap.size := (Array.getElem?_eq_some_iff.1 HRB.out).1
                go_upto_block 4 with (at_make; go_must (refine wpList_make_own _ rfl _ _ 28 rfl w1.heap.size 9 i9 _ 1 Yba.underlying28 hi9 hy0 hy1 _ _ _ q.vn rfl rfl rfl (by rw [hy2]; omega) (by unfold maxLen; omega) (Nat.le_refl _) ?_; intro w2 hrow2 hg2; have HS2 : Hid (SRow w1.heap.size w2 (.slice (some ⟨w1.heap.size, 0, none⟩) 0 q.vn) []) := hrow2; have HB2 : Hid (Below w1.heap.size w1 w2) := below_of_grown hg2; obtain ⟨d0, d1, d2, d3⟩ := cells4 (((below_of_grown hg2).block rb hrl).trans HRB.out); clear hrow2 hg2))
                go_wp2
                go_loopw [68, 10] (fun p p10 w3 => ∃ j g c2 : Nat, p = .int .i64 j ∧ p10 = .slice (some ⟨g, 0, none⟩) j c2 ∧ j ≤ q.vn ∧ SRow w1.heap.size w3 (.slice (some ⟨g, 0, none⟩) j c2) ((q.vs.take j).map valS) ∧ Below w1.heap.size w1 w3) (fun p _ _ => q.vn - (intOf p).toNat)
                case atStart => exact ⟨0, _, _, rfl, rfl, Nat.zero_le _, by simpa using HS2.out, HB2.out⟩
                case round =>
                  clear HS2 HB2 d0 d1 d2 d3
                  obtain ⟨j, g, c2, rfl, rfl, hj, hS, hBl⟩ := hrel
                  have HS : Hid (SRow w1.heap.size wr (.slice (some ⟨g, 0, none⟩) j c2) ((q.vs.take j).map valS)) := hS
                  have HBL : Hid (Below w1.heap.size w1 wr) := hBl
                  obtain ⟨d0, d1, d2, d3⟩ := cells4 ((hBl.block rb hrl).trans HRB.out)
                  have HOK2 : Hid (q.ok wr) := HOK1.out.below hBl
                  have hwz : w1.heap.size ≤ wr.heap.size := hBl.size
                  clear hS hBl
                  by_cases hlj : j < q.vn
                  · obtain ⟨vb, vo, hva, hvl, hvcell⟩ := HOK2.out.2.2.2.2.resolve_left (by omega)
                    have cj := hvcell j hlj
                    have hxl : j < q.vs.length := by have := HOK2.out.2.1; omega
                    have hx := HOK2.out.2.2.2.1 (q.vs.getD j 0) (by rw [show q.vs.getD j 0 = q.vs[j] by simp [List.getD, hxl]]; exact List.getElem_mem hxl)
                    have HST : Hid ((q.vs.take (j + 1)).map valS = (q.vs.take j).map valS ++ [valS (q.vs.getD j 0)]) := by
                      show (q.vs.take (j + 1)).map valS = _
                      rw [List.take_add_one, show q.vs[j]? = some (q.vs.getD j 0) by simp [List.getD, hxl], List.map_append]
                      rfl
                    have HLN : Hid (((q.vs.take j).map valS).length = j) := by
                      show ((q.vs.take j).map valS).length = j
                      rw [List.length_map, List.length_take]; omega
                    obtain ⟨xv, hxv⟩ : ∃ z, z = q.vs.getD j 0 := ⟨_, rfl⟩
                    rw [← hxv] at cj hx HST
                    rw [hva] at d1
                    clear hvcell hxv hxl hva
                    go_wp2_with (first
                      | (go_at_call 5; go_must (refine (val_any xv _ hx.1 hx.2).mono ?_; rintro e w4 ⟨rfl, hw4⟩; obtain rfl := hw4.symm))
                      | (at_builtin; go_must (refine ap_strs _ rfl _ _ rfl w1.heap.size (by simp; omega) (.slice (some ⟨g, 0, none⟩) j c2) ((q.vs.take j).map valS) rfl (SRow.kept HS.out (World.grownBy_alloc _ _ none) (by simp [Value.ownBlock])) 0 wr.heap.size 1 1 [valS xv] rfl (srow_new _ _) (by rw [HLN.out]; simp; omega) ?_; intro v' w4 ho4 hg4 hloc4; have HO4 : Hid (SRow w1.heap.size w4 v' ((q.vs.take j).map valS ++ [valS xv])) := ho4; obtain ⟨g4, c4, hv4⟩ := srow_some ho4 (by simp); have HB4 : Hid (Below w1.heap.size w1 w4) := (HBL.out.alloc hwz _).grown hg4 (by simp; omega) (fun k hk => (HS.out.lt k hk).1); rw [show ((q.vs.take j).map valS ++ [valS xv]).length = j + 1 by rw [List.length_append, HLN.out]; rfl] at hv4; subst hv4; clear ho4 hg4 hloc4)))
                    refine ⟨⟨j + 1, g4, c4, by go_num, rfl, by omega, by rw [HST.out]; exact HO4.out, HB4.out⟩, ?_⟩
                    simp [intOf]; omega
                  · obtain rfl : j = q.vn := by omega
                    go_wp2
                    go_meet
                    refine ⟨rfl, HLI1.out.below HBL.out, blw HB1.out HBL.out, (HBL.out.block rb hrl).trans HRB.out, .inr ⟨q.vs.map valS, g, c2, by simp [lrOf, ← HHS.out], ?_, ?_, ?_⟩, ?_⟩
                    · rw [List.length_map, HOK2.out.2.1]
                    · have h1 := HS.out
                      rw [← HOK2.out.2.1, List.take_length] at h1
                      rw [← HOK2.out.2.1]
                      exact SRow.low h1 HB1.out.size
                    · rw [short_mem]
                      intro x hx
                      obtain ⟨y, _, rfl⟩ := List.mem_map.1 hx
                      have := valS_short y
                      unfold maxLen
                      omega
                    · intro e
                      have h1 := (HS.out.lt g rfl).1
                      have h2 := Option.some.inj e
                      simp only at h2
                      omega
            case rest =>
              obtain ⟨rfl, hLc, hBc, hRc, hVc, hNc⟩ := hcut
              clear HLI1 HB1 HRB HOK1 k0 k1 k2 k3
              obtain ⟨xa, xn, xc, rfl⟩ : ∃ a n c, u10 = .slice a n c := by
                rcases hVc with ⟨_, h⟩ | ⟨L, g, c2, _, h, _⟩
                · exact ⟨_, _, _, h⟩
                · exact ⟨_, _, _, h⟩
              have HLc : Hid (LRI w.heap.size E lg cap (wc.alloc (.cells #[encStr (keyS q.key), .slice xa xn xc, .bool q.no] 31))) := hLc.below (al1 _ _)
              have HBc : Hid (Below w.heap.size w (wc.alloc (.cells #[encStr (keyS q.key), .slice xa xn xc, .bool q.no] 31))) := hBc.alloc hBc.size _
              have HVc : Hid (VOk (wc.alloc (.cells #[encStr (keyS q.key), .slice xa xn xc, .bool q.no] 31)) w.heap.size (lrOf q) (.slice xa xn xc)) := hVc.below (al1 _ _)
              have HNc : Hid ((Value.slice xa xn xc).ownBlock ≠ some lg) := hNc
              have HRc : Hid ((wc.alloc (.cells #[encStr (keyS q.key), .slice xa xn xc, .bool q.no] 31)).heap[rb]? = some (.cells #[.int .u8 q.key, .slice q.va q.vn q.vc, .bool q.has, .bool q.no] 26 (0, 0))) := alloc_keeps hRc
              have HROW : Hid ((wc.alloc (.cells #[encStr (keyS q.key), .slice xa xn xc, .bool q.no] 31)).ownsRow w.heap.size 31 3 (.slice (some ⟨lg, 0, none⟩) i cap) i (E.flatMap lcells)) := by have h1 := HLc.out.row; rw [HEL.out] at h1; exact h1
              have HNEW : Hid (∀ j u, (lcells ⟨lrOf q, .slice xa xn xc⟩)[j]? = some u → (wc.alloc (.cells #[encStr (keyS q.key), .slice xa xn xc, .bool q.no] 31)).cell? ((⟨wc.heap.size, 0, none⟩ : Addr).add j) = some u) := cells_new wc _ 31
              have HONE : Hid (∀ u ∈ lcells ⟨lrOf q, .slice xa xn xc⟩, u.oneCell' = true) := fun u hu => by simp [lcells] at hu; rcases hu with rfl | rfl | rfl <;> rfl
              have hkr : 0 ≤ q.key ∧ q.key ≤ 255 := (HQ.out.ok q (List.mem_of_getElem? HQQ.out)).1
              have hws : w.heap.size ≤ wc.heap.size := hBc.size
              obtain ⟨k0, k1, k2, k3⟩ := cells4 hRc
              have hnr : rb ≠ lg := by omega
              clear hLc hBc hRc hVc hNc
              go_upto_region 24 with fail
              go_region_held3 (fun w' => w'.cell? ⟨rb, 0, none⟩ = some (.int .u8 q.key) ∧ w'.cell? ⟨rb, 3, none⟩ = some (.bool q.no)) (first | go_keep | exact ⟨d0, d3⟩) (first
                | (go_at_call 6; refine (key_any q.key _ hkr.1 hkr.2).mono ?_; rintro e w4 ⟨rfl, hw4⟩; obtain rfl := hw4.symm)
                | (refine step_append_lies _ (by rfl) _ _ 27 (by rfl) w.heap.size 31 i31 _ 3 48 Yba.underlying27 hi31 hz0 hz1 hz2 (by rfl) (by decide) (.slice (some ⟨lg, 0, none⟩) i cap) i (E.flatMap lcells) (by rfl) HROW.out ⟨wc.heap.size, 0, none⟩ 1 1 (lcells ⟨lrOf q, .slice xa xn xc⟩) (by rfl) (by rfl) HNEW.out HONE.out (by decide) (by unfold maxLen; omega) (by omega) (by simp; omega) (wc.heap.size + 1) (by simp) ?_; intro g5 cap5 w5 ho5 hg5 hat5 hlt5; replace hg5 : (wc.alloc (.cells #[encStr (keyS q.key), .slice xa xn xc, .bool q.no] 31)).grownBy w5 (some lg) := ⟨hg5.os, hg5.tape, hg5.output, hg5.size, hg5.block⟩; obtain ⟨d0, d1, d2, d3⟩ := cells4 ((hg5.block rb (Array.getElem?_eq_some_iff.1 HRc.out).1 (fun e => hnr (Option.some.inj e))).trans HRc.out); have HL5 : Hid (LRI w.heap.size (E ++ [⟨lrOf q, .slice xa xn xc⟩]) g5 cap5 w5) := LRI.push HLc.out (by rw [HEL.out]; exact ho5) hg5 (hat5.imp id (fun e => by rw [e]; simp)) HVc.out HNc.out; have HB5 : Hid (Below w.heap.size w w5) := HBc.out.grown hg5 HBc.out.size (fun k hk => by cases hk; exact (HLc.out.row.lt lg rfl).1); clear ho5 hg5 hat5 hlt5))
              all_goals (
                go_wp2
                refine ⟨⟨i + 1, _, g5, cap5, by go_num, rfl, by omega, HL5.out, ?_, HB5.out⟩, ?_⟩
                · rw [List.map_append, HE.out, List.take_add_one, HQQ.out, List.map_append]
                  rfl
                · simp [intOf]; omega)
          · obtain rfl : i = n := by omega
            go_wp2
            go_meet
            refine ⟨E, lg, cap, rfl, ?_, HLI.out, ?_, HB.out⟩
            · have h1 := HLI.out.row
              rcases h1.2 with ⟨h2, _⟩ | ⟨g, c2, cur, hv, _, _, hc2, _⟩
              · cases h2
              · simp only [Value.slice.injEq] at hv
                have := HEL.out
                omega
            · rw [HE.out, List.take_of_length_le (Nat.le_of_eq HQ.out.len)]
      case rest =>
        obtain ⟨E, lg, cap, rfl, hcn, hLI, hE, hB⟩ := hcut
        have HLI : Hid (LRI w.heap.size E lg cap wc) := hLI
        have HE : Hid (E.map (·.r) = Q.map lrOf) := hE
        have HB : Hid (Below w.heap.size w wc) := hB
        have HQ2 : Hid (InQ wc a n c Q) := HQ.out.below hB
        have HL2 : Hid (InL wc a' m c' K V) := HL.out.below hB
        have hcl := HL.out.cap
        clear hLI hE hB HL1 HB1
        have hmm := @run_makeMap Yba.prog
        go_upto_block 6 with fail
        have HSM0 : Hid (SM (wc.alloc (.map #[] 0)) wc.heap.size 0 (.map [])) := World.ownsMap_made _ _ _ _
        have HB3 : Hid (Below wc.heap.size wc (wc.alloc (.map #[] 0))) := al1 _ _
        obtain ⟨w3, hw3⟩ : ∃ x, x = wc.alloc (.map #[] 0) := ⟨_, rfl⟩
        obtain ⟨mb, hmb⟩ : ∃ x, x = wc.heap.size := ⟨_, rfl⟩
        rw [← hw3] at HSM0 HB3
        rw [← hmb] at HSM0
        simp only [← hw3, ← hmb]
        have HMB : Hid (mb = wc.heap.size) := hmb
        clear hw3 hmm hmb
        obtain ⟨w2, hw2⟩ : ∃ x, x = wc := ⟨_, rfl⟩
        subst hw2
        go_cut [13] (fun p wc => ∃ (D : DataW Unit) (N : Nat), SM wc mb N D ∧ MG D ∧ Below w2.heap.size w2 wc)
        case first =>
          go_wp2
          go_loopw [95] (fun p wr => ∃ (j : Nat) (D : DataW Unit), p = .int .i64 j ∧ j ≤ m ∧ SM wr mb j D ∧ MG D ∧ Below w2.heap.size w2 wr) (fun p _ => m - (intOf p).toNat)
          case atStart => exact ⟨0, _, rfl, Nat.zero_le _, HSM0.out, MG.nil, HB3.out⟩
          case round =>
            clear HSM0 HB3
            obtain ⟨j, D, rfl, hj, hS, hM, hBl⟩ := hrel
            have HS : Hid (SM wr mb j D) := hS
            have HMG : Hid (MG D) := hM
            have HBL : Hid (Below w2.heap.size w2 wr) := hBl
            have HL3 : Hid (InL wr a' m c' K V) := HL2.out.below hBl
            clear hS hM hBl
            by_cases hlt : j < m
            · rcases HL3.out.row with h0 | ⟨lb, lo, rfl, hll, hlc⟩
              · omega
              obtain ⟨k0, k1⟩ := hlc j hlt
              obtain ⟨hkb, hvb⟩ := HL3.out.ok j hlt
              obtain ⟨kk, hkk⟩ : ∃ z, z = K j := ⟨_, rfl⟩
              obtain ⟨vv, hvv⟩ : ∃ z, z = V j := ⟨_, rfl⟩
              rw [← hkk] at k0 hkb
              rw [← hvv] at k1 hvb
              have hlbm : lb < mb := by
                have h1 := HMB.out
                rcases HL.out.row with h0 | ⟨lb', lo', e, hll', _⟩
                · omega
                · cases e
                  have := HB.out.size
                  omega
              obtain ⟨w5, hrun, ho5, hg5⟩ := World.ownsMap.update (w := wr.drew) (t := 32) HS.out law9 Yba.underlying32 (by unfold maxLen; omega) (key9 (keyS kk) (keyS_short kk)) (plainElem_string (H := Unit) (s := ⟨(valS vv).toArray⟩) Yba.underlying9 (by have := valS_short vv; simp [ByteArray.size, maxLen]; omega))
              have hcl5 := hg5.block lb (by exact hll) (fun e => by have := Option.some.inj e; omega)
              have d0 : w5.cell? ⟨lb, lo + j * 2, none⟩ = some (.int .u8 kk) := (World.cell?_of_block (w := wr.drew) (a := ⟨lb, lo + j * 2, none⟩) hcl5).trans k0
              have d1 : w5.cell? ⟨lb, lo + j * 2 + 1, none⟩ = some (.int .u8 vv) := (World.cell?_of_block (w := wr.drew) (a := ⟨lb, lo + j * 2 + 1, none⟩) hcl5).trans k1
              have HS5 : Hid (SM w5 mb (j + 1) (D.put (.string (keyS kk)) (.lit (.string (valS vv))))) := by
                show SM w5 mb (j + 1) (D.put (.string (keyS kk)) (.lit (.string (valS vv))))
                simpa using ho5
              have HB5 : Hid (Below w2.heap.size w2 w5) := HBL.out.drew.grown hg5 HBL.out.size (fun k hk => by cases hk; exact Nat.le_of_eq HMB.out.symm)
              clear hlc hkk hvv ho5 hg5 hcl5
              go_upto_region 30 with fail
              go_region_held3 (fun w' => w'.cell? ⟨lb, lo + j * 2, none⟩ = some (.int .u8 kk) ∧ w'.cell? ⟨lb, lo + j * 2 + 1, none⟩ = some (.int .u8 vv)) (first | go_keep | exact ⟨d0, d1⟩) (first
                | (go_at_call 6; refine (key_any kk _ hkb.1 hkb.2).mono ?_; rintro e w4 ⟨rfl, hw4⟩; obtain rfl := hw4.symm)
                | (go_at_call 5; refine (val_any vv _ hvb.1 hvb.2).mono ?_; rintro e w4 ⟨rfl, hw4⟩; obtain rfl := hw4.symm))
              all_goals (
                go_wp2
                refine ⟨⟨j + 1, _, by go_num, by omega, HS5.out, HMG.out.put HS.out kk vv, HB5.out⟩, ?_⟩
                simp [intOf]; omega)
            · obtain rfl : j = m := by omega
              go_wp2
              go_meet
              exact ⟨D, _, HS.out, HMG.out, HBL.out⟩
        case rest =>
          obtain ⟨D, N, hS, hM, hB4⟩ := hcut
          have HS : Hid (SM wc mb N D) := hS
          have HMG : Hid (MG D) := hM
          have HB4 : Hid (Below w2.heap.size w2 wc) := hB4
          have HQ4 : Hid (InQ wc a n c Q) := HQ2.out.below hB4
          clear hS hM hB4 HSM0 HB3 HL2 HL HQ2
          obtain ⟨w4, hw4⟩ : ∃ x, x = wc := ⟨_, rfl⟩
          subst hw4
          go_upto_block 8 with fail
          go_cut [14] (fun p14 wc => p14 = .bool (Q.all fun q => (lrOf q).holds (fD D (keyS q.key))) ∧ Below w4.heap.size w4 wc)
          case first =>
            go_wp2
            go_loopw [114, 14] (fun p p14 wr => ∃ (i : Nat) (bw : Bool), p = .int .i64 i ∧ p14 = .bool bw ∧ i ≤ n ∧ bw = ((Q.take i).all fun q => (lrOf q).holds (fD D (keyS q.key))) ∧ Below w4.heap.size w4 wr) (fun p _ _ => n - (intOf p).toNat)
            case atStart => exact ⟨0, true, rfl, rfl, Nat.zero_le _, by simp, Below.refl _ _⟩
            case round =>
              obtain ⟨i, bw, rfl, rfl, hi, hbw, hBl⟩ := hrel
              have HBW : Hid (bw = ((Q.take i).all fun q => (lrOf q).holds (fD D (keyS q.key)))) := hbw
              have HBL : Hid (Below w4.heap.size w4 wr) := hBl
              have HQr : Hid (InQ wr a n c Q) := HQ4.out.below hBl
              have HSr : Hid (SM wr mb N D) := World.ownsMap.kept HS.out (grown_of_below hBl none) (by simp)
              clear hbw hBl
              by_cases hlt : i < n
              · obtain ⟨q, hq⟩ : ∃ q, Q[i]? = some q := ⟨Q[i]'(by have := HQ.out.len; omega), by simp [HQ.out.len, hlt]⟩
                rcases HQr.out.row with h0 | ⟨b, off, rfl, hbl, hcells⟩
                · omega
                obtain ⟨k0, k1, k2, k3⟩ := hcells i q hq
                have HQQ : Hid (Q[i]? = some q) := hq
                have HOK : Hid (q.ok wr) := HQr.out.ok q (List.mem_of_getElem? hq)
                clear hcells hq
                go_upto_region 37 with fail
                have HRB : Hid ((wr.alloc (.cells #[.int .u8 q.key, .slice q.va q.vn q.vc, .bool q.has, .bool q.no] 26)).heap[wr.heap.size]? = some (.cells #[.int .u8 q.key, .slice q.va q.vn q.vc, .bool q.has, .bool q.no] 26 (0, 0))) := heap_alloc_new _ _
                have HB1 : Hid (Below w4.heap.size w4 (wr.alloc (.cells #[.int .u8 q.key, .slice q.va q.vn q.vc, .bool q.has, .bool q.no] 26))) := HBL.out.alloc HBL.out.size _
                have HOK1 : Hid (q.ok (wr.alloc (.cells #[.int .u8 q.key, .slice q.va q.vn q.vc, .bool q.has, .bool q.no] 26))) := HOK.out.below (al1 _ _)
                have HS1 : Hid (SM (wr.alloc (.cells #[.int .u8 q.key, .slice q.va q.vn q.vc, .bool q.has, .bool q.no] 26)) mb N D) := HSr.out.alloc _
                obtain ⟨w1, hw1⟩ : ∃ x, x = wr.alloc (.cells #[.int .u8 q.key, .slice q.va q.vn q.vc, .bool q.has, .bool q.no] 26) := ⟨_, rfl⟩
                obtain ⟨rb, hrb⟩ : ∃ x, x = wr.heap.size := ⟨_, rfl⟩
                rw [← hw1] at HRB HB1 HOK1 HS1
                rw [← hrb] at HRB
                simp only [← hw1, ← hrb]
                clear hw1 hrb k0 k1 k2 k3 HBL HQr HOK HSr
                obtain ⟨k0, k1, k2, k3⟩ := cells4 HRB.out
                have hkr : 0 ≤ q.key ∧ q.key ≤ 255 := HOK1.out.1
                go_upto_if 131 with (first
                  | (go_at_call 6; go_must (refine (key_any q.key _ hkr.1 hkr.2).mono ?_; rintro e w5 ⟨rfl, hw5⟩; obtain rfl := hw5.symm))
                  | (at_lookup; go_must (refine lookS_ok _ rfl _ _ rfl mb N D (keyS q.key) rfl HS1.out rfl (keyS_short _) ?_; obtain ⟨hb, ehb⟩ : ∃ b, b = Maps.has D (.string (keyS q.key)) := ⟨_, rfl⟩; obtain ⟨vs, evs⟩ : ∃ b, b = valD D (keyS q.key) := ⟨_, rfl⟩; rw [← ehb, ← evs]; have HHV : Hid (fD D (keyS q.key) = if hb then some vs else none) := (by rw [ehb, evs]; rfl); clear ehb evs)))
                go_cut [19, 20, 21, 114] from 114 to 161 (fun p19 p20 p21 p114 wc => p114 = .int .i64 i ∧ p19 = .bool ((lrOf q).holds (fD D (keyS q.key))) ∧ wc = w1)
                case first =>
                  obtain ⟨hs, ehs⟩ : ∃ b, b = q.has := ⟨_, rfl⟩
                  have HHS : Hid (hs = q.has) := ehs
                  rw [← ehs] at k2
                  simp only [← ehs]
                  clear ehs
                  obtain ⟨no, eno⟩ : ∃ b, b = q.no := ⟨_, rfl⟩
                  have HNO : Hid (no = q.no) := eno
                  rw [← eno] at k3
                  clear eno
                  cases hs with
                  | false =>
                    cases hb <;> cases no <;> (
                      go_wp2
                      go_meet
                      refine ⟨rfl, ?_, rfl⟩
                      rw [HHV.out]
                      simp [lrOf, LR.holds, ← HHS.out, ← HNO.out])
                  | true =>
                    have hvn : q.vn ≤ 1048576 := by
                      have h1 := sumV_take Q i q HQQ.out
                      have h2 := sumV_le Q (i + 1)
                      have h3 := HSUM.out
                      omega
                    have hvc : q.vn ≤ q.vc := HOK1.out.2.2.1
                    simp only [Bool.not_true]
                    go_wp2
                    go_loopw [139, 20] (fun p p20 wr => ∃ (j : Nat) (bi : Bool), p = .int .i64 j ∧ p20 = .bool bi ∧ j ≤ q.vn ∧ bi = ((q.vs.take j).map valS).contains vs ∧ wr = w1) (fun p _ _ => q.vn - (intOf p).toNat)
                    case atStart => exact ⟨0, false, rfl, rfl, Nat.zero_le _, by simp, rfl⟩
                    case round =>
                      obtain ⟨j, bi, rfl, rfl, hj, hbi, hw⟩ := hrel
                      obtain rfl := hw.symm
                      have HBI : Hid (bi = ((q.vs.take j).map valS).contains vs) := hbi
                      clear hbi
                      by_cases hlj : j < q.vn
                      · obtain ⟨vb, vo, hva, hvl, hvcell⟩ := HOK1.out.2.2.2.2.resolve_left (by omega)
                        have cj := hvcell j hlj
                        have hxl : j < q.vs.length := by have := HOK1.out.2.1; omega
                        have hx := HOK1.out.2.2.2.1 (q.vs.getD j 0) (by rw [show q.vs.getD j 0 = q.vs[j] by simp [List.getD, hxl]]; exact List.getElem_mem hxl)
                        have HST : Hid (((q.vs.take (j + 1)).map valS).contains vs = (((q.vs.take j).map valS).contains vs || (valS (q.vs.getD j 0) == vs))) := by
                          show ((q.vs.take (j + 1)).map valS).contains vs = _
                          rw [List.take_add_one, show q.vs[j]? = some (q.vs.getD j 0) by simp [List.getD, hxl], List.map_append]
                          exact contains_snoc _ _ _
                        obtain ⟨xv, hxv⟩ : ∃ z, z = q.vs.getD j 0 := ⟨_, rfl⟩
                        rw [← hxv] at cj hx HST
                        have d1 := k1
                        rw [hva] at d1
                        clear hvcell hxv hxl hva k1
                        by_cases hev : valS xv = vs
                        · have HC : Hid (∀ W, Calls Yba.prog 5 #[.int .u8 xv] W fun e w' => e = .returned (encStr vs) ∧ w' = W) := fun W => by rw [← hev]; exact val_any xv W hx.1 hx.2
                          have HEQ : Hid ((valS xv == vs) = true) := by show (valS xv == vs) = true; simp [hev]
                          clear hev
                          go_wp2_with (go_at_call 5; go_must (refine (HC.out _).mono ?_; rintro e w4 ⟨rfl, hw4⟩; obtain rfl := hw4.symm))
                          refine ⟨⟨j + 1, true, by go_num, rfl, by omega, ?_, by first | rfl | trivial⟩, ?_⟩
                          · rw [HST.out, HEQ.out, Bool.or_true]
                          · simp [intOf]; omega
                        · have heq : (valS xv == vs) = false := by simp [hev]
                          clear hev
                          go_wp2_with (go_at_call 5; go_must (refine (val_any xv _ hx.1 hx.2).mono ?_; rintro e w4 ⟨rfl, hw4⟩; obtain rfl := hw4.symm))
                          refine ⟨⟨j + 1, bi, by go_num, rfl, by omega, ?_, by first | rfl | trivial⟩, ?_⟩
                          · rw [HST.out, heq, Bool.or_false, HBI.out]
                          · simp [intOf]; omega
                      · obtain rfl : j = q.vn := by omega
                        have HIN : Hid (bi = (q.vs.map valS).contains vs) := by
                          have h1 := HBI.out
                          rw [← HOK1.out.2.1, List.take_length] at h1
                          exact h1
                        clear HBI
                        have HH : Hid ((lrOf q).holds (fD D (keyS q.key)) = ((hb && bi) != no)) := by
                          show (lrOf q).holds (fD D (keyS q.key)) = ((hb && bi) != no)
                          rw [HHV.out, HIN.out, HNO.out]
                          cases hb <;> simp [lrOf, LR.holds, isIn, ← HHS.out]
                        clear HIN
                        cases hb <;> cases bi <;> cases no <;> (
                          go_wp2
                          go_meet
                          refine ⟨rfl, ?_, rfl⟩
                          rw [HH.out]
                          rfl)
                case rest =>
                  obtain ⟨rfl, rfl, hw⟩ := hcut
                  obtain rfl := hw.symm
                  obtain ⟨ok, eok⟩ : ∃ b, b = (lrOf q).holds (fD D (keyS q.key)) := ⟨_, rfl⟩
                  have HOKB : Hid (ok = (lrOf q).holds (fD D (keyS q.key))) := eok
                  simp only [← eok]
                  clear eok
                  have HALL : Hid (((Q.take (i + 1)).all fun q => (lrOf q).holds (fD D (keyS q.key))) = (bw && ok)) := by
                    show ((Q.take (i + 1)).all fun q => (lrOf q).holds (fD D (keyS q.key))) = (bw && ok)
                    rw [List.take_add_one, HQQ.out, List.all_append, HBW.out, HOKB.out]
                    simp
                  cases ok with
                  | true =>
                    go_wp2
                    refine ⟨⟨i + 1, bw, by go_num, rfl, by omega, ?_, HB1.out⟩, ?_⟩
                    · rw [HALL.out, Bool.and_true]
                    · simp [intOf]; omega
                  | false =>
                    go_wp2
                    refine ⟨⟨i + 1, false, by go_num, rfl, by omega, ?_, HB1.out⟩, ?_⟩
                    · rw [HALL.out, Bool.and_false]
                    · simp [intOf]; omega
              · obtain rfl : i = n := by omega
                go_wp2
                go_meet
                refine ⟨?_, HBL.out⟩
                rw [HBW.out, List.take_of_length_le (Nat.le_of_eq HQ.out.len)]
          case rest =>
            obtain ⟨rfl, hB5⟩ := hcut
            have HB5 : Hid (Below w4.heap.size w4 wc) := hB5
            have HLI5 : Hid (LRI w.heap.size E lg cap wc) := (HLI.out.below HB4.out).below hB5
            have HS5 : Hid (SM wc mb N D) := World.ownsMap.kept HS.out (grown_of_below hB5 none) (by simp)
            have HBW : Hid (Below w.heap.size w wc) := blw (blw HB.out HB4.out) hB5
            obtain ⟨want, ewant⟩ : ∃ b, b = (Q.all fun q => (lrOf q).holds (fD D (keyS q.key))) := ⟨_, rfl⟩
            have HWANT : Hid (want = (Q.all fun q => (lrOf q).holds (fD D (keyS q.key)))) := ewant
            simp only [← ewant]
            have HG : Hid (Calls Yba.prog 7 #[.slice (some ⟨lg, 0, none⟩) n cap] wc (GPost (Q.map lrOf) wc)) := by
              have h1 := gather_all lg cap n E wc w.heap.size HLI5.out (by have h2 := congrArg List.length HE.out; simpa [HQ.out.len] using h2) hn20 hcn (by
                intro e he
                have h3 : e.r ∈ E.map (·.r) := List.mem_map.2 ⟨e, he, rfl⟩
                rw [HE.out] at h3
                obtain ⟨q, _, h4⟩ := List.mem_map.1 h3
                rw [← h4]
                exact keyS_short _) (by rw [HE.out]; have h5 := tot_sum Q (fun q hq => (HQ.out.ok q hq).2.1); have h6 := HSUM.out; omega)
              rw [HE.out] at h1
              exact h1
            clear hB5 ewant HS HB4 HLI HB HQ4 HLI5
            go_upto_region 55 with (go_at_call 7; go_must (refine HG.out.mono ?_; rintro e w6 ⟨Xs, cv, mv, qn, rfl, hSel, hPI, hqn, hXn, hb6⟩; obtain ⟨B', hr⟩ := hSel.crow; obtain ⟨ca, cc, rfl⟩ := own_slice hr; obtain ⟨mo, rfl⟩ := hSel.mshape; have HSel : Hid (Sel w6 Xs (.slice ca Xs.length cc) (.map mo)) := hSel; have HPI : Hid (PInv (Q.map lrOf) (Xs.map (·.g.c))) := hPI; have HQN : Hid (qn = (Xs.filter (fun x => x.g.c.pres)).length) := hqn; have HXN : Hid (Xs.length ≤ 1048576) := hXn; have HB6 : Hid (Below w.heap.size w w6) := blw HBW.out hb6; have HS6 : Hid (SM w6 mb N D) := World.ownsMap.kept HS5.out (grown_of_below hb6 none) (by simp); clear hSel hr hPI hqn hXn hb6))
            have HSel7 : Hid (Sel (w6.alloc (.cells #[.slice ca Xs.length cc, .map mo, .int .i64 qn] 39)) Xs (.slice ca Xs.length cc) (.map mo)) := HSel.out.below (al1 _ _)
            have HR7 : Hid ((w6.alloc (.cells #[.slice ca Xs.length cc, .map mo, .int .i64 qn] 39)).heap[w6.heap.size]? = some (.cells #[.slice ca Xs.length cc, .map mo, .int .i64 qn] 39 (0, 0))) := heap_alloc_new _ _
            have HB7 : Hid (Below w.heap.size w (w6.alloc (.cells #[.slice ca Xs.length cc, .map mo, .int .i64 qn] 39))) := HB6.out.alloc HB6.out.size _
            have HS7 : Hid (SM (w6.alloc (.cells #[.slice ca Xs.length cc, .map mo, .int .i64 qn] 39)) mb N D) := HS6.out.alloc _
            obtain ⟨w7, hw7⟩ : ∃ x, x = w6.alloc (.cells #[.slice ca Xs.length cc, .map mo, .int .i64 qn] 39) := ⟨_, rfl⟩
            obtain ⟨sb, hsb⟩ : ∃ x, x = w6.heap.size := ⟨_, rfl⟩
            rw [← hw7] at HSel7 HR7 HB7 HS7
            rw [← hsb] at HR7
            simp only [← hw7, ← hsb]
            clear hw7 hsb HSel HB6 HS6 HBW HS5
            go_wp2_with (first
              | (go_at_call 9; go_must (refine (newS_any mb N D _ HS7.out HMG.out.key HMG.out.val).mono ?_; rintro e w8 ⟨T, L, rfl, hT, hA, hlk, hpl, hb8⟩; have HMI : Hid (MI w8 sb Xs (.slice ca Xs.length cc) (.map mo) qn T L) := ⟨HSel7.out.below hb8, (hb8.block sb (Array.getElem?_eq_some_iff.1 HR7.out).1).trans HR7.out, hT, hA, (by have h1 := HPI.out.nodup; rw [List.map_map] at h1; exact h1), HQN.out, HXN.out, hpl⟩; have HLK : Hid (∀ k, look L k = fD D k) := hlk; have HB8 : Hid (Below w.heap.size w w8) := blw HB7.out hb8; clear hT hA hlk hpl hb8))
              | (go_at_call 8; go_must (refine (match_any sb qn Xs _ _ T L _ HMI.out).mono ?_; rintro e w9 ⟨rfl, hb9⟩; have HB9 : Hid (Below w.heap.size w w9) := blw HB8.out hb9; have HEQ : Xs.all (xh L) = want := all_want HPI.out HLK.out HWANT.out; rw [HEQ]; clear HEQ hb9)))
            go_ret
            exact ⟨by cases want <;> rfl, HB9.out⟩

end Go.Proofs.Ybulkegqe.lawS6647AWhole
