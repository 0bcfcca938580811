/-
  DERIVED. 'gatherLabels': the first loop.
-/
import Derived.Test.YbulkegqeSelG3
import Derived.Deep.CutRange
namespace Go.Proofs.Ybulkegqe.lawS6647AWhole
set_option linter.unusedVariables false
set_option linter.unusedSimpArgs false
open Go.RowKit
attribute [local go_sem ↓] Go.wp_at_zero Go.wp_at_succ

/-- The requirements as they lie in memory. -/
structure Reqs (w : World) (lg A : Nat) (R : List LR) (vv : Nat → Value) : Prop where
  cell : ∀ (j : Nat) (r : LR), R[j]? = some r → w.cell? ⟨lg, j * 3, none⟩ = some (encStr r.key) ∧ w.cell? ⟨lg, j * 3 + 1, none⟩ = some (vv j) ∧ w.cell? ⟨lg, j * 3 + 2, none⟩ = some (.bool r.no)
  val : ∀ (j : Nat) (r : LR), R[j]? = some r → (r.vals = none ∧ vv j = .slice none 0 0) ∨ ∃ L g c, r.vals = some L ∧ vv j = .slice (some ⟨g, 0, none⟩) L.length c ∧ SRow A w (vv j) L ∧ Short L
  keyl : ∀ r ∈ R, r.key.length ≤ maxLen
  lt : lg < w.heap.size

/-- .. in the midst of the round k: the clause's index is known. -/
def GM (w : World) (R : List LR) (k : Nat) (r : LR) (vk : Value) (rb : Nat) (iv rv : Value) (wr : World) : Prop :=
  ∃ S cv mb D tg i g, iv = .int .i64 (i : Nat) ∧ S[i]? = some g ∧ g.c.key = r.key ∧ GI w S cv rv mb D tg wr ∧ PInv (R.take k) (S.map (·.c)) ∧ Bnd (R.take k) S ∧ S.length ≤ k + 1 ∧
    wr.heap[rb]? = some (.cells #[encStr r.key, vk, .bool r.no] 31 (0, 0)) ∧ tg rb = 6

theorem Yba.size39 : (Yba.prog.info? 39).map (·.size) = some 3 := by kernel_rfl
theorem zero3 (w : World) : (zeroValue 3).run Yba.prog w = .ok (.int .i64 0) w := by kernel_rfl
theorem Yba.info115 : (Yba.prog.info? 115).map (fun i => (i.zero, i.size, i.bytes)) = some (some (.agg #[.string ByteArray.empty, .bool false, .bool false, .slice none 0 0, .map none, .bool false]), 6, 64) := by kernel_rfl
theorem Yba.info117 : (Yba.prog.info? 117).map (fun i => (i.zero, i.size, i.bytes)) = some (some (.agg #[.slice none 0 0, .bool false, .slice none 0 0]), 3, 56) := by kernel_rfl

/-- A new block gets a tag of its own. -/
theorem GI3.fresh {w wr w' : World} {Sm Sc Sr : List G} {cv rv : Value} {mb : Nat} {D : DataW Unit} {tg : Nat → Nat} (h : GI3 w Sm Sc Sr cv rv mb D tg wr) (hb : Below wr.heap.size wr w') (b : Nat) (hbb : wr.heap.size ≤ b) (t : Nat) : GI3 w Sm Sc Sr cv rv mb D (reTag tg (some b) t) w' := by
  have h' := h.below hb
  have rt : ∀ k, k < wr.heap.size → reTag tg (some b) t k = tg k := fun k hk => by
    unfold reTag
    rw [if_neg]
    intro e
    have := Option.some.inj e
    omega
  have re : ∀ (v : Option Nat) (t : Nat), (∀ b, v = some b → b < wr.heap.size) → Tag tg v t → Tag (reTag tg (some b) _) v t := fun v t hl hv b hb => by
    rw [rt b (hl b hb)]; exact hv b hb
  have hsb := h.blocks
  exact ⟨h'.res, h'.svar, h'.crow, h'.rrow, h'.mp, h'.mhas, h'.mat, h'.rows, by rw [rt _ (by omega)]; exact h.t0, by rw [rt _ (by omega)]; exact h.t1, re _ _ (fun b hb => (h.crow.lt b hb).2) h.tc, re _ _ (fun b hb => (h.rrow.lt b hb).2) h.tr, by rw [rt _ h.mp.lt]; exact h.tm,
    fun i g hi => ⟨re _ _ (fun b hb => ((h.rows i g hi).1.lt b hb).2) (h.ti i g hi).1, re _ _ (fun b hb => ((h.rows i g hi).2.lt b hb).2) (h.ti i g hi).2⟩, h.mbB, h'.old⟩

/-- At the start. -/
theorem GL.start (w : World) (R : List LR) : GL w R 0 (.slice none 0 0) (((w.alloc (Obj.cells #[Value.slice none 0 0, Value.map none, Value.int IntKind.i64 0] 39)).alloc (Obj.cells #[Value.slice none 0 0, Value.map (some (w.heap.size + 1 + 1)), Value.int IntKind.i64 0] 39)).alloc (Obj.map #[] 0)) := by
  refine ⟨[], .slice none 0 0, w.heap.size + 2, .map [], fun b => if b = w.heap.size then 4 else if b = w.heap.size + 1 then 5 else 3, ?_, by simpa using PInv.nil, fun g hg => by simp at hg, Nat.le_refl _⟩
  refine ⟨?_, ?_, World.ownsRow_nil _ _ _ _, World.ownsRow_nil _ _ _ _, ?_, fun x => by simp [Maps.has], fun i g h => by simp at h, fun i g h => by simp at h, by simp, by simp, fun b hb => by simp [Value.ownBlock] at hb, fun b hb => by simp [Value.ownBlock] at hb, ?_, fun i g h => by simp at h, by omega, (al2 _ _ _).alloc (al2 _ _ _).size _⟩
  · rw [Below.heap_alloc _ _ _ (by simp; omega), Below.heap_alloc _ _ _ (by simp), heap_alloc_new]
  · rw [Below.heap_alloc _ _ _ (by simp)]
    have := heap_alloc_new (w.alloc (Obj.cells #[Value.slice none 0 0, Value.map none, Value.int IntKind.i64 0] 39)) (Obj.cells #[Value.slice none 0 0, Value.map (some (w.heap.size + 1 + 1)), Value.int IntKind.i64 0] 39)
    simpa using this
  · have := World.ownsMap_made (H := Unit) ((w.alloc (Obj.cells #[Value.slice none 0 0, Value.map none, Value.int IntKind.i64 0] 39)).alloc (Obj.cells #[Value.slice none 0 0, Value.map (some (w.heap.size + 1 + 1)), Value.int IntKind.i64 0] 39)) Yba.prog 9 (plainElem Yba.prog 3)
    simpa using this
  · rw [if_neg (by omega), if_neg (by omega)]

theorem cells_new (w : World) (cs : List Value) (t : TypeId) : ∀ j u, cs[j]? = some u → (w.alloc (.cells cs.toArray t)).cell? ((⟨w.heap.size, 0, none⟩ : Addr).add j) = some u := by
  intro j u hu
  rw [cell_add, cell_of_row _ _ _ _ _ _ (heap_alloc_new _ _)]
  simpa using hu
theorem own_slice {w : World} {B : Nat} {e : TypeId} {sz n : Nat} {v : Value} {xs : List Value} (h : w.ownsRow B e sz v n xs) : ∃ a c, v = .slice a n c := by
  rcases h.2 with ⟨h, h0⟩ | ⟨g, cap, cur, h, _⟩
  · exact ⟨none, 0, by rw [h, h0]⟩
  · exact ⟨_, _, h⟩

theorem keep6_2 {w wb wc : World} {Sm Sc Sr : List G} {cv cv' rv : Value} {mb : Nat} {D : DataW Unit} {tg : Nat → Nat} (h : GI3 w Sm Sc Sr cv rv mb D tg wb) (hg : wb.grownBy wc cv.ownBlock) (hloc : cv'.ownBlock = cv.ownBlock ∨ cv'.ownBlock = some wb.heap.size) {rb : Nat} {o : Obj} (hr : wb.heap[rb]? = some o) (h6 : tg rb = 6) :
    (wc.setCell ⟨w.heap.size + 1, 0, none⟩ cv').heap[rb]? = some o ∧ reTag tg cv'.ownBlock 1 rb = 6 := by
  have ht1 : TurnsT wb wc tg (fun t => t = 1) := (Turns.of_grown hg).mono fun k _ e => h.tc k e
  have ht : TurnsT wb (wc.setCell ⟨w.heap.size + 1, 0, none⟩ cv') tg (fun t => t = 1 ∨ t = 5) := (ht1.mono fun k _ e => Or.inl e).setCell _ _ (fun _ => Or.inr h.t1)
  refine ⟨keep_block hr ht h6 (by decide), ?_⟩
  rw [reTag_other (hloc.imp id (fun e => ⟨_, e, Nat.le_refl _⟩)) h.tc rb (Array.getElem?_eq_some_iff.1 hr).1 (by rw [h6]; decide)]
  exact h6
theorem keep6_3 {w we wf : World} {Sm Sc Sr : List G} {cv rv rv' : Value} {mb : Nat} {D : DataW Unit} {tg : Nat → Nat} (h : GI3 w Sm Sc Sr cv rv mb D tg we) (hg : we.grownBy wf rv.ownBlock) (hloc : rv'.ownBlock = rv.ownBlock ∨ rv'.ownBlock = some we.heap.size) {rb : Nat} {o : Obj} (hr : we.heap[rb]? = some o) (h6 : tg rb = 6) :
    wf.heap[rb]? = some o ∧ reTag tg rv'.ownBlock 2 rb = 6 := by
  have ht : TurnsT we wf tg (fun t => t = 2) := (Turns.of_grown hg).mono fun k _ e => h.tr k e
  refine ⟨keep_block hr ht h6 (by decide), ?_⟩
  rw [reTag_other (hloc.imp id (fun e => ⟨_, e, Nat.le_refl _⟩)) h.tr rb (Array.getElem?_eq_some_iff.1 hr).1 (by rw [h6]; decide)]
  exact h6
theorem alloc_keeps {w : World} {o o' : Obj} {b : Nat} (h : w.heap[b]? = some o) : (w.alloc o').heap[b]? = some o := by
  rw [Below.heap_alloc _ _ _ (Array.getElem?_eq_some_iff.1 h).1]; exact h
theorem Bnd.grow {R : List LR} {S : List G} (h : Bnd R S) (key : Str) : Bnd R (S ++ [newG key]) := by
  intro g hg
  rcases List.mem_append.1 hg with hg | hg
  · exact h g hg
  · simp at hg
    subst hg
    exact ⟨by simp [newG], by simp [newG], fun j => by simp [newG], fun j => by simp [newG]⟩

/-- What 'gatherLabels' hands back. -/
def GPost (R : List LR) (w : World) (e : Ending) (w' : World) : Prop :=
  ∃ Xs cv mv q, e = .returned (.agg #[cv, mv, .int .i64 (q : Nat)]) ∧ Sel w' Xs cv mv ∧ PInv R (Xs.map (·.g.c)) ∧ q = (Xs.filter (fun x => x.g.c.pres)).length ∧ Xs.length ≤ 1048576 ∧ Below w.heap.size w w'

/-- The second loop. -/
def GL2 (w : World) (R : List LR) (m i : Nat) (cv rv : Value) (wr : World) : Prop :=
  ∃ Xs q mb D tg, GI2 w i Xs cv rv mb q D tg wr ∧ PInv R (Xs.map (·.g.c)) ∧ Xs.length = m ∧ q = ((Xs.take i).filter (fun x => x.g.c.pres)).length

theorem GL.turn {w wr : World} {R : List LR} {n : Nat} {S : List G} {cv rv : Value} {mb : Nat} {D : DataW Unit} {tg : Nat → Nat} (hn : n = R.length) (hG : GI w S cv rv mb D tg wr) (hP : PInv (R.take n) (S.map (·.c))) (hB : Bnd (R.take n) S) : GL2 w R S.length 0 cv rv wr := by
  rw [hn, List.take_length] at hP
  exact ⟨S.map toX, 0, mb, D, tg, GI2.start hG hB, by rw [List.map_map]; exact hP, by simp, by simp⟩

/-- The clause's cells behind 'rule'. -/
theorem GI2.after {w wr w1 : World} {Xs : List X} {rv : Value} {mb q cg cap i : Nat} {D : DataW Unit} {tg : Nat → Nat} (h : GI2 w i Xs (.slice (some ⟨cg, 0, none⟩) Xs.length cap) rv mb q D tg wr) {x : X} (hi : Xs[i]? = some x) (hT : Turns wr w1 (fun k => x.g.iv.ownBlock = some k)) :
    w1.cell? ⟨cg, i * 6 + 3, none⟩ = some x.a ∧ w1.cell? ⟨cg, i * 6 + 4, none⟩ = some x.b ∧ w1.cell? ⟨cg, i * 6 + 5, none⟩ = some x.c ∧ w1.frozen? ⟨cg, i * 6 + 3, none⟩ = false ∧ w1.frozen? ⟨cg, i * 6 + 4, none⟩ = false ∧ w1.frozen? ⟨cg, i * 6 + 5, none⟩ = false := by
  have hlt := lt_of_get hi
  have ti1 := (h.ti i x hi (Nat.le_refl _)).1
  have ht1 : TurnsT wr w1 tg (fun t => t = 10 + 2 * i) := hT.mono fun k _ e => ti1 k e
  have hr := keep_row h.crow ht1 h.tc (by omega)
  refine ⟨?_, ?_, ?_, hr.frozenAt _, hr.frozenAt _, hr.frozenAt _⟩
  · rw [hr.cellAt _ (by omega), flat_get xcells 6 (fun _ => rfl) Xs i 3 x hi (by decide)]; rfl
  · rw [hr.cellAt _ (by omega), flat_get xcells 6 (fun _ => rfl) Xs i 4 x hi (by decide)]; rfl
  · rw [hr.cellAt _ (by omega), flat_get xcells 6 (fun _ => rfl) Xs i 5 x hi (by decide)]; rfl
theorem GI2.pres {w wr : World} {Xs : List X} {rv : Value} {mb q cg n cap i k : Nat} {D : DataW Unit} {tg : Nat → Nat} (h : GI2 w k Xs (.slice (some ⟨cg, 0, none⟩) n cap) rv mb q D tg wr) (hn : n = Xs.length) {x : X} (hi : Xs[i]? = some x) : wr.cell? ⟨cg, i * 6 + 1, none⟩ = some (.bool x.g.c.pres) := by
  subst hn
  have hlt := lt_of_get hi
  rw [h.crow.cellAt _ (by omega), flat_get xcells 6 (fun _ => rfl) Xs i 1 x hi (by decide)]; rfl
theorem GI2.rb {w wr : World} {Xs : List X} {cv : Value} {mb q rg cap i k : Nat} {D : DataW Unit} {tg : Nat → Nat} (h : GI2 w k Xs cv (.slice (some ⟨rg, 0, none⟩) Xs.length cap) mb q D tg wr) {x : X} (hi : Xs[i]? = some x) : RB wr rg (i * 3) x.g.iv x.g.c.res x.g.nv := by
  have hlt := lt_of_get hi
  obtain ⟨cur, hh, hc⟩ := row_cur h.rrow
  refine ⟨cur, hh, ?_, ?_, ?_⟩
  · have := flat_get xr 3 (fun _ => rfl) Xs i 0 x hi (by decide)
    rw [hc _ (by omega), ← Nat.add_zero (i * 3), this]; rfl
  · rw [hc _ (by omega), flat_get xr 3 (fun _ => rfl) Xs i 1 x hi (by decide)]; rfl
  · rw [hc _ (by omega), flat_get xr 3 (fun _ => rfl) Xs i 2 x hi (by decide)]; rfl

theorem take_pres (Xs : List X) (i : Nat) (x : X) (hi : Xs[i]? = some x) : ((Xs.take (i + 1)).filter (fun x => x.g.c.pres)).length = ((Xs.take i).filter (fun x => x.g.c.pres)).length + (if x.g.c.pres then 1 else 0) := by
  rw [List.take_add_one, hi, List.filter_append, List.length_append]
  congr 1
  cases h : x.g.c.pres <;> simp [h]
theorem set_take {α : Type} (S : List α) (i : Nat) (a : α) : (S.set i a).take i = S.take i := by
  rw [List.take_set_of_le (Nat.le_refl _)]
theorem map_set_same {S : List X} {i : Nat} {x x' : X} (hi : S[i]? = some x) (h : x'.g = x.g) : (S.set i x').map (·.g.c) = S.map (·.g.c) := by
  apply List.ext_getElem?
  intro j
  by_cases e : j = i
  · subst e
    rw [List.getElem?_map, List.getElem?_map, List.getElem?_set_self (lt_of_get hi), hi]
    simp [h]
  · simp [List.getElem?_set_ne (fun e' => e e'.symm)]

/-- The round of the second loop. -/
theorem GL2.next {w wr : World} {R : List LR} {Xs : List X} {cv rv : Value} {mb q i : Nat} {D : DataW Unit} {tg : Nat → Nat} {x x' : X} {m q' : Nat} (hi : Xs[i]? = some x) (hx : x'.g = x.g) (h : GI2 w (i + 1) (Xs.set i x') cv rv mb q' D tg wr) (hP : PInv R (Xs.map (·.g.c))) (hm : Xs.length = m) (hq : q = ((Xs.take i).filter (fun x => x.g.c.pres)).length) (hq' : q' = q + (if x.g.c.pres then 1 else 0)) : GL2 w R m (i + 1) cv rv wr := by
  refine ⟨_, q', mb, D, tg, h, by rw [map_set_same hi hx]; exact hP, by rw [List.length_set]; exact hm, ?_⟩
  rw [take_pres _ i x' (List.getElem?_set_self (lt_of_get hi)), set_take, ← hq, hx]
  exact hq'

set_option maxRecDepth 100000 in
set_option maxHeartbeats 3200000 in
theorem gather_any (lg A cap : Nat) (R : List LR) (vv : Nat → Value) (w : World) (hq : Reqs w lg A R vv) (hn : 0 < R.length) (hc : R.length ≤ 1048576) (hcap : R.length ≤ cap) (htot : tot R ≤ 1048576) :
    Calls Yba.prog 7 #[.slice (some ⟨lg, 0, none⟩) R.length cap] w (GPost R w) := by
  obtain ⟨n, en⟩ : ∃ n, n = R.length := ⟨_, rfl⟩
  rw [← en] at hn hc hcap ⊢
  have HN : Hid (n = R.length) := en
  have HQ : Hid (Reqs w lg A R vv) := hq
  have HT : Hid (tot R ≤ 1048576) := htot
  have hlg := hq.lt
  obtain ⟨i115, hi115, hz0, hz1, hz2⟩ := info_parts Yba.info115
  obtain ⟨i117, hi117, hy0, hy1, hy2⟩ := info_parts Yba.info117
  have hmm := @run_makeMap Yba.prog
  have g0 : ∀ m : Nat, m = n → ((0 : Int) < (m : Int)) = True := fun m hm => eq_true (by omega)
  have hn63 : n ≤ 9223372036854775807 := by omega
  clear en hq htot
  go_enter Yba.func7, Yba.ntmps7
  go_wp2
  go_loopw [4, 19] (fun p4 p wr => ∃ k : Nat, p = .int .i64 k ∧ k ≤ n ∧ GL w R k p4 wr) (fun _ p _ => n - (intOf p).toNat)
  case atStart =>
    exact ⟨0, rfl, Nat.zero_le _, GL.start w R⟩
  case round =>
    obtain ⟨k, rfl, hk, hL⟩ := hrel
    by_cases hlt : k < n
    · obtain ⟨S, cv, mb, D, tg, hG, hP, hB, hS⟩ := hL
      obtain ⟨r, hr⟩ : ∃ r, R[k]? = some r := ⟨R[k]'(by have := HN.out; omega), by simp [HN.out ▸ hlt]⟩
      have lgB : Below w.heap.size w wr := hG.old
      obtain ⟨rc0, rc1, rc2⟩ := HQ.out.cell k r hr
      rw [← lgB.cell hlg] at rc0 rc1 rc2
      obtain ⟨xa, xm, xc, hvk⟩ : ∃ a m c, vv k = .slice a m c := by
        rcases HQ.out.val k r hr with ⟨_, h⟩ | ⟨L, g, c, _, h, _⟩
        · exact ⟨_, _, _, h⟩
        · exact ⟨_, _, _, h⟩
      have HVK : Hid (vv k = .slice xa xm xc) := hvk
      rw [hvk] at rc1
      have HG : Hid (GI w S cv u4 mb D tg wr) := hG
      have HP : Hid (PInv (R.take k) (S.map (·.c))) := hP
      have HB : Hid (Bnd (R.take k) S) := hB
      have HS : Hid (S.length ≤ k) := hS
      have HRk : Hid (R[k]? = some r) := hr
      have hsz := hG.blocks
      clear hG hP hB hS hr lgB hvk
      go_upto_region 8 with fail
      have HG1 : Hid (GI w S cv u4 mb D (reTag tg (some wr.heap.size) 6) (wr.alloc (.cells #[encStr r.key, .slice xa xm xc, .bool r.no] 31))) := HG.out.fresh (al1 _ _) _ (Nat.le_refl _) 6
      have HRB : Hid ((wr.alloc (.cells #[encStr r.key, .slice xa xm xc, .bool r.no] 31)).heap[wr.heap.size]? = some (.cells #[encStr r.key, .slice xa xm xc, .bool r.no] 31 (0, 0))) := heap_alloc_new _ _
      obtain ⟨w1, hw1⟩ : ∃ x, x = wr.alloc (.cells #[encStr r.key, .slice xa xm xc, .bool r.no] 31) := ⟨_, rfl⟩
      obtain ⟨rb, hrb⟩ : ∃ x, x = wr.heap.size := ⟨_, rfl⟩
      rw [← hw1, ← hrb] at HG1 HRB
      simp only [← hw1, ← hrb]
      obtain ⟨tg1, htg1⟩ : ∃ x, x = reTag tg (some rb) 6 := ⟨_, rfl⟩
      rw [← htg1] at HG1
      have HTG : Hid (tg1 rb = 6) := by rw [htg1]; exact reTag_self tg (some rb) 6 rb rfl
      clear hw1 hrb htg1 rc0 rc1 rc2 HG
      obtain ⟨s0, s1, s2, sf0, sf1, sf2⟩ := cells3 HG1.out.svar
      obtain ⟨rc0, rc1, rc2, rf0, rf1, rf2⟩ := cells3 HRB.out
      have HKL : Hid (r.key.length ≤ maxLen) := HQ.out.keyl r (List.mem_of_getElem? HRk.out)
      go_upto_if 32 with (at_lookup; go_must (refine wpList_lookup_own_ok_int _ rfl _ _ 37 rfl 9 3 .i64 law9 Yba.underlying37 Yba.underlying3 (zero3 _) mb S.length D rfl HG1.out.mp _ _ rfl (key9 r.key HKL.out) ?_; intro c hat hwc; obtain ⟨hb, ehb⟩ : ∃ b, b = Maps.has D (.string r.key) := ⟨_, rfl⟩; rw [← ehb]; have HHB : Hid (hb = Maps.has D (.string r.key)) := ehb; clear ehb; have HAT : Hid (D.atKey (.string r.key) (.lit (.int .i64 0)) = .lit (.int .i64 c)) := hat; clear hat hwc))
      go_cut [7, 4, 19] from 19 to 93 (fun p7 p4 p19 wc => p19 = .int .i64 k ∧ GM w R k r (.slice xa xm xc) rb p7 p4 wc)
      case first =>
        cases hb with
        | true =>
          have hany : S.any (fun g => g.c.key == r.key) = true := (HG1.out.mhas _).symm.trans HHB.out.symm
          obtain ⟨g, hg, hgk⟩ := List.any_eq_true.1 hany
          obtain ⟨i, hi⟩ := List.getElem?_of_mem hg
          have hgk : g.c.key = r.key := by simpa using hgk
          have hci : c = (i : Int) := by
            have e := HG1.out.mat i g hi (.lit (.int .i64 0))
            rw [hgk, HAT.out] at e
            simpa using e
          subst hci
          have HI : Hid (S[i]? = some g) := hi
          have HK : Hid (g.c.key = r.key) := hgk
          clear hany hg hi hgk
          go_wp2
          go_meet
          exact ⟨rfl, S, cv, mb, D, tg1, i, g, rfl, HI.out, HK.out, HG1.out, HP.out, HB.out, Nat.le_succ_of_le HS.out, HRB.out, HTG.out⟩
        | false =>
          have hany : S.any (fun g => g.c.key == r.key) = false := (HG1.out.mhas _).symm.trans HHB.out.symm
          have HNY : Hid (S.any (fun g => g.c.key == r.key) = false) := hany
          clear hany HAT
          obtain ⟨ca, cc, rfl⟩ := own_slice HG1.out.crow
          obtain ⟨ra, rcp, rfl⟩ := own_slice HG1.out.rrow
          go_upto_region 12 with (at_mapUpdate; go_must (refine wpList_mapUpdate_own _ rfl _ _ _ 37 rfl 9 3 law9 Yba.underlying37 (plainElem Yba.prog 3) mb S.length D rfl HG1.out.mp (by have := HS.out; unfold maxLen; omega) _ _ _ rfl rfl (key9 r.key HKL.out) (.lit (.int .i64 S.length)) [] (plainElem_int Yba.underlying3 (WalkArith.wf_i64 (by have := HS.out; omega))) ?_; intro w2 hown2 hg2))
          have HA : Hid (GI3 w (S ++ [newG r.key]) S S (.slice ca S.length cc) (.slice ra S.length rcp) mb (D.put (.string r.key) (.lit (.int .i64 S.length))) tg1 w2) := GI.grow1 HG1.out r.key HNY.out hown2 hg2
          have HRB2 : Hid (w2.heap[rb]? = some (.cells #[encStr r.key, .slice xa xm xc, .bool r.no] 31 (0, 0))) := keep_block (T := fun t => t = 3) HRB.out ((Turns.of_grown hg2).mono fun k _ e => by cases e; exact HG1.out.tm) HTG.out (by decide)
          clear hown2 hg2 s0 s1 s2 sf0 sf1 sf2 rc0 rc1 rc2 rf0 rf1 rf2
          obtain ⟨s0, s1, s2, sf0, sf1, sf2⟩ := cells3 HA.out.svar
          obtain ⟨rc0, rc1, rc2, rf0, rf1, rf2⟩ := cells3 HRB2.out
          go_upto_region 13 with (at_builtin; go_must (refine wpList_append_own_at _ rfl _ _ 36 rfl w.heap.size 115 i115 _ 6 64 Yba.underlying36 hi115 hz0 hz1 hz2 rfl (by decide) (.slice ca S.length cc) S.length (S.flatMap cce) rfl (World.ownsRow.alloc HA.out.crow _) ⟨w2.heap.size, 0, none⟩ 1 1 (cce (newG r.key)) rfl rfl (cells_new _ _ _) (fun u hu => by simp [cce, ccells, newG] at hu; rcases hu with rfl | rfl | rfl | rfl | rfl <;> rfl) (by have := HS.out; unfold maxLen; omega) (by have := HS.out; omega) (by have := HA.out.blocks; simp; omega) ?_; intro v' w3 ho3 hg3 hnl3 hloc3; obtain ⟨va, vc, rfl⟩ := own_slice ho3; have hb3 := HA.out.below (al1 w2 (.cells (cce (newG r.key)).toArray 115)); obtain ⟨p0, p1, p2, pf0, pf1, pf2⟩ := cells3 (keep_block (T := fun t => t = 1) hb3.svar ((Turns.of_grown hg3).mono fun k _ e => hb3.tc k e) hb3.t1 (by decide)); have HA2 : Hid (GI3 w (S ++ [newG r.key]) (S ++ [newG r.key]) S (.slice va (S.length + 1) vc) (.slice ra S.length rcp) mb (D.put (.string r.key) (.lit (.int .i64 S.length))) (reTag tg1 (Value.slice va (S.length + 1) vc).ownBlock 1) (w3.setCell ⟨w.heap.size + 1, 0, none⟩ (.slice va (S.length + 1) vc))) := hb3.grow2 r.key ho3 hg3 hloc3; have HRB4 : Hid ((w3.setCell ⟨w.heap.size + 1, 0, none⟩ (.slice va (S.length + 1) vc)).heap[rb]? = some (.cells #[encStr r.key, .slice xa xm xc, .bool r.no] 31 (0, 0)) ∧ reTag tg1 (Value.slice va (S.length + 1) vc).ownBlock 1 rb = 6) := keep6_2 hb3 hg3 hloc3 (alloc_keeps HRB2.out) HTG.out; clear ho3 hg3 hnl3 hloc3 hb3))
          obtain ⟨w4, hw4⟩ : ∃ x, x = w3.setCell ⟨w.heap.size + 1, 0, none⟩ (.slice va (S.length + 1) vc) := ⟨_, rfl⟩
          rw [← hw4] at HA2 HRB4
          simp only [← hw4]
          obtain ⟨tg2, htg2⟩ : ∃ x, x = reTag tg1 (Value.slice va (S.length + 1) vc).ownBlock 1 := ⟨_, rfl⟩
          rw [← htg2] at HA2 HRB4
          clear hw4 htg2 p0 p1 p2 pf0 pf1 pf2 s0 s1 s2 sf0 sf1 sf2 rc0 rc1 rc2 rf0 rf1 rf2
          go_wp2_with (at_builtin; go_must (refine wpList_append_own_at _ rfl _ _ 107 rfl w.heap.size 117 i117 _ 3 56 Yba.underlying107 hi117 hy0 hy1 hy2 rfl (by decide) (.slice ra S.length rcp) S.length (S.flatMap rcells) rfl (World.ownsRow.alloc HA2.out.rrow _) ⟨w4.heap.size, 0, none⟩ 1 1 (rcells (newG r.key)) rfl rfl (cells_new _ _ _) (fun u hu => by simp [rcells, newG] at hu; rcases hu with rfl | rfl | rfl <;> rfl) (by have := HS.out; unfold maxLen; omega) (by have := HS.out; omega) (by have := HA2.out.blocks; simp; omega) ?_; intro v5 w5 ho5 hg5 hnl5 hloc5; obtain ⟨qa, qc, rfl⟩ := own_slice ho5; have hb5 := HA2.out.below (al1 w4 (.cells (rcells (newG r.key)).toArray 117)); have HA3 : Hid (GI w (S ++ [newG r.key]) (.slice va (S.length + 1) vc) (.slice qa (S.length + 1) qc) mb (D.put (.string r.key) (.lit (.int .i64 S.length))) (reTag tg2 (Value.slice qa (S.length + 1) qc).ownBlock 2) w5) := hb5.grow3 ho5 hg5 hloc5; have HRB5 : Hid (w5.heap[rb]? = some (.cells #[encStr r.key, .slice xa xm xc, .bool r.no] 31 (0, 0)) ∧ reTag tg2 (Value.slice qa (S.length + 1) qc).ownBlock 2 rb = 6) := keep6_3 hb5 hg5 hloc5 (alloc_keeps HRB4.out.1) HRB4.out.2; clear ho5 hg5 hnl5 hloc5 hb5))
          go_meet
          refine ⟨rfl, S ++ [newG r.key], _, mb, _, _, S.length, newG r.key, rfl, by simp, rfl, HA3.out, ?_, HB.out.grow _, by have := HS.out; simp; omega, HRB5.out.1, HRB5.out.2⟩
          rw [List.map_append]
          exact HP.out.grow r.key (by rw [List.any_map]; exact HNY.out)
      case rest =>
        clear HG1 HRB HTG HP HB HS HAT HHB s0 s1 s2 sf0 sf1 sf2 rc0 rc1 rc2 rf0 rf1 rf2
        obtain ⟨rfl, S', cv', mb', D', tg', i, g, rfl, hi, hgk, hG, hP, hB, hS, hRB, h6⟩ := hcut
        have hil := lt_of_get hi
        obtain ⟨cg, cc, rfl⟩ := own_some hG.crow (by omega)
        obtain ⟨rg, rcp, rfl⟩ := own_some hG.rrow (by omega)
        obtain ⟨m', em'⟩ : ∃ m', m' = S'.length := ⟨_, rfl⟩
        have HG : Hid (GI w S' (.slice (some ⟨cg, 0, none⟩) S'.length cc) (.slice (some ⟨rg, 0, none⟩) S'.length rcp) mb' D' tg' wc) := hG
        have HI : Hid (S'[i]? = some g) := hi
        have HK : Hid (g.c.key = r.key) := hgk
        have HP : Hid (PInv (R.take k) (S'.map (·.c))) := hP
        have HB : Hid (Bnd (R.take k) S') := hB
        have HS : Hid (S'.length ≤ k + 1) := hS
        have HRB : Hid (wc.heap[rb]? = some (.cells #[encStr r.key, .slice xa xm xc, .bool r.no] 31 (0, 0))) := hRB
        have H6 : Hid (tg' rb = 6) := h6
        clear hi hgk hG hP hB hS hRB h6
        have HVS : Hid (∀ L, r.vals = some L → Short L) := fun L hL => by
          rcases HQ.out.val k r HRk.out with ⟨h, _⟩ | ⟨L', g', c', h, _, _, hs⟩
          · rw [h] at hL; cases hL
          · rw [h] at hL; cases hL; exact hs
        obtain ⟨s0, s1, s2, sf0, sf1, sf2⟩ := cells3 HG.out.svar
        obtain ⟨rc0, rc1, rc2, rf0, rf1, rf2⟩ := cells3 HRB.out
        obtain ⟨k1, k2, kf1, kf2⟩ := HG.out.ccell HI.out
        have hrn : ∀ x, x = m' → x = S'.length := fun x hx => hx.trans em'
        obtain ⟨no, hno⟩ : ∃ b, b = r.no := ⟨_, rfl⟩
        rw [← hno] at rc2
        have HNO : Hid (no = r.no) := hno
        clear hno hrn em'
        rcases HQ.out.val k r HRk.out with ⟨hv, hvn⟩ | ⟨L, vg, vc, hv, hvs, hrow, hsh⟩
        · have hx := HVK.out.symm.trans hvn
          simp only [Value.slice.injEq] at hx
          obtain ⟨rfl, rfl, rfl⟩ := hx
          have q1 := eqSl_none
          have HV : Hid (r.vals = none) := hv
          clear hvn hv
          cases no with
          | true =>
            go_wp2
            refine ⟨⟨k + 1, by go_num, by omega, ?_⟩, ?_⟩
            · refine GL.next HRk.out HVS.out HI.out HK.out HP.out HB.out HS.out (g' := ⟨g.c.step r, g.iv, g.nv⟩) rfl (HG.out.setC (j := 2) (v := .bool true) HI.out (by decide) (step_key _ _) ?_ ?_ ?_ ?_) <;> simp [Cl.step, HV.out, ← HNO.out, ccells]
            · simp [intOf]; omega
          | false =>
            go_wp2
            refine ⟨⟨k + 1, by go_num, by omega, ?_⟩, ?_⟩
            · refine GL.next HRk.out HVS.out HI.out HK.out HP.out HB.out HS.out (g' := ⟨g.c.step r, g.iv, g.nv⟩) rfl (HG.out.setC (j := 1) (v := .bool true) HI.out (by decide) (step_key _ _) ?_ ?_ ?_ ?_) <;> simp [Cl.step, HV.out, ← HNO.out, ccells]
            · simp [intOf]; omega
        · have hx := HVK.out.symm.trans hvs
          simp only [Value.slice.injEq] at hx
          obtain ⟨rfl, rfl, rfl⟩ := hx
          have q1 := eqSl_some
          have HV : Hid (r.vals = some L) := hv
          have HSH : Hid (Short L) := hsh
          rw [hvs] at hrow
          have HVR : Hid (SRow A wc (.slice (some ⟨vg, 0, none⟩) L.length xc) L) := hrow.turns (Turns.of_below (R := fun _ => False) HG.out.old) (fun _ _ h => h)
          have hvg : vg < w.heap.size := (hrow.lt vg rfl).2
          clear hvs hv hrow hsh
          cases no with
          | true =>
            have HBs : Hid (w.heap.size ≤ wc.heap.size) := HG.out.old.size
            have HRR : Hid (RB wc rg (i * 3) g.iv g.c.res g.nv) := HG.out.rb HI.out
            have HNR : Hid (SRow w.heap.size wc g.nv g.c.nl) := (HG.out.rows i g HI.out).2
            have HNE : Hid (g.nv.ownBlock ≠ some rg) := tag_ne (HG.out.ti i g HI.out).2 (HG.out.tr rg rfl) (by omega)
            have HSZ : Hid (g.c.nl.length + L.length ≤ 4194304) := by
              have h1 := (HB.out g (List.mem_of_getElem? HI.out)).2.1
              have h2 := tot_take R k
              have h3 := tot_mem HRk.out
              have h4 := HT.out
              rw [HV.out, Option.getD_some] at h3
              show g.c.nl.length + L.length ≤ 4194304
              omega
            go_upto_region 22 with fail
            go_region_with (go_at_call 14; go_must (refine (forbid_any rg (i * 3) w.heap.size A vg L.length xc g.iv g.nv g.c.res g.c.nl L wc.drew HBs.out HRR.out HNR.out HNE.out HVR.out HSZ.out).mono ?_; rintro e w2 ⟨rfl, w1', nv', rfl, hs, hg, hloc⟩; obtain ⟨tg2, hF⟩ := GI.forbid HG.out HI.out hs ⟨hg.os, hg.tape, hg.output, hg.size, hg.block⟩ hloc; have HF : Hid (GI w (S'.set i ⟨{ g.c with nl := g.c.nl ++ L }, g.iv, nv'⟩) (.slice (some ⟨cg, 0, none⟩) S'.length cc) (.slice (some ⟨rg, 0, none⟩) S'.length rcp) mb' D' tg2 (w1'.setCell ⟨rg, i * 3 + 2, none⟩ nv')) := hF; clear hs hg hloc hF))
            all_goals (
              go_wp2
              refine ⟨⟨k + 1, by go_num, by omega, ?_⟩, ?_⟩
              · exact GL.next HRk.out HVS.out HI.out HK.out HP.out HB.out HS.out (by simp [Cl.step, HV.out, ← HNO.out]) HF.out
              · simp [intOf]; omega)
          | false =>
            have hsl : (S'.set i ⟨{ g.c with pres := true }, g.iv, g.nv⟩).length = S'.length := List.length_set
            have h1 := HG.out.setC (j := 1) (c' := { g.c with pres := true }) (v := .bool true) HI.out (by decide) rfl rfl rfl rfl rfl
            have HI1 : Hid ((S'.set i ⟨{ g.c with pres := true }, g.iv, g.nv⟩)[i]? = some ⟨{ g.c with pres := true }, g.iv, g.nv⟩) := List.getElem?_set_self (lt_of_get HI.out)
            have HSS : Hid (∀ x, (S'.set i ⟨{ g.c with pres := true }, g.iv, g.nv⟩).set i x = S'.set i x) := fun x => List.set_set _
            have HRB1 : Hid ((wc.setCell ⟨cg, i * 6 + 1, none⟩ (.bool true)).heap[rb]? = some (.cells #[encStr r.key, .slice (some ⟨vg, 0, none⟩) L.length xc, .bool r.no] 31 (0, 0))) := by
              show (wc.setCell ⟨cg, i * 6 + 1, none⟩ (.bool true)).heap[rb]? = _
              rw [heap_setCell_other _ _ _ _ (fun e => by have h6 := H6.out; have hc := HG.out.tc cg rfl; simp only at e; rw [e, hc] at h6; cases h6)]
              exact HRB.out
            have HVR1 : Hid (SRow A (wc.setCell ⟨cg, i * 6 + 1, none⟩ (.bool true)) (.slice (some ⟨vg, 0, none⟩) L.length xc) L) := ownsRow_setCell_other HVR.out (fun e => by have := (HG.out.crow.lt cg rfl).1; have := Option.some.inj e; simp only at this; omega) _
            obtain ⟨S1, hS1⟩ : ∃ S1, S1 = S'.set i ⟨{ g.c with pres := true }, g.iv, g.nv⟩ := ⟨_, rfl⟩
            rw [← hS1] at hsl h1 HI1 HSS
            have h1 : GI w S1 (.slice (some ⟨cg, 0, none⟩) S'.length cc) (.slice (some ⟨rg, 0, none⟩) S1.length rcp) mb' D' tg' (wc.setCell ⟨cg, i * 6 + 1, none⟩ (.bool true)) := by rw [hsl]; exact h1
            have HSL : Hid (S1.length = S'.length) := hsl
            have HG1 : Hid (GI w S1 (.slice (some ⟨cg, 0, none⟩) S'.length cc) (.slice (some ⟨rg, 0, none⟩) S1.length rcp) mb' D' tg' (wc.setCell ⟨cg, i * 6 + 1, none⟩ (.bool true))) := h1
            clear h1 hsl hS1
            go_upto_region 16 with fail
            obtain ⟨wd, hwd⟩ : ∃ x, x = wc.setCell ⟨cg, i * 6 + 1, none⟩ (.bool true) := ⟨_, rfl⟩
            rw [← hwd] at HG1 HRB1 HVR1
            simp only [← hwd]
            clear hwd s0 s1 s2 sf0 sf1 sf2 rc0 rc1 rc2 rf0 rf1 rf2 k1 k2 kf1 kf2
            obtain ⟨rc0, rc1, rc2, rf0, rf1, rf2⟩ := cells3 HRB1.out
            have HBs : Hid (w.heap.size ≤ wd.heap.size) := HG1.out.old.size
            have HRR : Hid (RB wd rg (i * 3) g.iv g.c.res g.nv) := by have h := HG1.out.rb HI1.out; exact h
            have HIR : Hid (SRow w.heap.size wd g.iv g.c.il) := by have h := HG1.out.rows i _ HI1.out; exact h.1
            have HNE : Hid (g.iv.ownBlock ≠ some rg) := by have h := HG1.out.ti i _ HI1.out; exact tag_ne h.1 (HG1.out.tr rg rfl) (by omega)
            have HNE2 : Hid (g.iv.ownBlock ≠ some vg) := fun e => by have := (HIR.out.lt vg e).1; omega
            have HSZ : Hid (L.length ≤ 4194304) := by
              have h3 := tot_mem HRk.out
              have h4 := HT.out
              rw [HV.out, Option.getD_some] at h3
              show L.length ≤ 4194304
              omega
            have HIS : Hid (Short g.c.il) := (HB.out g (List.mem_of_getElem? HI.out)).2.2.1
            obtain ⟨res, hres⟩ : ∃ b, b = g.c.res := ⟨_, rfl⟩
            have HRS : Hid (res = g.c.res) := hres
            cases res with
            | false =>
              rw [← hres] at HRR
              clear hres
              go_region_with (go_at_call 15; go_must (refine (allow_first rg (i * 3) w.heap.size A vg L.length xc g.iv g.nv L wd.drew HBs.out HRR.out HVR1.out HSZ.out).mono ?_; rintro e w2 ⟨rfl, w1', iv', hw2, hs, hg, hloc⟩; obtain ⟨tg2, hF⟩ := GI.allow HG1.out HI1.out hs (row := none) ⟨hg.os, hg.tape, hg.output, hg.size, hg.block⟩ (.inl rfl) (hloc.imp id .inr) (.inl hw2); rw [HSS.out, HSL.out] at hF; have HF : Hid (GI w (S'.set i ⟨{ g.c with pres := true, res := true, il := L }, iv', g.nv⟩) (.slice (some ⟨cg, 0, none⟩) S'.length cc) (.slice (some ⟨rg, 0, none⟩) S'.length rcp) mb' D' tg2 w2) := hF; clear hs hg hloc hF hw2))
              all_goals (
                go_wp2
                refine ⟨⟨k + 1, by go_num, by omega, ?_⟩, ?_⟩
                · exact GL.next HRk.out HVS.out HI.out HK.out HP.out HB.out HS.out (by simp [Cl.step, HV.out, ← HNO.out, ← HRS.out]) HF.out
                · simp [intOf]; omega)
            | true =>
              rw [← hres] at HRR
              clear hres
              go_region_with (go_at_call 15; go_must (refine (allow_more rg (i * 3) w.heap.size A vg L.length xc g.iv g.nv g.c.il L wd.drew HBs.out HRR.out HIR.out HNE.out HNE2.out HVR1.out HSH.out HIS.out).mono ?_; rintro e w2 ⟨rfl, w1', iv', hw2, hs, hg, hloc⟩; obtain ⟨tg2, hF⟩ := GI.allow HG1.out HI1.out hs (row := g.iv.ownBlock) ⟨hg.os, hg.tape, hg.output, hg.size, hg.block⟩ (.inr rfl) (.inr (.inl hloc)) (.inr ⟨HRS.out.symm, hw2⟩); rw [HSS.out, HSL.out] at hF; have HF : Hid (GI w (S'.set i ⟨{ g.c with pres := true, res := true, il := g.c.il.filter (fun x => L.contains x) }, iv', g.nv⟩) (.slice (some ⟨cg, 0, none⟩) S'.length cc) (.slice (some ⟨rg, 0, none⟩) S'.length rcp) mb' D' tg2 w2) := hF; clear hs hg hloc hF hw2))
              all_goals (
                go_wp2
                refine ⟨⟨k + 1, by go_num, by omega, ?_⟩, ?_⟩
                · exact GL.next HRk.out HVS.out HI.out HK.out HP.out HB.out HS.out (by simp [Cl.step, HV.out, ← HNO.out, ← HRS.out]) HF.out
                · simp [intOf]; omega)
    · obtain rfl : k = n := by omega
      obtain ⟨S, cv, mb, D, tg, hG, hP, hB, hS⟩ := hL
      have hL2 := GL.turn HN.out hG hP hB
      have HLL : Hid (S.length ≤ k) := hS
      have hsm : S.length ≤ 1048576 := by omega
      obtain ⟨ca, cc, rfl⟩ := own_slice hG.crow
      obtain ⟨ra, rcp, rfl⟩ := own_slice hG.rrow
      obtain ⟨s0, s1, s2, sf0, sf1, sf2⟩ := cells3 hG.svar
      obtain ⟨m, em⟩ : ∃ m, m = S.length := ⟨_, rfl⟩
      rw [← em] at hL2 hsm s0 ⊢
      have HL2 : Hid (GL2 w R m 0 (.slice ca m cc) (.slice ra m rcp) wr) := hL2
      clear hG hP hB hS hL2 em HLL hn hc hcap hn63
      have hm63 : m ≤ 9223372036854775807 := by omega
      go_wp2
      go_loopw [97] (fun p wr2 => ∃ i : Nat, p = .int .i64 i ∧ i ≤ m ∧ GL2 w R m i (.slice ca m cc) (.slice ra m rcp) wr2) (fun p _ => m - (intOf p).toNat)
      case atStart => exact ⟨0, rfl, Nat.zero_le _, HL2.out⟩
      case round =>
        obtain ⟨i, rfl, hi, hL⟩ := hrel
        obtain ⟨Xs, q, mb2, D2, tg2, hG, hP, hm, hq⟩ := hL
        clear s0 s1 s2 sf0 sf1 sf2
        have HP : Hid (PInv R (Xs.map (·.g.c))) := hP
        have HM : Hid (Xs.length = m) := hm
        have HQQ : Hid (q = ((Xs.take i).filter (fun x => x.g.c.pres)).length) := hq
        have hqs : q ≤ 1048576 := by
          have h1 := List.length_filter_le (fun x => x.g.c.pres) (Xs.take i)
          rw [List.length_take] at h1
          omega
        by_cases hlt2 : i < m
        · obtain ⟨x, hx⟩ : ∃ x, Xs[i]? = some x := ⟨Xs[i]'(by omega), by simp [hm, hlt2]⟩
          obtain ⟨cg, cc', hcv⟩ := own_some hG.crow (by omega)
          simp only [Value.slice.injEq] at hcv
          obtain ⟨rfl, -, rfl⟩ := hcv
          obtain ⟨rg, rc', hrv⟩ := own_some hG.rrow (by omega)
          simp only [Value.slice.injEq] at hrv
          obtain ⟨rfl, -, rfl⟩ := hrv
          have hGx : GI2 w i Xs (.slice (some ⟨cg, 0, none⟩) Xs.length cc) (.slice (some ⟨rg, 0, none⟩) Xs.length rcp) mb2 q D2 tg2 wr := by rw [hm]; exact hG
          obtain ⟨s0, s1, s2, sf0, sf1, sf2⟩ := cells3 hG.svar
          have HG : Hid (GI2 w i Xs (.slice (some ⟨cg, 0, none⟩) Xs.length cc) (.slice (some ⟨rg, 0, none⟩) Xs.length rcp) mb2 q D2 tg2 wr) := hGx
          have HX : Hid (Xs[i]? = some x) := hx
          have HRR : Hid (RB wr rg (i * 3) x.g.iv x.g.c.res x.g.nv) := hGx.rb hx
          have hr2 := hGx.rows i x hx (Nat.le_refl _)
          have ht2 := hGx.ti i x hx (Nat.le_refl _)
          have HR2 : Hid (SRow w.heap.size wr x.g.iv x.g.c.il ∧ SRow w.heap.size wr x.g.nv x.g.c.nl) := hr2
          have HNE : Hid (x.g.iv.ownBlock ≠ some rg) := tag_ne ht2.1 (hGx.tr rg rfl) (by omega)
          have HNE2 : Hid (x.g.iv.ownBlock = none ∨ x.g.nv.ownBlock ≠ x.g.iv.ownBlock) := by
            cases hv : x.g.iv.ownBlock with
            | none => exact .inl rfl
            | some b => exact .inr (tag_ne ht2.2 (ht2.1 b hv) (by omega))
          have HSH : Hid (Short x.g.c.il ∧ Short x.g.c.nl) := hGx.short x (List.mem_of_getElem? hx)
          clear hGx hG hP hm hq hx hr2 ht2
          go_upto_region 29 with (go_at_call 16; go_must (refine (rule_any rg (i * 3) w.heap.size x.g.iv x.g.nv x.g.c.res x.g.c.il x.g.c.nl _ HRR.out HR2.out.1 HR2.out.2 HNE.out HNE2.out HSH.out.2 HSH.out.1).mono ?_; rintro e w1 ⟨fv, mv, rfl, hs, hT, hl⟩; obtain ⟨fa, fn, fc, mo, rfl, rfl⟩ := hs.shape; obtain ⟨a3, a4, a5, b3, b4, b5⟩ := GI2.after HG.out HX.out hT; obtain ⟨tg3, hF⟩ := GI2.rule HG.out HX.out hs hT hl; have HF : Hid (GI2 w (i + 1) (Xs.set i ⟨x.g, .slice fa fn fc, .map mo, .bool x.g.c.res⟩) (.slice (some ⟨cg, 0, none⟩) Xs.length cc) (.slice (some ⟨rg, 0, none⟩) Xs.length rcp) mb2 q D2 tg3 (((w1.setCell ⟨cg, i * 6 + 3, none⟩ (.slice fa fn fc)).setCell ⟨cg, i * 6 + 4, none⟩ (.map mo)).setCell ⟨cg, i * 6 + 5, none⟩ (.bool x.g.c.res))) := hF; clear hs hT hl hF))
          obtain ⟨w2, hw2⟩ : ∃ y, y = ((w1.setCell ⟨cg, i * 6 + 3, none⟩ (.slice fa fn fc)).setCell ⟨cg, i * 6 + 4, none⟩ (.map mo)).setCell ⟨cg, i * 6 + 5, none⟩ (.bool x.g.c.res) := ⟨_, rfl⟩
          rw [← hw2, HM.out] at HF
          simp only [← hw2]
          clear hw2 a3 a4 a5 b3 b4 b5 s0 s1 s2 sf0 sf1 sf2
          have HX2 : Hid ((Xs.set i ⟨x.g, .slice fa fn fc, .map mo, .bool x.g.c.res⟩)[i]? = some ⟨x.g, .slice fa fn fc, .map mo, .bool x.g.c.res⟩) := List.getElem?_set_self (lt_of_get HX.out)
          obtain ⟨s0, s1, s2, sf0, sf1, sf2⟩ := cells3 HF.out.svar
          have hpc := HF.out.pres (by rw [List.length_set]; exact HM.out.symm) HX2.out
          simp only at hpc
          obtain ⟨pr, hpr⟩ : ∃ b, b = x.g.c.pres := ⟨_, rfl⟩
          rw [← hpr] at hpc
          have HPR : Hid (pr = x.g.c.pres) := hpr
          clear hpr
          cases pr with
          | true =>
            go_wp2
            refine ⟨⟨i + 1, by go_num, by omega, ?_⟩, ?_⟩
            · exact GL2.next (x' := ⟨x.g, .slice fa fn fc, .map mo, .bool x.g.c.res⟩) HX.out rfl HF.out.count HP.out HM.out HQQ.out (by rw [← HPR.out]; simp)
            · simp [intOf]; omega
          | false =>
            go_wp2
            refine ⟨⟨i + 1, by go_num, by omega, ?_⟩, ?_⟩
            · exact GL2.next (x' := ⟨x.g, .slice fa fn fc, .map mo, .bool x.g.c.res⟩) HX.out rfl HF.out HP.out HM.out HQQ.out (by rw [← HPR.out]; simp)
            · simp [intOf]; omega
        · obtain rfl : i = m := by omega
          obtain ⟨s0, s1, s2, sf0, sf1, sf2⟩ := cells3 hG.svar
          obtain ⟨r0, r1, r2, rf0, rf1, rf2⟩ := cells3 hG.res
          have HG : Hid (GI2 w Xs.length Xs (.slice ca i cc) (.slice ra i rcp) mb2 q D2 tg2 wr) := by rw [hm]; exact hG
          have HL : Hid (i ≤ 1048576) := hsm
          clear hG hP hm hq
          go_wp2
          try simp only [Exit.inBlock, Exit.then]
          refine bodyPost_ret_by (results_cell_row rfl _ _ w.heap.size 39 #[.slice ca i cc, .map (some mb2), .int .i64 q] (0, 0) _ rfl (set3 _ _ _ _ _ _ _ _ _ HG.out.res) Yba.underlying39 rfl Yba.size39) rfl ?_
          refine ⟨Xs, _, _, q, rfl, HG.out.ends.1, HP.out, ?_, ?_, HG.out.ends.2⟩
          · rw [HQQ.out, ← HM.out, List.take_length]
          · rw [HM.out]; exact HL.out

set_option maxRecDepth 100000 in
set_option maxHeartbeats 3200000 in
theorem gather_nil (a : Option Addr) (cap : Nat) (w : World) : Calls Yba.prog 7 #[.slice a 0 cap] w (GPost [] w) := by
  have hres : (w.alloc (.cells #[.slice none 0 0, .map none, .int .i64 0] 39)).heap[w.heap.size]? = some (.cells #[.slice none 0 0, .map none, .int .i64 0] 39 (0, 0)) := heap_alloc_new _ _
  have HRES : Hid (((w.alloc (.cells #[.slice none 0 0, .map none, .int .i64 0] 39)).alloc (.cells #[.slice none 0 0, .map none, .int .i64 0] 39)).heap[w.heap.size]? = some (.cells #[.slice none 0 0, .map none, .int .i64 0] 39 (0, 0))) := alloc_keeps hres
  clear hres
  go_enter Yba.func7, Yba.ntmps7
  go_wp2
  go_loopw [19] (fun p wr => p = .int .i64 0 ∧ wr = (w.alloc (.cells #[.slice none 0 0, .map none, .int .i64 0] 39)).alloc (.cells #[.slice none 0 0, .map none, .int .i64 0] 39)) (fun _ _ => 0)
  case atStart => exact ⟨rfl, rfl⟩
  case round =>
    obtain ⟨rfl, rfl⟩ := hrel
    go_wp2
    go_loopw [97] (fun p wr => p = .int .i64 0 ∧ wr = (w.alloc (.cells #[.slice none 0 0, .map none, .int .i64 0] 39)).alloc (.cells #[.slice none 0 0, .map none, .int .i64 0] 39)) (fun _ _ => 0)
    case atStart => exact ⟨rfl, rfl⟩
    case round =>
      obtain ⟨rfl, rfl⟩ := hrel
      go_wp2
      try simp only [Exit.inBlock, Exit.then]
      refine bodyPost_ret_by (results_cell_row rfl _ _ w.heap.size 39 #[.slice none 0 0, .map none, .int .i64 0] (0, 0) _ rfl HRES.out Yba.underlying39 rfl Yba.size39) rfl ?_
      exact ⟨[], _, _, 0, rfl, ⟨⟨0, World.ownsRow_nil _ _ _ _⟩, fun j x h => by simp at h, .inl ⟨rfl, rfl⟩⟩, PInv.nil, rfl, by simp, al2 _ _ _⟩

end Go.Proofs.Ybulkegqe.lawS6647AWhole
