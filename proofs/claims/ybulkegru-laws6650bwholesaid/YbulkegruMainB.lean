import Derived.Test.YbulkegruSpecial
import Derived.Deep.CutBlock
import Derived.Laws.Closers25b
namespace Go.Proofs.Ybulkegru
set_option linter.unusedVariables false
set_option linter.unusedSimpArgs false
open Go.RowKit

def U64N (b : Nat) : Prop := b < 18446744073709551616
def U64I (b : Int) : Prop := 0 ≤ b ∧ b ≤ 18446744073709551615
theorem u64_mk (x : Int) (h : U64I x) : ∃ b : Nat, U64N b ∧ Value.int .u64 x = .int .u64 (b : Int) := by
  unfold U64I at h
  exact ⟨x.toNat, by unfold U64N; omega, by rw [Int.toNat_of_nonneg h.1]⟩
theorem u64_bits (op : BinOp) (a b : Int) : U64I (bits op .u64 a b) := ⟨bits_lo_u64 op a b, bits_hi_u64 op a b⟩

def wantS (b : Nat) : ByteArray := if b = infW then ⟨#[43, 73, 110, 102]⟩ else if b = ninfW then ⟨#[45, 73, 110, 102]⟩ else ⟨#[78, 97, 78]⟩
theorem want_size (b : Nat) : (wantS b).size = (textOf b).length := by
  unfold wantS textOf
  split
  · rfl
  · split <;> rfl
theorem want_at (b k : Nat) (h : k < (wantS b).size) : (textOf b).getD k 0 = (((wantS b)[k]'h).toNat : Int) := by
  have e : textOf b = (wantS b).data.toList.map fun c => ((c.toNat : Nat) : Int) := by
    unfold wantS textOf
    split
    · rfl
    · split <;> rfl
  have hk : k < (wantS b).data.toList.length := by simpa using h
  rw [e]
  simp only [List.getD, List.getElem?_map, List.getElem?_eq_getElem hk, Option.map_some, Option.getD_some]
  rfl

theorem src_at {w : World} {a : Option Addr} {n c : Nat} {xs : List Int} (h : Src w a n c xs) (hn : 0 < n) :
    ∃ b off, a = some ⟨b, off, none⟩ ∧ b < w.heap.size ∧ ∀ j, j < n → w.cell? ⟨b, off + j, none⟩ = some (.int .u8 (xs.getD j 0)) := by
  cases a with
  | none => have := (h.nil rfl).1; omega
  | some ad =>
    have hxl := h.len
    have hg : ∀ j, j < n → (xs.map (Value.int .u8))[j]? = some (.int .u8 (xs.getD j 0)) := by
      intro j hj
      simp only [List.getElem?_map, List.getElem?_eq_getElem (show j < xs.length by omega), Option.map_some, List.getD, Option.getD_some]
    obtain ⟨b, off, spot⟩ := ad
    have c0 := h.cell _ rfl 0 _ (hg 0 (by omega))
    have hspot : spot = none := by simpa [Addr.add] using World.cell?_spot c0
    subst hspot
    refine ⟨b, off, rfl, ?_, fun j hj => ?_⟩
    · have := World.block_lt_of_cell? w _ c0
      simpa [Addr.add] using this
    · rw [← Go.WideShapes.add_plain]
      exact h.cell _ rfl j _ (hg j hj)

theorem Yba.size5 : (Yba.prog.info? 5).map (·.size) = some 1 := by kernel_rfl

theorem own_full {w : World} {base g n : Nat} {e : TypeId} {xs : List Value} (h : w.ownsRow base e 1 (.slice (some ⟨g, 0, none⟩) n n) n xs) : w.heap[g]? = some (.cells xs.toArray e (0, 0)) := by
  rcases h.2 with ⟨h, _⟩ | ⟨g', cap, cur, hv, hg, hh, _, _, hs, ht⟩
  · simp at h
  · simp only [Value.slice.injEq, Option.some.injEq, Addr.mk.injEq, and_true] at hv
    obtain ⟨rfl, _, rfl⟩ := hv
    rw [hh, ← ht, List.take_of_length_le (by simp [hs])]

theorem splice_all (n : Nat) (z : Value) (xs : List Value) (h : xs.length = n) : splice (List.replicate n z) 0 xs = xs := by simp [splice, h]

theorem row_cell {w : World} {g : Nat} {xs : List Int} (h : w.heap[g]? = some (.cells (xs.map (Value.int .u8)).toArray 5 (0, 0))) : ∀ j u, (xs.map (Value.int .u8))[j]? = some u → w.cell? ((⟨g, 0, none⟩ : Addr).add j) = some u := by
  intro j u hu
  rw [Go.WideShapes.add_plain, Nat.zero_add, cell_of_row _ _ _ _ _ _ h]
  simpa using hu

/-- appendSpecial, as the law asks of it. -/
theorem special_want (gi n : Nat) (xs : List Int) (b : Nat) (w : World) (hb : U64N b) (hl : xs.length = n) (hn : n ≤ 1048576) (hc : ∀ j u, (xs.map (Value.int .u8))[j]? = some u → w.cell? ((⟨gi, 0, none⟩ : Addr).add j) = some u) :
    Calls Yba.prog 8 #[.slice (some ⟨gi, 0, none⟩) n n, .float .f64 b] w fun e w' => ∃ cap, e = .returned (.slice (some ⟨w.heap.size, 0, none⟩) (n + (wantS b).size) cap) ∧
      (∀ j, j < n → w'.cell? ⟨w.heap.size, j, none⟩ = some (.int .u8 (xs.getD j 0))) ∧ (∀ k (h : k < (wantS b).size), w'.cell? ⟨w.heap.size, n + k, none⟩ = some (.int .u8 (((wantS b)[k]'h).toNat : Int))) ∧ w.heap.size < w'.heap.size ∧ Below w.heap.size w w' := by
  refine (special_any ⟨gi, 0, none⟩ n xs b w hb hl hn hc).mono ?_
  rintro e w5 ⟨cap, rfl, o5, b5⟩
  have hs := want_size b
  refine ⟨cap, by rw [hs], ?_, ?_, (World.ownsRow.lt o5 w.heap.size rfl).2, b5⟩
  · intro j hj
    have o6 : w5.ownsRow w.heap.size 5 1 (.slice (some ⟨w.heap.size, 0, none⟩) (n + (textOf b).length) cap) (n + (textOf b).length) ((xs ++ textOf b).map (Value.int .u8)) := by
      have e : (xs ++ textOf b).length = n + (textOf b).length := by rw [List.length_append, hl]
      have := o5
      unfold Own at this
      rw [e] at this
      exact this
    rw [o6.cellAt j (by omega)]
    simp only [List.getElem?_map, List.getElem?_append_left (show j < xs.length by omega), List.getElem?_eq_getElem (show j < xs.length by omega), Option.map_some, List.getD, Option.getD_some]
  · intro k hk
    have o6 : w5.ownsRow w.heap.size 5 1 (.slice (some ⟨w.heap.size, 0, none⟩) (n + (textOf b).length) cap) (n + (textOf b).length) ((xs ++ textOf b).map (Value.int .u8)) := by
      have e : (xs ++ textOf b).length = n + (textOf b).length := by rw [List.length_append, hl]
      have := o5
      unfold Own at this
      rw [e] at this
      exact this
    rw [o6.cellAt (n + k) (by omega), ← want_at b k hk]
    simp only [List.getElem?_map, List.getElem?_append_right (show xs.length ≤ n + k by omega), show n + k - xs.length = k by omega, List.getElem?_eq_getElem (show k < (textOf b).length by omega), Option.map_some, List.getD, Option.getD_some]

set_option maxRecDepth 100000 in
set_option maxHeartbeats 3200000 in
theorem lawB (a0 : Option Addr) (len0 cap0 : Nat) (X : List Int) (sel raw : Int) (w : World)
    (h0 : Src w a0 len0 cap0 X) (hl0 : len0 ≤ 1048576) (hsel : 0 ≤ sel ∧ sel ≤ 255) (hraw : U64I raw) :
    Calls Yba.prog 4 #[.slice a0 len0 cap0, .int .u8 sel, .int .u64 raw] w fun e w' => e = .returned (.bool true) ∧ Below w.heap.size w w' := by
  have S0 : Hid (Src w a0 len0 cap0 X) := h0
  clear h0
  go_enter Yba.func4, Yba.ntmps4
  go_upto_block 0 with fail
  go_cut [7] (fun p wc => (∃ b : Nat, U64N b ∧ p = .int .u64 (b : Int)) ∧ wc = w)
  case first =>
    go_wp2_with fail
    all_goals
      go_meet
      refine ⟨u64_mk _ ?_, rfl⟩
      first | exact hraw | exact u64_bits _ _ _ | (unfold U64I; omega)
  case rest =>
    obtain ⟨⟨b, hb, rfl⟩, hw⟩ := hcut
    obtain rfl := hw.symm
    have HB : Hid (U64N b) := hb
    clear hb hraw
    go_upto_if 33 with fail
    go_cut [8] (fun p wc => p = .string (wantS b) ∧ wc = w)
    case first =>
      by_cases h1 : b = infW
      · have t1 : ((b : Int) == 9218868437227405312) = true := by simp [h1, infW]
        have E : Hid (wantS b = ⟨#[43, 73, 110, 102]⟩) := (by unfold wantS; rw [if_pos h1] : wantS b = ⟨#[43, 73, 110, 102]⟩)
        clear h1
        go_wp2_with fail
        go_meet
        exact ⟨by rw [E.out], rfl⟩
      · have t1 : ((b : Int) == 9218868437227405312) = false := by
          have : ¬ (b : Int) = 9218868437227405312 := by unfold infW at h1; omega
          simp [this]
        by_cases h2 : b = ninfW
        · have t2 : ((b : Int) == 18442240474082181120) = true := by simp [h2, ninfW]
          have E : Hid (wantS b = ⟨#[45, 73, 110, 102]⟩) := (by unfold wantS; rw [if_neg h1, if_pos h2] : wantS b = ⟨#[45, 73, 110, 102]⟩)
          clear h1 h2
          go_wp2_with fail
          go_meet
          exact ⟨by rw [E.out], rfl⟩
        · have t2 : ((b : Int) == 18442240474082181120) = false := by
            have : ¬ (b : Int) = 18442240474082181120 := by unfold ninfW at h2; omega
            simp [this]
          have E : Hid (wantS b = ⟨#[78, 97, 78]⟩) := (by unfold wantS; rw [if_neg h1, if_neg h2] : wantS b = ⟨#[78, 97, 78]⟩)
          clear h1 h2
          go_wp2_with fail
          go_meet
          exact ⟨by rw [E.out], rfl⟩
    case rest =>
      obtain ⟨rfl, hw⟩ := hcut
      obtain rfl := hw.symm
      obtain ⟨i5, hi5, hz0, hz1, hz2⟩ := info_parts Yba.info5
      have hXl := S0.out.len
      have HX : Hid (X.length = len0) := hXl
      clear hXl
      go_upto_region 21 with (at_make; go_must (refine wpList_make_full _ rfl _ _ 22 rfl w.heap.size 5 i5 (.int .u8 0) 1 Yba.underlying22 hi5 hz0 hz1 _ _ _ _ len0 rfl rfl rfl rfl (by rw [hz2]; omega) (by unfold maxLen; omega) (Nat.le_refl _) ?_; intro wd own3 grow3))
      have hq := own_full own3
      rw [show (Value.int IntKind.u8 0).cells = #[Value.int IntKind.u8 0] from rfl, toList_madeCells_one, Nat.mul_one] at hq
      have hbd : Below w.heap.size w wd := (Below.refl _ w).grown grow3 (Nat.le_refl _) (fun k h => by cases h)
      have hdl : w.heap.size < wd.heap.size := (own3.lt w.heap.size rfl).2
      have S1 := S0.out.below hbd
      clear own3 grow3 hi5 hz0 hz1 hz2
      have hfb := fun w' => frombits (b : Int) w'
      simp only [Int.toNat_natCast] at hfb
      have hTS := want_size b
      have HTS : Hid ((wantS b).size = (textOf b).length) := hTS
      have hT2 := textOf_len b
      clear hTS
      go_wp2_with (refine wpList_copy_splice rfl (.tmp 39) (.tmp 40) 22 22 rfl 5 Yba.underlying22 Yba.size5 (some ⟨w.heap.size, 0, none⟩) a0 len0 len0 len0 cap0 rfl rfl w.heap.size 0 (List.replicate len0 (.int .u8 0)) 5 hq (X.map (Value.int .u8)) (by simp [HX.out]) (fun hp => ⟨rfl, by obtain ⟨b1, off1, ha, _, _⟩ := src_at S1 (by simp [HX.out] at hp; exact hp); exact ⟨_, ha, S1.cell _ ha⟩⟩) (by simp [HX.out]) (ints_oneCell _ _) w.heap.size wd (Below.refl _ _) (Nat.le_refl _) ?_; intro wi hqi hbi)
      rw [splice_all _ _ _ (by simp [HX.out])] at hqi
      have BI : Hid (Below w.heap.size w wi) := hbd.trans hbi
      have zi : w.heap.size < wi.heap.size := Nat.lt_of_lt_of_le hdl hbi.size
      have CI : Hid (∀ j u, (X.map (Value.int .u8))[j]? = some u → wi.cell? ((⟨w.heap.size, 0, none⟩ : Addr).add j) = some u) := row_cell hqi.out
      clear hqi hbi hq S1
      refine (special_want w.heap.size len0 X b _ HB.out HX.out hl0 CI.out).mono ?_
      rintro e w5 ⟨cap, rfl, g1, g2, z5, b5⟩
      have G1 : Hid (∀ j, j < len0 → w5.cell? ⟨wi.heap.size, j, none⟩ = some (.int .u8 (X.getD j 0))) := g1
      have G2 : Hid (∀ k (h : k < (wantS b).size), w5.cell? ⟨wi.heap.size, len0 + k, none⟩ = some (.int .u8 (((wantS b)[k]'h).toNat : Int))) := g2
      have G3 : Hid (∀ j, j < len0 → w5.cell? ⟨w.heap.size, j, none⟩ = some (.int .u8 (X.getD j 0))) := by
        intro j hj
        rw [b5.cell (p := ⟨w.heap.size, j, none⟩) zi]
        have := CI.out j (.int .u8 (X.getD j 0)) (by have := HX.out; simp only [List.getElem?_map, List.getElem?_eq_getElem (show j < X.length by omega), Option.map_some, List.getD, Option.getD_some])
        rw [Go.WideShapes.add_plain, Nat.zero_add] at this
        exact this
      have B5 : Hid (Below w.heap.size w w5) := BI.out.trans (b5.mono (by omega))
      have hws : (wantS b).size ≤ 4 := by rw [HTS.out]; exact hT2.2
      clear g1 g2 b5 CI BI hfb hT2 hbd
      go_wp2
      go_loopw [11] (fun i wr => ∃ k n : Nat, k ≤ len0 ∧ i = .int .i64 k ∧ wr = w5.drewN n) (fun i _ => len0 - (intOf i).toNat)
      case atStart => exact ⟨0, 0, by omega, rfl, rfl⟩
      case round =>
        obtain ⟨k, n, hk, rfl, rfl⟩ := hrel
        by_cases hlt : k < len0
        · obtain ⟨b1, off1, rfl, hbl, hdat⟩ := src_at S0.out (by omega)
          have c1 := G1.out k hlt
          have c3 := G3.out k hlt
          have c0 : w5.cell? ⟨b1, off1 + k, none⟩ = some (.int .u8 (X.getD k 0)) := (B5.out.cell (p := ⟨b1, off1 + k, none⟩) hbl).trans (hdat k hlt)
          obtain ⟨x, hx⟩ : ∃ x, x = X.getD k 0 := ⟨_, rfl⟩
          rw [← hx] at c0 c1 c3
          clear hx hdat
          have ki : (k : Int) < (len0 : Int) := by omega
          have ki2 : (k : Int) < (len0 : Int) + ((wantS b).size : Int) := by omega
          have hxx : (x != x) = false := by simp
          go_wp2
          go_quiet (fail)
          go_wp2
          go_roundw
          case rel => exact ⟨k + 1, _, by omega, by go_num, rfl⟩
          case measure => simp [intOf]; omega
        · have ki : ¬ (k : Int) < (len0 : Int) := by omega
          go_wp2
          go_loopw [12] (fun i wr => ∃ m n : Nat, m ≤ (wantS b).size ∧ i = .int .i64 m ∧ wr = w5.drewN n) (fun i _ => (wantS b).size - (intOf i).toNat)
          case atStart => exact ⟨0, _, by omega, rfl, rfl⟩
          case round =>
            obtain ⟨m, n', hm, rfl, rfl⟩ := hrel
            by_cases hlm : m < (wantS b).size
            · have c2 := G2.out m hlm
              have mi : (m : Int) < ((wantS b).size : Int) := by omega
              have mi2 : (len0 : Int) + (m : Int) < (len0 : Int) + ((wantS b).size : Int) := by omega
              have hwr : IntKind.i64.wrap ((len0 : Int) + (m : Int)) = (len0 : Int) + (m : Int) := by rw [IntKind.wrap_i64]; omega
              have htn : ((len0 : Int) + (m : Int)).toNat = len0 + m := by omega
              go_wp2
              go_quiet (fail)
              go_wp2
              go_roundw
              case rel => exact ⟨m + 1, _, by omega, by go_num, rfl⟩
              case measure => simp [intOf]; omega
            · have mi : ¬ (m : Int) < ((wantS b).size : Int) := by omega
              go_wp2
              go_ret
              exact ⟨rfl, B5.out.trans ⟨rfl, rfl, rfl, Nat.le_refl _, fun _ _ => rfl⟩⟩
end Go.Proofs.Ybulkegru
