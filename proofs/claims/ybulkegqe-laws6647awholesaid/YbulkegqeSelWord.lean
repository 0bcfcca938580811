/-
  DERIVED. '(Strings).word', 'Len', 'At'.
-/
import Derived.Test.YbulkegqeSelHas
import Derived.Deep.RegionHeld3
import Derived.Deep.DrawnRows
namespace Go.Proofs.Ybulkegqe.lawS6647AWhole
set_option linter.unusedVariables false
set_option linter.unusedSimpArgs false
open Go.RowKit
attribute [local go_sem ↓] Go.wp_at_zero Go.wp_at_succ

/-- The number written i-th. -/
def wordOf (T : Str) (i : Nat) : Nat := (T.getD (4 * i) 0).toNat + 256 * (T.getD (4 * i + 1) 0).toNat + 65536 * (T.getD (4 * i + 2) 0).toNat + 16777216 * (T.getD (4 * i + 3) 0).toNat

theorem four (T : Str) (i : Nat) (h : 4 * (i + 1) ≤ T.length) : (⟨T.toArray⟩ : ByteArray).extract (4 * i) (4 * (i + 1)) = ⟨#[T.getD (4 * i) 0, T.getD (4 * i + 1) 0, T.getD (4 * i + 2) 0, T.getD (4 * i + 3) 0]⟩ := by
  apply ByteArray.ext
  rw [ByteArray.data_extract]
  apply Array.ext
  · simp
    omega
  · intro j h1 h2
    simp only [List.size_toArray, List.length_cons, List.length_nil] at h2
    rw [Array.getElem_extract]
    have hj : j = 0 ∨ j = 1 ∨ j = 2 ∨ j = 3 := by omega
    rcases hj with rfl | rfl | rfl | rfl <;> simp [List.getD, show 4 * i < T.length by omega, show 4 * i + 1 < T.length by omega, show 4 * i + 2 < T.length by omega, show 4 * i + 3 < T.length by omega]

theorem drewN_below {B : Nat} {a w : World} (h : Below B a w) (n : Nat) : Below B a (w.drewN n) := ⟨h.os, h.tape, h.output, h.size, h.block⟩
theorem wrap_u32 {x : Int} (h0 : 0 ≤ x) (h1 : x < 4294967296) : IntKind.u32.wrap x = x := by
  simp [IntKind.wrap, IntKind.signed, IntKind.bits]
  omega
theorem or32 (a c k : Nat) (hc : c < 2 ^ k) (h : a * 2 ^ k + c < 4294967296) : bits .or .u32 (c : Int) ((a * 2 ^ k : Nat) : Int) = ((c + a * 2 ^ k : Nat) : Int) := by
  have hl : c ||| a * 2 ^ k = c + a * 2 ^ k := by
    have := Nat.shiftLeft_add_eq_or_of_lt (i := k) (b := c) hc a
    rw [Nat.shiftLeft_eq] at this
    rw [Nat.or_comm, ← this, Nat.add_comm]
  unfold bits
  simp only [BitVec.ofInt_natCast, BitVec.toNat_or, BitVec.toNat_ofNat]
  rw [Nat.mod_eq_of_lt (show a * 2 ^ k < 2 ^ IntKind.u32.bits by simp only [IntKind.bits]; omega), Nat.mod_eq_of_lt (show c < 2 ^ IntKind.u32.bits by simp only [IntKind.bits]; omega), hl, wrap_u32 (by omega) (by omega)]
theorem four_sum (b0 b1 b2 b3 : Nat) (h0 : b0 < 256) (h1 : b1 < 256) (h2 : b2 < 256) (h3 : b3 < 256) :
    wrap64 (bits .or .u32 (bits .or .u32 (bits .or .u32 ((b0 : Int) % 4294967296) ((b1 : Int) % 4294967296 * 256 % 4294967296)) ((b2 : Int) % 4294967296 * 65536 % 4294967296)) ((b3 : Int) % 4294967296 * 16777216 % 4294967296)) = ((b0 + 256 * b1 + 65536 * b2 + 16777216 * b3 : Nat) : Int) := by
  have a1 := or32 b1 b0 8 (by omega) (by omega)
  have a2 := or32 b2 (b0 + b1 * 2 ^ 8) 16 (by omega) (by omega)
  have a3 := or32 b3 (b0 + b1 * 2 ^ 8 + b2 * 2 ^ 16) 24 (by omega) (by omega)
  rw [show (b0 : Int) % 4294967296 = (b0 : Int) by omega, show (b1 : Int) % 4294967296 * 256 % 4294967296 = ((b1 * 2 ^ 8 : Nat) : Int) by omega, show (b2 : Int) % 4294967296 * 65536 % 4294967296 = ((b2 * 2 ^ 16 : Nat) : Int) by omega, show (b3 : Int) % 4294967296 * 16777216 % 4294967296 = ((b3 * 2 ^ 24 : Nat) : Int) by omega, a1, a2, a3]
  unfold wrap64
  omega

set_option maxRecDepth 100000 in
theorem word_any (T : Str) (i : Nat) (w : World) (h : 4 * (i + 1) ≤ T.length) (hT : T.length ≤ 1048576) :
    Calls Yba.prog 42 #[.agg #[encStr T], .int .i64 i] w fun e w' => e = .returned (.int .i64 (wordOf T i)) ∧ Below w.heap.size w w' := by
  have h1 : (4 : Int) * (i : Int) ≤ 4 * ((i : Int) + 1) := by omega
  have h2 : (4 : Int) * ((i : Int) + 1) ≤ (T.length : Int) := by omega
  have h3 : (0 : Int) ≤ 4 * (i : Int) := by omega
  have h4 := four T i h
  go_enter Yba.func42, Yba.ntmps42
  go_upto_region 2 with fail
  obtain ⟨b0, e0⟩ : ∃ b, b = T.getD (4 * i) 0 := ⟨_, rfl⟩
  obtain ⟨b1, e1⟩ : ∃ b, b = T.getD (4 * i + 1) 0 := ⟨_, rfl⟩
  obtain ⟨b2, e2⟩ : ∃ b, b = T.getD (4 * i + 2) 0 := ⟨_, rfl⟩
  obtain ⟨b3, e3⟩ : ∃ b, b = T.getD (4 * i + 3) 0 := ⟨_, rfl⟩
  have HW : Hid (wordOf T i = b0.toNat + 256 * b1.toNat + 65536 * b2.toNat + 16777216 * b3.toNat) := by rw [e0, e1, e2, e3]; rfl
  rw [← e0, ← e1, ← e2, ← e3] at h4
  clear e0 e1 e2 e3
  go_quiet (fail)
  go_wp2
  go_ret
  refine ⟨?_, drewN_below (al1 _ _) _⟩
  rw [HW.out]
  exact congrArg (fun z => Ending.returned (Value.int .i64 z)) (four_sum b0.toNat b1.toNat b2.toNat b3.toNat b0.toNat_lt b1.toNat_lt b2.toNat_lt b3.toNat_lt)

/-- .. at an integer that the walk has reckoned. -/
theorem word_int (T : Str) (v : Int) (i : Nat) (w : World) (hv : v = (i : Int)) (h : 4 * (i + 1) ≤ T.length) (hT : T.length ≤ 1048576) :
    Calls Yba.prog 42 #[.agg #[encStr T], .int .i64 v] w fun e w' => e = .returned (.int .i64 (wordOf T i)) ∧ Below w.heap.size w w' := by
  subst hv
  exact word_any T i w h hT

/-- The text T holds the pairs L. -/
structure Txt (T : Str) (L : List (Str × Str)) : Prop where
  size : T.length ≤ 1048576
  nil : L = [] → T = []
  head : L ≠ [] → 4 ≤ T.length ∧ wordOf T 0 = L.length
  num : L.length ≤ 131072
  at_ : ∀ (i : Nat) (p : Str × Str), L[i]? = some p → 4 * (2 + 2 * i + 1) ≤ T.length ∧ (if i = 0 then 4 * (1 + 2 * L.length) else wordOf T (2 * i)) ≤ wordOf T (1 + 2 * i) ∧ wordOf T (1 + 2 * i) ≤ wordOf T (2 + 2 * i) ∧ wordOf T (2 + 2 * i) ≤ T.length ∧
    (⟨T.toArray⟩ : ByteArray).extract (if i = 0 then 4 * (1 + 2 * L.length) else wordOf T (2 * i)) (wordOf T (1 + 2 * i)) = ⟨p.1.toArray⟩ ∧ (⟨T.toArray⟩ : ByteArray).extract (wordOf T (1 + 2 * i)) (wordOf T (2 + 2 * i)) = ⟨p.2.toArray⟩

set_option maxRecDepth 100000 in
theorem len_nil (w : World) : Calls Yba.prog 17 #[.agg #[encStr []]] w fun e w' => e = .returned (.int .i64 0) ∧ Below w.heap.size w w' := by
  go_enter Yba.func17, Yba.ntmps17
  go_wp2
  go_ret
  exact ⟨rfl, al1 _ _⟩

set_option maxRecDepth 100000 in
theorem len_some (T : Str) (n : Nat) (w : World) (h4 : 4 ≤ T.length) (hT : T.length ≤ 1048576) (hw : wordOf T 0 = n) : Calls Yba.prog 17 #[.agg #[encStr T]] w fun e w' => e = .returned (.int .i64 n) ∧ Below w.heap.size w w' := by
  have ne : (T == []) = false := by cases T <;> simp at h4 ⊢
  have HW : Hid (wordOf T 0 = n) := hw
  have HT : Hid (4 ≤ T.length ∧ T.length ≤ 1048576) := ⟨h4, hT⟩
  clear h4 hT hw
  go_enter Yba.func17, Yba.ntmps17
  go_wp2_with (go_at_call 42; go_must (refine (word_int T _ 0 _ rfl HT.out.1 HT.out.2).mono ?_; rintro e w1 ⟨rfl, hb⟩))
  go_ret
  exact ⟨by rw [← HW.out]; rfl, (al1 _ _).trans (hb.mono (al1 _ _).size)⟩

/-- '(Strings).Len'. -/
theorem len_any (T : Str) (L : List (Str × Str)) (w : World) (h : Txt T L) : Calls Yba.prog 17 #[.agg #[encStr T]] w fun e w' => e = .returned (.int .i64 L.length) ∧ Below w.heap.size w w' := by
  by_cases hL : L = []
  · rw [h.nil hL, hL]
    exact len_nil w
  · exact len_some T L.length w (h.head hL).1 h.size (h.head hL).2

theorem box_keep {w1 w2 : World} {b : Nat} {v : Value} (h : w1.cell? ⟨b, 0, none⟩ = some v) (hb : Below w1.heap.size w1 w2) : w2.cell? ⟨b, 0, none⟩ = some v := by
  rw [hb.cell (World.block_lt_of_cell? _ _ h)]; exact h
theorem blw {w w1 w2 : World} (h : Below w.heap.size w w1) (hb : Below w1.heap.size w1 w2) : Below w.heap.size w w2 := h.trans (hb.mono h.size)
theorem alc {w : World} {v : Value} {t : TypeId} : (w.alloc (.cells #[v] t)).cell? ⟨w.heap.size, 0, none⟩ = some v := by
  rw [cell_of_row _ _ _ _ _ _ (heap_alloc_new _ _)]; rfl

theorem wrap_i64 {x : Int} (h : 0 ≤ x ∧ x ≤ 1099511627776) : IntKind.i64.wrap x = x := by
  simp only [IntKind.wrap, IntKind.signed, IntKind.bits]
  simp
  omega
theorem wrA {i : Nat} (h : i ≤ 1048576) : IntKind.i64.wrap (1 + IntKind.i64.wrap (2 * (i : Int))) = ((1 + 2 * i : Nat) : Int) := by
  rw [wrap_i64 (x := 2 * (i : Int)) (by omega), wrap_i64 (by omega)]; omega
theorem wrB {i : Nat} (h : i ≤ 1048576) : IntKind.i64.wrap (2 + IntKind.i64.wrap (2 * (i : Int))) = ((2 + 2 * i : Nat) : Int) := by
  rw [wrap_i64 (x := 2 * (i : Int)) (by omega), wrap_i64 (by omega)]; omega

set_option maxRecDepth 100000 in
set_option maxHeartbeats 1600000 in
theorem at_pos (T : Str) (i s e f n : Nat) (a b : Str) (w : World) (hi : 0 < i) (hT : T.length ≤ 1048576) (h4 : 4 * (2 + 2 * i + 1) ≤ T.length) (hn : n ≤ 131072) (h0 : wordOf T 0 = n) (hs : wordOf T (2 * i) = s) (he : wordOf T (1 + 2 * i) = e) (hf : wordOf T (2 + 2 * i) = f) (hse : s ≤ e) (hef : e ≤ f) (hfT : f ≤ T.length)
    (ha : (⟨T.toArray⟩ : ByteArray).extract s e = ⟨a.toArray⟩) (hb : (⟨T.toArray⟩ : ByteArray).extract e f = ⟨b.toArray⟩) :
    Calls Yba.prog 20 #[.agg #[encStr T], .int .i64 i] w fun e w' => e = .returned (.tuple #[encStr a, encStr b]) ∧ Below w.heap.size w w' := by
  have HW : Hid (wordOf T 0 = n ∧ wordOf T (2 * i) = s ∧ wordOf T (1 + 2 * i) = e ∧ wordOf T (2 + 2 * i) = f) := ⟨h0, hs, he, hf⟩
  have HT : Hid (4 * (2 + 2 * i + 1) ≤ T.length ∧ T.length ≤ 1048576) := ⟨h4, hT⟩
  have hi2 : i ≤ 1048576 := by omega
  have i1 : (s : Int) ≤ (e : Int) := by omega
  have i2 : (e : Int) ≤ (f : Int) := by omega
  have i3 : (f : Int) ≤ (T.length : Int) := by omega
  have i4 : e ≤ T.length := by omega
  clear h0 hs he hf h4 hT
  go_enter Yba.func20, Yba.ntmps20
  go_upto_region 4 with (first
    | (go_at_call 42; have KK := HB1; go_must (refine (word_int T _ (2 * i) _ (by omega) (by have := HT.out; omega) HT.out.2).mono ?_; rintro e2 w2 ⟨rfl, hb2⟩; rw [HW.out.2.1]; have c2 := box_keep c1 hb2; have HB2 : Hid (Below w.heap.size w w2) := blw HB1.out hb2; clear hb2))
    | (go_at_call 42; go_must (refine (word_int T _ 0 _ rfl (by have := HT.out; omega) HT.out.2).mono ?_; rintro e1 w1 ⟨rfl, hb1⟩; rw [HW.out.1]; have c1 := box_keep alc hb1; have HB1 : Hid (Below w.heap.size w w1) := blw (al1 _ _) hb1; clear hb1)))
  clear c1 HB1
  go_cut [7, 8] (fun p7 p8 wc => p7 = .int .i64 e ∧ p8 = .int .i64 f ∧ wc.cell? ⟨w.heap.size, 0, none⟩ = some (encStr T) ∧ Below w.heap.size w wc)
  case first =>
    have HvA : Hid (IntKind.i64.wrap (1 + IntKind.i64.wrap (2 * (i : Int))) = ((1 + 2 * i : Nat) : Int)) := wrA hi2
    have HvB : Hid (IntKind.i64.wrap (2 + IntKind.i64.wrap (2 * (i : Int))) = ((2 + 2 * i : Nat) : Int)) := wrB hi2
    have H4A : Hid (4 * (1 + 2 * i + 1) ≤ T.length) := by have := HT.out; show 4 * (1 + 2 * i + 1) ≤ T.length; omega
    have H4B : Hid (4 * (2 + 2 * i + 1) ≤ T.length) := HT.out.1
    go_region_held3 (fun w' => w'.cell? ⟨w.heap.size, 0, none⟩ = some (encStr T)) (go_keep) (first
      | (go_at_call 42; rw [HvA.out]; refine (word_any T (1 + 2 * i) _ H4A.out HT.out.2).mono ?_; rintro eA wA ⟨rfl, hbA⟩; rw [HW.out.2.2.1]; have cA : wA.cell? ⟨w.heap.size, 0, none⟩ = some (encStr T) := (by first | exact box_keep cB hbA | exact box_keep (w1 := w2.drew) c2 hbA); have HBA : Hid (Below w.heap.size w wA) := (by first | exact blw HBB.out hbA | exact blw HB2.out.drew hbA); clear hbA)
      | (go_at_call 42; rw [HvB.out]; refine (word_any T (2 + 2 * i) _ H4B.out HT.out.2).mono ?_; rintro eB wB ⟨rfl, hbB⟩; rw [HW.out.2.2.2]; have cB : wB.cell? ⟨w.heap.size, 0, none⟩ = some (encStr T) := (by first | exact box_keep cA hbB | exact box_keep (w1 := w2.drew) c2 hbB); have HBB : Hid (Below w.heap.size w wB) := (by first | exact blw HBA.out hbB | exact blw HB2.out.drew hbB); clear hbB))
    all_goals (
      go_wp2
      go_meet
      first
        | exact ⟨rfl, rfl, cA, HBA.out⟩
        | exact ⟨rfl, rfl, cB, HBB.out⟩)
  case rest =>
    obtain ⟨rfl, rfl, cc, hbc⟩ := hcut
    have HBC : Hid (Below w.heap.size w wc) := hbc
    clear hbc c2 HB2
    go_wp2
    go_quiet (fail)
    go_wp2
    go_ret2
    exact ⟨rfl, drewN_below HBC.out _⟩

set_option maxRecDepth 100000 in
set_option maxHeartbeats 1600000 in
theorem at_zero (T : Str) (i s e f n : Nat) (a b : Str) (w : World) (hi : ¬ 0 < i) (hT : T.length ≤ 1048576) (h4 : 4 * (2 + 2 * i + 1) ≤ T.length) (hn : n ≤ 131072) (h0 : wordOf T 0 = n) (hs : s = 4 * (1 + 2 * n)) (he : wordOf T (1 + 2 * i) = e) (hf : wordOf T (2 + 2 * i) = f) (hse : s ≤ e) (hef : e ≤ f) (hfT : f ≤ T.length)
    (ha : (⟨T.toArray⟩ : ByteArray).extract s e = ⟨a.toArray⟩) (hb : (⟨T.toArray⟩ : ByteArray).extract e f = ⟨b.toArray⟩) :
    Calls Yba.prog 20 #[.agg #[encStr T], .int .i64 i] w fun e w' => e = .returned (.tuple #[encStr a, encStr b]) ∧ Below w.heap.size w w' := by
  have HW : Hid (wordOf T 0 = n ∧ True ∧ wordOf T (1 + 2 * i) = e ∧ wordOf T (2 + 2 * i) = f) := ⟨h0, trivial, he, hf⟩
  subst hs
  have HT : Hid (4 * (2 + 2 * i + 1) ≤ T.length ∧ T.length ≤ 1048576) := ⟨h4, hT⟩
  have hi2 : i ≤ 1048576 := by omega
  have i1 : 4 * (1 + 2 * (n : Int)) ≤ (e : Int) := by omega
  have i2 : (e : Int) ≤ (f : Int) := by omega
  have i3 : (f : Int) ≤ (T.length : Int) := by omega
  have i4 : e ≤ T.length := by omega
  clear h0 he hf h4 hT
  go_enter Yba.func20, Yba.ntmps20
  go_upto_region 4 with (go_at_call 42; go_must (refine (word_int T _ 0 _ rfl (by have := HT.out; omega) HT.out.2).mono ?_; rintro e1 w2 ⟨rfl, hb1⟩; rw [HW.out.1]; have c2 := box_keep alc hb1; have HB2 : Hid (Below w.heap.size w w2) := blw (al1 _ _) hb1; clear hb1))
  go_cut [7, 8] (fun p7 p8 wc => p7 = .int .i64 e ∧ p8 = .int .i64 f ∧ wc.cell? ⟨w.heap.size, 0, none⟩ = some (encStr T) ∧ Below w.heap.size w wc)
  case first =>
    have HvA : Hid (IntKind.i64.wrap (1 + IntKind.i64.wrap (2 * (i : Int))) = ((1 + 2 * i : Nat) : Int)) := wrA hi2
    have HvB : Hid (IntKind.i64.wrap (2 + IntKind.i64.wrap (2 * (i : Int))) = ((2 + 2 * i : Nat) : Int)) := wrB hi2
    have H4A : Hid (4 * (1 + 2 * i + 1) ≤ T.length) := by have := HT.out; show 4 * (1 + 2 * i + 1) ≤ T.length; omega
    have H4B : Hid (4 * (2 + 2 * i + 1) ≤ T.length) := HT.out.1
    go_region_held3 (fun w' => w'.cell? ⟨w.heap.size, 0, none⟩ = some (encStr T)) (go_keep) (first
      | (go_at_call 42; rw [HvA.out]; refine (word_any T (1 + 2 * i) _ H4A.out HT.out.2).mono ?_; rintro eA wA ⟨rfl, hbA⟩; rw [HW.out.2.2.1]; have cA : wA.cell? ⟨w.heap.size, 0, none⟩ = some (encStr T) := (by first | exact box_keep cB hbA | exact box_keep (w1 := w2.drew) c2 hbA); have HBA : Hid (Below w.heap.size w wA) := (by first | exact blw HBB.out hbA | exact blw HB2.out.drew hbA); clear hbA)
      | (go_at_call 42; rw [HvB.out]; refine (word_any T (2 + 2 * i) _ H4B.out HT.out.2).mono ?_; rintro eB wB ⟨rfl, hbB⟩; rw [HW.out.2.2.2]; have cB : wB.cell? ⟨w.heap.size, 0, none⟩ = some (encStr T) := (by first | exact box_keep cA hbB | exact box_keep (w1 := w2.drew) c2 hbB); have HBB : Hid (Below w.heap.size w wB) := (by first | exact blw HBA.out hbB | exact blw HB2.out.drew hbB); clear hbB))
    all_goals (
      go_wp2
      go_meet
      first
        | exact ⟨rfl, rfl, cA, HBA.out⟩
        | exact ⟨rfl, rfl, cB, HBB.out⟩)
  case rest =>
    obtain ⟨rfl, rfl, cc, hbc⟩ := hcut
    have HBC : Hid (Below w.heap.size w wc) := hbc
    clear hbc c2 HB2
    go_wp2
    go_quiet (fail)
    go_wp2
    go_ret2
    refine ⟨?_, drewN_below HBC.out _⟩
    show Ending.returned (Value.tuple #[Value.string ((⟨T.toArray⟩ : ByteArray).extract (4 * (1 + 2 * n)) e), Value.string ⟨b.toArray⟩]) = _
    rw [ha]

/-- '(Strings).At'. -/
theorem at_any (T : Str) (L : List (Str × Str)) (i : Nat) (p : Str × Str) (w : World) (h : Txt T L) (hp : L[i]? = some p) :
    Calls Yba.prog 20 #[.agg #[encStr T], .int .i64 i] w fun e w' => e = .returned (.tuple #[encStr p.1, encStr p.2]) ∧ Below w.heap.size w w' := by
  obtain ⟨h1, h2, h3, h4, h5, h6⟩ := h.at_ i p hp
  have hL : L ≠ [] := fun e => by rw [e] at hp; simp at hp
  obtain ⟨h7, h8⟩ := h.head hL
  by_cases hi : 0 < i
  · rw [if_neg (by omega)] at h2 h5
    exact at_pos T i _ _ _ _ p.1 p.2 w hi h.size h1 h.num h8 rfl rfl rfl h2 h3 h4 h5 h6
  · rw [if_pos (by omega)] at h2 h5
    exact at_zero T i _ _ _ _ p.1 p.2 w hi h.size h1 h.num h8 rfl rfl rfl h2 h3 h4 h5 h6

end Go.Proofs.Ybulkegqe.lawS6647AWhole
