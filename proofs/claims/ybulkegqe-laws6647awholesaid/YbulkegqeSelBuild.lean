/-
  DERIVED. strings.Builder's writers; 'writeWord'.
-/
import Derived.Test.YbulkegqeSelEnc
import Derived.Test.YbulkegqeSelShelf
import Derived.Lib.AppendStr
import Derived.OneCell
namespace Go.Proofs.Ybulkegqe.lawS6647AWhole
set_option linter.unusedVariables false
set_option linter.unusedSimpArgs false
open Go.RowKit

theorem Yba.info5 : (Yba.prog.info? 5).map (fun i => (i.zero, i.size, i.bytes)) = some (some (.int .u8 0), 1, 1) := by kernel_rfl

/-- A builder that has been written, its bytes l. -/
def Bld (B b : Nat) (l : Str) (w : World) : Prop := Lib.BuilderAt 130 5 B b (.pointer (some ⟨b, 0, none⟩)) (Lib.byteCells l) w

theorem eqIn_same128 (d : Nat) (p : Addr) (w : World) : (Op.equalIn (d + 1) 128 (.pointer (some p)) (.pointer (some p))).run Yba.prog w = .ok true w := by
  obtain ⟨i5, hi5, hz0, hz1, hz2⟩ := info_parts (show (Yba.prog.info? 130).map (fun i => (i.zero, i.size, i.bytes)) = some (some (.agg #[.pointer none, .slice none 0 0]), 2, 32) by kernel_rfl)
  simp [Op.equalIn, run_underlying Yba.underlying128, sizeOf, typeInfo, hi5, run_sameAddr_same]
theorem neq_same (p : Addr) (w : World) : (binOp .neq 128 (.pointer (some p)) (.pointer (some p))).run Yba.prog w = .ok (.bool false) w := by
  simp only [binOp]
  simp [Op.equal, Op.maxDepth, eqIn_same128 9999]
theorem eqIn_nil128 (d : Nat) (p : Addr) (w : World) : (Op.equalIn (d + 1) 128 (.pointer (some p)) (.pointer none)).run Yba.prog w = .ok false w := by
  simp [Op.equalIn, run_underlying Yba.underlying128]
theorem eq_nil128 (p : Addr) (w : World) : (binOp .eql 128 (.pointer (some p)) (.pointer none)).run Yba.prog w = .ok (.bool false) w := by
  simp only [binOp]
  simp [Op.equal, Op.maxDepth, eqIn_nil128 9999]

set_option maxRecDepth 100000 in
theorem check_used (b : Nat) (w : World) (h : w.cell? ⟨b, 0, none⟩ = some (.pointer (some ⟨b, 0, none⟩))) : Calls Yba.prog 47 #[.pointer (some ⟨b, 0, none⟩)] w fun e w' => e = .returned (.tuple #[]) ∧ w' = w := by
  have q1 := neq_same
  have q2 := eq_nil128
  go_enter Yba.func47, Yba.ntmps47
  go_wp2
  go_end0
  exact ⟨rfl, rfl⟩

theorem own_slice2 {w : World} {B : Nat} {e : TypeId} {sz n : Nat} {v : Value} {xs : List Value} (h : w.ownsRow B e sz v n xs) : ∃ a c, v = .slice a n c := by
  rcases h.2 with ⟨h, h0⟩ | ⟨g, cap, cur, h, _⟩
  · exact ⟨none, 0, by rw [h, h0]⟩
  · exact ⟨_, _, h⟩

/-- The builder's new buffer is stored. -/
theorem Bld.put {B b : Nat} {l l' : Str} {w w1 : World} {v v' : Value} (hB : B ≤ b) (hb : w.heap[b]? = some (.cells #[.pointer (some ⟨b, 0, none⟩), v] 130 (0, 0))) (hne : v.ownBlock ≠ some b) (hg : w.grownBy w1 v.ownBlock) (hrow : ∀ k, v.ownBlock = some k → B ≤ k) (hBw : B ≤ w.heap.size)
    (ho : w1.ownsRow B 5 1 v' (Lib.byteCells l').length (Lib.byteCells l')) : Bld B b l' (w1.setCell ⟨b, 1, none⟩ v') ∧ Below B w (w1.setCell ⟨b, 1, none⟩ v') ∧ w1.heap[b]? = some (.cells #[.pointer (some ⟨b, 0, none⟩), v] 130 (0, 0)) := by
  have hb1 : w1.heap[b]? = some (.cells #[.pointer (some ⟨b, 0, none⟩), v] 130 (0, 0)) := (hg.block b (Array.getElem?_eq_some_iff.1 hb).1 (fun e => hne e.symm)).trans hb
  have hne' : v'.ownBlock ≠ some b := by
    intro e
    rcases ho.2 with ⟨rfl, _⟩ | ⟨g, cap, cur, rfl, _, hh, _⟩
    · cases e
    · simp only [Value.ownBlock, Option.some.injEq] at e
      subst e
      rw [hb1] at hh
      cases hh
  refine ⟨⟨hB, v', ?_, ownsRow_setCell_other ho hne' _, hne'⟩, ((Below.refl B w).grown hg hBw hrow).setCell (p := ⟨b, 1, none⟩) hB _, hb1⟩
  rw [heap_setCell_same w1 b 1 _ 130 v' hb1]
  rfl

theorem bcells {w : World} {b : Nat} {v : Value} (h : w.heap[b]? = some (.cells #[.pointer (some ⟨b, 0, none⟩), v] 130 (0, 0))) : w.cell? ⟨b, 0, none⟩ = some (.pointer (some ⟨b, 0, none⟩)) ∧ w.cell? ⟨b, 1, none⟩ = some v ∧ w.frozen? ⟨b, 1, none⟩ = false := by
  refine ⟨?_, ?_, frozen_of_row _ _ _ _ _ h⟩ <;> rw [cell_of_row _ _ _ _ _ _ h] <;> rfl

set_option maxRecDepth 100000 in
theorem wbyte_any (B b : Nat) (l : Str) (c : Int) (x : UInt8) (w : World) (h : Bld B b l w) (hc : c = (x.toNat : Int)) (hlen : l.length ≤ 1048576) (hBw : B ≤ w.heap.size) :
    Calls Yba.prog 61 #[.pointer (some ⟨b, 0, none⟩), .int .u8 c] w fun e w' => e = .returned .nilIface ∧ Bld B b (l ++ [x]) w' ∧ Below B w w' := by
  obtain ⟨i5, hi5, hz0, hz1, hz2⟩ := info_parts Yba.info5
  obtain ⟨hB, v, hb, hown, hne⟩ := h
  obtain ⟨c0, c1, f1⟩ := bcells hb
  obtain ⟨va, vc, rfl⟩ := own_slice2 hown
  have hl : (Lib.byteCells l).length = l.length := Lib.byteCells_length l
  have HO : Hid (w.ownsRow B 5 1 (.slice va (Lib.byteCells l).length vc) (Lib.byteCells l).length (Lib.byteCells l)) := hown
  have HBK : Hid (w.heap[b]? = some (.cells #[.pointer (some ⟨b, 0, none⟩), .slice va (Lib.byteCells l).length vc] 130 (0, 0))) := hb
  have HNE : Hid ((Value.slice va (Lib.byteCells l).length vc).ownBlock ≠ some b) := hne
  have HL : Hid ((Lib.byteCells l).length = l.length ∧ l.length ≤ 1048576) := ⟨hl, hlen⟩
  subst hc
  clear hb hown hne hl hlen
  go_enter Yba.func61, Yba.ntmps61
  go_wp2_with (first
    | (go_at_call 47; go_must (refine (check_used b _ c0).mono ?_; rintro e w0 ⟨rfl, hw0⟩; obtain rfl := hw0.symm))
    | (at_builtin; go_must (refine wpList_append_own _ rfl _ _ 24 rfl B 5 i5 (.int .u8 0) 1 1 Yba.underlying24 hi5 hz0 hz1 hz2 rfl (by decide) (.slice va (Lib.byteCells l).length vc) (Lib.byteCells l).length (Lib.byteCells l) rfl (World.ownsRow.alloc HO.out _) ⟨w.heap.size, 0, none⟩ 1 1 [.int .u8 (x.toNat : Int)] rfl rfl (cell_one_new _ _ _) (fun u hu => by simp at hu; subst hu; rfl) (by have := HL.out; unfold maxLen; omega) (by have := HL.out; omega) (by simp; omega) ?_; intro v' w1 ho1 hg1 _; obtain ⟨wa, wc, rfl⟩ := own_slice2 ho1; have HP := Bld.put (l := l) (l' := l ++ [x]) hB HBK.out HNE.out ((World.grownBy_alloc w _ _).trans hg1) (fun k hk => (HO.out.lt k hk).1) hBw (by rw [Lib.byteCells_append, List.length_append]; exact ho1); obtain ⟨d0, d1, g1⟩ := bcells HP.2.2; have HPP : Hid (Bld B b (l ++ [x]) (w1.setCell ⟨b, 1, none⟩ (.slice wa ((Lib.byteCells l).length + 1) wc)) ∧ Below B w (w1.setCell ⟨b, 1, none⟩ (.slice wa ((Lib.byteCells l).length + 1) wc))) := ⟨HP.1, HP.2.1⟩; clear HP ho1 hg1)))
  go_ret
  exact ⟨rfl, HPP.out⟩

set_option maxRecDepth 100000 in
theorem wstr_any (B b : Nat) (l s : Str) (w : World) (h : Bld B b l w) (hlen : l.length + s.length ≤ 1048576) (hBw : B ≤ w.heap.size) :
    Calls Yba.prog 50 #[.pointer (some ⟨b, 0, none⟩), encStr s] w fun e w' => e = .returned (.tuple #[.int .i64 s.length, .nilIface]) ∧ Bld B b (l ++ s) w' ∧ Below B w w' := by
  obtain ⟨i5, hi5, hz0, hz1, hz2⟩ := info_parts Yba.info5
  obtain ⟨hB, v, hb, hown, hne⟩ := h
  obtain ⟨c0, c1, f1⟩ := bcells hb
  obtain ⟨va, vc, rfl⟩ := own_slice2 hown
  have hl : (Lib.byteCells l).length = l.length := Lib.byteCells_length l
  have hs : (⟨s.toArray⟩ : ByteArray).size = s.length := by simp [ByteArray.size]
  have HO : Hid (w.ownsRow B 5 1 (.slice va (Lib.byteCells l).length vc) (Lib.byteCells l).length (Lib.byteCells l)) := hown
  have HBK : Hid (w.heap[b]? = some (.cells #[.pointer (some ⟨b, 0, none⟩), .slice va (Lib.byteCells l).length vc] 130 (0, 0))) := hb
  have HNE : Hid ((Value.slice va (Lib.byteCells l).length vc).ownBlock ≠ some b) := hne
  have HL : Hid ((Lib.byteCells l).length = l.length ∧ l.length + s.length ≤ 1048576 ∧ (⟨s.toArray⟩ : ByteArray).size = s.length) := ⟨hl, hlen, hs⟩
  clear hb hown hne hl hlen hs
  go_enter Yba.func50, Yba.ntmps50
  go_wp2_with (first
    | (go_at_call 47; go_must (refine (check_used b _ c0).mono ?_; rintro e w0 ⟨rfl, hw0⟩; obtain rfl := hw0.symm))
    | (at_builtin; go_must (refine Lib.wpList_append_own_string _ rfl _ _ 24 9 rfl B 5 i5 Yba.underlying24 Yba.underlying9 hi5 hz0 hz1 hz2 (.slice va (Lib.byteCells l).length vc) (Lib.byteCells l).length (Lib.byteCells l) rfl HO.out ⟨s.toArray⟩ rfl (by have := HL.out; unfold maxLen; omega) (by have := HL.out; omega) hBw ?_; intro v' w1 ho1 hg1 _; obtain ⟨wa, wc, rfl⟩ := own_slice2 ho1; have HP := Bld.put (l := l) (l' := l ++ s) hB HBK.out HNE.out hg1 (fun k hk => (HO.out.lt k hk).1) hBw (by rw [Lib.byteCells_append, List.length_append, show (Lib.byteCells s).length = (⟨s.toArray⟩ : ByteArray).size by rw [Lib.byteCells_length]; exact HL.out.2.2.symm]; exact ho1); obtain ⟨d0, d1, g1⟩ := bcells HP.2.2; have HPP : Hid (Bld B b (l ++ s) (w1.setCell ⟨b, 1, none⟩ (.slice wa ((Lib.byteCells l).length + (⟨s.toArray⟩ : ByteArray).size) wc)) ∧ Below B w (w1.setCell ⟨b, 1, none⟩ (.slice wa ((Lib.byteCells l).length + (⟨s.toArray⟩ : ByteArray).size) wc))) := ⟨HP.1, HP.2.1⟩; clear HP ho1 hg1)))
  go_ret2
  refine ⟨rfl, ?_⟩
  have hh := HPP.out
  rw [HL.out.2.2] at hh
  exact hh

set_option maxRecDepth 100000 in
set_option maxHeartbeats 1600000 in
theorem wword_any (B b n : Nat) (l : Str) (w : World) (h : Bld B b l w) (hn : n ≤ 1048576) (hlen : l.length + 4 ≤ 1048576) (hBw : B ≤ w.heap.size) :
    Calls Yba.prog 49 #[.pointer (some ⟨b, 0, none⟩), .int .i64 n] w fun e w' => e = .returned (.tuple #[]) ∧ Bld B b (l ++ le4 n) w' ∧ Below B w w' := by
  have H : Hid (Bld B b l w) := h
  have HL : Hid (l.length + 4 ≤ 1048576) := hlen
  clear h hlen
  go_enter Yba.func49, Yba.ntmps49
  go_wp2
  go_loopw [5] (fun p wr => ∃ k : Nat, p = .int .i64 k ∧ k ≤ 4 ∧ Bld B b (l ++ (le4 n).take k) wr ∧ Below B w wr) (fun p _ => 4 - (intOf p).toNat)
  case atStart => exact ⟨0, rfl, by omega, by simpa using H.out, Below.refl _ _⟩
  case round =>
    obtain ⟨k, rfl, hk, hb, hbl⟩ := hrel
    have HB : Hid (Bld B b (l ++ (le4 n).take k) wr) := hb
    have HBL : Hid (Below B w wr) := hbl
    have hBw2 : B ≤ wr.heap.size := Nat.le_trans hBw hbl.size
    clear hb hbl
    by_cases hlt : k < 4
    · have hk4 : k = 0 ∨ k = 1 ∨ k = 2 ∨ k = 3 := by omega
      rcases hk4 with rfl | rfl | rfl | rfl
      · go_wp2_with (go_at_call 61; go_must (refine (wbyte_any B b (l ++ (le4 n).take 0) _ (UInt8.ofNat n) wr HB.out (by rw [UInt8.toNat_ofNat']; omega) (by have := HL.out; simp [le4]; omega) hBw2).mono ?_; rintro e w1 ⟨rfl, h1, h2⟩; have HB1 : Hid (Bld B b (l ++ (le4 n).take 0 ++ [UInt8.ofNat n]) w1) := h1; have HB2 : Hid (Below B wr w1) := h2; clear h1 h2))
        refine ⟨⟨1, rfl, by omega, by have := HB1.out; simpa [le4] using this, HBL.out.trans HB2.out⟩, ?_⟩
        simp [intOf]
      · go_wp2_with (go_at_call 61; go_must (refine (wbyte_any B b (l ++ (le4 n).take 1) _ (UInt8.ofNat (n / 256)) wr HB.out (by rw [UInt8.toNat_ofNat']; omega) (by have := HL.out; simp [le4]; omega) hBw2).mono ?_; rintro e w1 ⟨rfl, h1, h2⟩; have HB1 : Hid (Bld B b (l ++ (le4 n).take 1 ++ [UInt8.ofNat (n / 256)]) w1) := h1; have HB2 : Hid (Below B wr w1) := h2; clear h1 h2))
        refine ⟨⟨2, rfl, by omega, by have := HB1.out; simpa [le4] using this, HBL.out.trans HB2.out⟩, ?_⟩
        simp [intOf]
      · go_wp2_with (go_at_call 61; go_must (refine (wbyte_any B b (l ++ (le4 n).take 2) _ (UInt8.ofNat (n / 65536)) wr HB.out (by rw [UInt8.toNat_ofNat']; omega) (by have := HL.out; simp [le4]; omega) hBw2).mono ?_; rintro e w1 ⟨rfl, h1, h2⟩; have HB1 : Hid (Bld B b (l ++ (le4 n).take 2 ++ [UInt8.ofNat (n / 65536)]) w1) := h1; have HB2 : Hid (Below B wr w1) := h2; clear h1 h2))
        refine ⟨⟨3, rfl, by omega, by have := HB1.out; simpa [le4] using this, HBL.out.trans HB2.out⟩, ?_⟩
        simp [intOf]
      · go_wp2_with (go_at_call 61; go_must (refine (wbyte_any B b (l ++ (le4 n).take 3) _ (UInt8.ofNat (n / 16777216)) wr HB.out (by rw [UInt8.toNat_ofNat']; omega) (by have := HL.out; simp [le4]; omega) hBw2).mono ?_; rintro e w1 ⟨rfl, h1, h2⟩; have HB1 : Hid (Bld B b (l ++ (le4 n).take 3 ++ [UInt8.ofNat (n / 16777216)]) w1) := h1; have HB2 : Hid (Below B wr w1) := h2; clear h1 h2))
        refine ⟨⟨4, rfl, by omega, by have := HB1.out; simpa [le4] using this, HBL.out.trans HB2.out⟩, ?_⟩
        simp [intOf]
    · obtain rfl : k = 4 := by omega
      go_wp2
      go_end0
      exact ⟨rfl, HB.out, HBL.out⟩

end Go.Proofs.Ybulkegqe.lawS6647AWhole
