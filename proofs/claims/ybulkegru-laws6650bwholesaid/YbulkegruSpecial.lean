import Derived.Test.YbulkegruBase
import Derived.Test.YbulkegruFloat
import Derived.Laws.Cover2
import Derived.Laws.CopyOwn
import Derived.Deep.QuietTactic
import Derived.BigQuiet
namespace Go.Proofs.Ybulkegru
set_option linter.unusedVariables false
set_option linter.unusedSimpArgs false
open Go.RowKit

theorem frombits (n : Int) (w : World) : (callFunc 9 #[.int .u64 n]).run Yba.prog w = .ok (.value (.float .f64 n.toNat)) w := by
  rw [run_callFunc_extern (e := Extern.MathFloatBits.float64frombits) Yba.func9 (by kernel_rfl) (by kernel_rfl) (by kernel_rfl) (by kernel_rfl)]
  rfl

/-- math.IsInf(f, 1). -/
theorem isinf_pos (b : Nat) (w : World) (hb : b < 18446744073709551616) :
    Calls Yba.prog 12 #[.float .f64 b, .int .i64 1] w fun e w' => e = .returned (.bool (decide (b = infW))) ∧ w' = w := by
  have h := gt_max b hb
  have H : Hid ((Ieee.double.order b maxW == some Ordering.gt) = decide (b = infW)) := h
  clear h hb
  go_enter Yba.func12, Yba.ntmps12
  go_wp2
  go_ret
  refine ⟨?_, rfl⟩
  rw [← H.out]
  rfl

/-- math.IsInf(f, -1). -/
theorem isinf_neg (b : Nat) (w : World) (hb : b < 18446744073709551616) :
    Calls Yba.prog 12 #[.float .f64 b, .int .i64 (-1)] w fun e w' => e = .returned (.bool (decide (b = ninfW))) ∧ w' = w := by
  have h := gt_max (b ^^^ 9223372036854775808) (xor_lt b hb)
  rw [xor_inf] at h
  have H : Hid ((Ieee.double.order (b ^^^ 9223372036854775808) maxW == some Ordering.gt) = decide (b = ninfW)) := h
  clear h hb
  have hu : Op.unary .neg (.float .f64 b) = pure (.float .f64 (b ^^^ 9223372036854775808)) := rfl
  go_enter Yba.func12, Yba.ntmps12
  go_wp2
  go_ret
  refine ⟨?_, rfl⟩
  rw [← H.out]
  rfl

/-- 'append(s, str...)', s a slice without spare room, str not empty: a new row. -/
theorem ap_str_grow (w : World) {ops : Array Oper} {rest : List Oper} {o : Oper} {a : Act} {Q : Exit → Act → World → Prop}
    (hgd : o.guard = none) (s x : Operand) (ho : o.op = .call { callee := .builtin .append, args := #[s, x], argTypes := #[22, 9] })
    (ad : Addr) (n : Nat) (xs : List Int) (hs : a.eval s = .slice (some ad) n n) (hl : xs.length = n) (hc : ∀ j u, (xs.map (Value.int .u8))[j]? = some u → w.cell? (ad.add j) = some u)
    (t : ByteArray) (ys : List Int) (hx : a.eval x = .string t) (hy : Lib.strCells t = ys.map (Value.int .u8)) (hy0 : 0 < ys.length) (hsz : xs.length + ys.length ≤ 70368744177664)
    (h : ∀ v' w', Own w.heap.size w' v' (xs ++ ys) → (∃ cap, v' = .slice (some ⟨w.heap.size, 0, none⟩) (n + ys.length) cap) → Below w.heap.size w w' → wpList Yba.prog ops Q rest (a.put o.dst v') w') : wpList Yba.prog ops Q (o :: rest) a w := by
  obtain ⟨i5, hi5, hz0, hz1, hz2⟩ := info_parts Yba.info5
  have ht : t.size = ys.length := by rw [← Lib.strCells_length, hy]; simp
  refine wpList_plain hgd fun K hK => ?_
  have hge := grownCap_ge w (n + t.size) n 5
  have hcm := grownCap_le_maxLen w (n + t.size) n 5 (by unfold maxLen; omega)
  have hr := Lib.run_append_grow_string (P := Yba.prog) w 22 9 o.type 5 i5 (.int .u8 0) Yba.underlying22 Yba.underlying9 hi5 hz0 ad n n (xs.map (Value.int .u8)) (by rw [hz1]; simpa using hl) hc t (by omega) (by omega) (by rw [hz2]; exact growslice_fits (by omega) (by omega))
  unfold Oper.wp execOp
  simp only [ho, resolve, invoke, builtin, Sem.run_bind, Sem.run_pure, Result.andThen_ok, List.map_toArray, List.map_cons, List.map_nil, hs, hx, hr]
  refine hK _ _ (h _ _ ?_ ⟨_, by rw [ht]⟩ ((Below.refl _ w.drew).alloc (Nat.le_refl _) _ |> fun q => ⟨q.os, q.tape, q.output, q.size, q.block⟩))
  refine ⟨by simp, .inr ⟨w.heap.size, _, _, ?_, Nat.le_refl _, heap_alloc_new w.drew _, ?_, hcm, ?_, ?_⟩⟩
  · rw [List.length_append, hl, ht]
  · rw [List.length_append, hl, ← ht]; exact hge
  · have hz1' : (Value.int IntKind.u8 0).cells.size = 1 := rfl
    simp only [Array.size_append, List.size_toArray, size_zeroCells, hz1', List.length_map, hl, Lib.strCells_length]
    omega
  · rw [hy]
    simp only [Array.toList_append, List.toList_toArray, Nat.mul_one]
    rw [ints_map_append]
    have : (xs ++ ys).length = ((xs ++ ys).map (Value.int .u8)).length := by simp
    rw [this]
    exact List.take_left

/-- The text, and the string that the law holds it against. -/
def textOf (b : Nat) : List Int := if b = infW then [43, 73, 110, 102] else if b = ninfW then [45, 73, 110, 102] else [78, 97, 78]
theorem textOf_len (b : Nat) : 3 ≤ (textOf b).length ∧ (textOf b).length ≤ 4 := by
  unfold textOf
  repeat' split
  all_goals simp

set_option maxRecDepth 100000 in
set_option maxHeartbeats 1600000 in
/-- appendSpecial on a slice without spare room: a new row; the old one is as it was. -/
theorem special_any (ad : Addr) (n : Nat) (xs : List Int) (b : Nat) (w : World) (hb : b < 18446744073709551616) (hl : xs.length = n) (hn : n ≤ 1048576) (hc : ∀ j u, (xs.map (Value.int .u8))[j]? = some u → w.cell? (ad.add j) = some u) :
    Calls Yba.prog 8 #[.slice (some ad) n n, .float .f64 b] w fun e w' => ∃ cap, e = .returned (.slice (some ⟨w.heap.size, 0, none⟩) (n + (textOf b).length) cap) ∧ Own w.heap.size w' (.slice (some ⟨w.heap.size, 0, none⟩) (n + (textOf b).length) cap) (xs ++ textOf b) ∧ Below w.heap.size w w' := by
  have HC : Hid (∀ j u, (xs.map (Value.int .u8))[j]? = some u → w.cell? (ad.add j) = some u) := hc
  have HL : Hid (xs.length = n) := hl
  have I1 := fun w => isinf_pos b w hb
  have I2 := fun w => isinf_neg b w hb
  clear hc hl hb
  by_cases h1 : b = infW
  · have d1 : decide (b = infW) = true := by simp [h1]
    have e1 : textOf b = [43, 73, 110, 102] := by unfold textOf; rw [if_pos h1]
    rw [d1] at I1
    have J1 := fun w => Hid.out (show Hid _ from I1 w)
    rw [e1]
    clear h1 I1 I2 e1 d1
    have K1 : Hid (∀ w, Calls Yba.prog 12 #[.float .f64 b, .int .i64 1] w fun e w' => e = .returned (.bool true) ∧ w' = w) := J1
    clear J1
    go_enter Yba.func8, Yba.ntmps8
    go_wp2_with (first
      | (go_at_call 12; go_must (refine (K1.out _).mono ?_; rintro e w' ⟨rfl, hw⟩; obtain rfl := hw.symm))
      | (at_builtin; go_must (refine ap_str_grow _ rfl (.tmp 8) _ rfl ad n xs rfl HL.out HC.out ⟨#[43, 73, 110, 102]⟩ [43, 73, 110, 102] rfl rfl (by decide) (by have := HL.out; simp; omega) ?_; rintro v' w1 ho ⟨cap, rfl⟩ hb1)))
    go_ret
    exact ⟨cap, rfl, ho, hb1⟩
  · have d1 : decide (b = infW) = false := by simp [h1]
    rw [d1] at I1
    by_cases h2 : b = ninfW
    · have d2 : decide (b = ninfW) = true := by simp [h2]
      have e1 : textOf b = [45, 73, 110, 102] := by unfold textOf; rw [if_neg h1, if_pos h2]
      rw [d2] at I2
      rw [e1]
      have K1 : Hid (∀ w, Calls Yba.prog 12 #[.float .f64 b, .int .i64 1] w fun e w' => e = .returned (.bool false) ∧ w' = w) := I1
      have K2 : Hid (∀ w, Calls Yba.prog 12 #[.float .f64 b, .int .i64 (-1)] w fun e w' => e = .returned (.bool true) ∧ w' = w) := I2
      clear h1 h2 I1 I2 e1 d1 d2
      go_enter Yba.func8, Yba.ntmps8
      go_wp2_with (first
        | (go_at_call 12; have KK := D1; go_must (refine (K2.out _).mono ?_; rintro e w' ⟨rfl, hw⟩; obtain rfl := hw.symm))
        | (go_at_call 12; go_must (refine (K1.out _).mono ?_; rintro e w' ⟨rfl, hw⟩; obtain rfl := hw.symm; have D1 : Hid True := trivial))
        | (at_builtin; go_must (refine ap_str_grow _ rfl (.tmp 13) _ rfl ad n xs rfl HL.out HC.out ⟨#[45, 73, 110, 102]⟩ [45, 73, 110, 102] rfl rfl (by decide) (by have := HL.out; simp; omega) ?_; rintro v' w1 ho ⟨cap, rfl⟩ hb1)))
      go_ret
      exact ⟨cap, rfl, ho, hb1⟩
    · have d2 : decide (b = ninfW) = false := by simp [h2]
      have e1 : textOf b = [78, 97, 78] := by unfold textOf; rw [if_neg h1, if_neg h2]
      rw [d2] at I2
      rw [e1]
      have K1 : Hid (∀ w, Calls Yba.prog 12 #[.float .f64 b, .int .i64 1] w fun e w' => e = .returned (.bool false) ∧ w' = w) := I1
      have K2 : Hid (∀ w, Calls Yba.prog 12 #[.float .f64 b, .int .i64 (-1)] w fun e w' => e = .returned (.bool false) ∧ w' = w) := I2
      clear h1 h2 I1 I2 e1 d1 d2
      go_enter Yba.func8, Yba.ntmps8
      go_wp2_with (first
        | (go_at_call 12; have KK := D1; go_must (refine (K2.out _).mono ?_; rintro e w' ⟨rfl, hw⟩; obtain rfl := hw.symm))
        | (go_at_call 12; go_must (refine (K1.out _).mono ?_; rintro e w' ⟨rfl, hw⟩; obtain rfl := hw.symm; have D1 : Hid True := trivial))
        | (at_builtin; go_must (refine ap_str_grow _ rfl (.tmp 15) _ rfl ad n xs rfl HL.out HC.out ⟨#[78, 97, 78]⟩ [78, 97, 78] rfl rfl (by decide) (by have := HL.out; simp; omega) ?_; rintro v' w1 ho ⟨cap, rfl⟩ hb1)))
      go_ret
      exact ⟨cap, rfl, ho, hb1⟩
end Go.Proofs.Ybulkegru
