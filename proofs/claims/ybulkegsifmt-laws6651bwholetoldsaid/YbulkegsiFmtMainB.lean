/-
  DERIVED. 'der.LawS6651BWhole': the walk, FOR EVERY F.
-/
import Derived.Test.YbulkegsiFmtEncB
import Derived.Laws.Closers25b
import Derived.Laws.CopyOwn
import Derived.Deep.CutBlock
namespace Go.Proofs.YbulkegsiFmt
open Go.Extern.Stop Go.Stop Go.Extern Go.RowKit
set_option linter.unusedVariables false
set_option linter.unusedSimpArgs false

theorem src_at {w : World} {a : Option Addr} {n c : Nat} {xs : List Int} (h : Src w a n c xs) (hn : 0 < n) :
    ∃ b off, a = some ⟨b, off, none⟩ ∧ b < w.heap.size ∧ ∀ j, j < n → w.cell? ⟨b, off + j, none⟩ = some (.int .u8 (xs.getD j 0)) := by
  cases a with
  | none => have := (h.nil rfl).1; omega
  | some ad =>
    have hxl := h.len
    have hg : ∀ j, j < n → (xs.map (Value.int .u8))[j]? = some (.int .u8 (xs.getD j 0)) := by
      intro j hj
      simp only [List.getElem?_map, List.getElem?_eq_getElem (show j < xs.length by omega), Option.map_some, List.getD, Option.getD_some]
    obtain ⟨b, off, spot⟩ := ad
    have c0 := h.cell _ rfl 0 _ (hg 0 (by omega))
    have hspot : spot = none := by simpa [Addr.add] using World.cell?_spot c0
    subst hspot
    refine ⟨b, off, rfl, ?_, fun j hj => ?_⟩
    · have := World.block_lt_of_cell? w _ c0
      simpa [Addr.add] using this
    · rw [← Go.WideShapes.add_plain]
      exact h.cell _ rfl j _ (hg j hj)

theorem Ybaf.size5 : (Ybaf.prog.info? 5).map (·.size) = some 1 := by kernel_rfl

theorem own_full {w : World} {base g n : Nat} {e : TypeId} {xs : List Value} (h : w.ownsRow base e 1 (.slice (some ⟨g, 0, none⟩) n n) n xs) : w.heap[g]? = some (.cells xs.toArray e (0, 0)) := by
  rcases h.2 with ⟨h, _⟩ | ⟨g', cap, cur, hv, hg, hh, _, _, hs, ht⟩
  · simp at h
  · simp only [Value.slice.injEq, Option.some.injEq, Addr.mk.injEq, and_true] at hv
    obtain ⟨rfl, _, rfl⟩ := hv
    rw [hh, ← ht, List.take_of_length_le (by simp [hs])]

theorem splice_all (n : Nat) (z : Value) (xs : List Value) (h : xs.length = n) : splice (List.replicate n z) 0 xs = xs := by simp [splice, h]

theorem row_cell {w : World} {g : Nat} {xs : List Int} (h : w.heap[g]? = some (.cells (xs.map (Value.int .u8)).toArray 5 (0, 0))) : ∀ j u, (xs.map (Value.int .u8))[j]? = some u → w.cell? ((⟨g, 0, none⟩ : Addr).add j) = some u := by
  intro j u hu
  rw [Go.WideShapes.add_plain, Nat.zero_add, cell_of_row _ _ _ _ _ _ h]
  simpa using hu


theorem model_yes (a : Option Addr) (b off n c : Nat) (X : Nat → Int) (t : Int) (w : World) (h0 : 0 ≤ t) (h1 : t ≤ 255) (hI : Inp w a b off n c X) (h l : Nat) (hg : Good X n t h l) (he : h + l = n) :
    Calls Ybaf.prog 9 #[.slice a n c, .int .u8 t] w (MOk h w) :=
  (model_any a b off n c X t w h0 h1 hI).mono fun e w' hh => by
    rcases hh with ⟨h', l', hg', _, hm⟩ | ⟨hno, _⟩
    · obtain ⟨rfl, rfl⟩ := hg.one hg'
      exact hm
    · exact absurd he (hno h l hg)
theorem model_not (a : Option Addr) (b off n c : Nat) (X : Nat → Int) (t : Int) (w : World) (h0 : 0 ≤ t) (h1 : t ≤ 255) (hI : Inp w a b off n c X) (hn : ∀ h l, Good X n t h l → h + l ≠ n) :
    Calls Ybaf.prog 9 #[.slice a n c, .int .u8 t] w (MNo w) :=
  (model_any a b off n c X t w h0 h1 hI).mono fun e w' hh => by
    rcases hh with ⟨h', l', hg', he, hm⟩ | ⟨_, hm⟩
    · exact absurd he (hn _ _ hg')
    · exact hm
theorem single_yes (F : Interp) (a : Option Addr) (b off n c : Nat) (X : Nat → Int) (t : Int) (w : World) (hF : F.answers w.tape) (h0 : 0 ≤ t) (h1 : t ≤ 255) (hI : Inp w a b off n c X) (h l : Nat) (hg : Good X n t h l) (he : h + l = n) :
    Calls Ybaf.prog 10 #[.slice a n c, .int .u8 t] w (SOk b off c h l w) :=
  (single_any F a b off n c X t w hF h0 h1 hI).mono fun e w' hh => by
    rcases hh with ⟨h', l', hg', _, hm⟩ | ⟨hno, _⟩
    · obtain ⟨rfl, rfl⟩ := hg.one hg'
      exact hm
    · exact absurd he (hno h l hg)
theorem single_not (F : Interp) (a : Option Addr) (b off n c : Nat) (X : Nat → Int) (t : Int) (w : World) (hF : F.answers w.tape) (h0 : 0 ≤ t) (h1 : t ≤ 255) (hI : Inp w a b off n c X) (hn : ∀ h l, Good X n t h l → h + l ≠ n) :
    Calls Ybaf.prog 10 #[.slice a n c, .int .u8 t] w (SErr w) :=
  (single_any F a b off n c X t w hF h0 h1 hI).mono fun e w' hh => by
    rcases hh with ⟨h', l', hg', he, hm⟩ | ⟨_, hm⟩
    · exact absurd he (hn _ _ hg')
    · exact hm

theorem src_cut {w : World} {b off n c h l : Nat} {X : Nat → Int} (hI : Inp w (some ⟨b, off, none⟩) b off n c X) (he : h + l = n) (ad : Addr) (had : l = 0 ∨ ad = ⟨b, off + h, none⟩) : Src w (some ad) l (c - h) ((List.range l).map fun i => X (h + i)) := by
  refine ⟨by simp, fun h => (by cases h), fun ad' had j u hu => ?_⟩
  cases had
  have hj : j < l := by
    have := (List.getElem?_eq_some_iff.1 hu).1
    simpa using this
  rcases had with rfl | rfl
  · omega
  rcases hI.row with h0 | ⟨_, hc⟩
  · omega
  · rw [Go.WideShapes.add_plain, Nat.add_assoc, hc (h + j) (by omega), ← hu]
    simp [hj]

/-- '&x != &x'. -/
theorem eqIn_same40 (d : Nat) (p : Addr) (w : World) : (Op.equalIn (d + 1) 40 (.pointer (some p)) (.pointer (some p))).run Ybaf.prog w = .ok true w := by
  obtain ⟨i5, hi5, hz0, hz1, hz2⟩ := info_parts Ybaf.info5
  simp [Op.equalIn, run_underlying Ybaf.underlying40, sizeOf, typeInfo, hi5, run_sameAddr_same]
theorem neq_same (p : Addr) (w : World) : (binOp .neq 40 (.pointer (some p)) (.pointer (some p))).run Ybaf.prog w = .ok (.bool false) w := by
  simp only [binOp]
  simp [Op.equal, Op.maxDepth, eqIn_same40 9999]

/-- The input laid for the parser. -/
def Laid (w wc : World) (p : Value) : Prop := ∃ a b off n c X, p = .slice a n c ∧ Inp wc a b off n c X ∧ (a = none → n = 0 ∧ c = 0) ∧ Below w.heap.size w wc

theorem laid_own {w w1 : World} {v : Value} {L : List Int} (o : Own w.heap.size w1 v L) (bl : Below w.heap.size w w1) (hL : L.length ≤ 2097152) (hb : ∀ x ∈ L, 0 ≤ x ∧ x ≤ 255) : Laid w w1 v := by
  have hby : ∀ i, 0 ≤ L.getD i 0 ∧ L.getD i 0 ≤ 255 := by
    intro i
    by_cases hi : i < L.length
    · rw [show L.getD i 0 = L[i] by simp [List.getD, hi]]
      exact hb _ (List.getElem_mem hi)
    · rw [show L.getD i 0 = 0 by simp [List.getD, List.getElem?_eq_none (show L.length ≤ i by omega)]]
      omega
  have o' := o
  rcases o.2 with ⟨rfl, h0⟩ | ⟨g, cap, cur, rfl, hg, hh, hc, _⟩
  · exact ⟨none, 0, 0, 0, 0, fun i => L.getD i 0, rfl, ⟨Nat.le_refl _, by omega, Or.inl rfl, hby⟩, fun _ => ⟨rfl, rfl⟩, bl⟩
  · refine ⟨some ⟨g, 0, none⟩, g, 0, L.length, cap, fun i => L.getD i 0, rfl, ⟨hc, hL, Or.inr ⟨rfl, fun i hi => ?_⟩, hby⟩, fun h => (by cases h), bl⟩
    rw [Nat.zero_add, World.ownsRow.cellAt o' i (by omega)]
    simp [hi, List.getD]

set_option maxRecDepth 100000 in
set_option maxHeartbeats 1600000 in
theorem mainB (F : Interp) (a : Option Addr) (b off n c : Nat) (X : Nat → Int) (t f : Int) (w : World) (hF : F.answers w.tape) (h0 : 0 ≤ t) (h1 : t ≤ 255) (f0 : 0 ≤ f) (f1 : f ≤ 255) (hI : Inp w a b off n c X) (hnil : a = none → n = 0 ∧ c = 0) (hn : n ≤ 1048576) :
    Calls Ybaf.prog 4 #[.slice a n c, .int .u8 t, .int .u8 f] w fun e w' => e = .returned (.bool true) ∧ Below w.heap.size w w' := by
  obtain ⟨i5, hi5, hz0, hz1, hz2⟩ := info_parts Ybaf.info5
  have g1 : ∀ m : Nat, m = n → (1048576 < (m : Int)) = False := fun m hm => eq_false (by omega)
  have HI : Hid (Inp w a b off n c X) := hI
  have HN : Hid (n ≤ 1048576) := hn
  have HZ : Hid (a = none → n = 0 ∧ c = 0) := hnil
  have HF : Hid (F.answers w.tape) := hF
  clear hI hn hnil hF
  go_enter Ybaf.func4, Ybaf.ntmps4
  go_upto_block 0 with fail
  go_cut [7] (fun p wc => Laid w wc p)
  case first =>
    by_cases m0 : f % 3 = 0
    · have e0 : (f % 3 == 0) = true := by simpa using m0
      clear m0
      go_wp2_with fail
      go_meet
      exact ⟨a, b, off, n, c, X, rfl, HI.out, HZ.out, Below.refl _ _⟩
    · have e0 : (f % 3 == 0) = false := by simpa using m0
      by_cases m1 : f % 3 = 1
      · have e1 : (f % 3 == 1) = true := by simpa using m1
        clear m0 m1
        go_upto_region 10 with (at_make; go_must (refine wpList_make_full _ rfl _ _ 28 rfl w.heap.size 5 i5 (.int .u8 0) 1 Ybaf.underlying28 hi5 hz0 hz1 _ _ _ _ n rfl rfl rfl rfl (by have := HN.out; rw [hz2]; omega) (by have := HN.out; unfold maxLen; omega) (Nat.le_refl _) ?_; intro wd own3 grow3))
        have hq := own_full own3
        rw [show (Value.int IntKind.u8 0).cells = #[Value.int IntKind.u8 0] from rfl, toList_madeCells_one, Nat.mul_one] at hq
        have hbd : Below w.heap.size w wd := (Below.refl _ w).grown grow3 (Nat.le_refl _) (fun k h => by cases h)
        have hdl : w.heap.size < wd.heap.size := (own3.lt w.heap.size rfl).2
        have S1 := (HI.out.src HZ.out).below hbd
        clear own3 grow3 hi5 hz0 hz1 hz2
        by_cases hz : n = 0
        · have gz : ¬ (0 : Int) < (n : Int) := by omega
          have HZ0 : Hid (n = 0) := hz
          clear hz
          go_wp2_with (refine wpList_copy_splice rfl (.tmp 29) (.tmp 30) 28 28 rfl 5 Ybaf.underlying28 Ybaf.size5 (some ⟨w.heap.size, 0, none⟩) a n n n c rfl rfl w.heap.size 0 (List.replicate n (.int .u8 0)) 5 hq (((List.range n).map X).map (Value.int .u8)) (by simp) (fun hp => ⟨rfl, by obtain ⟨b1, off1, ha, _, _⟩ := src_at S1 (by simpa using hp); exact ⟨_, ha, S1.cell _ ha⟩⟩) (by simp) (ints_oneCell _ _) w.heap.size wd (Below.refl _ _) (Nat.le_refl _) ?_; intro wi hqi hbi)
          go_meet
          exact ⟨some ⟨w.heap.size, 0, none⟩, 0, 0, n, n, X, rfl, ⟨Nat.le_refl _, by have := HZ0.out; omega, Or.inl HZ0.out, HI.out.byte⟩, fun h => (by cases h), hbd.trans hbi⟩
        · have gz : (0 : Int) < (n : Int) := by omega
          have gz2 : 0 < n := by omega
          clear hz
          go_wp2_with (refine wpList_copy_splice rfl (.tmp 29) (.tmp 30) 28 28 rfl 5 Ybaf.underlying28 Ybaf.size5 (some ⟨w.heap.size, 0, none⟩) a n n n c rfl rfl w.heap.size 0 (List.replicate n (.int .u8 0)) 5 hq (((List.range n).map X).map (Value.int .u8)) (by simp) (fun hp => ⟨rfl, by obtain ⟨b1, off1, ha, _, _⟩ := src_at S1 (by simpa using hp); exact ⟨_, ha, S1.cell _ ha⟩⟩) (by simp) (ints_oneCell _ _) w.heap.size wd (Below.refl _ _) (Nat.le_refl _) ?_; intro wi hqi hbi; rw [splice_all _ _ _ (by simp)] at hqi; have fz := frozen_of_row wi w.heap.size 0 _ _ hqi.out; have c0 : wi.cell? ⟨w.heap.size, 0, none⟩ = some (.int .u8 (X 0)) := (by rw [cell_of_row _ _ _ _ _ _ hqi.out]; simp [gz2]))
          go_meet
          refine ⟨some ⟨w.heap.size, 0, none⟩, w.heap.size, 0, n, n, fun i => if i = 0 then t else X i, rfl, ⟨Nat.le_refl _, by have := HN.out; omega, Or.inr ⟨rfl, fun i hi => ?_⟩, fun i => ?_⟩, fun h => (by cases h), (hbd.trans hbi).setCell (Nat.le_refl _) _⟩
          · by_cases hi0 : i = 0
            · subst hi0
              go_simp
            · have ci : wi.cell? ⟨w.heap.size, i, none⟩ = some (.int .u8 (X i)) := by
                rw [cell_of_row _ _ _ _ _ _ hqi.out]; simp [hi]
              rw [Nat.zero_add, if_neg hi0, World.cell?_setCell_other, ci]
              simp [hi0]
          · by_cases hi0 : i = 0
            · rw [if_pos hi0]; exact ⟨h0, h1⟩
            · rw [if_neg hi0]; exact HI.out.byte i
      · have e1 : (f % 3 == 1) = false := by simpa using m1
        go_wp2_with (go_at_call 8; go_must (refine (enc_any a n c _ t w h0 h1 (HI.out.src HZ.out) (fun x hx => by simp at hx; obtain ⟨i, _, rfl⟩ := hx; exact HI.out.byte i) HN.out).mono ?_; rintro e w1 ⟨v', L, rfl, o, bl, hL, hb⟩))
        go_meet
        exact laid_own o bl hL hb
  case rest =>
    obtain ⟨w1, rfl⟩ : ∃ x, x = wc := ⟨wc, rfl⟩
    obtain ⟨a', b', off', n', c', X', rfl, hI', hz', hb'⟩ := hcut
    have HF1 : Hid (F.answers w1.tape) := (by rw [hb'.tape]; exact HF.out)
    have HB1 : Hid (Below w.heap.size w w1) := hb'
    have HI1 : Hid (Inp w1 a' b' off' n' c' X') := hI'
    have HZ1 : Hid (a' = none → n' = 0 ∧ c' = 0) := hz'
    have hlim := hI'.lim
    have HLim : Hid (n' ≤ 2097152) := hlim
    clear hI' hz' hb' HF HI HZ HN g1 hlim
    go_upto_region 14 with (at_make; go_must (refine wpList_make_full _ rfl _ _ 28 rfl w1.heap.size 5 i5 (.int .u8 0) 1 Ybaf.underlying28 hi5 hz0 hz1 _ _ _ _ n' rfl rfl rfl rfl (by have := HLim.out; rw [hz2]; omega) (by have := HLim.out; unfold maxLen; omega) (Nat.le_refl _) ?_; intro wd own3 grow3))
    have hq := own_full own3
    rw [show (Value.int IntKind.u8 0).cells = #[Value.int IntKind.u8 0] from rfl, toList_madeCells_one, Nat.mul_one] at hq
    have hbd : Below w1.heap.size w1 wd := (Below.refl _ w1).grown grow3 (Nat.le_refl _) (fun k h => by cases h)
    have hdl : w1.heap.size < wd.heap.size := (own3.lt w1.heap.size rfl).2
    have S1 := (HI1.out.src HZ1.out).below hbd
    clear own3 grow3 hi5 hz0 hz1 hz2
    go_upto_region 15 with (refine wpList_copy_splice rfl (.tmp 41) (.tmp 42) 28 28 rfl 5 Ybaf.underlying28 Ybaf.size5 (some ⟨w1.heap.size, 0, none⟩) a' n' n' n' c' rfl rfl w1.heap.size 0 (List.replicate n' (.int .u8 0)) 5 hq (((List.range n').map X').map (Value.int .u8)) (by simp) (fun hp => ⟨rfl, by obtain ⟨b1, off1, ha, _, _⟩ := src_at S1 (by simpa using hp); exact ⟨_, ha, S1.cell _ ha⟩⟩) (by simp) (ints_oneCell _ _) w1.heap.size wd (Below.refl _ _) (Nat.le_refl _) ?_; intro wi hqi hbi)
    rw [splice_all _ _ _ (by simp)] at hqi
    have BI : Hid (Below w1.heap.size w1 wi) := hbd.trans hbi
    have zi : w1.heap.size < wi.heap.size := Nat.lt_of_lt_of_le hdl hbi.size
    have SI : Hid (Src wi (some ⟨w1.heap.size, 0, none⟩) n' n' ((List.range n').map X')) := ⟨by simp, fun h => (by cases h), fun ad had => by cases had; exact row_cell hqi.out⟩
    have HFi : Hid (F.answers wi.tape) := (by rw [BI.out.tape]; exact HF1.out)
    have II : Hid (Inp wi a' b' off' n' c' X') := HI1.out.later BI.out
    clear hqi hbi hq S1 hbd
    by_cases G : ∃ h l, Good X' n' t h l ∧ h + l = n'
    · obtain ⟨h, l, hg, he⟩ := G
      have hn2 : 2 ≤ n' := hg.1
      have hh2 : 2 ≤ h := by
        rcases hg.2.2.2 with ⟨_, e, _⟩ | ⟨K, _, _, _, _, _, e, _⟩ <;> omega
      have C1 := model_yes a' b' off' n' c' X' t wi h0 h1 II.out h l hg he
      have C2 := single_yes F a' b' off' n' c' X' t wi HFi.out h0 h1 II.out h l hg he
      have HC1 : Hid (Calls Ybaf.prog 9 #[.slice a' n' c', .int .u8 t] wi (MOk h wi)) := C1
      have HC2 : Hid (Calls Ybaf.prog 10 #[.slice a' n' c', .int .u8 t] wi (SOk b' off' c' h l wi)) := C2
      clear C1 C2 hg
      have hcap := II.out.cap
      obtain ⟨ea, hcells⟩ := II.out.row.resolve_left (by omega)
      subst ea
      clear hcells
      have HE : Hid (h + l = n') := he
      have b5 : (0 : Int) ≤ (l : Int) ∧ (l : Int) ≤ 4294967296 := by have := HLim.out; omega
      have e5 : (n' : Int) - (h : Int) = (l : Int) := by omega
      have w3 : ∀ m : Nat, m = n' → wrap64 ((m : Int) - (h : Int)) = (l : Int) := fun m hm => by rw [hm, e5]; exact wrap64_sm b5
      have q1 : (0 : Int) ≤ (h : Int) := by omega
      have q2 : (h : Int) ≤ (n' : Int) := by omega
      have q3 : h ≤ n' := by omega
      have q4 : (n' : Int) ≤ (c' : Int) := by omega
      clear b5 e5 he
      go_upto_region 25 with (first
        | (go_at_call 9; go_must (refine HC1.out.mono ?_; rintro e w3 ⟨rfl, hw3⟩; obtain rfl := hw3.symm))
        | (go_at_call 10; go_must (refine HC2.out.mono ?_; rintro e w5 ⟨q, hq5, rfl, hc5, hb5⟩; have HB5 : Hid (Below wi.heap.size wi w5) := hb5; clear hb5))
        | (go_at_call 11; go_must (refine (equal_same _ _ _ _ (conv_src ((II.out.src HZ1.out).below HB5.out)) (conv_src (SI.out.below HB5.out))).mono ?_; rintro e w6 ⟨rfl, hw6⟩; obtain rfl := hw6.symm)))
      by_cases hch : c' = h
      · have f7 : (c' = h) = True := eq_true hch
        obtain rfl : l = 0 := by have := HE.out; omega
        rw [show cutAt b' off' c' h = some ⟨b', off', none⟩ from if_pos hch] at hc5
        have S5 := (src_cut II.out HE.out ⟨b', off', none⟩ (Or.inl rfl)).below HB5.out
        have HS5 : Hid (Src w5 (some ⟨b', off', none⟩) 0 (c' - h) ((List.range 0).map fun i => X' (h + i))) := S5
        have e6 : n' - h = 0 := by have := HE.out; omega
        clear S5 hch
        go_quiet ((go_at_call 11; go_must (exact (equal_same _ _ _ _ (conv_src (HS5.out.below (below_n w5 _))) (conv_src (HS5.out.below (below_n w5 _)))).mono (fun e w'' hh => ⟨hh.1, _, hh.2⟩))))
        go_upto_region 27 with fail
        go_quiet (fail)
        go_wp2
        go_ret
        exact ⟨rfl, HB1.out.trans ((BI.out.trans ((below_any (below_any HB5.out _) _).mono (by omega))).mono HB1.out.size)⟩
      · have f7 : (c' = h) = False := eq_false hch
        rw [show cutAt b' off' c' h = some ⟨b', off' + h, none⟩ from if_neg hch] at hc5
        have S5 := (src_cut II.out HE.out ⟨b', off' + h, none⟩ (Or.inr rfl)).below HB5.out
        have HS5 : Hid (Src w5 (some ⟨b', off' + h, none⟩) l (c' - h) ((List.range l).map fun i => X' (h + i))) := S5
        have e6 : n' - h = l := by have := HE.out; omega
        clear S5 hch
        go_quiet ((go_at_call 11; go_must (exact (equal_same _ _ _ _ (conv_src (HS5.out.below (below_n w5 _))) (conv_src (HS5.out.below (below_n w5 _)))).mono (fun e w'' hh => ⟨hh.1, _, hh.2⟩))))
        by_cases hl0 : 0 < l
        · have p1 : (0 : Int) < (l : Int) := by omega
          have p2 : (h : Int) < (n' : Int) := by have := HE.out; omega
          have p3 : h < n' := by have := HE.out; omega
          have ns := neq_same
          go_upto_region 27 with fail
          go_quiet (fail)
          go_wp2
          go_ret
          exact ⟨rfl, HB1.out.trans ((BI.out.trans ((below_any (below_any HB5.out _) _).mono (by omega))).mono HB1.out.size)⟩
        · obtain rfl : l = 0 := by omega
          go_upto_region 27 with fail
          go_quiet (fail)
          go_wp2
          go_ret
          exact ⟨rfl, HB1.out.trans ((BI.out.trans ((below_any (below_any HB5.out _) _).mono (by omega))).mono HB1.out.size)⟩
    · have hno : ∀ h l, Good X' n' t h l → h + l ≠ n' := fun h l hg he => G ⟨h, l, hg, he⟩
      have C1 := model_not a' b' off' n' c' X' t wi h0 h1 II.out hno
      have C2 := single_not F a' b' off' n' c' X' t wi HFi.out h0 h1 II.out hno
      have HC1 : Hid (Calls Ybaf.prog 9 #[.slice a' n' c', .int .u8 t] wi (MNo wi)) := C1
      have HC2 : Hid (Calls Ybaf.prog 10 #[.slice a' n' c', .int .u8 t] wi (SErr wi)) := C2
      clear C1 C2 hno G
      go_wp2_with (first
        | (go_at_call 9; go_must (refine HC1.out.mono ?_; rintro e w3 ⟨rfl, hw3⟩; obtain rfl := hw3.symm))
        | (go_at_call 10; go_must (refine HC2.out.mono ?_; rintro e w5 ⟨p, rfl, hb5⟩; have HB5 : Hid (Below wi.heap.size wi w5) := hb5; clear hb5))
        | (go_at_call 11; go_must (refine (equal_same _ _ _ _ (conv_src ((II.out.src HZ1.out).below HB5.out)) (conv_src (SI.out.below HB5.out))).mono ?_; rintro e w6 ⟨rfl, hw6⟩; obtain rfl := hw6.symm)))
      go_ret
      exact ⟨rfl, HB1.out.trans ((BI.out.trans (HB5.out.mono (by omega))).mono HB1.out.size)⟩

end Go.Proofs.YbulkegsiFmt
