/-
  DERIVED. Element summed up; Read, Enter, Finish, Single: FOR EVERY F.
-/
import Derived.Test.YbulkegsiFmtElemD
namespace Go.Proofs.YbulkegsiFmt
open Go.Extern.Stop Go.Stop Go.Extern Go.RowKit
set_option linter.unusedVariables false
set_option linter.unusedSimpArgs false

/-- WHAT IS KNOWN OF A SLICE OF BYTES: empty (nil or not), or n cells in a row that hold X. -/
structure Inp (w : World) (a : Option Addr) (b off n c : Nat) (X : Nat → Int) : Prop where
  cap : n ≤ c
  lim : n ≤ 2097152
  row : n = 0 ∨ (a = some ⟨b, off, none⟩ ∧ ∀ i, i < n → w.cell? ⟨b, off + i, none⟩ = some (.int .u8 (X i)))
  byte : ∀ i, 0 ≤ X i ∧ X i ≤ 255

theorem Inp.later {w w' : World} {a : Option Addr} {b off n c : Nat} {X : Nat → Int} (h : Inp w a b off n c X) (hb : Below w.heap.size w w') : Inp w' a b off n c X :=
  ⟨h.cap, h.lim, h.row.imp id fun ⟨e, g⟩ => ⟨e, fun i hi => cell_later hb (g i hi)⟩, h.byte⟩

theorem elem_any (F : Interp) (a : Option Addr) (b off n c rb : Nat) (X : Nat → Int) (t : Int) (w : World) (hF : F.answers w.tape) (h0 : 0 ≤ t) (h1 : t ≤ 255) (hI : Inp w a b off n c X)
    (hr : w.cell? ⟨rb, 0, none⟩ = some (.slice a n c)) (hfr : w.frozen? ⟨rb, 0, none⟩ = false) :
    Calls Ybaf.prog 18 #[.pointer (some ⟨rb, 0, none⟩), .int .u8 t] w (fun e w' => (∃ h l, Good X n t h l ∧ EOk b off n c rb h l w e w') ∨ ((∀ h l, ¬ Good X n t h l) ∧ EErr w e w')) := by
  obtain ⟨hnc, hn1, hrow, hB⟩ := hI
  have bad : ∀ {P : Ending → World → Prop}, (∀ h l, ¬ Good X n t h l) → Calls Ybaf.prog 18 #[.pointer (some ⟨rb, 0, none⟩), .int .u8 t] w (EErr w) →
      Calls Ybaf.prog 18 #[.pointer (some ⟨rb, 0, none⟩), .int .u8 t] w (fun e w' => (∃ h l, Good X n t h l ∧ EOk b off n c rb h l w e w') ∨ ((∀ h l, ¬ Good X n t h l) ∧ EErr w e w')) :=
    fun hg hc => hc.mono fun e w' he => Or.inr ⟨hg, he⟩
  rcases hrow with rfl | ⟨rfl, hX⟩
  · exact bad (P := EErr w) (fun h l hg => by have := hg.1; omega) (elem_empty F a c rb t w hF h0 h1 hr)
  · by_cases hn0 : n = 0
    · subst hn0
      exact bad (P := EErr w) (fun h l hg => by have := hg.1; omega) (elem_empty F _ c rb t w hF h0 h1 hr)
    · by_cases ht : X 0 = t
      · by_cases hn : 2 ≤ n
        · by_cases hs : X 1 < 128
          · obtain ⟨z0, z1⟩ := hB 1
            obtain ⟨l, hl⟩ : ∃ l : Nat, X 1 = (l : Int) := ⟨(X 1).toNat, by omega⟩
            by_cases hp : 2 + l ≤ n
            · refine (elem_s2 b off n c rb X t w h0 h1 hn hn1 hnc hX hB hr hfr ht l (2 + l) rfl hl (by omega) hp).mono fun e w' he => Or.inl ⟨2, l, ⟨hn, ht, hp, Or.inl ⟨hs, rfl, hl.symm⟩⟩, he⟩
            · refine bad (P := EErr w) ?_ (elem_s1 F b off n c rb X t w hF h0 h1 hn hn1 hnc hX hB hr hfr ht hs (by omega))
              intro h l' hg
              obtain ⟨_, _, g3, g4⟩ := hg
              rcases g4 with ⟨_, rfl, g5⟩ | ⟨K, g5, _⟩ <;> omega
          · obtain ⟨z0, z1⟩ := hB 1
            obtain ⟨K, hK⟩ : ∃ K : Nat, X 1 = 128 + (K : Int) := ⟨(X 1 - 128).toNat, by omega⟩
            have only : ∀ h l, Good X n t h l → 1 ≤ K ∧ K ≤ 4 ∧ 128 ≤ num X K ∧ X 2 ≠ 0 ∧ h = 2 + K ∧ (l : Int) = num X K ∧ h + l ≤ n := by
              intro h l hg
              obtain ⟨_, _, g3, g4⟩ := hg
              rcases g4 with ⟨g5, _⟩ | ⟨K', g5, g6, g7, g8, g9, g10, g11⟩
              · omega
              · obtain rfl : K' = K := by omega
                exact ⟨g6, g7, g8, g9, g10, g11, g3⟩
            by_cases k0 : K = 0
            · exact bad (P := EErr w) (fun h l hg => by have := only h l hg; omega) (elem_k0 F b off n c rb X t w hF h0 h1 hn hn1 hnc hX hB hr hfr ht K hK k0)
            · by_cases k4 : K ≤ 4
              · by_cases kn : 2 + K ≤ n
                · obtain ⟨v0, v1⟩ := num_bd4 hB k4
                  obtain ⟨l, hl⟩ : ∃ l : Nat, num X K = (l : Int) := ⟨(num X K).toNat, by omega⟩
                  by_cases hl1 : l < 128
                  · exact bad (P := EErr w) (fun h l' hg => by have := only h l' hg; omega) (elem_l1 F b off n c rb X t w hF h0 h1 hn hn1 hnc hX hB hr hfr ht K (2 + K) rfl hK (by omega) k4 kn l hl hl1)
                  · by_cases hx2 : X 2 = 0
                    · exact bad (P := EErr w) (fun h l' hg => (only h l' hg).2.2.2.1 hx2) (elem_l0 F b off n c rb X t w hF h0 h1 hn hn1 hnc hX hB hr hfr ht K (2 + K) rfl hK (by omega) k4 kn l hl (by omega) hx2)
                    · by_cases hp : 2 + K + l ≤ n
                      · refine (elem_l2 F b off n c rb X t w hF h0 h1 hn hn1 hnc hX hB hr hfr ht K (2 + K) rfl hK (by omega) k4 kn l hl (by omega) hx2 (2 + K + l) rfl hp).mono fun e w' he => Or.inl ⟨2 + K, l, ⟨hn, ht, hp, Or.inr ⟨K, hK, by omega, k4, by omega, hx2, rfl, hl.symm⟩⟩, he⟩
                      · exact bad (P := EErr w) (fun h l' hg => by have := only h l' hg; omega) (elem_l3 F b off n c rb X t w hF h0 h1 hn hn1 hnc hX hB hr hfr ht K (2 + K) rfl hK (by omega) k4 kn l hl (by omega) hx2 (by omega))
                · refine bad (P := EErr w) (fun h l' hg => ?_) (elem_kn F b off n c rb X t w hF h0 h1 hn hn1 hnc hX hB hr hfr ht K hK (by omega) k4 (by omega))
                  have := only h l' hg
                  omega
              · exact bad (P := EErr w) (fun h l hg => by have := only h l hg; omega) (elem_k5 F b off n c rb X t w hF h0 h1 hn hn1 hnc hX hB hr hfr ht K hK (by omega))
        · exact bad (P := EErr w) (fun h l hg => hn hg.1) (elem_one F b off n c rb X t w hF h0 h1 (by omega) hnc hX hB hr ht)
      · exact bad (P := EErr w) (fun h l hg => ht hg.2.1) (elem_tag F b off n c rb X t w hF h0 h1 (by omega) hnc hX hB hr ht)

end Go.Proofs.YbulkegsiFmt
