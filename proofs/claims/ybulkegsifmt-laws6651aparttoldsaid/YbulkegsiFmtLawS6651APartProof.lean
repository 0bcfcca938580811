/-
  'Rows.LawS6651APartToldSaid' ('der.LawS6651APart'), proved: fmt's texts told by the authors' own function.
-/
import Derived.Test.YbulkegsiFmtCards
import Derived.Test.YbulkegsiFmtMainA
import Derived.ProofKit
import Derived.Stop.JoinedAt
import Derived.Stop.JoinedTold
import Derived.SevenToldRow
import Derived.Below
import Derived.OpenShut
import Derived.ChangeOld
namespace Go.Proofs.YbulkegsiFmt.lawS6651APart
open Go.ChangeShapes Go.WideShapes Go.ChangeAt Go.RowKit Go.Kit
open Go.Extern.Stop Go.Stop Go.Extern
set_option linter.unusedVariables false
set_option linter.unusedSimpArgs false

theorem own : ownKnob Ybaf.prog.godebug = none := by kernel_rfl
theorem u8_bounds {c : Int} (wc : (Lit.int .u8 c).wf = true) : 0 ≤ c ∧ c ≤ 255 := by
  have e1 : IntKind.u8.min = 0 := rfl
  have e2 : IntKind.u8.max = 255 := rfl
  simpa [Lit.wf, e1, e2] using wc

set_option maxRecDepth 100000 in
theorem lifted (os : Os) (started : os.Started) (H : Type) (enc : TypeId × Value → H) :
    ReturnsInTold none {} Ybaf.checked os 3 .any Input.okWide ((OpenSpec.ofChange Rows.lawS6651APartSpec).preRow enc Ybaf.prog Ybaf.f3 [] false []) (fun F => ((OpenSpec.ofChange Rows.lawS6651APartSpec).at F).post enc Ybaf.prog Ybaf.f3 false true false false) (aloneAtReturn Ybaf.prog) nothingAlways := by
  refine returnsInTold_of_row (C := Ybaf.checked) (s := OpenSpec.ofChange Rows.lawS6651APartSpec) (by kernel_rfl) own started (by kernel_rfl) Ybaf.func3
    (OpenSpec.witness_stopped (enc := enc) (C := Ybaf.checked) false ⟨#[], #[.int .u8 1, .int .u8 1], []⟩ 8 (by kernel_rfl) (by kernel_rfl) (by kernel_rfl) (by kernel_rfl)) ?_
  intro F W base args ds gs before _ hF hval0 hW _ _ _ _ _
  have hval : ∀ (j : Nat) t v, Ybaf.f3.params[j]? = some t → args[j]? = some v → Value.okWide Ybaf.prog W .any base t v := hval0
  have hW' := hW
  obtain ⟨p, q, hA0, hV, rfl, hfz, hnd⟩ := hW
  have hA : DataW.TrodAll enc Ybaf.prog W 0 (fun _ => true) true Ybaf.f3.params.toList args.toList ds p := hA0
  rw [Ybaf.params3] at hA hval
  obtain ⟨v0, v1, d0, d1, p0, p1, rfl, rfl, rfl, h0, h1⟩ := trodAll_two hA
  obtain ⟨rfl, rfl⟩ := trodVars_none hV
  obtain ⟨c, rfl, rfl, rfl, wc⟩ := open_int Ybaf.underlying5 (hval 0 5 v0 rfl rfl) h0
  obtain ⟨k, rfl, rfl, rfl, wk⟩ := open_int Ybaf.underlying5 (hval 1 5 v1 rfl rfl) h1
  clear hA0 hval0
  obtain ⟨c0, c1⟩ := u8_bounds wc
  obtain ⟨k0, k1⟩ := u8_bounds wk
  refine (lawA F.told c k W hF c0 c1 k0 k1).mono fun e W' hh => ?_
  obtain ⟨rfl, hb⟩ := hh
  refine ⟨_, rfl, _, _, _, [], [], [], hW', ?_, ?_, rfl, ?_, fun h => by cases h⟩
  · exact trodAll_mk1 (shut_bool Ybaf.underlying4 _)
  · exact trodAll_cons_mk (shut_int Ybaf.underlying5 wc) (trodAll_mk1 (shut_int Ybaf.underlying5 wk))
  · exact hb.frame _

theorem laidOut : laidOutB Ybaf.pinned.checked.prog = true := by kernel_rfl
theorem stops : Ybaf.pinned.checked.prog.stops = Rows.lawS6651APartRow.stops := by kernel_rfl
theorem stopKnobs : Ybaf.pinned.checked.prog.stopKnobs = [] := by kernel_rfl
theorem quiet (os : Os) : Stop.quiet Ybaf.pinned.checked.prog os := by
  intro k hk
  rw [stopKnobs] at hk
  cases hk

/-- ████ THE STATEMENT ████ -/
theorem proved : Rows.LawS6651APartToldSaid :=
  Claim7.holds_of_told_any 3 Ybaf.f3 _ _ [] _ _ _ (by kernel_rfl) rfl rfl rfl laidOut (by kernel_rfl) rfl ⟨rfl, rfl, rfl, rfl, rfl, rfl, rfl⟩ rfl rfl (by kernel_rfl) (by kernel_rfl) Ybaf.func3 (by kernel_rfl)
    (of_decide_eq_true (by kernel_rfl)) (of_decide_eq_true (by kernel_rfl)) stops.symm rfl stopKnobs.symm (by kernel_rfl)
    (by kernel_rfl) (by kernel_rfl) (by kernel_rfl) (by kernel_rfl) (by kernel_rfl) (by kernel_rfl) (by kernel_rfl) (by kernel_rfl) (by kernel_rfl) rfl (by kernel_rfl) rfl rfl
    rfl rfl
    rfl (by kernel_rfl) (by kernel_rfl) (by kernel_rfl) (by decide) (by kernel_rfl)
    (OpenClaim.moreEntering_of (by kernel_rfl) (by kernel_rfl) (by kernel_rfl) (by kernel_rfl) (by kernel_rfl) (by kernel_rfl) (by kernel_rfl) (by kernel_rfl) (by kernel_rfl) (by kernel_rfl))
    ⟨_, WideRow.started_initial, quiet _⟩
    (fun os started _ H enc _ => lifted os started H enc)
#print axioms proved

end Go.Proofs.YbulkegsiFmt.lawS6651APart
