/-
  THE TOLD CARD of 'parley.LawS4071BRoundTrip' (seat b4071aF): 'Rows.LawS4071BRoundTripToldSaid'. fmt's text is told by the authors' Lean function; on this road fmt is never asked.
-/
import Derived.Test.YbulkcfhcFmtCards
import Derived.Test.YbulkcfhcFmtLaw
import Derived.ProofKit
import Derived.OpenShut
import Derived.Stop.JoinedAt
import Derived.Stop.Texts
import Derived.Stop.JoinedTold
import Derived.SizedLaws
import Derived.SevenToldRow
namespace Go.Proofs.YbulkcfhcFmt
open Go.ChangeShapes Go.WideShapes Go.ChangeAt Go.RowKit Go.Kit
open Go.Extern.Stop Go.Stop Go.Extern
set_option linter.unusedVariables false

theorem own : ownKnob Ybaf.prog.godebug = none := by kernel_rfl
theorem laidOut : laidOutB Ybaf.pinned.checked.prog = true := by kernel_rfl
theorem stops : Ybaf.pinned.checked.prog.stops = ["fmt.errorf"] := by kernel_rfl
theorem stopKnobs : Ybaf.pinned.checked.prog.stopKnobs = [] := by kernel_rfl
theorem quiet (os : Os) : Stop.quiet Ybaf.pinned.checked.prog os := by
  intro k hk
  rw [stopKnobs] at hk
  cases hk

set_option maxRecDepth 100000 in
theorem round_lifted (os : Os) (started : os.Started) (H : Type) (enc : TypeId × Value → H) :
    ReturnsInTold none {} Ybaf.checked os 4 .any Input.okWide ((OpenSpec.ofChange Rows.lawS4071BRoundTripSpec).preRow enc Ybaf.prog Ybaf.f4 [] false []) (fun F => ((OpenSpec.ofChange Rows.lawS4071BRoundTripSpec).at F).post enc Ybaf.prog Ybaf.f4 false true false false) (aloneAtReturn Ybaf.prog) nothingAlways := by
  refine returnsInTold_of_row (C := Ybaf.checked) (s := OpenSpec.ofChange Rows.lawS4071BRoundTripSpec) (by kernel_rfl) own started (by kernel_rfl) Ybaf.func4
    (OpenSpec.witness_stopped (enc := enc) (C := Ybaf.checked) false ⟨#[], #[.int .u32 0, .int .u32 0], []⟩ 8 (by kernel_rfl) (by kernel_rfl) (by kernel_rfl) (by kernel_rfl)) ?_
  intro F W base args ds gs before _ hF hval0 hW _ _ hsz _ _
  have hval : ∀ (j : Nat) t v, Ybaf.f4.params[j]? = some t → args[j]? = some v → Value.okWide Ybaf.prog W .any base t v := hval0
  have hW' := hW
  obtain ⟨p, q, hA0, hV, rfl, hfz, hnd⟩ := hW
  have hA : DataW.TrodAll enc Ybaf.prog W 0 (fun _ => true) true Ybaf.f4.params.toList args.toList ds p := hA0
  rw [Ybaf.params4] at hA hval
  obtain ⟨v0, v1, d0, d1, p0, p1, rfl, rfl, rfl, h0, h1⟩ := trodAll_two hA
  obtain ⟨rfl, rfl⟩ := trodVars_none hV
  obtain ⟨x, rfl, rfl, rfl, wx⟩ := open_int Ybaf.underlying23 (hval 0 23 v0 rfl rfl) h0
  obtain ⟨s, rfl, rfl, rfl, ws⟩ := open_int Ybaf.underlying23 (hval 1 23 v1 rfl rfl) h1
  clear hA0 hval0
  have hx : 0 ≤ x ∧ x ≤ 4294967295 := by
    have := wx
    simp [Lit.wf, IntKind.min, IntKind.max, IntKind.signed, IntKind.bits] at this
    omega
  refine (law_round F.told x s W hx.1 hx.2 hF).mono fun e W' ⟨he, hb⟩ => ?_
  subst he
  exact ⟨_, rfl, _, _, _, [], [], [], hW', trodAll_mk1 (shut_bool Ybaf.underlying4 _), trodAll_mk2 (shut_int Ybaf.underlying23 wx) (shut_int Ybaf.underlying23 ws), rfl, hb.frame _, fun h => by cases h⟩

theorem round_told : Rows.LawS4071BRoundTripToldSaid :=
  Claim7.holds_of_told_any 4 Ybaf.f4 "fmt.errorf" [] [] _ _ _ (by kernel_rfl) rfl rfl rfl laidOut (by kernel_rfl) rfl ⟨rfl, rfl, rfl, rfl, rfl, rfl, rfl⟩ rfl rfl (by kernel_rfl) (by kernel_rfl) Ybaf.func4 (by kernel_rfl)
    (of_decide_eq_true (by kernel_rfl)) (of_decide_eq_true (by kernel_rfl)) stops.symm rfl stopKnobs.symm (by kernel_rfl)
    (by kernel_rfl) (by kernel_rfl) (by kernel_rfl) (by kernel_rfl) (by kernel_rfl) (by kernel_rfl) (by kernel_rfl) (by kernel_rfl) (by kernel_rfl) rfl (by kernel_rfl) rfl rfl
    rfl rfl
    rfl (by kernel_rfl) (by kernel_rfl) (by kernel_rfl) (by decide) (by kernel_rfl)
    (OpenClaim.moreEntering_of (by kernel_rfl) (by kernel_rfl) (by kernel_rfl) (by kernel_rfl) (by kernel_rfl) (by kernel_rfl) (by kernel_rfl) (by kernel_rfl) (by kernel_rfl) (by kernel_rfl))
    ⟨_, WideRow.started_initial, quiet _⟩
    (fun os started _ H enc _ => round_lifted os started H enc)

#print axioms round_told
end Go.Proofs.YbulkcfhcFmt
