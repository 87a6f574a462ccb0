/-
  THE TOLD CARD of 'ambit.LawS4067BWellFormed' (seat b4067aF): 'Rows.LawS4067BWellFormedToldSaid'. fmt's text is told by the authors' Lean function; nothing here looks into it.
-/
import Derived.Test.YbulkcfeyFmtCards
import Derived.Test.YbulkcfeyFmtWell
import Derived.ProofKit
import Derived.OpenShut
import Derived.SliceStrings
import Derived.Below
import Derived.Carry
import Derived.Stop.JoinedAt
import Derived.Stop.Texts
import Derived.Stop.JoinedTold
import Derived.SizedLaws
import Derived.SevenToldRow
namespace Go.Proofs.YbulkcfeyFmt
open Go.ChangeShapes Go.WideShapes Go.ChangeAt Go.RowKit Go.Kit
open Go.ChangeMaps (open_string shut_string)
open Go.Extern.Stop Go.Stop Go.Extern
set_option linter.unusedVariables false

theorem own : ownKnob Ybaf.prog.godebug = none := by kernel_rfl
theorem laidOut' : laidOutB Ybaf.prog = true := by kernel_rfl
theorem laidOut : laidOutB Ybaf.pinned.checked.prog = true := by kernel_rfl
theorem stops : Ybaf.pinned.checked.prog.stops = ["fmt.Sprintf"] := by kernel_rfl
theorem stopKnobs : Ybaf.pinned.checked.prog.stopKnobs = [] := by kernel_rfl
theorem quiet (os : Os) : Stop.quiet Ybaf.pinned.checked.prog os := by
  intro k hk
  rw [stopKnobs] at hk
  cases hk

theorem law_wf (F : Interp) (p t : ByteArray) (a : Option Addr) (len cap : Nat) (ss : List ByteArray) (w : World)
    (ha : (len = 0) ∨ ∃ x, a = some x ∧ ∀ i, i < len → w.cell? (x.add i) = some (.string (ss.getD i ByteArray.empty))) (hF : F.answers w.tape) :
    Calls Ybaf.prog 6 #[.string p, .slice a len cap, .string t] w fun e w' => e = .returned (.bool true) ∧ Below w.heap.size w w' := by
  by_cases h : 65536 < p.size ∨ 65536 < t.size ∨ 1024 < len
  · exact wf_long p t a len cap w h
  by_cases h0 : len = 0
  · subst h0
    exact wf_none F p t a cap w (by omega) (by omega) hF
  rcases ha with ha | ⟨⟨b, off, spot⟩, rfl, hc⟩
  · exact absurd ha h0
  have hspot : spot = none := by simpa [Addr.add] using World.cell?_spot (hc 0 (by omega))
  subst hspot
  have hc' : ∀ i, i < len → w.cell? ⟨b, off + i, none⟩ = some (.string (ss.getD i ByteArray.empty)) := fun j hj => by rw [← add_plain]; exact hc j hj
  have hb : b < w.heap.size := by
    rcases Nat.lt_or_ge b w.heap.size with h | h
    · exact h
    · have := hc' 0 (by omega)
      simp [World.cell?, Array.getElem?_eq_none h] at this
  exact wf_in F p t b off len cap (fun i => ss.getD i ByteArray.empty) w (by omega) (by omega) (by omega) (by omega) hb hc' hF

theorem Ybaf.cells9 : Ybaf.prog.cellsOf 9 = 1 := by kernel_rfl

set_option maxRecDepth 100000 in
theorem wf_lifted (os : Os) (started : os.Started) (H : Type) (enc : TypeId × Value → H) :
    ReturnsInTold none {} Ybaf.checked os 6 .any Input.okWide ((OpenSpec.ofChange Rows.lawS4067BWellFormedSpec).preRow enc Ybaf.prog Ybaf.f6 [] false []) (fun F => ((OpenSpec.ofChange Rows.lawS4067BWellFormedSpec).at F).post enc Ybaf.prog Ybaf.f6 false true false false) (aloneAtReturn Ybaf.prog) nothingAlways := by
  refine returnsInTold_of_row (C := Ybaf.checked) (s := OpenSpec.ofChange Rows.lawS4067BWellFormedSpec) (by kernel_rfl) own started (by kernel_rfl) Ybaf.func6
    (OpenSpec.witness_stopped (enc := enc) (C := Ybaf.checked) false ⟨#[], #[.string ⟨#[]⟩, .slice none 0 0, .string ⟨#[]⟩], []⟩ 8 (by kernel_rfl) (by kernel_rfl) (by kernel_rfl) (by kernel_rfl)) ?_
  intro F W base args ds gs before _ hF hval0 hW _ _ hsz _ _
  have hval : ∀ (j : Nat) t v, Ybaf.f6.params[j]? = some t → args[j]? = some v → Value.okWide Ybaf.prog W .any base t v := hval0
  have hW' := hW
  obtain ⟨p, q, hA0, hV, rfl, hfz, hnd⟩ := hW
  have hA : DataW.TrodAll enc Ybaf.prog W 0 (fun _ => true) true Ybaf.f6.params.toList args.toList ds p := hA0
  rw [Ybaf.params6] at hA hval
  obtain ⟨v0, v1, v2, d0, d1, d2, p0, p1, p2, rfl, rfl, rfl, h0, h1, h2⟩ := trodAll_three hA
  obtain ⟨rfl, rfl⟩ := trodVars_none hV
  obtain ⟨s, rfl, rfl, rfl, ws⟩ := open_string Ybaf.underlying9 (hval 0 9 v0 rfl rfl) h0
  obtain ⟨a1, len1, cap1, rfl⟩ := okWide_slice Ybaf.underlying23 (hval 1 23 v1 rfl rfl)
  have k1 := h1
  have lt1 : ∀ x ∈ p1, x.block < W.heap.size := by obtain ⟨m, hm⟩ := k1; exact DataW.trod_lt m _ _ _ hm
  obtain ⟨ss, ha⟩ : ∃ ss : List ByteArray, (len1 = 0) ∨ ∃ x, a1 = some x ∧ ∀ i, i < len1 → W.cell? (x.add i) = some (.string (ss.getD i ByteArray.empty)) := by
    obtain ⟨fuel, hf⟩ := h1
    rcases open_strings Ybaf.underlying23 Ybaf.underlying9 Ybaf.cells9 hf with ⟨hcs, _⟩ | ⟨x, l, c, zs, hcs, _, hl, hm, hz, _, hcell, hwz⟩
    · simp [Value.cells] at hcs
      exact ⟨[], .inl hcs.2.1⟩
    · simp [Value.cells] at hcs
      obtain ⟨rfl, rfl, rfl⟩ := hcs
      refine ⟨zs, .inr ⟨_, rfl, fun i hi => hcell i ?_⟩⟩
      simp at hz
      omega
  obtain ⟨t, rfl, rfl, rfl, wt⟩ := open_string Ybaf.underlying9 (hval 2 9 v2 rfl rfl) h2
  clear hA0 hval0
  refine (law_wf F.told s t a1 len1 cap1 ss W ha hF).mono fun e W' ⟨he, hb⟩ => ?_
  subst he
  refine ⟨_, rfl, _, _, _, [], [] ++ (p1 ++ []), [], hW', trodAll_mk1 (shut_bool Ybaf.underlying4 _), ?_, rfl, hb.frame _, fun h => by cases h⟩
  exact trodAll_cons_mk (shut_string Ybaf.underlying9 ws) (trodAll_cons_mk (Below.trod laidOut' (by kernel_rfl) (of_decide_eq_true (by kernel_rfl)) k1 hb lt1) (trodAll_cons_mk (shut_string Ybaf.underlying9 wt) trodAll_mk0))

theorem wf_told : Rows.LawS4067BWellFormedToldSaid :=
  Claim7.holds_of_told_any 6 Ybaf.f6 "fmt.Sprintf" [] [] _ _ _ (by kernel_rfl) rfl rfl rfl laidOut (by kernel_rfl) rfl ⟨rfl, rfl, rfl, rfl, rfl, rfl, rfl⟩ rfl rfl (by kernel_rfl) (by kernel_rfl) Ybaf.func6 (by kernel_rfl)
    (of_decide_eq_true (by kernel_rfl)) (of_decide_eq_true (by kernel_rfl)) stops.symm rfl stopKnobs.symm (by kernel_rfl)
    (by kernel_rfl) (by kernel_rfl) (by kernel_rfl) (by kernel_rfl) (by kernel_rfl) (by kernel_rfl) (by kernel_rfl) (by kernel_rfl) (by kernel_rfl) rfl (by kernel_rfl) rfl rfl
    rfl rfl
    rfl (by kernel_rfl) (by kernel_rfl) (by kernel_rfl) (by decide) (by kernel_rfl)
    (OpenClaim.moreEntering_of (by kernel_rfl) (by kernel_rfl) (by kernel_rfl) (by kernel_rfl) (by kernel_rfl) (by kernel_rfl) (by kernel_rfl) (by kernel_rfl) (by kernel_rfl) (by kernel_rfl))
    ⟨_, WideRow.started_initial, quiet _⟩
    (fun os started _ H enc _ => wf_lifted os started H enc)

#print axioms wf_told
end Go.Proofs.YbulkcfeyFmt
