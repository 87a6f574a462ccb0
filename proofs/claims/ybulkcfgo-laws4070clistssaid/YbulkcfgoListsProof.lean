/-
  'Rows.LawS4070CListsSaid' (seat b4070a): the frame, by hand after the kit's own way; the walk lies in YbulkcfgoLists.lean.
-/
import Derived.Test.YbulkcfgoRows
import Derived.Test.YbulkcfgoLists
import Derived.WalkKit
import Derived.ProofKit
import Derived.OpenShut
import Derived.ShutString
import Derived.ChangeOld
import Derived.Below
import Derived.Deep.Slices
import Derived.Deep.Strs
namespace Go.Proofs.Ybulkcfgo.lawS4070CLists
open Go.ChangeShapes Go.WideShapes Go.ChangeAt Go.RowKit Go.Deep
open Go.ChangeMaps (open_string shut_string)
open Go.Proofs.Ybulkcfgo.Cl (IsOps lists_walk)
set_option linter.unusedVariables false

theorem own : ownKnob Yba.prog.godebug = none := by kernel_rfl
theorem laidOut : laidOutB Yba.prog = true := by kernel_rfl
theorem cells42 : Yba.prog.cellsOf 42 = 3 := by kernel_rfl
theorem cells5 : Yba.prog.cellsOf 5 = 1 := by kernel_rfl
theorem cells21 : Yba.prog.cellsOf 21 = 1 := by kernel_rfl

/-- The operations, opened: nil, or a row of three cells each. -/
theorem open_ops {H : Type} {enc : TypeId × Value → H} {W : World} {sp : Nat → Bool} {fuel : Nat} {cs : List Value} {x : DataW H × List MemPlace} (h : DataW.trod enc Yba.prog W 0 sp true fuel 36 cs = some x) :
    cs = [.slice none 0 0] ∨
    ∃ (a : Addr) (len cap : Nat) (I : Nat → Int × Int × Int), cs = [.slice (some a) len cap] ∧
      ∀ i, i < len → W.cell? (a.add (i * 3)) = some (.int .u8 (I i).1) ∧ W.cell? (a.add (i * 3 + 1)) = some (.int .u8 (I i).2.1) ∧ W.cell? (a.add (i * 3 + 2)) = some (.int .i32 (I i).2.2) ∧ (Lit.int .u8 (I i).1).wf = true ∧ (Lit.int .u8 (I i).2.1).wf = true := by
  rcases open_slice Yba.underlying36 h with h0 | ⟨a, len, cap, m, n, D, Pl, rfl, hb, hl, hm, hmm, rfl, hx⟩
  · exact Or.inl h0.1
  right
  have hlm : len ≤ m := by rw [hmm]; split <;> omega
  have each : ∀ i, i < m → ∃ q : Int × Int × Int, W.cell? (a.add (i * 3)) = some (.int .u8 q.1) ∧ W.cell? (a.add (i * 3 + 1)) = some (.int .u8 q.2.1) ∧ W.cell? (a.add (i * 3 + 2)) = some (.int .i32 q.2.2) ∧ (Lit.int .u8 q.1).wf = true ∧ (Lit.int .u8 q.2.1).wf = true := by
    intro i hi
    obtain ⟨cs', h1, h2⟩ := hx i hi
    rw [cells42] at h1
    obtain ⟨_, hlen, hcell⟩ := World.cells?_some h1
    obtain ⟨y0, y1, y2, k, hxy, _, u0, u1, u2⟩ := trod_struct3 Yba.underlying42 h2
    match cs', hlen with
    | [v0, v1, v2], _ =>
      simp only [cells5, cells21, List.drop, List.take] at u0 u1 u2
      obtain ⟨s, e0, d0, f0⟩ := DataW.trod_int Yba.underlying5 u0
      obtain ⟨q, e1, d1, f1⟩ := DataW.trod_int Yba.underlying5 u1
      obtain ⟨p, e2, d2, _⟩ := DataW.trod_int Yba.underlying21 u2
      simp only [List.cons.injEq, and_true] at e0 e1 e2
      subst e0; subst e1; subst e2
      have c0 := hcell 0 (by omega)
      have c1 := hcell 1 (by omega)
      have c2 := hcell 2 (by omega)
      rw [add_add] at c0 c1 c2
      exact ⟨(s, q, p), by simpa using c0, by simpa using c1, by simpa using c2, f0, f1⟩
  obtain ⟨q, hq⟩ := choose_lt each
  exact ⟨a, len, cap, q, rfl, fun i hi => hq i (by omega)⟩

set_option maxRecDepth 100000 in
theorem lifted (os : Os) (started : os.Started) (H : Type) (enc : TypeId × Value → H) :
    ReturnsInHanded {} Yba.checked os 5 .any (Rows.lawS4070CListsSpec.pre6 enc Yba.prog Yba.f5 Rows.lawS4070CListsRow.domain false) (Rows.lawS4070CListsSpec.post enc Yba.prog Yba.f5 false true false false) := by
  refine returnsInHanded_of_change (C := Yba.checked) own started (by kernel_rfl) Yba.func5
    (ChangeSpec.witness6 (enc := enc) (C := Yba.checked) false ⟨#[], #[.int .u8 0, .slice none 0 0], []⟩ 8 (by kernel_rfl) (by kernel_rfl) (by kernel_rfl) (by kernel_rfl)) ?_
  intro W base args ds gs before hval0 hW hcnd _
  have hval : ∀ (j : Nat) t v, Yba.f5.params[j]? = some t → args[j]? = some v → Value.okWide Yba.prog W .any base t v := hval0
  have hW' := hW
  obtain ⟨p, q, hA0, hV, rfl, hfz, hnd⟩ := hW
  have hA : DataW.TrodAll enc Yba.prog W 0 (fun _ => true) true Yba.f5.params.toList args.toList ds p := hA0
  rw [Yba.params5] at hA hval
  obtain ⟨v0, vs0, d0, ds0, p0, q0, hargs, rfl, rfl, h0, r0⟩ := trodAll_cons hA
  obtain ⟨v1, vs1, d1, ds1, p1, q1, rfl, rfl, rfl, h1, r1⟩ := trodAll_cons r0
  obtain ⟨rfl, rfl, rfl⟩ := trodAll_nil r1
  obtain rfl : args = #[v0, v1] := by cases args; simp_all
  obtain ⟨rfl, rfl⟩ := trodVars_none hV
  obtain ⟨a0, rfl, rfl, rfl, w0⟩ := open_int Yba.underlying5 (hval 0 5 v0 rfl rfl) h0
  obtain ⟨a1, len1, cap1, rfl⟩ := okWide_slice Yba.underlying36 (hval 1 36 v1 rfl rfl)
  have k1 := h1
  have lt1 : ∀ x ∈ p1, x.block < W.heap.size := by obtain ⟨m, hm⟩ := k1; exact DataW.trod_lt m _ _ _ hm
  obtain ⟨I, w1⟩ : ∃ I, IsOps W a1 len1 I := by
    obtain ⟨fuel, hf⟩ := h1
    rcases open_ops hf with hcs | ⟨x, l, c, I, hcs, hcell⟩
    · simp [Value.cells] at hcs
      obtain ⟨rfl, rfl, rfl⟩ := hcs
      exact ⟨fun _ => (0, 0, 0), .inl rfl⟩
    · simp [Value.cells] at hcs
      obtain ⟨rfl, rfl, rfl⟩ := hcs
      exact ⟨I, .inr ⟨_, rfl, hcell⟩⟩
  clear hA0 hval0
  refine (lists_walk a0 a1 len1 cap1 I W w0 w1).mono fun e W' ⟨he, bel⟩ => ?_
  subst he
  exact ⟨_, rfl, _, _, _, [], _, [], hW', trodAll_mk1 (shut_bool Yba.underlying4 _), (trodAll_cons_mk (shut_int Yba.underlying5 w0) (trodAll_cons_mk (Below.trod laidOut (by kernel_rfl) (of_decide_eq_true (by kernel_rfl)) k1 bel lt1) trodAll_mk0)), rfl, bel.frame _, fun h => by cases h⟩

theorem over : Rows.lawS4070CListsRow.holds Yba.pinned (OpenSpec.ofChange Rows.lawS4070CListsSpec) :=
  OpenClaim.holds_of_wide 5 Yba.f5 rfl rfl rfl rfl rfl rfl rfl ⟨rfl, rfl, rfl, rfl, rfl⟩ rfl rfl rfl rfl rfl (by kernel_rfl) Yba.func5 (by kernel_rfl)
    (of_decide_eq_true (by kernel_rfl)) (by unfold Func.isWrapper; first | (rw [if_pos (by decide +kernel)]; kernel_rfl) | (rw [if_neg (by decide +kernel)]; exact ⟨rfl, rfl⟩))
    (fun os started H enc _ => lifted os started H enc)

/-- ████ THE STATEMENT ████ -/
theorem proved : Rows.LawS4070CListsSaid := over
#print axioms proved
end Go.Proofs.Ybulkcfgo.lawS4070CLists
