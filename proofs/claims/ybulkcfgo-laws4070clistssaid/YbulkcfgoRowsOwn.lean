/-
  THE CALL's OWN ROWS, and the contracts of slices.Equal and slices.Clone at this dump (seat b4070a).
-/
import Derived.Test.YbulkcfgoRows
import Derived.Test.YbulkcfgoPlain
import Derived.WalkKit
import Derived.WalkSpells
import Derived.WalkLawsBesides
import Derived.Deep.QuietTactic
import Derived.BigQuiet
import Derived.Deep.Draws
import Derived.Deep.AppendLies
import Derived.Laws.OwnMore
import Derived.OneCell
namespace Go.Proofs.Ybulkcfgo
open Go.RowKit
set_option linter.unusedVariables false

theorem ret_bool {a b : Bool} (h : a = b) : Ending.returned (.bool a) = .returned (.bool b) := by rw [h]

/-- Numbers as cells of kind k. -/
def nc (k : IntKind) (l : List Int) : List Value := l.map (Value.int k)

theorem nc_length (k : IntKind) (l : List Int) : (nc k l).length = l.length := by simp [nc]
theorem nc_at (k : IntKind) (l : List Int) (j : Nat) (h : j < l.length) : (nc k l)[j]? = some (.int k (l.getD j 0)) := by
  simp [nc, List.getD_eq_getElem?_getD, h]

theorem Addr.add_block (a : Addr) (j : Nat) : (a.add j).block = a.block := by unfold Addr.add; split <;> rfl
theorem own_slice {w : World} {base : Nat} {e : TypeId} {size : Nat} {v : Value} {n : Nat} {xs : List Value} (h : w.ownsRow base e size v n xs) : ∃ a c, v = .slice a n c := by
  rcases h.2 with ⟨rfl, rfl⟩ | ⟨g, cap, cur, hv, _⟩
  · exact ⟨none, 0, rfl⟩
  · exact ⟨_, _, hv⟩

theorem own_cell {w : World} {base : Nat} {e : TypeId} {k : IntKind} {g cap : Nat} {l : List Int} {n : Nat} (h : w.ownsRow base e 1 (.slice (some ⟨g, 0, none⟩) n cap) n (nc k l)) (j : Nat) (hj : j < n) :
    w.cell? ⟨g, j, none⟩ = some (.int k (l.getD j 0)) := by
  have hl : l.length = n := by have := h.1; rw [nc_length] at this; omega
  rw [h.cellAt j (by omega), nc_at k l j (by omega)]

set_option maxHeartbeats 1000000 in
/-- slices.Equal over []choice: two rows of the same numbers. -/
theorem eq10 (v1 v2 : Value) (n : Nat) (l : List Int) (w : World) (B1 B2 : Nat) (h1 : w.ownsRow B1 31 1 v1 n (nc .u8 l)) (h2 : w.ownsRow B2 31 1 v2 n (nc .u8 l)) (hn : n ≤ 1000000) :
    Calls Yba.prog 10 #[v1, v2] w fun e w' => e = .returned (.bool true) ∧ ∃ q, w' = w.drewN q := by
  by_cases h0 : n = 0
  · subst h0
    obtain ⟨a1, c1, rfl⟩ := own_slice h1
    obtain ⟨a2, c2, rfl⟩ := own_slice h2
    go_enter Yba.func10, Yba.ntmps10
    go_wp2
    refine wp_loop_rounds 1 ?_
    rw [rounds_succ]
    go_wp2
    go_ret
    exact ⟨rfl, 0, rfl⟩
  obtain ⟨g1, c1, rfl, _, _⟩ := h1.form (by omega)
  obtain ⟨g2, c2, rfl, _, _⟩ := h2.form (by omega)
  have H1 : Hid (∀ j, j < n → w.cell? ⟨g1, j, none⟩ = some (.int .u8 (l.getD j 0))) := fun j hj => own_cell h1 j hj
  have H2 : Hid (∀ j, j < n → w.cell? ⟨g2, j, none⟩ = some (.int .u8 (l.getD j 0))) := fun j hj => own_cell h2 j hj
  clear h1 h2
  go_enter Yba.func10, Yba.ntmps10
  go_wp2
  go_loopw [13] (fun i wr => ∃ k q : Nat, k ≤ n ∧ i = .int .i64 k ∧ wr = w.drewN q) (fun i _ => n - (intOf i).toNat)
  case atStart => exact ⟨0, 0, Nat.zero_le _, rfl, rfl⟩
  case round =>
    obtain ⟨k, q, hk, rfl, rfl⟩ := hrel
    by_cases hlt : k < n
    · obtain ⟨x, hx⟩ : ∃ x, x = l.getD k 0 := ⟨_, rfl⟩
      have e1 := H1.out k hlt
      have e2 := H2.out k hlt
      rw [← hx] at e1 e2
      clear hx
      have hlt' : (k : Int) < (n : Int) := by omega
      go_wp2
      go_quiet (fail)
      go_wp2
      go_roundw
      case rel => exact ⟨k + 1, _, by omega, by go_num, rfl⟩
      case measure => simp [intOf]; omega
    · go_wp2
      go_ret
      exact ⟨rfl, q, rfl⟩

set_option maxHeartbeats 1000000 in
/-- slices.Equal over []int: two rows of the same numbers. -/
theorem eq11 (v1 v2 : Value) (n : Nat) (l : List Int) (w : World) (B1 B2 : Nat) (h1 : w.ownsRow B1 3 1 v1 n (nc .i64 l)) (h2 : w.ownsRow B2 3 1 v2 n (nc .i64 l)) (hn : n ≤ 1000000) :
    Calls Yba.prog 11 #[v1, v2] w fun e w' => e = .returned (.bool true) ∧ ∃ q, w' = w.drewN q := by
  by_cases h0 : n = 0
  · subst h0
    obtain ⟨a1, c1, rfl⟩ := own_slice h1
    obtain ⟨a2, c2, rfl⟩ := own_slice h2
    go_enter Yba.func11, Yba.ntmps11
    go_wp2
    refine wp_loop_rounds 1 ?_
    rw [rounds_succ]
    go_wp2
    go_ret
    exact ⟨rfl, 0, rfl⟩
  obtain ⟨g1, c1, rfl, _, _⟩ := h1.form (by omega)
  obtain ⟨g2, c2, rfl, _, _⟩ := h2.form (by omega)
  have H1 : Hid (∀ j, j < n → w.cell? ⟨g1, j, none⟩ = some (.int .i64 (l.getD j 0))) := fun j hj => own_cell h1 j hj
  have H2 : Hid (∀ j, j < n → w.cell? ⟨g2, j, none⟩ = some (.int .i64 (l.getD j 0))) := fun j hj => own_cell h2 j hj
  clear h1 h2
  go_enter Yba.func11, Yba.ntmps11
  go_wp2
  go_loopw [13] (fun i wr => ∃ k q : Nat, k ≤ n ∧ i = .int .i64 k ∧ wr = w.drewN q) (fun i _ => n - (intOf i).toNat)
  case atStart => exact ⟨0, 0, Nat.zero_le _, rfl, rfl⟩
  case round =>
    obtain ⟨k, q, hk, rfl, rfl⟩ := hrel
    by_cases hlt : k < n
    · obtain ⟨x, hx⟩ : ∃ x, x = l.getD k 0 := ⟨_, rfl⟩
      have e1 := H1.out k hlt
      have e2 := H2.out k hlt
      rw [← hx] at e1 e2
      clear hx
      have hlt' : (k : Int) < (n : Int) := by omega
      go_wp2
      go_quiet (fail)
      go_wp2
      go_roundw
      case rel => exact ⟨k + 1, _, by omega, by go_num, rfl⟩
      case measure => simp [intOf]; omega
    · go_wp2
      go_ret
      exact ⟨rfl, q, rfl⟩

set_option maxHeartbeats 1000000 in
/-- slices.Equal over []int32: two rows of the same numbers. -/
theorem eq13 (v1 v2 : Value) (n : Nat) (l : List Int) (w : World) (B1 B2 : Nat) (h1 : w.ownsRow B1 21 1 v1 n (nc .i32 l)) (h2 : w.ownsRow B2 21 1 v2 n (nc .i32 l)) (hn : n ≤ 1000000) :
    Calls Yba.prog 13 #[v1, v2] w fun e w' => e = .returned (.bool true) ∧ ∃ q, w' = w.drewN q := by
  by_cases h0 : n = 0
  · subst h0
    obtain ⟨a1, c1, rfl⟩ := own_slice h1
    obtain ⟨a2, c2, rfl⟩ := own_slice h2
    go_enter Yba.func13, Yba.ntmps13
    go_wp2
    refine wp_loop_rounds 1 ?_
    rw [rounds_succ]
    go_wp2
    go_ret
    exact ⟨rfl, 0, rfl⟩
  obtain ⟨g1, c1, rfl, _, _⟩ := h1.form (by omega)
  obtain ⟨g2, c2, rfl, _, _⟩ := h2.form (by omega)
  have H1 : Hid (∀ j, j < n → w.cell? ⟨g1, j, none⟩ = some (.int .i32 (l.getD j 0))) := fun j hj => own_cell h1 j hj
  have H2 : Hid (∀ j, j < n → w.cell? ⟨g2, j, none⟩ = some (.int .i32 (l.getD j 0))) := fun j hj => own_cell h2 j hj
  clear h1 h2
  go_enter Yba.func13, Yba.ntmps13
  go_wp2
  go_loopw [13] (fun i wr => ∃ k q : Nat, k ≤ n ∧ i = .int .i64 k ∧ wr = w.drewN q) (fun i _ => n - (intOf i).toNat)
  case atStart => exact ⟨0, 0, Nat.zero_le _, rfl, rfl⟩
  case round =>
    obtain ⟨k, q, hk, rfl, rfl⟩ := hrel
    by_cases hlt : k < n
    · obtain ⟨x, hx⟩ : ∃ x, x = l.getD k 0 := ⟨_, rfl⟩
      have e1 := H1.out k hlt
      have e2 := H2.out k hlt
      rw [← hx] at e1 e2
      clear hx
      have hlt' : (k : Int) < (n : Int) := by omega
      go_wp2
      go_quiet (fail)
      go_wp2
      go_roundw
      case rel => exact ⟨k + 1, _, by omega, by go_num, rfl⟩
      case measure => simp [intOf]; omega
    · go_wp2
      go_ret
      exact ⟨rfl, q, rfl⟩

theorem Yba.info31 : (Yba.prog.info? 31).map (fun i => (i.zero, i.size, i.bytes)) = some (some (.int .u8 0), 1, 1) := by kernel_rfl
theorem Yba.info3 : (Yba.prog.info? 3).map (fun i => (i.zero, i.size, i.bytes)) = some (some (.int .i64 0), 1, 8) := by kernel_rfl
theorem Yba.info21 : (Yba.prog.info? 21).map (fun i => (i.zero, i.size, i.bytes)) = some (some (.int .i32 0), 1, 4) := by kernel_rfl

set_option maxHeartbeats 1000000 in
/-- slices.Clone over []choice. -/
theorem clone8 (v : Value) (n : Nat) (l : List Int) (w : World) (B : Nat) (h : w.ownsRow B 31 1 v n (nc .u8 l)) (hn : n ≤ 1000000) :
    Calls Yba.prog 8 #[v] w fun e w' => ∃ v', e = .returned v' ∧ w'.ownsRow w.heap.size 31 1 v' n (nc .u8 l) ∧ Below w.heap.size w w' := by
  rcases h.2 with ⟨rfl, rfl⟩ | ⟨g, cap, cur, rfl, hB, hg, hnc, hcm, hcs, htake⟩
  · have hl : l = [] := List.length_eq_zero_iff.1 (by have := h.1; rw [nc_length] at this; omega)
    subst hl
    have hnil := fun (w : World) (a : Option Addr) (n c : Nat) => Lib.run_eql_slice_nil (P := Yba.prog) w 27 31 a n c 0 0 Yba.underlying27
    go_enter Yba.func8, Yba.ntmps8
    go_wp2
    go_ret
    exact ⟨_, rfl, World.ownsRow_nil _ _ _ _, Below.refl _ _⟩
  · have hlen : (nc .u8 l).length = n * 1 := h.1
    have hcell : ∀ j u, (nc .u8 l)[j]? = some u → w.cell? ((⟨g, 0, none⟩ : Addr).add j) = some u := h.cells rfl
    obtain ⟨i0, hi, hz0, hz1, hz2⟩ := info_parts Yba.info31
    have hnil := fun (w : World) (a : Option Addr) (n c : Nat) => Lib.run_eql_slice_nil (P := Yba.prog) w 27 31 a n c 0 0 Yba.underlying27
    have hone : ∀ u ∈ nc .u8 l, u.oneCell' = true := by intro u hu; obtain ⟨_, _, rfl⟩ := List.mem_map.1 hu; rfl
    have HO : Hid ((w.alloc (.cells #[] 31)).ownsRow w.heap.size 31 1 (.slice (some ⟨w.heap.size, 0, none⟩) 0 0) 0 []) := World.ownsRow_lit w #[] 0 (Nat.le_refl _) (by unfold maxLen; omega) rfl
    have HC : Hid (∀ j u, (nc .u8 l)[j]? = some u → w.cell? ((⟨g, 0, none⟩ : Addr).add j) = some u) := hcell
    clear hcell
    go_enter Yba.func8, Yba.ntmps8
    go_wp2_with (at_builtin; (refine wpList_append_own _ rfl (.tmp 5) (.tmp 6) 27 rfl w.heap.size 31 i0 (.int .u8 0) 1 1 Yba.underlying27 hi hz0 hz1 hz2 rfl (by decide) _ 0 [] rfl HO.out ⟨g, 0, none⟩ n cap (nc .u8 l) rfl hlen ?hc hone (by unfold maxLen; omega) (by omega) (by simp) ?_))
    case hc =>
      intro j u hu
      rw [((Below.refl _ w).alloc (Nat.le_refl _) _).cell (by rw [Addr.add_block]; exact lt_of_block hg)]
      exact HC.out j u hu
    intro v' w1 h1 h2 _
    have bel : Below w.heap.size w w1 := ((Below.refl _ w).alloc (Nat.le_refl _) _).grown h2 (by simp) (fun k hk => by simp [Value.ownBlock] at hk; omega)
    clear h2
    go_wp2
    go_ret
    exact ⟨v', rfl, h1, bel⟩

set_option maxHeartbeats 1000000 in
/-- slices.Clone over []int. -/
theorem clone7 (v : Value) (n : Nat) (l : List Int) (w : World) (B : Nat) (h : w.ownsRow B 3 1 v n (nc .i64 l)) (hn : n ≤ 1000000) :
    Calls Yba.prog 7 #[v] w fun e w' => ∃ v', e = .returned v' ∧ w'.ownsRow w.heap.size 3 1 v' n (nc .i64 l) ∧ Below w.heap.size w w' := by
  rcases h.2 with ⟨rfl, rfl⟩ | ⟨g, cap, cur, rfl, hB, hg, hnc, hcm, hcs, htake⟩
  · have hl : l = [] := List.length_eq_zero_iff.1 (by have := h.1; rw [nc_length] at this; omega)
    subst hl
    have hnil := fun (w : World) (a : Option Addr) (n c : Nat) => Lib.run_eql_slice_nil (P := Yba.prog) w 25 3 a n c 0 0 Yba.underlying25
    go_enter Yba.func7, Yba.ntmps7
    go_wp2
    go_ret
    exact ⟨_, rfl, World.ownsRow_nil _ _ _ _, Below.refl _ _⟩
  · have hlen : (nc .i64 l).length = n * 1 := h.1
    have hcell : ∀ j u, (nc .i64 l)[j]? = some u → w.cell? ((⟨g, 0, none⟩ : Addr).add j) = some u := h.cells rfl
    obtain ⟨i0, hi, hz0, hz1, hz2⟩ := info_parts Yba.info3
    have hnil := fun (w : World) (a : Option Addr) (n c : Nat) => Lib.run_eql_slice_nil (P := Yba.prog) w 25 3 a n c 0 0 Yba.underlying25
    have hone : ∀ u ∈ nc .i64 l, u.oneCell' = true := by intro u hu; obtain ⟨_, _, rfl⟩ := List.mem_map.1 hu; rfl
    have HO : Hid ((w.alloc (.cells #[] 3)).ownsRow w.heap.size 3 1 (.slice (some ⟨w.heap.size, 0, none⟩) 0 0) 0 []) := World.ownsRow_lit w #[] 0 (Nat.le_refl _) (by unfold maxLen; omega) rfl
    have HC : Hid (∀ j u, (nc .i64 l)[j]? = some u → w.cell? ((⟨g, 0, none⟩ : Addr).add j) = some u) := hcell
    clear hcell
    go_enter Yba.func7, Yba.ntmps7
    go_wp2_with (at_builtin; (refine wpList_append_own _ rfl (.tmp 5) (.tmp 6) 25 rfl w.heap.size 3 i0 (.int .i64 0) 1 8 Yba.underlying25 hi hz0 hz1 hz2 rfl (by decide) _ 0 [] rfl HO.out ⟨g, 0, none⟩ n cap (nc .i64 l) rfl hlen ?hc hone (by unfold maxLen; omega) (by omega) (by simp) ?_))
    case hc =>
      intro j u hu
      rw [((Below.refl _ w).alloc (Nat.le_refl _) _).cell (by rw [Addr.add_block]; exact lt_of_block hg)]
      exact HC.out j u hu
    intro v' w1 h1 h2 _
    have bel : Below w.heap.size w w1 := ((Below.refl _ w).alloc (Nat.le_refl _) _).grown h2 (by simp) (fun k hk => by simp [Value.ownBlock] at hk; omega)
    clear h2
    go_wp2
    go_ret
    exact ⟨v', rfl, h1, bel⟩
end Go.Proofs.Ybulkcfgo
