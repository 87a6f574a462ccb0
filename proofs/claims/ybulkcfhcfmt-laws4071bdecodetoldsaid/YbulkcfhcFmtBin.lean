/-
  encoding/binary's BigEndian.Uint32 and AppendUint32 at this dump (seat b4071aF).
-/
import Derived.Test.YbulkcfhcFmtRows
import Derived.WalkKit
import Derived.WalkSpells
import Derived.WalkLawsBesides
import Derived.RegionTactic
import Derived.ChangeAlike
import Derived.Deep.QuietTactic
import Derived.BigQuiet
import Derived.Deep.Draws
import Derived.Deep.AppendLies
import Derived.Lib.EndianBits
namespace Go.Proofs.YbulkcfhcFmt
open Go.RowKit
set_option linter.unusedVariables false

theorem ret_int {k : IntKind} {a b : Int} (h : a = b) : Ending.returned (.int k a) = .returned (.int k b) := by rw [h]

/-- The number that four bytes spell, the greatest first. -/
def be (x0 x1 x2 x3 : Int) : Int := x0 * 16777216 + x1 * 65536 + x2 * 256 + x3

theorem be_low (x0 x1 x2 x3 : Int) (h0 : 0 ≤ x0 ∧ x0 ≤ 255) (h1 : 0 ≤ x1 ∧ x1 ≤ 255) (h2 : 0 ≤ x2 ∧ x2 ≤ 255) (h3 : 0 ≤ x3 ∧ x3 ≤ 255) :
    bits .or .u32 (bits .or .u32 (bits .or .u32 x3 (x2 * 256)) (x1 * 65536)) (x0 * 16777216) = be x0 x1 x2 x3 := by
  rw [u32_or8 x3 (x2 * 256) (by omega) (by omega) (by omega) (by omega) (by omega), u32_or16 _ (x1 * 65536) (by omega) (by omega) (by omega) (by omega) (by omega), u32_or24 _ (x0 * 16777216) (by omega) (by omega) (by omega) (by omega) (by omega)]
  unfold be
  omega

theorem be_high (x0 x1 x2 x3 : Int) (h0 : 0 ≤ x0 ∧ x0 ≤ 255) (h1 : 0 ≤ x1 ∧ x1 ≤ 255) (h2 : 0 ≤ x2 ∧ x2 ≤ 255) (h3 : 0 ≤ x3 ∧ x3 ≤ 255) :
    bits .or .u32 (bits .or .u32 (bits .or .u32 (x0 * 16777216) (x1 * 65536)) (x2 * 256)) x3 = be x0 x1 x2 x3 := by
  rw [bits_join .u32 32 (by decide) wraps_u32 24 (x0 * 16777216) (x1 * 65536) (by omega) (by omega) (by omega) (by omega) (by omega) (by omega)]
  rw [bits_join .u32 32 (by decide) wraps_u32 16 _ (x2 * 256) (by omega) (by omega) (by omega) (by omega) (by omega) (by omega)]
  rw [bits_join .u32 32 (by decide) wraps_u32 8 _ x3 (by omega) (by omega) (by omega) (by omega) (by omega) (by omega)]
  rfl

set_option maxHeartbeats 1000000 in
theorem uint32_any (g o n c : Nat) (x0 x1 x2 x3 : Int) (w : World) (hn : 4 ≤ n) (h0 : 0 ≤ x0 ∧ x0 ≤ 255) (h1 : 0 ≤ x1 ∧ x1 ≤ 255) (h2 : 0 ≤ x2 ∧ x2 ≤ 255) (h3 : 0 ≤ x3 ∧ x3 ≤ 255)
    (c0 : w.cell? ⟨g, o, none⟩ = some (.int .u8 x0)) (c1 : w.cell? ⟨g, o + 1, none⟩ = some (.int .u8 x1)) (c2 : w.cell? ⟨g, o + 2, none⟩ = some (.int .u8 x2)) (c3 : w.cell? ⟨g, o + 3, none⟩ = some (.int .u8 x3)) :
    Calls Ybaf.prog 9 #[.agg #[], .slice (some ⟨g, o, none⟩) n c] w fun e w' => e = .returned (.int .u32 (be x0 x1 x2 x3)) ∧ Below w.heap.size w w' := by
  obtain ⟨a0, b0⟩ := h0; obtain ⟨a1, b1⟩ := h1; obtain ⟨a2, b2⟩ := h2; obtain ⟨a3, b3⟩ := h3
  have hb := (Below.refl _ w).alloc (Nat.le_refl _) (.cells #[] 41)
  have hg : g < w.heap.size := by
    rcases Nat.lt_or_ge g w.heap.size with h | h
    · exact h
    · simp [World.cell?, Array.getElem?_eq_none h] at c0
  have d0 := fun o1 => (((Below.refl _ w).alloc (Nat.le_refl _) o1).cell (p := ⟨g, o, none⟩) hg).trans c0
  have d1 := fun o1 => (((Below.refl _ w).alloc (Nat.le_refl _) o1).cell (p := ⟨g, o + 1, none⟩) hg).trans c1
  have d2 := fun o1 => (((Below.refl _ w).alloc (Nat.le_refl _) o1).cell (p := ⟨g, o + 2, none⟩) hg).trans c2
  have d3 := fun o1 => (((Below.refl _ w).alloc (Nat.le_refl _) o1).cell (p := ⟨g, o + 3, none⟩) hg).trans c3
  have n0 : (0 : Int) < (n : Int) := by omega
  have n1 : (1 : Int) < (n : Int) := by omega
  have n2 : (2 : Int) < (n : Int) := by omega
  have n3 : (3 : Int) < (n : Int) := by omega
  clear hb
  go_enter Ybaf.func9, Ybaf.ntmps9
  go_wp2
  go_quiet (fail)
  go_wp2
  go_ret
  exact ⟨ret_int (be_low x0 x1 x2 x3 ⟨a0, b0⟩ ⟨a1, b1⟩ ⟨a2, b2⟩ ⟨a3, b3⟩), below_drewN ((Below.refl _ w).alloc (Nat.le_refl _) _) _⟩

theorem Ybaf.info5 : (Ybaf.prog.info? 5).map (fun i => (i.zero, i.size, i.bytes)) = some (some (.int .u8 0), 1, 1) := by kernel_rfl

set_option maxHeartbeats 1000000 in
theorem append32_any (v : Int) (w : World) (hv0 : 0 ≤ v) (hv1 : v ≤ 4294967295) :
    Calls Ybaf.prog 10 #[.agg #[], .slice none 0 0, .int .u32 v] w fun e w' => ∃ g cap, e = .returned (.slice (some ⟨g, 0, none⟩) 4 cap) ∧
      w'.ownsRow w.heap.size 5 1 (.slice (some ⟨g, 0, none⟩) 4 cap) 4 [.int .u8 (v / 16777216), .int .u8 (v / 65536 % 256), .int .u8 (v / 256 % 256), .int .u8 (v % 256)] ∧ Below w.heap.size w w' := by
  obtain ⟨i0, hi, hz0, hz1, hz2⟩ := info_parts Ybaf.info5
  go_enter Ybaf.func10, Ybaf.ntmps10
  go_wp2_with (at_builtin; (refine wpList_append_lies _ rfl (.tmp 7) (.tmp 19) 22 rfl w.heap.size 5 i0 (.int .u8 0) 1 1 Ybaf.underlying22 hi hz0 hz1 hz2 rfl (by decide) (.slice none 0 0) 0 [] rfl (World.ownsRow_nil _ _ _ _) ⟨w.heap.size + 1, 0, none⟩ 4 4 [.int .u8 (v / 16777216), .int .u8 (v / 65536 % 256), .int .u8 (v / 256 % 256), .int .u8 (v % 256)] rfl rfl ?hc ?h1 (by decide) (by unfold maxLen; omega) (by omega) (by simp; omega) _ rfl ?_))
  case hc =>
    refine World.news_of_block (fr := (0, 0)) (t := 5) (cs := #[.int .u8 (v / 16777216), .int .u8 (v / 65536 % 256), .int .u8 (v / 256 % 256), .int .u8 (v % 256)]) ?_
    have := heap_alloc_new (w.alloc (.cells #[] 41)) (.cells #[.int .u8 (v / 16777216), .int .u8 (v / 65536 % 256), .int .u8 (v / 256 % 256), .int .u8 (v % 256)] 5)
    rwa [World.size_alloc] at this
  case h1 =>
    intro u hu
    simp only [List.mem_cons, List.not_mem_nil, or_false] at hu
    rcases hu with rfl | rfl | rfl | rfl <;> rfl
  intro g cap w1 hown hgrow _ _
  have hb : Below w.heap.size w w1 := (((Below.refl _ w).alloc (Nat.le_refl _) _).alloc (by simp) _).grown hgrow (by simp; omega) (fun k hk => by cases hk)
  clear hgrow
  go_wp2
  go_ret
  exact ⟨g, cap, rfl, hown, hb⟩
end Go.Proofs.YbulkcfhcFmt
