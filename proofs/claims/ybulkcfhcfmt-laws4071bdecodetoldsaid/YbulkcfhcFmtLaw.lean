/-
  THE WALKS of zzs4071bcopy, LawS4071BRoundTrip, LawS4071BDecode (seat b4071aF).
-/
import Derived.Test.YbulkcfhcFmtDec
import Derived.Laws.CopyOwn
import Derived.Laws.OwnMore
import Derived.Deep.OwnRows
import Derived.OneCell
namespace Go.Proofs.YbulkcfhcFmt
open Go.RowKit Go.Extern.Stop Go.Stop Go.Extern
set_option linter.unusedVariables false

theorem hide {p : Prop} (h : p) : Hid p := h

set_option maxHeartbeats 1000000 in
theorem law_round (F : Interp) (x s : Int) (w : World) (hx0 : 0 ≤ x) (hx1 : x ≤ 4294967295) (hF : F.answers w.tape) :
    Calls Ybaf.prog 4 #[.int .u32 x, .int .u32 s] w fun e w' => e = .returned (.bool true) ∧ Below w.heap.size w w' := by
  go_enter Ybaf.func4, Ybaf.ntmps4
  go_wp2_with (first | (go_at_call 10; refine (append32_any x _ hx0 hx1).mono ?_; rintro e w1 ⟨g, cap, rfl, hown, hb⟩) | (go_at_call 7; go_in))
  have hgl := (hown.lt g rfl).2
  have hgb := (hown.lt g rfl).1
  obtain ⟨W2, hW2⟩ : ∃ W2, W2 = (w1.alloc (.cells #[.int .i64 0] 27)).alloc (.cells #[.int .u32 s] 30) := ⟨_, rfl⟩
  have hbe : be (x / 16777216) (x / 65536 % 256) (x / 256 % 256) (x % 256) = x := by unfold be; omega
  have b12 : Below w1.heap.size w1 W2 := by rw [hW2]; exact ((Below.refl _ w1).alloc (Nat.le_refl _) _).alloc (by simp) _
  have e0 : W2.cell? ⟨g, 0, none⟩ = some (.int .u8 (x / 16777216)) := (b12.cell (p := ⟨g, 0, none⟩) hgl).trans (hown.cellAt 0 (by decide))
  have e1 : W2.cell? ⟨g, 0 + 1, none⟩ = some (.int .u8 (x / 65536 % 256)) := (b12.cell (p := ⟨g, 1, none⟩) hgl).trans (hown.cellAt 1 (by decide))
  have e2 : W2.cell? ⟨g, 0 + 2, none⟩ = some (.int .u8 (x / 256 % 256)) := (b12.cell (p := ⟨g, 2, none⟩) hgl).trans (hown.cellAt 2 (by decide))
  have e3 : W2.cell? ⟨g, 0 + 3, none⟩ = some (.int .u8 (x % 256)) := (b12.cell (p := ⟨g, 3, none⟩) hgl).trans (hown.cellAt 3 (by decide))
  have hM : W2.heap[w1.heap.size + 1]? = some (.cells #[.int .u32 s] 30 (0, 0)) := by
    have := heap_alloc_new (w1.alloc (.cells #[.int .i64 0] 27)) (.cells #[.int .u32 s] 30)
    rw [World.size_alloc] at this
    rw [hW2]; exact this
  have hN : W2.heap[w1.heap.size]? = some (.cells #[.int .i64 0] 27 (0, 0)) := by
    rw [hW2, Below.heap_alloc _ _ _ (by rw [World.size_alloc]; omega)]
    exact heap_alloc_new _ _
  have hsz2 : W2.heap.size = w1.heap.size + 2 := by rw [hW2, World.size_alloc, World.size_alloc]
  rw [← hW2]
  clear hW2 hown
  refine (decode_good (w1.heap.size + 1) _ g 0 4 cap _ _ _ _ s W2 rfl (by omega) (by omega) (by omega) (by omega) e0 e1 e2 e3 (cell_of_one hM) (free_of_one hM)).mono ?_
  rintro e w3 ⟨rfl, w4, hb4, rfl⟩
  rw [hbe]
  have hM4 : w4.heap[w1.heap.size + 1]? = some (.cells #[.int .u32 s] 30 (0, 0)) := (hb4.block _ (by omega)).trans hM
  have hN4 : w4.heap[w1.heap.size]? = some (.cells #[.int .i64 0] 27 (0, 0)) := (hb4.block _ (by omega)).trans hN
  have q1 := cell_of_one (one_setCell (u := .int .u32 x) hM4)
  have q2 : (w4.setCell ⟨w1.heap.size + 1, 0, none⟩ (.int .u32 x)).cell? ⟨w1.heap.size, 0, none⟩ = some (.int .i64 0) := cell_of_one ((Below.heap_setCell _ _ _ _ (by simp)).trans hN4)
  have HB := hide (((hb.trans (b12.mono hb.size)).trans (hb4.mono (by have := hb.size; omega))).setCell (p := ⟨w1.heap.size + 1, 0, none⟩) (by have := hb.size; show _ ≤ w1.heap.size + 1; omega) (.int .u32 x))
  clear hM hN hM4 hN4 e0 e1 e2 e3 b12 hb hb4 hbe
  go_wp2
  go_ret
  exact ⟨rfl, ((Below.refl _ w).alloc (Nat.le_refl _) _).trans (HB.out.mono (by simp))⟩
end Go.Proofs.YbulkcfhcFmt
