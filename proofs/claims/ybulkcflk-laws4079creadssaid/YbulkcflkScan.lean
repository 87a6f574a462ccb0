/-
  THE WALKS of (*scanner).advance, the law's own predicate, and (*scanner).readWhile (seat b4079a).
-/
import Derived.Test.YbulkcflkRows
import Derived.WalkKit
import Derived.WalkSpells
import Derived.WalkLawsBesides
import Derived.RegionTactic
import Derived.ChangeAlike
import Derived.Deep.QuietTactic
import Derived.BigQuiet
import Derived.Deep.Draws
import Derived.Deep.AppendLies
import Derived.Deep.OwnRows
import Derived.Deep.RegionHeld3
import Derived.Laws.OwnMore
import Derived.Laws.IdiomStrings
import Derived.Laws.CopyOwn
import Derived.OneCell
namespace Go.Proofs.Ybulkcflk
open Go.RowKit
set_option linter.unusedVariables false

theorem hide {p : Prop} (h : p) : Hid p := h
theorem blk_cell {w : World} {N : Nat} {cs : Array Value} {e : TypeId} (h : w.heap[N]? = some (.cells cs e (0, 0))) (i : Nat) : w.cell? ⟨N, i, none⟩ = cs[i]? := cell_of_row w N i cs e (0, 0) h
theorem blk_free {w : World} {N : Nat} {cs : Array Value} {e : TypeId} (h : w.heap[N]? = some (.cells cs e (0, 0))) (i : Nat) : w.frozen? ⟨N, i, none⟩ = false := frozen_of_row w N i cs e h
theorem blk_set {w : World} {N : Nat} {cs : Array Value} {e : TypeId} (h : w.heap[N]? = some (.cells cs e (0, 0))) (i : Nat) (v : Value) : (w.setCell ⟨N, i, none⟩ v).heap[N]? = some (.cells (cs.setIfInBounds i v) e (0, 0)) := heap_setCell_same w N i cs e v h
theorem grown_trans {a b c : World} {row : Option Nat} (h : a.grownBy b row) (k : b.grownBy c row) : a.grownBy c row :=
  ⟨k.os.trans h.os, k.tape.trans h.tape, k.output.trans h.output, Nat.le_trans h.size k.size, fun j hj hne => (k.block j (Nat.lt_of_lt_of_le hj h.size) hne).trans (h.block j hj hne)⟩
theorem grown_refl (w : World) (row : Option Nat) : w.grownBy w row := ⟨rfl, rfl, rfl, Nat.le_refl _, fun _ _ _ => rfl⟩
theorem grown_set (w : World) (N i : Nat) (v : Value) : w.grownBy (w.setCell ⟨N, i, none⟩ v) (some N) :=
  ⟨rfl, rfl, rfl, by simp, fun k _ hk => Below.heap_setCell _ _ _ _ (fun e => hk (by rw [e]))⟩

/-- The scanner's five cells. -/
def five (src : Value) (o L C : Int) : Array Value := #[src, .int .i64 o, .int .i64 L, .int .i64 C, .int .i64 7]

set_option maxHeartbeats 1000000 in
theorem advance_nl (N : Nat) (src : Value) (o L C : Int) (w : World) (h : w.heap[N]? = some (.cells (five src o L C) 29 (0, 0))) (ho0 : 0 ≤ o) (ho1 : o ≤ 100000) :
    Calls Yba.prog 6 #[.pointer (some ⟨N, 0, none⟩), .int .i32 10, .int .i64 1] w fun e w' => e = .returned (.tuple #[]) ∧ w'.heap[N]? = some (.cells (five src (o + 1) (wrap64 (L + 1)) 1) 29 (0, 0)) ∧ w.grownBy w' (some N) := by
  have c1 : w.cell? ⟨N, 1, none⟩ = some (.int .i64 o) := by rw [blk_cell h]; rfl
  have c2 : w.cell? ⟨N, 2, none⟩ = some (.int .i64 L) := by rw [blk_cell h]; rfl
  have c3 : w.cell? ⟨N, 3, none⟩ = some (.int .i64 C) := by rw [blk_cell h]; rfl
  have f1 := blk_free h 1
  have f2 := blk_free h 2
  have f3 := blk_free h 3
  have H := hide h
  clear h
  go_enter Yba.func6, Yba.ntmps6
  go_wp2
  refine bodyPost_ret (v := .tuple #[]) (by simp [results, Yba.results6]) rfl ⟨rfl, ?_, ?_⟩
  · exact blk_set (blk_set (blk_set H.out 1 _) 2 _) 3 _
  · exact grown_trans (grown_trans (grown_set _ _ _ _) (grown_set _ _ _ _)) (grown_set _ _ _ _)

set_option maxHeartbeats 1000000 in
theorem advance_ch (N : Nat) (src : Value) (o L C r : Int) (w : World) (h : w.heap[N]? = some (.cells (five src o L C) 29 (0, 0))) (ho0 : 0 ≤ o) (ho1 : o ≤ 100000) (hr : (r == 10) = false) :
    Calls Yba.prog 6 #[.pointer (some ⟨N, 0, none⟩), .int .i32 r, .int .i64 1] w fun e w' => e = .returned (.tuple #[]) ∧ w'.heap[N]? = some (.cells (five src (o + 1) L (wrap64 (C + 1))) 29 (0, 0)) ∧ w.grownBy w' (some N) := by
  have c1 : w.cell? ⟨N, 1, none⟩ = some (.int .i64 o) := by rw [blk_cell h]; rfl
  have c3 : w.cell? ⟨N, 3, none⟩ = some (.int .i64 C) := by rw [blk_cell h]; rfl
  have f1 := blk_free h 1
  have f3 := blk_free h 3
  have H := hide h
  clear h
  go_enter Yba.func6, Yba.ntmps6
  go_wp2
  go_end0
  refine ⟨rfl, ?_, ?_⟩
  · exact blk_set (blk_set H.out 1 _) 3 _
  · exact grown_trans (grown_set _ _ _ _) (grown_set _ _ _ _)

def nc (k : IntKind) (l : List Int) : List Value := l.map (Value.int k)

/-- Where the reading stands: the buffer, the set, the scanner, the log's variable, the log's row; below B nothing has turned. -/
structure St (B : Nat) (w wr : World) (Bb Bs Bc Bl n : Nat) (zs : List Int) (SB : Nat → Bool) (o L C : Int) (vl : Value) (lg : List Int) : Prop where
  buf : wr.heap[Bb]? = some (.cells (nc .u8 zs).toArray 5 (0, 0))
  set : wr.rowIs Bs 24 256 (fun i => .bool (SB i))
  scn : wr.heap[Bc]? = some (.cells (five (.slice (some ⟨Bb, 0, none⟩) n n) o L C) 29 (0, 0))
  log : wr.heap[Bl]? = some (.cells #[vl] 30 (0, 0))
  row : wr.ownsRow B 21 1 vl lg.length (nc .i32 lg)
  bel : Below B w wr
  lo : B ≤ Bb ∧ B ≤ Bs ∧ B ≤ Bc ∧ B ≤ Bl

/-- A row of one element type is no block of another. -/
theorem own_far {w : World} {base : Nat} {e e' : TypeId} {size : Nat} {v : Value} {n N : Nat} {xs : List Value} {cs : Array Value} {fr : Nat × Nat} (h : w.ownsRow base e size v n xs) (hN : w.heap[N]? = some (.cells cs e' fr)) (hne : e ≠ e') : v.ownBlock ≠ some N := by
  rcases h.2 with ⟨h', _⟩ | ⟨g, cap, cur, rfl, _, hh, _⟩
  · rw [h']; simp [Value.ownBlock]
  · simp only [Value.ownBlock, ne_eq, Option.some.injEq]
    rintro rfl
    have := hh.symm.trans hN
    simp at this
    exact hne this.2.1

theorem blk_ne {w : World} {N M : Nat} {cs ds : Array Value} {e f : TypeId} {p q : Nat × Nat} (h : w.heap[N]? = some (.cells cs e p)) (k : w.heap[M]? = some (.cells ds f q)) (hne : e ≠ f) : N ≠ M := by
  rintro rfl
  have := h.symm.trans k
  simp at this
  exact hne this.2.1

theorem Yba.info21 : (Yba.prog.info? 21).map (fun i => (i.zero, i.size, i.bytes)) = some (some (.int .i32 0), 1, 4) := by kernel_rfl

/-- Behind 'log = append(log, r)'. -/
theorem St.pushed {B : Nat} {w wr w1 : World} {Bb Bs Bc Bl n : Nat} {zs : List Int} {SB : Nat → Bool} {o L C r : Int} {vl : Value} {lg : List Int} {ob : Obj} {g cap : Nat} (h : St B w wr Bb Bs Bc Bl n zs SB o L C vl lg)
    (hown : w1.ownsRow B 21 1 (.slice (some ⟨g, 0, none⟩) (lg.length + 1) cap) (lg.length + 1) (nc .i32 lg ++ [.int .i32 r])) (hgrow : (wr.alloc ob).grownBy w1 vl.ownBlock) :
    (w1.cell? ⟨Bl, 0, none⟩ = some vl ∧ w1.frozen? ⟨Bl, 0, none⟩ = false) ∧ St B w (w1.setCell ⟨Bl, 0, none⟩ (.slice (some ⟨g, 0, none⟩) (lg.length + 1) cap)) Bb Bs Bc Bl n zs SB o L C (.slice (some ⟨g, 0, none⟩) (lg.length + 1) cap) (lg ++ [r]) := by
  obtain ⟨cset, hset, hset1, hset2⟩ := h.set
  have keep : ∀ (k : Nat) (cs : Array Value) (e : TypeId), wr.heap[k]? = some (.cells cs e (0, 0)) → (21 : TypeId) ≠ e → w1.heap[k]? = some (.cells cs e (0, 0)) := fun k cs e hk he => by
    have hlt := lt_of_block hk
    rw [hgrow.block k (by rw [World.size_alloc]; omega) (fun e' => own_far h.row hk he e'.symm), Below.heap_alloc _ _ _ hlt]
    exact hk
  have hl := keep Bl _ 30 h.log (by decide)
  have hb := keep Bb _ 5 h.buf (by decide)
  have hs := keep Bs _ 24 hset (by decide)
  have hc := keep Bc _ 29 h.scn (by decide)
  refine ⟨⟨cell_of_one hl, free_of_one hl⟩, ?_⟩
  have put : ∀ (k : Nat) (cs : Array Value) (e : TypeId), w1.heap[k]? = some (.cells cs e (0, 0)) → e ≠ (30 : TypeId) → (w1.setCell ⟨Bl, 0, none⟩ (.slice (some ⟨g, 0, none⟩) (lg.length + 1) cap)).heap[k]? = some (.cells cs e (0, 0)) := fun k cs e hk he =>
    (Below.heap_setCell _ _ _ _ (blk_ne hk hl he)).trans hk
  refine ⟨put _ _ 5 hb (by decide), ⟨cset, put _ _ 24 hs (by decide), hset1, hset2⟩, put _ _ 29 hc (by decide), one_setCell hl, ?_, ?_, h.lo⟩
  · have := ownsRow_setCell_other hown (a := ⟨Bl, 0, none⟩) (own_far hown hl (by decide)) (.slice (some ⟨g, 0, none⟩) (lg.length + 1) cap)
    simpa [nc] using this
  · refine Below.setCell (p := ⟨Bl, 0, none⟩) ?_ h.lo.2.2.2 _
    have := lt_of_block h.log
    have := h.lo.2.2.2
    exact (h.bel.alloc (by omega) ob).grown hgrow (by rw [World.size_alloc]; omega) (fun k hk => (h.row.lt k hk).1)

set_option maxHeartbeats 1000000 in
theorem pred_any (B : Nat) (w wr : World) (Bb Bs Bc Bl n : Nat) (zs : List Int) (SB : Nat → Bool) (o L C : Int) (vl : Value) (lg : List Int) (h : St B w wr Bb Bs Bc Bl n zs SB o L C vl lg) (hl : lg.length ≤ 100000) (c : Nat) (hc : c < 256) (b : Bool) (hb : SB c = b) :
    Calls Yba.prog 5 #[.int .i32 (c : Int), .pointer (some ⟨Bl, 0, none⟩), .pointer (some ⟨Bs, 0, none⟩)] wr fun e w' => e = .returned (.bool b) ∧ ∃ vl', St B w w' Bb Bs Bc Bl n zs SB o L C vl' (lg ++ [(c : Int)]) := by
  obtain ⟨i0, hi, hz0, hz1, hz2⟩ := info_parts Yba.info21
  have hltl := lt_of_block h.log
  have hlo := h.lo.2.2.2
  have c1 : wr.cell? ⟨Bl, 0, none⟩ = some vl := cell_of_one h.log
  have HO : Hid (∀ o, (wr.alloc o).ownsRow B 21 1 vl lg.length (nc .i32 lg)) := fun o => h.row.alloc o
  have H := hide h
  have HB := hide hb
  have hc' : (c : Int) < 256 := by omega
  clear h hb
  go_enter Yba.func5, Yba.ntmps5
  go_wp2_with (at_builtin; (refine wpList_append_lies _ rfl (.tmp 5) (.tmp 7) 30 rfl B 21 i0 (.int .i32 0) 1 4 Yba.underlying30 hi hz0 hz1 hz2 rfl (by decide) vl lg.length (nc .i32 lg) rfl (HO.out _) ⟨wr.heap.size, 0, none⟩ 1 1 [.int .i32 (c : Int)] rfl rfl (cell_one_new _ _ _) ?h1 (by decide) (by unfold maxLen; omega) (by omega) (by simp; omega) _ rfl ?_))
  case h1 => intro u hu; simp at hu; subst hu; rfl
  intro g cap w1 hown hgrow _ _
  obtain ⟨⟨q1, q2⟩, hS⟩ := H.out.pushed hown hgrow
  have q3 : (w1.setCell ⟨Bl, 0, none⟩ (.slice (some ⟨g, 0, none⟩) (lg.length + 1) cap)).cell? ⟨Bs, c, none⟩ = some (.bool b) := by rw [hS.set.cell hc, HB.out]
  have HS := hide hS
  clear hS hown hgrow c1
  go_wp2
  go_ret
  exact ⟨rfl, _, HS.out⟩
end Go.Proofs.Ybulkcflk
