/-
  THE RELAYS' STATE (seat b4070a, LawS4070CLists): five cells, two rows, two owned rows; how each step of 'add' turns it.
-/
import Derived.Test.YbulkcfgoRowsOwn
import Derived.Test.YbulkcfgoListsPlain
import Derived.Below
import Derived.RegionTactic
import Derived.BigRegion
import Derived.ChangeAlike
import Derived.Deep.OwnRows
import Derived.Deep.RegionHeld3
import Derived.Deep.RegionWith
import Derived.Deep.LoopGhost
import Derived.Deep.DrawnRows
namespace Go.Proofs.Ybulkcfgo.Cl
open Go.RowKit
set_option linter.unusedVariables false

theorem hide {p : Prop} (h : p) : Hid p := h
theorem blk_cell {w : World} {N : Nat} {cs : Array Value} {e : TypeId} (h : w.heap[N]? = some (.cells cs e (0, 0))) (i : Nat) : w.cell? ⟨N, i, none⟩ = cs[i]? := cell_of_row w N i cs e (0, 0) h
theorem blk_free {w : World} {N : Nat} {cs : Array Value} {e : TypeId} (h : w.heap[N]? = some (.cells cs e (0, 0))) (i : Nat) : w.frozen? ⟨N, i, none⟩ = false := frozen_of_row w N i cs e h
theorem blk_set {w : World} {N : Nat} {cs : Array Value} {e : TypeId} (h : w.heap[N]? = some (.cells cs e (0, 0))) (i : Nat) (v : Value) : (w.setCell ⟨N, i, none⟩ v).heap[N]? = some (.cells (cs.setIfInBounds i v) e (0, 0)) := heap_setCell_same w N i cs e v h
theorem own_far {w : World} {base : Nat} {e e' : TypeId} {size : Nat} {v : Value} {n N : Nat} {xs : List Value} {cs : Array Value} {fr : Nat × Nat} (h : w.ownsRow base e size v n xs) (hN : w.heap[N]? = some (.cells cs e' fr)) (hne : e ≠ e') : v.ownBlock ≠ some N := by
  rcases h.2 with ⟨h', _⟩ | ⟨g, cap, cur, rfl, _, hh, _⟩
  · rw [h']; simp [Value.ownBlock]
  · simp only [Value.ownBlock, ne_eq, Option.some.injEq]
    rintro rfl
    have := hh.symm.trans hN
    simp at this
    exact hne this.2.1
theorem blk_ne {w : World} {N M : Nat} {cs ds : Array Value} {e f : TypeId} {p q : Nat × Nat} (h : w.heap[N]? = some (.cells cs e p)) (k : w.heap[M]? = some (.cells ds f q)) (hne : e ≠ f) : N ≠ M := by
  rintro rfl
  have := h.symm.trans k
  simp at this
  exact hne this.2.1
theorem row_ne {w : World} {N M : Nat} {ds : Array Value} {e f : TypeId} {k : Nat} {g : Nat → Value} {q : Nat × Nat} (h : w.rowIs N e k g) (hk : w.heap[M]? = some (.cells ds f q)) (hne : e ≠ f) : N ≠ M := by
  obtain ⟨cs, h1, _⟩ := h
  exact blk_ne h1 hk hne
/-- Two owned rows of different element types lie in different blocks. -/
theorem own_own {w : World} {B B' : Nat} {e e' : TypeId} {s s' : Nat} {v v' : Value} {n n' : Nat} {xs ys : List Value} (h : w.ownsRow B e s v n xs) (k : w.ownsRow B' e' s' v' n' ys) (hne : e ≠ e') : v.ownBlock = none ∨ v.ownBlock ≠ v'.ownBlock := by
  rcases k.2 with ⟨h', _⟩ | ⟨g, cap, cur, rfl, _, hh, _⟩
  · rw [h']
    cases hv : v.ownBlock
    · exact .inl rfl
    · right; simp [Value.ownBlock]
  · right
    exact own_far h hh hne
theorem own_of_block {w w' : World} {B : Nat} {e : TypeId} {s : Nat} {v : Value} {n : Nat} {xs : List Value} (h : w.ownsRow B e s v n xs) (hb : ∀ g, v.ownBlock = some g → w'.heap[g]? = w.heap[g]?) : w'.ownsRow B e s v n xs := by
  refine ⟨h.1, ?_⟩
  rcases h.2 with h' | ⟨g, cap, cur, rfl, h1, hh, r⟩
  · exact .inl h'
  · exact .inr ⟨g, cap, cur, rfl, h1, (hb g rfl).trans hh, r⟩

/-- The five cells of the relays. -/
def five (cur : Int) (vh : Value) (F A k : Nat) (vt : Value) : Array Value := #[.int .i64 cur, vh, .slice (some ⟨F, 0, none⟩) k k, .slice (some ⟨A, 0, none⟩) k k, vt]

/-- Where the relays stand. Below B nothing has turned since w; below N nothing has turned since w0 but what S names. -/
structure Rw (B : Nat) (w w0 : World) (N : Nat) (S : Nat → Prop) (Q F A k : Nat) (wr : World) (cur : Int) (vh : Value) (n : Nat) (hs : List Value) (ff ll : Nat → Int) (vt : Value) (ts : List Int) : Prop where
  q : wr.heap[Q]? = some (.cells (five cur vh F A k vt) 40 (0, 0))
  f : wr.rowIs F 21 k (fun i => .int .i32 (ff i))
  l : wr.rowIs A 21 k (fun i => .int .i32 (ll i))
  h : wr.ownsRow B 48 5 vh n hs
  t : wr.ownsRow B 21 1 vt ts.length (nc .i32 ts)
  bel : Below B w wr
  lo : B ≤ Q ∧ B ≤ F ∧ B ≤ A
  far : F ≠ A ∧ vt.ownBlock ≠ some F ∧ vt.ownBlock ≠ some A
  ns : N ≤ wr.heap.size ∧ B ≤ wr.heap.size
  kp : ∀ j, j < N → ¬ S j → wr.heap[j]? = w0.heap[j]?
  sq : S Q ∧ S F ∧ S A
  sh : ∀ j, vh.ownBlock = some j → S j ∨ N ≤ j
  st : ∀ j, vt.ownBlock = some j → S j ∨ N ≤ j

section
variable {B : Nat} {w w0 : World} {N : Nat} {S : Nat → Prop} {Q F A k : Nat} {wr : World} {cur : Int} {vh : Value} {n : Nat} {hs : List Value} {ff ll : Nat → Int} {vt : Value} {ts : List Int}

/-- A world with the same blocks. -/
theorem Rw.same (R : Rw B w w0 N S Q F A k wr cur vh n hs ff ll vt ts) (w' : World) (hb : ∀ j, j < wr.heap.size → w'.heap[j]? = wr.heap[j]?) (hz : wr.heap.size ≤ w'.heap.size) (hbel : Below B w w') : Rw B w w0 N S Q F A k w' cur vh n hs ff ll vt ts :=
  ⟨(hb _ (lt_of_block R.q)).trans R.q, R.f.of_block (hb _ R.f.lt), R.l.of_block (hb _ R.l.lt), own_of_block R.h (fun g hg => hb g (R.h.lt g hg).2), own_of_block R.t (fun g hg => hb g (R.t.lt g hg).2), hbel, R.lo, R.far,
   ⟨Nat.le_trans R.ns.1 hz, Nat.le_trans R.ns.2 hz⟩, fun j hj hs => (hb j (Nat.lt_of_lt_of_le hj R.ns.1)).trans (R.kp j hj hs), R.sq, R.sh, R.st⟩
theorem Rw.alloc (R : Rw B w w0 N S Q F A k wr cur vh n hs ff ll vt ts) (o : Obj) : Rw B w w0 N S Q F A k (wr.alloc o) cur vh n hs ff ll vt ts :=
  R.same _ (fun j hj => Below.heap_alloc _ _ _ hj) (by rw [World.size_alloc]; omega) (R.bel.alloc R.ns.2 o)
theorem Rw.drewN (R : Rw B w w0 N S Q F A k wr cur vh n hs ff ll vt ts) (q : Nat) : Rw B w w0 N S Q F A k (wr.drewN q) cur vh n hs ff ll vt ts :=
  R.same _ (fun j hj => rfl) (Nat.le_refl _) (below_drewN R.bel q)
theorem Rw.drew (R : Rw B w w0 N S Q F A k wr cur vh n hs ff ll vt ts) : Rw B w w0 N S Q F A k wr.drew cur vh n hs ff ll vt ts := R.drewN 1

theorem Rw.setF (R : Rw B w w0 N S Q F A k wr cur vh n hs ff ll vt ts) (i : Nat) (v : Int) : Rw B w w0 N S Q F A k (wr.setCell ⟨F, i, none⟩ (.int .i32 v)) cur vh n hs (fun j => if j = i then v else ff j) ll vt ts := by
  have hQ := (row_ne R.f R.q (by decide)).symm
  obtain ⟨cf, hf, _⟩ := R.f
  refine ⟨(Below.heap_setCell _ _ _ _ hQ).trans R.q, (R.f.set i _).congr (fun j _ => by split <;> rfl), R.l.setOther (a := ⟨F, i, none⟩) R.far.1.symm _,
    ownsRow_setCell_other R.h (a := ⟨F, i, none⟩) (own_far R.h hf (by decide)) _, ownsRow_setCell_other R.t (a := ⟨F, i, none⟩) R.far.2.1 _, R.bel.setCell (p := ⟨F, i, none⟩) R.lo.2.1 _, R.lo, R.far,
    by simpa using R.ns, fun j hj hs => ?_, R.sq, R.sh, R.st⟩
  rw [Below.heap_setCell _ _ _ _ (fun e => hs (by rw [e]; exact R.sq.2.1))]
  exact R.kp j hj hs
theorem Rw.setA (R : Rw B w w0 N S Q F A k wr cur vh n hs ff ll vt ts) (i : Nat) (v : Int) : Rw B w w0 N S Q F A k (wr.setCell ⟨A, i, none⟩ (.int .i32 v)) cur vh n hs ff (fun j => if j = i then v else ll j) vt ts := by
  have hQ := (row_ne R.l R.q (by decide)).symm
  obtain ⟨cf, hf, _⟩ := R.l
  refine ⟨(Below.heap_setCell _ _ _ _ hQ).trans R.q, R.f.setOther (a := ⟨A, i, none⟩) R.far.1 _, (R.l.set i _).congr (fun j _ => by split <;> rfl),
    ownsRow_setCell_other R.h (a := ⟨A, i, none⟩) (own_far R.h hf (by decide)) _, ownsRow_setCell_other R.t (a := ⟨A, i, none⟩) R.far.2.2 _, R.bel.setCell (p := ⟨A, i, none⟩) R.lo.2.2 _, R.lo, R.far,
    by simpa using R.ns, fun j hj hs => ?_, R.sq, R.sh, R.st⟩
  rw [Below.heap_setCell _ _ _ _ (fun e => hs (by rw [e]; exact R.sq.2.2))]
  exact R.kp j hj hs

/-- A store into the relays' own cells. -/
theorem Rw.setQ (R : Rw B w w0 N S Q F A k wr cur vh n hs ff ll vt ts) (i : Nat) (v : Value) {cur' : Int} {vh' : Value} {n' : Nat} {hs' : List Value} {vt' : Value} {ts' : List Int}
    (he : (five cur vh F A k vt).setIfInBounds i v = five cur' vh' F A k vt') (hh : wr.ownsRow B 48 5 vh' n' hs') (ht : wr.ownsRow B 21 1 vt' ts'.length (nc .i32 ts'))
    (hfar : vt'.ownBlock ≠ some F ∧ vt'.ownBlock ≠ some A) (hsh : ∀ j, vh'.ownBlock = some j → S j ∨ N ≤ j) (hst : ∀ j, vt'.ownBlock = some j → S j ∨ N ≤ j) :
    Rw B w w0 N S Q F A k (wr.setCell ⟨Q, i, none⟩ v) cur' vh' n' hs' ff ll vt' ts' := by
  refine ⟨by rw [blk_set R.q, he], R.f.setOther (a := ⟨Q, i, none⟩) (row_ne R.f R.q (by decide)) _, R.l.setOther (a := ⟨Q, i, none⟩) (row_ne R.l R.q (by decide)) _,
    ownsRow_setCell_other hh (a := ⟨Q, i, none⟩) (own_far hh R.q (by decide)) _, ownsRow_setCell_other ht (a := ⟨Q, i, none⟩) (own_far ht R.q (by decide)) _, R.bel.setCell (p := ⟨Q, i, none⟩) R.lo.1 _, R.lo, ⟨R.far.1, hfar⟩,
    by simpa using R.ns, fun j hj hs => ?_, R.sq, hsh, hst⟩
  rw [Below.heap_setCell _ _ _ _ (fun e => hs (by rw [e]; exact R.sq.1))]
  exact R.kp j hj hs

theorem Rw.c0 (R : Rw B w w0 N S Q F A k wr cur vh n hs ff ll vt ts) : wr.cell? ⟨Q, 0, none⟩ = some (.int .i64 cur) := by rw [blk_cell R.q]; rfl
theorem Rw.c1 (R : Rw B w w0 N S Q F A k wr cur vh n hs ff ll vt ts) : wr.cell? ⟨Q, 1, none⟩ = some vh := by rw [blk_cell R.q]; rfl
theorem Rw.c2 (R : Rw B w w0 N S Q F A k wr cur vh n hs ff ll vt ts) : wr.cell? ⟨Q, 2, none⟩ = some (.slice (some ⟨F, 0, none⟩) k k) := by rw [blk_cell R.q]; rfl
theorem Rw.c3 (R : Rw B w w0 N S Q F A k wr cur vh n hs ff ll vt ts) : wr.cell? ⟨Q, 3, none⟩ = some (.slice (some ⟨A, 0, none⟩) k k) := by rw [blk_cell R.q]; rfl
theorem Rw.c4 (R : Rw B w w0 N S Q F A k wr cur vh n hs ff ll vt ts) : wr.cell? ⟨Q, 4, none⟩ = some vt := by rw [blk_cell R.q]; rfl
theorem Rw.free (R : Rw B w w0 N S Q F A k wr cur vh n hs ff ll vt ts) (i : Nat) : wr.frozen? ⟨Q, i, none⟩ = false := blk_free R.q i
theorem Rw.cf (R : Rw B w w0 N S Q F A k wr cur vh n hs ff ll vt ts) (i : Nat) (hi : i < k) : wr.cell? ⟨F, i, none⟩ = some (.int .i32 (ff i)) := R.f.cell hi
theorem Rw.ca (R : Rw B w w0 N S Q F A k wr cur vh n hs ff ll vt ts) (i : Nat) (hi : i < k) : wr.cell? ⟨A, i, none⟩ = some (.int .i32 (ll i)) := R.l.cell hi

/-- The held row has grown: the world between the append and the store. -/
theorem Rw.grownH (R : Rw B w w0 N S Q F A k wr cur vh n hs ff ll vt ts) {w1 : World} (hg : wr.grownBy w1 vh.ownBlock) :
    w1.heap[Q]? = some (.cells (five cur vh F A k vt) 40 (0, 0)) ∧ w1.rowIs F 21 k (fun i => .int .i32 (ff i)) ∧ w1.rowIs A 21 k (fun i => .int .i32 (ll i)) ∧ w1.ownsRow B 21 1 vt ts.length (nc .i32 ts) ∧ Below B w w1 ∧ (N ≤ w1.heap.size ∧ B ≤ w1.heap.size) ∧ ∀ j, j < N → ¬ S j → w1.heap[j]? = w0.heap[j]? := by
  obtain ⟨cf, hf, _⟩ := R.f
  obtain ⟨ca, ha, _⟩ := R.l
  refine ⟨(hg.block Q (lt_of_block R.q) (own_far R.h R.q (by decide)).symm).trans R.q, R.f.of_block (hg.block F R.f.lt (own_far R.h hf (by decide)).symm), R.l.of_block (hg.block A R.l.lt (own_far R.h ha (by decide)).symm), R.t.kept hg (own_own R.t R.h (by decide)),
    R.bel.grown hg R.ns.2 (fun k hk => (R.h.lt k hk).1), ⟨Nat.le_trans R.ns.1 hg.size, Nat.le_trans R.ns.2 hg.size⟩, fun j hj hs => ?_⟩
  rw [hg.block j (Nat.lt_of_lt_of_le hj R.ns.1) (fun e => (R.sh j e.symm).elim hs (fun h => absurd hj (by omega)))]
  exact R.kp j hj hs

/-- 'q.held = append(q.held, ..)'. -/
theorem Rw.pushH (R : Rw B w w0 N S Q F A k wr cur vh n hs ff ll vt ts) {w1 w2 : World} {g n' cap : Nat} {hs' : List Value} (hg : wr.grownBy w1 vh.ownBlock) (hown : w1.ownsRow B 48 5 (.slice (some ⟨g, 0, none⟩) n' cap) n' hs') (hat : vh.ownBlock = some g ∨ N ≤ g)
    (h2 : w2 = w1) : Rw B w w0 N S Q F A k (w2.setCell ⟨Q, 1, none⟩ (.slice (some ⟨g, 0, none⟩) n' cap)) cur (.slice (some ⟨g, 0, none⟩) n' cap) n' hs' ff ll vt ts := by
  subst h2
  obtain ⟨g1, g2, g3, g4, g5, g6, g7⟩ := R.grownH hg
  have hsh : ∀ j, (Value.slice (some ⟨g, 0, none⟩) n' cap).ownBlock = some j → S j ∨ N ≤ j := fun j hj => by
    simp only [Value.ownBlock, Option.some.injEq] at hj
    subst hj
    rcases hat with h | h
    · exact R.sh g h
    · exact .inr h
  refine ⟨by rw [blk_set g1]; rfl, g2.setOther (a := ⟨Q, 1, none⟩) (row_ne g2 g1 (by decide)) _, g3.setOther (a := ⟨Q, 1, none⟩) (row_ne g3 g1 (by decide)) _,
    ownsRow_setCell_other hown (a := ⟨Q, 1, none⟩) (own_far hown g1 (by decide)) _, ownsRow_setCell_other g4 (a := ⟨Q, 1, none⟩) (own_far g4 g1 (by decide)) _, g5.setCell (p := ⟨Q, 1, none⟩) R.lo.1 _, R.lo, R.far,
    by simpa using g6, fun j hj hs => ?_, R.sq, hsh, R.st⟩
  rw [Below.heap_setCell _ _ _ _ (fun e => hs (by rw [e]; exact R.sq.1))]
  exact g7 j hj hs

theorem Rw.grownT (R : Rw B w w0 N S Q F A k wr cur vh n hs ff ll vt ts) {w1 : World} (hg : wr.grownBy w1 vt.ownBlock) :
    w1.heap[Q]? = some (.cells (five cur vh F A k vt) 40 (0, 0)) ∧ w1.rowIs F 21 k (fun i => .int .i32 (ff i)) ∧ w1.rowIs A 21 k (fun i => .int .i32 (ll i)) ∧ w1.ownsRow B 48 5 vh n hs ∧ Below B w w1 ∧ (N ≤ w1.heap.size ∧ B ≤ w1.heap.size) ∧ ∀ j, j < N → ¬ S j → w1.heap[j]? = w0.heap[j]? := by
  refine ⟨(hg.block Q (lt_of_block R.q) (own_far R.t R.q (by decide)).symm).trans R.q, R.f.of_block (hg.block F R.f.lt R.far.2.1.symm), R.l.of_block (hg.block A R.l.lt R.far.2.2.symm), R.h.kept hg (own_own R.h R.t (by decide)),
    R.bel.grown hg R.ns.2 (fun k hk => (R.t.lt k hk).1), ⟨Nat.le_trans R.ns.1 hg.size, Nat.le_trans R.ns.2 hg.size⟩, fun j hj hs => ?_⟩
  rw [hg.block j (Nat.lt_of_lt_of_le hj R.ns.1) (fun e => (R.st j e.symm).elim hs (fun h => absurd hj (by omega)))]
  exact R.kp j hj hs

/-- 'q.touched = append(q.touched, g)'. -/
theorem Rw.pushT (R : Rw B w w0 N S Q F A k wr cur vh n hs ff ll vt ts) {w1 : World} {g n' cap : Nat} {ts' : List Int} (hg : wr.grownBy w1 vt.ownBlock) (hown : w1.ownsRow B 21 1 (.slice (some ⟨g, 0, none⟩) n' cap) n' (nc .i32 ts')) (hn : ts'.length = n') (hat : vt.ownBlock = some g ∨ (N ≤ g ∧ F < g ∧ A < g)) :
    Rw B w w0 N S Q F A k (w1.setCell ⟨Q, 4, none⟩ (.slice (some ⟨g, 0, none⟩) n' cap)) cur vh n hs ff ll (.slice (some ⟨g, 0, none⟩) n' cap) ts' := by
  subst hn
  obtain ⟨g1, g2, g3, g4, g5, g6, g7⟩ := R.grownT hg
  have hsh : ∀ j, (Value.slice (some ⟨g, 0, none⟩) ts'.length cap).ownBlock = some j → S j ∨ N ≤ j := fun j hj => by
    simp only [Value.ownBlock, Option.some.injEq] at hj
    subst hj
    rcases hat with h | h
    · exact R.st g h
    · exact .inr h.1
  have hfar : g ≠ F ∧ g ≠ A := by
    rcases hat with h | h
    · exact ⟨fun e => R.far.2.1 (by rw [h, e]), fun e => R.far.2.2 (by rw [h, e])⟩
    · omega
  refine ⟨by rw [blk_set g1]; rfl, g2.setOther (a := ⟨Q, 4, none⟩) (row_ne g2 g1 (by decide)) _, g3.setOther (a := ⟨Q, 4, none⟩) (row_ne g3 g1 (by decide)) _,
    ownsRow_setCell_other g4 (a := ⟨Q, 4, none⟩) (own_far g4 g1 (by decide)) _, ownsRow_setCell_other hown (a := ⟨Q, 4, none⟩) (own_far hown g1 (by decide)) _, g5.setCell (p := ⟨Q, 4, none⟩) R.lo.1 _, R.lo,
    ⟨R.far.1, by simp only [Value.ownBlock, ne_eq, Option.some.injEq]; exact hfar.1, by simp only [Value.ownBlock, ne_eq, Option.some.injEq]; exact hfar.2⟩,
    by simpa using g6, fun j hj hs => ?_, R.sq, R.sh, hsh⟩
  rw [Below.heap_setCell _ _ _ _ (fun e => hs (by rw [e]; exact R.sq.1))]
  exact g7 j hj hs

/-- 'q.held[p].next = i'. -/
theorem Rw.setH {g cap : Nat} (R : Rw B w w0 N S Q F A k wr cur (.slice (some ⟨g, 0, none⟩) n cap) n hs ff ll vt ts) (j : Nat) (u : Value) : Rw B w w0 N S Q F A k (wr.setCell ⟨g, j, none⟩ u) cur (.slice (some ⟨g, 0, none⟩) n cap) n (hs.set j u) ff ll vt ts := by
  obtain ⟨hown, hg⟩ := R.h.stored j u
  obtain ⟨g1, g2, g3, g4, g5, g6, g7⟩ := R.grownH (w1 := wr.setCell ⟨g, j, none⟩ u) hg
  exact ⟨g1, g2, g3, hown, g4, g5, R.lo, R.far, g6, g7, R.sq, R.sh, R.st⟩
end

/-- What the held row says: of each message the run, the addressee and the next one. -/
structure Held (L R : List Int) (hs : List Value) : Prop where
  len : hs.length = L.length * 5
  rl : R.length = L.length
  at_ : ∀ i, i < L.length → hs[i * 5]? = some (.int .i32 (R.getD i 0)) ∧ hs[i * 5 + 1]? = some (.int .i32 (L.getD i 0)) ∧ hs[i * 5 + 4]? = some (.int .i32 (nx L i))
theorem Held.nil : Held [] [] [] := ⟨rfl, rfl, fun i hi => absurd hi (Nat.not_lt_zero _)⟩

theorem Held.push {L R : List Int} {hs : List Value} (h : Held L R hs) (g run : Int) (u v : Value) (hg : g ∉ L) : Held (L ++ [g]) (R ++ [run]) (hs ++ [.int .i32 run, .int .i32 g, u, v, .int .i32 (-1)]) := by
  refine ⟨by simp [h.len]; omega, by simp [h.rl], fun i hi => ?_⟩
  simp only [List.length_append, List.length_singleton] at hi
  by_cases hlt : i < L.length
  · obtain ⟨h1, h2, h3⟩ := h.at_ i hlt
    have hl := h.len
    rw [List.getElem?_append_left (by omega), List.getElem?_append_left (by omega), List.getElem?_append_left (by omega), h1, h2, h3, getD_snoc L g i hlt, getD_snoc R run i (by rw [h.rl]; exact hlt), nx_new L g i hlt hg]
    exact ⟨rfl, rfl, rfl⟩
  · obtain rfl : i = L.length := by omega
    have hl := h.len
    rw [List.getElem?_append_right (by omega), List.getElem?_append_right (by omega), List.getElem?_append_right (by omega), nx_end, getD_end]
    have e : (R ++ [run]).getD L.length 0 = run := by rw [← h.rl]; exact getD_end R run
    rw [e, show L.length * 5 - hs.length = 0 by omega, show L.length * 5 + 1 - hs.length = 1 by omega, show L.length * 5 + 4 - hs.length = 4 by omega]
    exact ⟨rfl, rfl, rfl⟩

theorem Held.link {L R : List Int} {hs : List Value} (h : Held L R hs) (g run : Int) (u v : Value) (p : Nat) (hp : p < L.length) (hlb : L.getD p 0 = g) (hlast : ∀ j, p < j → j < L.length → L.getD j 0 ≠ g) :
    Held (L ++ [g]) (R ++ [run]) ((hs ++ [.int .i32 run, .int .i32 g, u, v, .int .i32 (-1)]).set (p * 5 + 4) (.int .i32 (L.length : Int))) := by
  have hl := h.len
  refine ⟨by simp [h.len]; omega, by simp [h.rl], fun i hi => ?_⟩
  simp only [List.length_append, List.length_singleton] at hi
  rw [List.getElem?_set_ne (by omega), List.getElem?_set_ne (by omega)]
  by_cases hlt : i < L.length
  · obtain ⟨h1, h2, h3⟩ := h.at_ i hlt
    rw [List.getElem?_append_left (by omega), List.getElem?_append_left (by omega), h1, h2, getD_snoc L g i hlt, getD_snoc R run i (by rw [h.rl]; exact hlt), nx_old L g p i hlt hp hlb hlast]
    refine ⟨rfl, rfl, ?_⟩
    by_cases hip : i = p
    · subst hip
      rw [if_pos rfl, List.getElem?_set_self (by simp; omega)]
    · rw [if_neg hip, List.getElem?_set_ne (by omega), List.getElem?_append_left (by omega), h3]
  · obtain rfl : i = L.length := by omega
    rw [List.getElem?_set_ne (by omega), List.getElem?_append_right (by omega), List.getElem?_append_right (by omega), List.getElem?_append_right (by omega), nx_end, getD_end]
    have e : (R ++ [run]).getD L.length 0 = run := by rw [← h.rl]; exact getD_end R run
    rw [e, show L.length * 5 - hs.length = 0 by omega, show L.length * 5 + 1 - hs.length = 1 by omega, show L.length * 5 + 4 - hs.length = 4 by omega]
    exact ⟨rfl, rfl, rfl⟩
end Go.Proofs.Ybulkcfgo.Cl
