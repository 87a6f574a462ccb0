/-
  WHAT THE LAW HOLDS besides the relays: the rows mg and mr; 'add' as the law calls it (seat b4070a, LawS4070CLists).
-/
import Derived.Test.YbulkcfgoListsAdd
namespace Go.Proofs.Ybulkcfgo.Cl
open Go.RowKit
set_option linter.unusedVariables false

/-- The blocks that 'add' may write. -/
def Sx (Q F A : Nat) (vh vt : Value) (j : Nat) : Prop := j = Q ∨ j = F ∨ j = A ∨ vh.ownBlock = some j ∨ vt.ownBlock = some j

theorem Rw.rebase {B : Nat} {w w0 : World} {N : Nat} {S : Nat → Prop} {Q F A k : Nat} {wr : World} {cur : Int} {vh : Value} {n : Nat} {hs : List Value} {ff ll : Nat → Int} {vt : Value} {ts : List Int}
    (R : Rw B w w0 N S Q F A k wr cur vh n hs ff ll vt ts) : Rw B w wr wr.heap.size (Sx Q F A vh vt) Q F A k wr cur vh n hs ff ll vt ts :=
  ⟨R.q, R.f, R.l, R.h, R.t, R.bel, R.lo, R.far, ⟨Nat.le_refl _, R.ns.2⟩, fun _ _ _ => rfl, ⟨.inl rfl, .inr (.inl rfl), .inr (.inr (.inl rfl))⟩, fun j hj => .inl (.inr (.inr (.inr (.inl hj)))), fun j hj => .inl (.inr (.inr (.inr (.inr hj))))⟩

/-- Where the law stands: the relays (of the messages L, R), the row mg (M), the row mr (P). -/
structure Lw (B : Nat) (w : World) (Q F A k : Nat) (wr : World) (cur : Int) (L R : List Int) (vh vt : Value) (hs : List Value) (vm : Value) (M : List Int) (vr : Value) (P : List Int) : Prop where
  rw : Rw B w wr wr.heap.size (Sx Q F A vh vt) Q F A k wr cur vh L.length hs (fun i => nf (i : Int) L 0) (fun i => lb (i : Int) L) vt (dd L)
  hd : Held L R hs
  m : wr.ownsRow B 21 1 vm M.length (nc .i32 M)
  p : wr.ownsRow B 21 1 vr P.length (nc .i32 P)
  fm : vm.ownBlock ≠ some F ∧ vm.ownBlock ≠ some A ∧ (vm.ownBlock = none ∨ vm.ownBlock ≠ vt.ownBlock)
  fp : vr.ownBlock ≠ some F ∧ vr.ownBlock ≠ some A ∧ (vr.ownBlock = none ∨ vr.ownBlock ≠ vt.ownBlock)
  mp : vm.ownBlock = none ∨ vr.ownBlock = none ∨ vm.ownBlock ≠ vr.ownBlock

section
variable {B : Nat} {w : World} {Q F A k : Nat} {wr : World} {cur : Int} {L R : List Int} {vh vt : Value} {hs : List Value} {vm : Value} {M : List Int} {vr : Value} {P : List Int}

theorem Lw.same (h : Lw B w Q F A k wr cur L R vh vt hs vm M vr P) (w' : World) (hb : ∀ j, j < wr.heap.size → w'.heap[j]? = wr.heap[j]?) (hz : wr.heap.size ≤ w'.heap.size) (hbel : Below B w w') : Lw B w Q F A k w' cur L R vh vt hs vm M vr P :=
  ⟨(h.rw.same w' hb hz hbel).rebase, h.hd, own_of_block h.m (fun g hg => hb g (h.m.lt g hg).2), own_of_block h.p (fun g hg => hb g (h.p.lt g hg).2), h.fm, h.fp, h.mp⟩
theorem Lw.alloc (h : Lw B w Q F A k wr cur L R vh vt hs vm M vr P) (o : Obj) : Lw B w Q F A k (wr.alloc o) cur L R vh vt hs vm M vr P :=
  h.same _ (fun j hj => Below.heap_alloc _ _ _ hj) (by rw [World.size_alloc]; omega) (h.rw.bel.alloc h.rw.ns.2 o)
theorem Lw.drewN (h : Lw B w Q F A k wr cur L R vh vt hs vm M vr P) (q : Nat) : Lw B w Q F A k (wr.drewN q) cur L R vh vt hs vm M vr P :=
  h.same _ (fun j hj => rfl) (Nat.le_refl _) (below_drewN h.rw.bel q)
theorem Lw.above (h : Lw B w Q F A k wr cur L R vh vt hs vm M vr P) {w' : World} (hb : Below wr.heap.size wr w') : Lw B w Q F A k w' cur L R vh vt hs vm M vr P :=
  h.same w' (fun j hj => hb.block j hj) hb.size (h.rw.bel.trans (hb.mono h.rw.ns.2))

/-- The row mg has grown. -/
theorem Lw.pushM (h : Lw B w Q F A k wr cur L R vh vt hs vm M vr P) {w1 : World} {g n cap : Nat} {M' : List Int} (hg : wr.grownBy w1 vm.ownBlock) (hown : w1.ownsRow B 21 1 (.slice (some ⟨g, 0, none⟩) n cap) n (nc .i32 M')) (hn : M'.length = n) (hat : vm.ownBlock = some g ∨ wr.heap.size ≤ g) :
    Lw B w Q F A k w1 cur L R vh vt hs (.slice (some ⟨g, 0, none⟩) n cap) M' vr P := by
  subst hn
  have keep : ∀ j, j < wr.heap.size → vm.ownBlock ≠ some j → w1.heap[j]? = wr.heap[j]? := fun j hj hne => hg.block j hj hne.symm
  have r := h.rw
  have hbel : Below B w w1 := r.bel.grown hg r.ns.2 (fun k hk => (h.m.lt k hk).1)
  have hmt : ∀ j, vt.ownBlock = some j → w1.heap[j]? = wr.heap[j]? := fun j hj => keep j (r.t.lt j hj).2 (fun e => (h.fm.2.2.elim (fun e' => by rw [e'] at e; cases e) (fun e' => e' (by rw [e, hj]))))
  have hmp : ∀ j, vr.ownBlock = some j → w1.heap[j]? = wr.heap[j]? := fun j hj => keep j (h.p.lt j hj).2 (fun e => h.mp.elim (fun e' => by rw [e'] at e; cases e) (fun e' => e'.elim (fun e'' => by rw [e''] at hj; cases hj) (fun e'' => e'' (by rw [e, hj]))))
  have hgt : some g ≠ vt.ownBlock := fun e => by
    rcases hat with h' | h'
    · exact h.fm.2.2.elim (fun e' => by rw [e'] at h'; cases h') (fun e' => e' (by rw [h', e]))
    · have := (r.t.lt g e.symm).2; omega
  have hgp : vr.ownBlock = none ∨ some g ≠ vr.ownBlock := by
    rcases hat with h' | h'
    · rcases h.mp with e | e | e
      · rw [e] at h'; cases h'
      · exact .inl e
      · exact .inr (fun e' => e (by rw [h', e']))
    · exact .inr (fun e => by have := (h.p.lt g e.symm).2; omega)
  have hgf : g ≠ F ∧ g ≠ A := by
    rcases hat with h' | h'
    · exact ⟨fun e => h.fm.1 (by rw [h', e]), fun e => h.fm.2.1 (by rw [h', e])⟩
    · have := r.f.lt; have := r.l.lt; omega
  refine ⟨?_, h.hd, hown, own_of_block h.p hmp, ⟨by simp only [Value.ownBlock, ne_eq, Option.some.injEq]; exact hgf.1, by simp only [Value.ownBlock, ne_eq, Option.some.injEq]; exact hgf.2, .inr hgt⟩, h.fp, ?_⟩
  · exact (Rw.mk ((keep Q (lt_of_block r.q) (own_far h.m r.q (by decide))).trans r.q) (r.f.of_block (keep F r.f.lt h.fm.1)) (r.l.of_block (keep A r.l.lt h.fm.2.1)) (own_of_block r.h (fun j hj => keep j (r.h.lt j hj).2 (fun e => (own_own h.m r.h (by decide)).elim (fun e' => by rw [e'] at e; cases e) (fun e' => e' (by rw [e, hj])))))
      (own_of_block r.t hmt) hbel r.lo r.far (N := w1.heap.size) (w0 := w1) (S := Sx Q F A vh vt) ⟨Nat.le_refl _, Nat.le_trans r.ns.2 hg.size⟩ (fun _ _ _ => rfl) r.sq (fun j hj => .inl (.inr (.inr (.inr (.inl hj))))) (fun j hj => .inl (.inr (.inr (.inr (.inr hj))))))
  · rcases hgp with e | e
    · exact .inr (.inl e)
    · exact .inr (.inr e)

/-- The two rows change their parts. -/
theorem Lw.swap (h : Lw B w Q F A k wr cur L R vh vt hs vm M vr P) : Lw B w Q F A k wr cur L R vh vt hs vr P vm M :=
  ⟨h.rw, h.hd, h.p, h.m, h.fp, h.fm, h.mp.elim (fun e => .inr (.inl e)) (fun e => e.elim .inl (fun e' => .inr (.inr e'.symm)))⟩
theorem Lw.pushP (h : Lw B w Q F A k wr cur L R vh vt hs vm M vr P) {w1 : World} {g n cap : Nat} {P' : List Int} (hg : wr.grownBy w1 vr.ownBlock) (hown : w1.ownsRow B 21 1 (.slice (some ⟨g, 0, none⟩) n cap) n (nc .i32 P')) (hn : P'.length = n) (hat : vr.ownBlock = some g ∨ wr.heap.size ≤ g) :
    Lw B w Q F A k w1 cur L R vh vt hs vm M (.slice (some ⟨g, 0, none⟩) n cap) P' := (h.swap.pushM hg hown hn hat).swap
/-- 'mg = mg[:0]'. -/
theorem Lw.zeroM {a : Option Addr} {n c : Nat} (h : Lw B w Q F A k wr cur L R vh vt hs (.slice a n c) M vr P) (hn : M.length = n) : Lw B w Q F A k wr cur L R vh vt hs (.slice a 0 c) [] vr P := by
  have e : (Value.slice a 0 c).ownBlock = (Value.slice a n c).ownBlock := by cases a <;> rfl
  have hm := h.m
  rw [hn] at hm
  exact ⟨h.rw, h.hd, own_zero hm, h.p, by rw [e]; exact h.fm, h.fp, by rw [e]; exact h.mp⟩
theorem Lw.zeroP {a : Option Addr} {n c : Nat} (h : Lw B w Q F A k wr cur L R vh vt hs vm M (.slice a n c) P) (hn : P.length = n) : Lw B w Q F A k wr cur L R vh vt hs vm M (.slice a 0 c) [] := (h.swap.zeroM hn).swap

/-- Behind a call of 'add'. -/
theorem Lw.added (h : Lw B w Q F A k wr cur L R vh vt hs vm M vr P) {w' : World} {r : Int} {L' R' : List Int} {vh' vt' : Value} {hs' : List Value}
    (r' : Rw B w wr wr.heap.size (Sx Q F A vh vt) Q F A k w' r vh' L'.length hs' (fun i => nf (i : Int) L' 0) (fun i => lb (i : Int) L') vt' (dd L')) (hd' : Held L' R' hs') : Lw B w Q F A k w' r L' R' vh' vt' hs' vm M vr P := by
  have out : ∀ (v : Value) (X : List Int), wr.ownsRow B 21 1 v X.length (nc .i32 X) → v.ownBlock ≠ some F ∧ v.ownBlock ≠ some A ∧ (v.ownBlock = none ∨ v.ownBlock ≠ vt.ownBlock) → ∀ j, v.ownBlock = some j → ¬ Sx Q F A vh vt j := fun v X hx hf j hj hs => by
    rcases hs with e | e | e | e | e
    · exact own_far hx h.rw.q (by decide) (by rw [hj, e])
    · exact hf.1 (by rw [hj, e])
    · exact hf.2.1 (by rw [hj, e])
    · exact (own_own hx h.rw.h (by decide)).elim (fun e' => by rw [e'] at hj; cases hj) (fun e' => e' (by rw [hj, e]))
    · exact hf.2.2.elim (fun e' => by rw [e'] at hj; cases hj) (fun e' => e' (by rw [hj, e]))
  have keep : ∀ (v : Value) (X : List Int), wr.ownsRow B 21 1 v X.length (nc .i32 X) → v.ownBlock ≠ some F ∧ v.ownBlock ≠ some A ∧ (v.ownBlock = none ∨ v.ownBlock ≠ vt.ownBlock) → w'.ownsRow B 21 1 v X.length (nc .i32 X) ∧ (v.ownBlock ≠ some F ∧ v.ownBlock ≠ some A ∧ (v.ownBlock = none ∨ v.ownBlock ≠ vt'.ownBlock)) := fun v X hx hf => by
    refine ⟨own_of_block hx (fun j hj => r'.kp j (hx.lt j hj).2 (out v X hx hf j hj)), hf.1, hf.2.1, ?_⟩
    cases hv : v.ownBlock with
    | none => exact .inl rfl
    | some j =>
      right
      intro e
      rcases r'.st j e.symm with h1 | h1
      · exact out v X hx hf j hv h1
      · have := (hx.lt j hv).2; omega
  exact ⟨r'.rebase, hd', (keep _ _ h.m h.fm).1, (keep _ _ h.p h.fp).1, (keep _ _ h.m h.fm).2, (keep _ _ h.p h.fp).2, h.mp⟩
end

/-- What is known where no message has come yet. -/
def Emp (L : List Int) (vh vt : Value) : Prop := L = [] → vh = .slice none 0 0 ∧ vt = .slice none 0 0

/-- 'add', as the law calls it. -/
theorem add_any (B : Nat) (w : World) (Q F A k : Nat) (wr : World) (cur : Int) (L R : List Int) (vh vt : Value) (hs : List Value) (vm : Value) (M : List Int) (vr : Value) (P : List Int) (r run : Int) (g : Nat)
    (h : Lw B w Q F A k wr cur L R vh vt hs vm M vr P) (hemp : Emp L vh vt) (HRNG : Hid (∀ x ∈ L, 0 ≤ x ∧ x < (k : Int))) (hk : k ≤ 8) (hg : g < k) (hn : L.length ≤ 1024) (hr0 : 0 ≤ r) (hr1 : r ≤ 2) (L' R' : List Int) (hL' : L' = (if cur = r then L else []) ++ [(g : Int)]) (hR' : R' = (if cur = r then R else []) ++ [run]) :
    Calls Yba.prog 12 #[.pointer (some ⟨Q, 0, none⟩), .int .i64 r, .int .i32 (g : Int), .agg #[.int .i32 run, .int .i32 (g : Int), .int .i32 r, .int .u8 0]] wr fun e w' => e = .returned (.tuple #[]) ∧ ∃ vh' vt' hs', Lw B w Q F A k w' r L' R' vh' vt' hs' vm M vr P := by
  by_cases hc : cur = r
  · subst hc
    rw [if_pos rfl] at hL' hR'
    subst hL' hR'
    by_cases hm : (g : Int) ∈ L
    · refine (add_old B w wr wr.heap.size _ Q F A k wr vh hs vt L R cur run g h.rw h.hd hk hg hn hr0 hr1 hm).mono ?_
      rintro e w' ⟨rfl, vh', vt', hs', r', hd'⟩
      exact ⟨rfl, vh', vt', hs', h.added r' hd'⟩
    · refine (add_new B w wr wr.heap.size _ Q F A k wr vh hs vt L R cur run g h.rw h.hd hk hg hn hr0 hr1 hm).mono ?_
      rintro e w' ⟨rfl, vh', vt', hs', r', hd'⟩
      exact ⟨rfl, vh', vt', hs', h.added r' hd'⟩
  · rw [if_neg hc] at hL' hR'
    subst hL' hR'
    by_cases hL : L = []
    · obtain ⟨rfl, rfl⟩ := hemp hL
      subst hL
      refine (add_turn0 B w wr wr.heap.size _ Q F A k wr hs cur r run g h.rw (fun x hx => by cases hx) hk hg (by decide) hr0 hr1 hc).mono ?_
      rintro e w' ⟨rfl, vh', vt', hs', r', hd'⟩
      exact ⟨rfl, vh', vt', hs', h.added r' hd'⟩
    · have hpos : 0 < L.length := by cases L with | nil => exact absurd rfl hL | cons x y => simp
      have hdpos : 0 < (dd L).length := by
        cases hd : dd L with
        | nil =>
          exfalso
          cases L with
          | nil => exact hL rfl
          | cons x y => have := (dd_mem (x :: y) x).2 (by simp); rw [hd] at this; cases this
        | cons y z => simp
      obtain ⟨gh, ch, rfl⟩ : ∃ gh ch, vh = .slice (some ⟨gh, 0, none⟩) L.length ch := by
        rcases h.rw.h.2 with ⟨_, h0⟩ | ⟨g', cap', cur', h', _⟩
        · omega
        · exact ⟨g', cap', h'⟩
      obtain ⟨gt, ct, rfl⟩ : ∃ gt ct, vt = .slice (some ⟨gt, 0, none⟩) (dd L).length ct := by
        rcases h.rw.t.2 with ⟨_, h0⟩ | ⟨g', cap', cur', h', _⟩
        · omega
        · exact ⟨g', cap', h'⟩
      refine (add_turn1 B w wr wr.heap.size _ Q F A k wr hs gh ch gt ct L R hL cur r run g h.rw HRNG hk hg hn hr0 hr1 hc).mono ?_
      rintro e w' ⟨rfl, vh', vt', hs', r', hd'⟩
      exact ⟨rfl, vh', vt', hs', h.added r' hd'⟩
end Go.Proofs.Ybulkcfgo.Cl
