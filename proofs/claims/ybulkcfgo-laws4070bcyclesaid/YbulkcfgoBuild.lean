/-
  'zzs4070bbuild' (function 6) by its contract (seat b4070a).
-/
import Derived.Test.YbulkcfgoNext
import Derived.RegionTactic
import Derived.ChangeAlike
import Derived.Deep.RegionHeld3
namespace Go.Proofs.Ybulkcfgo
open Go.RowKit
set_option linter.unusedVariables false

/-- The messages sent: increasing, from 0 on, the last of them M. -/
structure Inc (S : List Int) (M : Int) : Prop where
  lo : -1 ≤ M
  hi : M + 1 ≤ 4 * S.length
  mem : ∀ i, i < S.length → 0 ≤ S.getD i 0 ∧ S.getD i 0 ≤ M
  lt : ∀ i j, i < j → j < S.length → S.getD i 0 < S.getD j 0

theorem getD_snoc (S : List Int) (x : Int) (i : Nat) : (S ++ [x]).getD i 0 = if i < S.length then S.getD i 0 else if i = S.length then x else 0 := by
  simp only [List.getD_eq_getElem?_getD, List.getElem?_append]
  by_cases h : i < S.length
  · simp [h]
  · by_cases h2 : i = S.length
    · subst h2; simp
    · rw [if_neg h, if_neg h, if_neg h2, List.getElem?_eq_none (by simp; omega)]
      rfl

theorem Inc.snoc {S : List Int} {M : Int} (h : Inc S M) (d : Int) (h0 : 0 ≤ d) (h3 : d ≤ 3) : Inc (S ++ [M + (d + 1)]) (M + (d + 1)) := by
  have h1 := h.lo
  have h2 := h.hi
  refine ⟨by omega, by simp; omega, fun i hi => ?_, fun i j hij hj => ?_⟩
  · rw [getD_snoc]
    split
    · have := h.mem i (by assumption); omega
    · simp at hi
      rw [if_pos (by omega)]
      omega
  · simp at hj
    rw [getD_snoc, getD_snoc, if_pos (by omega)]
    split
    · exact h.lt i j hij (by assumption)
    · rw [if_pos (by omega)]
      have := h.mem i (by omega)
      omega

theorem set3_1 {w : World} {N : Nat} {a b c v : Value} {e : TypeId} (h : w.heap[N]? = some (.cells #[a, b, c] e (0, 0))) : (w.setCell ⟨N, 1, none⟩ v).heap[N]? = some (.cells #[a, v, c] e (0, 0)) := heap_setCell_same w N 1 _ e v h
theorem set3_2 {w : World} {N : Nat} {a b c v : Value} {e : TypeId} (h : w.heap[N]? = some (.cells #[a, b, c] e (0, 0))) : (w.setCell ⟨N, 2, none⟩ v).heap[N]? = some (.cells #[a, b, v] e (0, 0)) := heap_setCell_same w N 2 _ e v h

/-- A row of one element type is no block of another. -/
theorem own_far {w : World} {base : Nat} {e e' : TypeId} {size : Nat} {v : Value} {n N : Nat} {xs : List Value} {cs : Array Value} {fr : Nat × Nat} (h : w.ownsRow base e size v n xs) (hN : w.heap[N]? = some (.cells cs e' fr)) (hne : e ≠ e') : v.ownBlock ≠ some N := by
  rcases h.2 with ⟨h', _⟩ | ⟨g, cap, cur, rfl, _, hh, _⟩
  · rw [h']; simp [Value.ownBlock]
  · simp only [Value.ownBlock, ne_eq, Option.some.injEq]
    rintro rfl
    have := hh.symm.trans hN
    simp at this
    exact hne this.2.1

/-- What build knows in its first loop. -/
structure Mk (B : Nat) (w wr : World) (vs : Value) (S : List Int) (M : Int) : Prop where
  blk : wr.heap[B]? = some (.cells #[.int .i64 1, vs, .slice none 0 0] 29 (0, 0))
  sent : wr.ownsRow B 3 1 vs S.length (nc .i64 S)
  bel : Below B w wr
  inc : Inc S M

theorem Mk.push {B : Nat} {w wr w1 : World} {vs : Value} {S : List Int} {M d : Int} {o : Obj} {g cap : Nat} (h : Mk B w wr vs S M) (h0 : 0 ≤ d) (h3 : d ≤ 3)
    (hown : w1.ownsRow B 3 1 (.slice (some ⟨g, 0, none⟩) (S.length + 1) cap) (S.length + 1) (nc .i64 S ++ [.int .i64 (M + (d + 1))])) (hgrow : (wr.alloc o).grownBy w1 vs.ownBlock) :
    (w1.cell? ⟨B, 1, none⟩ = some vs ∧ w1.frozen? ⟨B, 1, none⟩ = false) ∧ Mk B w (w1.setCell ⟨B, 1, none⟩ (.slice (some ⟨g, 0, none⟩) (S.length + 1) cap)) (.slice (some ⟨g, 0, none⟩) (S.length + 1) cap) (S ++ [M + (d + 1)]) (M + (d + 1)) := by
  have hlt := lt_of_block h.blk
  have hb1 : w1.heap[B]? = some (.cells #[.int .i64 1, vs, .slice none 0 0] 29 (0, 0)) := by
    rw [hgrow.block B (by rw [World.size_alloc]; omega) (fun e => own_far h.sent h.blk (by decide) e.symm), Below.heap_alloc _ _ _ hlt]
    exact h.blk
  have hfar : (Value.slice (some ⟨g, 0, none⟩) (S.length + 1) cap).ownBlock ≠ some B := own_far hown hb1 (by decide)
  refine ⟨⟨by rw [blk_cell hb1]; rfl, blk_free hb1 1⟩, set3_1 hb1, ?_, ?_, h.inc.snoc d h0 h3⟩
  · have := ownsRow_setCell_other hown (a := ⟨B, 1, none⟩) hfar (.slice (some ⟨g, 0, none⟩) (S.length + 1) cap)
    simpa [nc] using this
  · refine Below.setCell (p := ⟨B, 1, none⟩) ?_ (Nat.le_refl B) _
    exact (h.bel.alloc (by omega) o).grown hgrow (by rw [World.size_alloc]; omega) (fun k hk => (h.sent.lt k hk).1)

theorem Plan.turned' {B : Nat} {w w' : World} {N n : Nat} {vs : Value} {S C D : List Int} {g cap : Nat} (h : Plan B w N vs (.slice (some ⟨g, 0, none⟩) n cap) S C) (hn : C.length = n) (hg : w.grownBy w' (some g))
    (hl : D.length = n) (hD : w'.ownsRow B 31 1 (.slice (some ⟨g, 0, none⟩) n cap) n (nc .u8 D)) : Plan B w' N vs (.slice (some ⟨g, 0, none⟩) n cap) S D := by
  subst hn; exact h.turned hg hl hD

theorem Mk.made {B : Nat} {w wr w1 : World} {vs : Value} {S : List Int} {M : Int} {g n : Nat} (h : Mk B w wr vs S M) (hown : w1.ownsRow B 31 1 (.slice (some ⟨g, 0, none⟩) n n) n (madeCells #[.int .u8 0] n).toList) (hgrow : wr.grownBy w1 none) :
    (w1.cell? ⟨B, 2, none⟩ = some (.slice none 0 0) ∧ w1.frozen? ⟨B, 2, none⟩ = false) ∧ Plan B (w1.setCell ⟨B, 2, none⟩ (.slice (some ⟨g, 0, none⟩) n n)) B vs (.slice (some ⟨g, 0, none⟩) n n) S (List.replicate n 0) ∧ Below B w (w1.setCell ⟨B, 2, none⟩ (.slice (some ⟨g, 0, none⟩) n n)) := by
  have hlt := lt_of_block h.blk
  have hb1 : w1.heap[B]? = some (.cells #[.int .i64 1, vs, .slice none 0 0] 29 (0, 0)) := by
    rw [hgrow.block B hlt (by simp)]
    exact h.blk
  have hs1 := h.sent.kept hgrow (by cases hv : vs.ownBlock <;> simp)
  refine ⟨⟨by rw [blk_cell hb1]; rfl, blk_free hb1 2⟩, ⟨set3_2 hb1, Nat.le_refl _, ?_, ?_⟩, ?_⟩
  · exact ownsRow_setCell_other hs1 (a := ⟨B, 2, none⟩) (own_far hs1 hb1 (by decide)) _
  · have := ownsRow_setCell_other hown (a := ⟨B, 2, none⟩) (own_far hown hb1 (by decide)) (.slice (some ⟨g, 0, none⟩) n n)
    rw [toList_madeCells_one] at this
    simpa [nc] using this
  · exact Below.setCell (p := ⟨B, 2, none⟩) (h.bel.grown hgrow (by omega) (fun k hk => by cases hk)) (Nat.le_refl B) _

theorem dig_zero (n : Nat) : Dig (List.replicate n 0) := by
  intro j
  simp only [List.getD_eq_getElem?_getD, List.getElem?_replicate]
  split <;> simp

set_option maxHeartbeats 2000000 in
theorem build_in (b0 o0 len0 cap0 : Nat) (a1 : Option Addr) (cap1 : Nat) (Z0 : Nat → Int) (w : World) (hl0 : 0 < len0) (hl1 : len0 ≤ 1024) (hb0 : b0 < w.heap.size)
    (hc0 : ∀ i, i < len0 → w.cell? ⟨b0, o0 + i, none⟩ = some (.int .u8 (Z0 i))) (hz0 : ∀ i, 0 ≤ Z0 i ∧ Z0 i ≤ 255) :
    Calls Yba.prog 6 #[.slice (some ⟨b0, o0, none⟩) len0 cap0, .slice a1 0 cap1] w fun e w' => ∃ vs vc S C, e = .returned (.pointer (some ⟨w.heap.size, 0, none⟩)) ∧
      Plan w.heap.size w' w.heap.size vs vc S C ∧ S.length = len0 ∧ Inc S (C.length - 1) ∧ Dig C ∧ Below w.heap.size w w' := by
  have HC0 : Hid (∀ i, i < len0 → w.cell? ⟨b0, o0 + i, none⟩ = some (.int .u8 (Z0 i))) := hc0
  have HZ0 : Hid (∀ i, 0 ≤ Z0 i ∧ Z0 i ≤ 255) := hz0
  clear hc0 hz0
  obtain ⟨i3, hi, hz0, hz1, hz2⟩ := info_parts Yba.info3
  go_enter Yba.func6, Yba.ntmps6
  go_wp2
  go_loopw [6, 14] (fun m i wr => ∃ vs S M, S.length ≤ len0 ∧ i = .int .i64 (S.length : Int) ∧ m = .int .i64 M ∧ Mk w.heap.size w wr vs S M) (fun _ i _ => len0 - (intOf i).toNat)
  case atStart =>
    refine ⟨.slice none 0 0, [], -1, Nat.zero_le _, rfl, rfl, heap_alloc_new _ _, World.ownsRow_nil _ _ _ _, (Below.refl _ _).alloc (Nat.le_refl _) _, by decide, by decide, fun i hi => absurd hi (Nat.not_lt_zero _), fun i j _ hj => absurd hj (Nat.not_lt_zero _)⟩
  case round =>
    obtain ⟨vs, S, M, hk, rfl, rfl, hM⟩ := hrel
    by_cases hlt : S.length < len0
    · have hcx : wr.cell? ⟨b0, o0 + S.length, none⟩ = some (.int .u8 (Z0 S.length)) := (hM.bel.cell (by exact hb0)).trans (HC0.out _ hlt)
      obtain ⟨z, hzz⟩ : ∃ z, z = Z0 S.length := ⟨_, rfl⟩
      rw [← hzz] at hcx
      have hzb := HZ0.out S.length
      rw [← hzz] at hzb
      obtain ⟨hzb0, hzb1⟩ := hzb
      have hMlo := hM.inc.lo
      have hMhi := hM.inc.hi
      have hc1 : wr.cell? ⟨w.heap.size, 1, none⟩ = some vs := by rw [blk_cell hM.blk]; rfl
      have HM : Hid (Mk w.heap.size w wr vs S M) := hM
      have hltw := lt_of_block hM.blk
      have HOW := fun (o : Obj) => hM.sent.alloc o
      have HO : Hid (∀ o, (wr.alloc o).ownsRow w.heap.size 3 1 vs S.length (nc .i64 S)) := HOW
      have hd0 : 0 ≤ z % 4 := by omega
      have hd3 : z % 4 ≤ 3 := by omega
      have hc1' : ∀ o, (wr.alloc o).cell? ⟨w.heap.size, 1, none⟩ = some vs := fun o => by rw [World.cell?_alloc_lt _ _ _ (by exact hltw)]; exact hc1
      clear hM HOW hzz
      go_wp2_with (at_builtin; (refine wpList_append_lies _ rfl (.tmp 28) (.tmp 30) 25 rfl w.heap.size 3 i3 (.int .i64 0) 1 8 Yba.underlying25 hi hz0 hz1 hz2 rfl (by decide) vs S.length (nc .i64 S) rfl (HO.out _) ⟨wr.heap.size, 0, none⟩ 1 1 [.int .i64 (M + (z % 4 + 1))] rfl rfl (cell_one_new _ _ _) ?h1 (by decide) (by unfold maxLen; omega) (by omega) (by simp; omega) _ rfl ?_))
      case h1 => intro u hu; simp at hu; subst hu; rfl
      intro g cap w1 hown hgrow _ _
      obtain ⟨⟨q1, q2⟩, hM'⟩ := HM.out.push hd0 hd3 hown hgrow
      have HM' : Hid _ := hM'
      clear hM' hown hgrow hc1 hc1' hcx
      go_wp2
      go_roundw
      case rel => exact ⟨_, S ++ [M + (z % 4 + 1)], M + (z % 4 + 1), by simp; omega, by simp, rfl, HM'.out⟩
      case measure => simp [intOf]; omega
    · have hkl : S.length = len0 := by omega
      obtain ⟨gs, cs, hvs, _, _⟩ := hM.sent.form (by omega)
      subst hvs
      have hMlo := hM.inc.lo
      have hMhi := hM.inc.hi
      have hM0 : 0 ≤ M := by have := hM.inc.mem 0 (by omega); omega
      obtain ⟨n, hn⟩ := Int.eq_ofNat_of_zero_le (show 0 ≤ M + 1 by omega)
      have hnb : n ≤ 5000 := by omega
      have hc1 : wr.cell? ⟨w.heap.size, 1, none⟩ = some (.slice (some ⟨gs, 0, none⟩) S.length cs) := by rw [blk_cell hM.blk]; rfl
      have HM : Hid (Mk w.heap.size w wr (.slice (some ⟨gs, 0, none⟩) S.length cs) S M) := hM
      have hltw := lt_of_block hM.blk
      have HN : Hid (M + 1 = (n : Int)) := hn
      have hS0 : (0 : Int) < (S.length : Int) := by omega
      obtain ⟨i1, hi', hz0', hz1', hz2'⟩ := info_parts Yba.info31
      have hMb : M ≤ 5000 := by omega
      clear hM hn
      have HKL : Hid (S.length = len0) := hkl
      clear hkl
      go_wp2_with (at_make; (refine wpList_make_full _ rfl (.tmp 43) (.tmp 43) 27 rfl w.heap.size 31 i1 (.int .u8 0) 1 Yba.underlying27 hi' hz0' hz1' .i64 .i64 _ _ n rfl rfl HN.out HN.out (by rw [hz2']; omega) (by unfold maxLen; omega) (by omega) ?_))
      intro w1 hown hgrow
      obtain ⟨⟨q1, q2⟩, hP, hB⟩ := HM.out.made hown hgrow
      have HP : Hid _ := hP
      have HB : Hid _ := hB
      clear hP hB hown hgrow hc1
      go_wp2
      go_ret
      refine ⟨_, _, S, List.replicate n 0, rfl, HP.out, HKL.out, ?_, dig_zero n, HB.out⟩
      have e : ((List.replicate n (0 : Int)).length : Int) - 1 = M := by have := HN.out; simp; omega
      rw [e]
      exact HM.out.inc

set_option maxHeartbeats 2000000 in
theorem build_in2 (b0 o0 len0 cap0 : Nat) (b1 o1 len1 cap1 : Nat) (Z0 : Nat → Int) (w : World) (hl0 : 0 < len0) (hl1 : len0 ≤ 1024) (hb0 : b0 < w.heap.size)
    (hc0 : ∀ i, i < len0 → w.cell? ⟨b0, o0 + i, none⟩ = some (.int .u8 (Z0 i))) (hz0 : ∀ i, 0 ≤ Z0 i ∧ Z0 i ≤ 255) (Z1 : Nat → Int) (hv0 : 0 < len1) (hv1 : len1 ≤ 4096) (hb1 : b1 < w.heap.size)
    (hc1 : ∀ i, i < len1 → w.cell? ⟨b1, o1 + i, none⟩ = some (.int .u8 (Z1 i))) (hz1 : ∀ i, 0 ≤ Z1 i ∧ Z1 i ≤ 255) :
    Calls Yba.prog 6 #[.slice (some ⟨b0, o0, none⟩) len0 cap0, .slice (some ⟨b1, o1, none⟩) len1 cap1] w fun e w' => ∃ vs vc S C, e = .returned (.pointer (some ⟨w.heap.size, 0, none⟩)) ∧
      Plan w.heap.size w' w.heap.size vs vc S C ∧ S.length = len0 ∧ Inc S (C.length - 1) ∧ Dig C ∧ Below w.heap.size w w' := by
  have HC0 : Hid (∀ i, i < len0 → w.cell? ⟨b0, o0 + i, none⟩ = some (.int .u8 (Z0 i))) := hc0
  have HZ0 : Hid (∀ i, 0 ≤ Z0 i ∧ Z0 i ≤ 255) := hz0
  have HC1 : Hid (∀ i, i < len1 → w.cell? ⟨b1, o1 + i, none⟩ = some (.int .u8 (Z1 i))) := hc1
  have HZ1 : Hid (∀ i, 0 ≤ Z1 i ∧ Z1 i ≤ 255) := hz1
  clear hc0 hz0 hc1 hz1
  obtain ⟨i3, hi, hz0, hz1, hz2⟩ := info_parts Yba.info3
  go_enter Yba.func6, Yba.ntmps6
  go_wp2
  go_loopw [6, 14] (fun m i wr => ∃ vs S M, S.length ≤ len0 ∧ i = .int .i64 (S.length : Int) ∧ m = .int .i64 M ∧ Mk w.heap.size w wr vs S M) (fun _ i _ => len0 - (intOf i).toNat)
  case atStart =>
    refine ⟨.slice none 0 0, [], -1, Nat.zero_le _, rfl, rfl, heap_alloc_new _ _, World.ownsRow_nil _ _ _ _, (Below.refl _ _).alloc (Nat.le_refl _) _, by decide, by decide, fun i hi => absurd hi (Nat.not_lt_zero _), fun i j _ hj => absurd hj (Nat.not_lt_zero _)⟩
  case round =>
    obtain ⟨vs, S, M, hk, rfl, rfl, hM⟩ := hrel
    by_cases hlt : S.length < len0
    · have hcx : wr.cell? ⟨b0, o0 + S.length, none⟩ = some (.int .u8 (Z0 S.length)) := (hM.bel.cell (by exact hb0)).trans (HC0.out _ hlt)
      obtain ⟨z, hzz⟩ : ∃ z, z = Z0 S.length := ⟨_, rfl⟩
      rw [← hzz] at hcx
      have hzb := HZ0.out S.length
      rw [← hzz] at hzb
      obtain ⟨hzb0, hzb1⟩ := hzb
      have hMlo := hM.inc.lo
      have hMhi := hM.inc.hi
      have hc1 : wr.cell? ⟨w.heap.size, 1, none⟩ = some vs := by rw [blk_cell hM.blk]; rfl
      have HM : Hid (Mk w.heap.size w wr vs S M) := hM
      have hltw := lt_of_block hM.blk
      have HOW := fun (o : Obj) => hM.sent.alloc o
      have HO : Hid (∀ o, (wr.alloc o).ownsRow w.heap.size 3 1 vs S.length (nc .i64 S)) := HOW
      have hd0 : 0 ≤ z % 4 := by omega
      have hd3 : z % 4 ≤ 3 := by omega
      have hc1' : ∀ o, (wr.alloc o).cell? ⟨w.heap.size, 1, none⟩ = some vs := fun o => by rw [World.cell?_alloc_lt _ _ _ (by exact hltw)]; exact hc1
      clear hM HOW hzz
      go_wp2_with (at_builtin; (refine wpList_append_lies _ rfl (.tmp 28) (.tmp 30) 25 rfl w.heap.size 3 i3 (.int .i64 0) 1 8 Yba.underlying25 hi hz0 hz1 hz2 rfl (by decide) vs S.length (nc .i64 S) rfl (HO.out _) ⟨wr.heap.size, 0, none⟩ 1 1 [.int .i64 (M + (z % 4 + 1))] rfl rfl (cell_one_new _ _ _) ?h1 (by decide) (by unfold maxLen; omega) (by omega) (by simp; omega) _ rfl ?_))
      case h1 => intro u hu; simp at hu; subst hu; rfl
      intro g cap w1 hown hgrow _ _
      obtain ⟨⟨q1, q2⟩, hM'⟩ := HM.out.push hd0 hd3 hown hgrow
      have HM' : Hid _ := hM'
      clear hM' hown hgrow hc1 hc1' hcx
      go_wp2
      go_roundw
      case rel => exact ⟨_, S ++ [M + (z % 4 + 1)], M + (z % 4 + 1), by simp; omega, by simp, rfl, HM'.out⟩
      case measure => simp [intOf]; omega
    · have hkl : S.length = len0 := by omega
      obtain ⟨gs, cs, hvs, _, _⟩ := hM.sent.form (by omega)
      subst hvs
      have hMlo := hM.inc.lo
      have hMhi := hM.inc.hi
      have hM0 : 0 ≤ M := by have := hM.inc.mem 0 (by omega); omega
      obtain ⟨n, hn⟩ := Int.eq_ofNat_of_zero_le (show 0 ≤ M + 1 by omega)
      have hnb : n ≤ 5000 := by omega
      have hc1 : wr.cell? ⟨w.heap.size, 1, none⟩ = some (.slice (some ⟨gs, 0, none⟩) S.length cs) := by rw [blk_cell hM.blk]; rfl
      have HM : Hid (Mk w.heap.size w wr (.slice (some ⟨gs, 0, none⟩) S.length cs) S M) := hM
      have hltw := lt_of_block hM.blk
      have HN : Hid (M + 1 = (n : Int)) := hn
      have hS0 : (0 : Int) < (S.length : Int) := by omega
      obtain ⟨i1, hi', hz0', hz1', hz2'⟩ := info_parts Yba.info31
      have hMb : M ≤ 5000 := by omega
      clear hM hn
      have HKL : Hid (S.length = len0) := hkl
      clear hkl
      go_wp2_with (at_make; (refine wpList_make_full _ rfl (.tmp 43) (.tmp 43) 27 rfl w.heap.size 31 i1 (.int .u8 0) 1 Yba.underlying27 hi' hz0' hz1' .i64 .i64 _ _ n rfl rfl HN.out HN.out (by rw [hz2']; omega) (by unfold maxLen; omega) (by omega) ?_))
      intro w1 hown hgrow
      obtain ⟨⟨q1, q2⟩, hP, hB⟩ := HM.out.made hown hgrow
      have HP : Hid _ := hP
      have HB : Hid _ := hB
      have q3 := hP.blk
      have q4 : (w1.setCell ⟨w.heap.size, 2, none⟩ (.slice (some ⟨wr.heap.size, 0, none⟩) n n)).cell? ⟨w.heap.size, 2, none⟩ = some (.slice (some ⟨wr.heap.size, 0, none⟩) n n) := by rw [blk_cell q3]; rfl
      clear hP hB hown hgrow hc1 q3
      have hl1' : (0 : Int) < (len1 : Int) := by omega
      go_wp2
      obtain ⟨wo, hwo⟩ : ∃ wo : World, wo = wr := ⟨_, rfl⟩
      subst hwo
      go_loopw [55] (fun j wr => ∃ k D, k ≤ n ∧ j = .int .i64 (k : Int) ∧ Plan w.heap.size wr w.heap.size (.slice (some ⟨gs, 0, none⟩) S.length cs) (.slice (some ⟨wo.heap.size, 0, none⟩) n n) S D ∧ D.length = n ∧ Hid (Dig D) ∧ Below w.heap.size w wr) (fun j _ => n - (intOf j).toNat)
      case atStart => exact ⟨0, List.replicate n 0, Nat.zero_le _, rfl, HP.out, by simp, dig_zero n, HB.out⟩
      case round =>
        obtain ⟨k, D, hk2, rfl, hPl, hDl, HDd, hBl⟩ := hrel
        have HB0 : w.heap.size ≤ wo.heap.size := HM.out.bel.size
        clear HP HB q1 q2 q4
        by_cases hltk : k < n
        · have hm0 := Int.emod_nonneg (k : Int) (show (len1 : Int) ≠ 0 by omega)
          have hm1 := Int.emod_lt_of_pos (k : Int) hl1'
          obtain ⟨r, hr⟩ := Int.eq_ofNat_of_zero_le hm0
          have hrl : (r : Int) < (len1 : Int) := by omega
          have d1 : wr.cell? ⟨b1, o1 + r, none⟩ = some (.int .u8 (Z1 r)) := (hBl.cell (by exact hb1)).trans (HC1.out _ (by omega))
          have hz1 := HZ1.out r
          obtain ⟨z, hzz⟩ : ∃ z, z = Z1 r := ⟨_, rfl⟩
          rw [← hzz] at d1 hz1
          obtain ⟨hza, hzb⟩ := hz1
          have d2 : wr.cell? ⟨w.heap.size, 2, none⟩ = some (.slice (some ⟨wo.heap.size, 0, none⟩) n n) := by rw [blk_cell hPl.blk]; rfl
          have hcho : wr.ownsRow w.heap.size 31 1 (.slice (some ⟨wo.heap.size, 0, none⟩) n n) n (nc .u8 D) := by have := hPl.cho; rw [hDl] at this; exact this
          have d4 : wr.cell? ⟨wo.heap.size, k, none⟩ = some (.int .u8 (D.getD k 0)) := own_cell hcho k hltk
          have d5 : wr.frozen? ⟨wo.heap.size, k, none⟩ = false := hcho.frozenAt k
          have hki : (k : Int) < (n : Int) := by omega
          have HH : Hid _ := hPl
          have HCH : Hid _ := hcho
          have HBL : Hid _ := hBl
          clear hPl hcho hBl hzz
          obtain ⟨x, hx⟩ : ∃ x, x = D.getD k 0 := ⟨_, rfl⟩
          rw [← hx] at d4
          clear hx hm0 hm1
          have HST := nc_set HCH.out k (z % 3)
          have HPL : Hid _ := HH.out.turned' hDl HST.2 (D := D.set k (z % 3)) (by simpa using hDl) HST.1
          have HBB : Hid (Below w.heap.size w (wr.setCell ⟨wo.heap.size, k, none⟩ (.int .u8 (z % 3)))) := HBL.out.setCell (p := ⟨wo.heap.size, k, none⟩) (HB0) _
          clear HST
          go_wp2
          go_region
          go_wp2
          go_roundw
          case rel => exact ⟨k + 1, D.set k (z % 3), by omega, by go_num, ⟨HPL.out.blk, HPL.out.base, HPL.out.sent, HPL.out.cho⟩, by simpa using hDl, HDd.out.set _ _ (by omega) (by omega), HBB.out.drew⟩
          case measure => simp [intOf]; omega
        · go_wp2
          go_ret
          refine ⟨_, _, S, D, rfl, hPl, HKL.out, ?_, HDd.out, hBl⟩
          have e : (D.length : Int) - 1 = M := by have := HN.out; omega
          rw [e]
          exact HM.out.inc

set_option maxHeartbeats 2000000 in
/-- No gap at all. -/
theorem build_none (a0 : Option Addr) (cap0 : Nat) (a1 : Option Addr) (len1 cap1 : Nat) (w : World) :
    Calls Yba.prog 6 #[.slice a0 0 cap0, .slice a1 len1 cap1] w fun e w' => ∃ vs vc S C, e = .returned (.pointer (some ⟨w.heap.size, 0, none⟩)) ∧
      Plan w.heap.size w' w.heap.size vs vc S C ∧ S.length = 0 ∧ Inc S (C.length - 1) ∧ Dig C ∧ Below w.heap.size w w' := by
  go_enter Yba.func6, Yba.ntmps6
  go_wp2
  refine wp_loop_rounds 1 ?_
  rw [rounds_succ]
  go_wp2
  go_ret
  refine ⟨.slice none 0 0, .slice none 0 0, [], [], rfl, ⟨heap_alloc_new _ _, Nat.le_refl _, World.ownsRow_nil _ _ _ _, World.ownsRow_nil _ _ _ _⟩, rfl, ⟨by decide, by decide, fun i hi => absurd hi (Nat.not_lt_zero _), fun i j _ hj => absurd hj (Nat.not_lt_zero _)⟩, fun j => by simp, (Below.refl _ _).alloc (Nat.le_refl _) _⟩

/-- A slice of integers that came in: nil; or a row of 'cap' cells, the numbers 'zs', each fitting its kind. -/
def IsRow (k : IntKind) (w : World) (a : Option Addr) (len cap : Nat) (zs : List Int) : Prop :=
  (a = none ∧ len = 0 ∧ cap = 0 ∧ zs = []) ∨
  ∃ x, a = some x ∧ len ≤ cap ∧ cap ≤ maxLen ∧ zs.length = cap ∧ (∀ i, i < zs.length → w.cell? (x.add i) = some (.int k (zs.getD i 0))) ∧ ∀ n ∈ zs, (Lit.int k n).wf = true

theorem IsRow.at {w : World} {a : Option Addr} {len cap : Nat} {zs : List Int} (h : IsRow .u8 w a len cap zs) (hl : 0 < len) :
    ∃ b o, a = some ⟨b, o, none⟩ ∧ b < w.heap.size ∧ (∀ i, i < len → w.cell? ⟨b, o + i, none⟩ = some (.int .u8 (zs.getD i 0))) ∧ ∀ i, 0 ≤ zs.getD i 0 ∧ zs.getD i 0 ≤ 255 := by
  rcases h with ⟨_, h0, _⟩ | ⟨⟨b, o, spot⟩, rfl, hlc, _, hz, hc, hwf⟩
  · omega
  have hspot : spot = none := by simpa [Addr.add] using World.cell?_spot (hc 0 (by omega))
  subst hspot
  have hc' : ∀ i, i < len → w.cell? ⟨b, o + i, none⟩ = some (.int .u8 (zs.getD i 0)) := fun j hj => by rw [← Addr.add_lit]; exact hc j (by omega)
  refine ⟨b, o, rfl, ?_, hc', fun i => ?_⟩
  · rcases Nat.lt_or_ge b w.heap.size with h | h
    · exact h
    · have := hc' 0 hl
      simp [World.cell?, Array.getElem?_eq_none h] at this
  · by_cases hi : i < zs.length
    · have := hwf (zs.getD i 0) (by rw [List.getD_eq_getElem?_getD, List.getElem?_eq_getElem hi]; exact List.getElem_mem hi)
      simp [Lit.wf, IntKind.min, IntKind.max, IntKind.signed, IntKind.bits] at this
      rw [List.getD_eq_getElem?_getD]
      omega
    · rw [List.getD_eq_getElem?_getD, List.getElem?_eq_none (by omega)]
      decide

theorem build_any (a0 : Option Addr) (len0 cap0 : Nat) (z0 : List Int) (a1 : Option Addr) (len1 cap1 : Nat) (z1 : List Int) (w : World) (w0 : IsRow .u8 w a0 len0 cap0 z0) (w1 : IsRow .u8 w a1 len1 cap1 z1) (h0 : len0 ≤ 1024) (h1 : len1 ≤ 4096) :
    Calls Yba.prog 6 #[.slice a0 len0 cap0, .slice a1 len1 cap1] w fun e w' => ∃ vs vc S C, e = .returned (.pointer (some ⟨w.heap.size, 0, none⟩)) ∧
      Plan w.heap.size w' w.heap.size vs vc S C ∧ S.length = len0 ∧ Inc S (C.length - 1) ∧ Dig C ∧ Below w.heap.size w w' := by
  by_cases e0 : len0 = 0
  · subst e0
    exact build_none a0 cap0 a1 len1 cap1 w
  obtain ⟨b0, o0, rfl, hb0, hc0, hz0⟩ := w0.at (by omega)
  by_cases e1 : len1 = 0
  · subst e1
    exact build_in b0 o0 len0 cap0 a1 cap1 (fun i => z0.getD i 0) w (by omega) h0 hb0 hc0 hz0
  obtain ⟨b1, o1, rfl, hb1, hc1, hz1⟩ := w1.at (by omega)
  exact build_in2 b0 o0 len0 cap0 b1 o1 len1 cap1 (fun i => z0.getD i 0) w (by omega) h0 hb0 hc0 hz0 (fun i => z1.getD i 0) (by omega) h1 hb1 hc1 hz1
end Go.Proofs.Ybulkcfgo
