/-
  THE WALK of (*relays).add (function 12; seat b4070a, LawS4070CLists).
-/
import Derived.Test.YbulkcfgoListsRe
import Derived.Deep.RegionLaw
namespace Go.Proofs.Ybulkcfgo.Cl
open Go.RowKit
set_option linter.unusedVariables false

theorem info46 : (Yba.prog.info? 46).map (fun i => (i.zero, i.size, i.bytes)) = some (some (.agg #[.int .i32 0, .int .i32 0, .int .i32 0, .int .u8 0]), 4, 16) := by kernel_rfl
theorem info48 : (Yba.prog.info? 48).map (fun i => (i.zero, i.size, i.bytes)) = some (some (.agg #[.int .i32 0, .int .i32 0, .int .i32 0, .int .u8 0, .int .i32 0]), 5, 20) := by kernel_rfl

theorem Rw.done_new {B : Nat} {w w0 : World} {N : Nat} {S : Nat → Prop} {Q F A k : Nat} {wr : World} {cur : Int} {vh : Value} {hs : List Value} {vt : Value} {L : List Int} {g : Nat}
    (R : Rw B w w0 N S Q F A k wr cur vh (L.length + 1) hs (fun j => if j = g then (L.length : Int) else nf (j : Int) L 0) (fun j => if j = g then (L.length : Int) else lb (j : Int) L) vt (dd L ++ [(g : Int)])) (hmem : (g : Int) ∉ L) :
    Rw B w w0 N S Q F A k wr cur vh (L ++ [(g : Int)]).length hs (fun i => nf (i : Int) (L ++ [(g : Int)]) 0) (fun i => lb (i : Int) (L ++ [(g : Int)])) vt (dd (L ++ [(g : Int)])) := by
  have e1 : (fun i : Nat => nf (i : Int) (L ++ [(g : Int)]) 0) = (fun j : Nat => if j = g then (L.length : Int) else nf (j : Int) L 0) := by
    funext j
    rw [nf_snoc]
    by_cases h : j = g
    · subst h
      rw [if_neg hmem, if_pos rfl, if_pos rfl, Nat.zero_add]
    · have hne : ¬ (g : Int) = (j : Int) := by omega
      rw [if_neg h, if_neg hne]
      split
      · rfl
      · rw [(nf_none _ _ _).2 (by assumption)]
  have e2 : (fun i : Nat => lb (i : Int) (L ++ [(g : Int)])) = (fun j : Nat => if j = g then (L.length : Int) else lb (j : Int) L) := by
    funext j
    rw [lb_snoc]
    by_cases h : j = g
    · subst h; rw [if_pos rfl, if_pos rfl]
    · have hne : ¬ (g : Int) = (j : Int) := by omega
      rw [if_neg h, if_neg hne]
  rw [e1, e2, dd_snoc, if_neg hmem, List.length_append, List.length_singleton]
  exact R

theorem Rw.done_old {B : Nat} {w w0 : World} {N : Nat} {S : Nat → Prop} {Q F A k : Nat} {wr : World} {cur : Int} {vh : Value} {hs : List Value} {vt : Value} {L : List Int} {g : Nat}
    (R : Rw B w w0 N S Q F A k wr cur vh (L.length + 1) hs (fun j => nf (j : Int) L 0) (fun j => if j = g then (L.length : Int) else lb (j : Int) L) vt (dd L)) (hmem : (g : Int) ∈ L) :
    Rw B w w0 N S Q F A k wr cur vh (L ++ [(g : Int)]).length hs (fun i => nf (i : Int) (L ++ [(g : Int)]) 0) (fun i => lb (i : Int) (L ++ [(g : Int)])) vt (dd (L ++ [(g : Int)])) := by
  have e1 : (fun i : Nat => nf (i : Int) (L ++ [(g : Int)]) 0) = (fun j : Nat => nf (j : Int) L 0) := by
    funext j
    rw [nf_snoc]
    by_cases hj : (j : Int) ∈ L
    · rw [if_pos hj]
    · have hne : ¬ (g : Int) = (j : Int) := fun e => hj (by rw [← e]; exact hmem)
      rw [if_neg hj, if_neg hne, (nf_none _ _ _).2 hj]
  have e2 : (fun i : Nat => lb (i : Int) (L ++ [(g : Int)])) = (fun j : Nat => if j = g then (L.length : Int) else lb (j : Int) L) := by
    funext j
    rw [lb_snoc]
    by_cases h : j = g
    · subst h; rw [if_pos rfl, if_pos rfl]
    · have hne : ¬ (g : Int) = (j : Int) := by omega
      rw [if_neg h, if_neg hne]
  rw [e1, e2, dd_snoc, if_pos hmem, List.length_append, List.length_singleton]
  exact R

set_option maxRecDepth 100000 in
set_option maxHeartbeats 4000000 in
theorem add_new (B : Nat) (w w0 : World) (N : Nat) (S : Nat → Prop) (Q F A k : Nat) (wr : World) (vh : Value) (hs : List Value) (vt : Value) (L R : List Int) (r run : Int) (g : Nat) (HW : Rw B w w0 N S Q F A k wr r vh L.length hs (fun i => nf (i : Int) L 0) (fun i => lb (i : Int) L) vt (dd L)) (HH : Held L R hs) (hk : k ≤ 8) (hg : g < k) (hn : L.length ≤ 1024) (hr0 : 0 ≤ r) (hr1 : r ≤ 2) (HMEM : Hid ((g : Int) ∉ L)) :
    Calls Yba.prog 12 #[.pointer (some ⟨Q, 0, none⟩), .int .i64 r, .int .i32 (g : Int), .agg #[.int .i32 run, .int .i32 (g : Int), .int .i32 r, .int .u8 0]] wr fun e w' => e = .returned (.tuple #[]) ∧ ∃ vh' vt' hs', Rw B w w0 N S Q F A k w' r vh' (L ++ [(g : Int)]).length hs' (fun i => nf (i : Int) (L ++ [(g : Int)]) 0) (fun i => lb (i : Int) (L ++ [(g : Int)])) vt' (dd (L ++ [(g : Int)])) ∧ Held (L ++ [(g : Int)]) (R ++ [run]) hs' := by
  obtain ⟨i0, hi0, hz0, hz1, hz2⟩ := info_parts info48
  obtain ⟨i1, hi1, hy0, hy1, hy2⟩ := info_parts Yba.info21
  have c0 := HW.c0
  have c1 := HW.c1
  have q1 : Q < wr.heap.size := lt_of_block HW.q
  obtain ⟨ah, ch, hvh⟩ := own_slice HW.h
  subst hvh
  have hgi : (g : Int) < (k : Int) := by omega
  have hki : (k : Int) ≤ 8 := by omega
  have hni : (L.length : Int) ≤ 1024 := by omega
  have hw32 : IntKind.i32.wrap (L.length : Int) = (L.length : Int) := by simp [IntKind.wrap, IntKind.bits, IntKind.signed]; omega
  have HR := hide HW
  have HHH := hide HH
  clear HW HH
  go_enter Yba.func12, Yba.ntmps12
  go_wp2
  obtain ⟨wa, hwa⟩ : ∃ wa, wa = wr.alloc (.cells #[.int .i32 run, .int .i32 (g : Int), .int .i32 r, .int .u8 0] 46) := ⟨_, rfl⟩
  rw [← hwa]
  have hRa : Rw B w w0 N S Q F A k wa r (.slice ah L.length ch) L.length hs (fun i => nf (i : Int) L 0) (fun i => lb (i : Int) L) vt (dd L) := by rw [hwa]; exact HR.out.alloc _
  have hP : wa.heap[wr.heap.size]? = some (.cells #[.int .i32 run, .int .i32 (g : Int), .int .i32 r, .int .u8 0] 46 (0, 0)) := by rw [hwa]; exact heap_alloc_new _ _
  have hPl := lt_of_block hP
  have HNEP : Hid ((Value.slice ah L.length ch).ownBlock ≠ some wr.heap.size) := own_far hRa.h hP (by decide)
  generalize wr.heap.size = Pb at hP hPl HNEP ⊢
  have hQl := lt_of_block hRa.q
  have e1 := hRa.c1
  have e2 := hRa.free 1
  have p0 := blk_cell hP 0
  have p1 := blk_cell hP 1
  have p2 := blk_cell hP 2
  have p3 := blk_cell hP 3
  simp at p0 p1 p2 p3
  have HFAR : Hid ((Value.slice ah L.length ch).ownBlock ≠ some Q) := own_far hRa.h hRa.q (by decide)
  have HR := hide hRa
  have HFZ : Hid (∀ o, (wa.alloc o).frozen? ⟨Q, 1, none⟩ = false) := fun o => (hRa.alloc o).free 1
  have HCE : Hid (∀ o, (wa.alloc o).cell? ⟨Q, 1, none⟩ = some (.slice ah L.length ch)) := fun o => (hRa.alloc o).c1
  clear hRa hwa hP c0 c1 q1
  go_region_law
    ((refine step_append_lies _ (by rfl) _ _ _ (by rfl) B 48 i0 _ 5 20 Yba.underlying37 hi0 hz0 hz1 hz2 rfl (by omega) (.slice ah L.length ch) L.length hs (by rfl) ((HR.out.h.alloc _).drew)
        ⟨wa.heap.size, 0, none⟩ 1 1 [.int .i32 run, .int .i32 (g : Int), .int .i32 r, .int .u8 0, .int .i32 (-1)] (by rfl) (by rfl) (World.news_of_block (cs := #[.int .i32 run, .int .i32 (g : Int), .int .i32 r, .int .u8 0, .int .i32 (-1)]) (t := 48) (fr := (0, 0)) (heap_alloc_new wa _)) (by simp [Value.oneCell'])
        (by omega) (by unfold maxLen; omega) (by omega) (by have := HR.out.ns; simp <;> omega) (wa.heap.size + 1) (by simp) ?_; intro gg cap w1 hown1 hgrow hat hlt; have fz1 : w1.frozen? ⟨Q, 1, none⟩ = false := (by rw [hgrow.frozen_far _ (by simp <;> omega) HFAR.out.symm]; exact HFZ.out _); have cz1 : w1.cell? ⟨Q, 1, none⟩ = some (.slice ah L.length ch) := (by rw [hgrow.cell_far _ (by simp <;> omega) HFAR.out.symm]; exact HCE.out _)))
  all_goals
    have hRb := ((HR.out.alloc _).drew).pushH hgrow hown1 (hat.imp id (fun h => by have := HR.out.ns; omega)) rfl
    clear hgrow hown1 hat hlt fz1 cz1 e1 e2 p0 p1 p2 p3 hPl HNEP HFAR HFZ HCE hQl HR
    generalize w1.setCell ⟨Q, 1, none⟩ (.slice (some ⟨gg, 0, none⟩) (L.length + 1) cap) = wb at hRb ⊢
    have d2 := hRb.c2
    have d3 := hRb.c3
    have df := hRb.cf g hg
    rw [(nf_none _ _ _).2 HMEM.out] at df
    have fzf := hRb.f.frozen g
    have d4 := hRb.c4
    have hQF : Q ≠ F := (row_ne hRb.f hRb.q (by decide)).symm
    have hQA : Q ≠ A := (row_ne hRb.l hRb.q (by decide)).symm
    have hFA := hRb.far.1
    have HRc := hide (hRb.setF g (L.length : Int))
    have HT : Hid (∀ o, ((wb.setCell ⟨F, g, none⟩ (.int .i32 (L.length : Int))).alloc o).ownsRow B 21 1 vt (dd L).length (nc .i32 (dd L))) := fun o => HRc.out.t.alloc o
    have hdl := dd_le L
    have hBl := hRb.ns
    clear hRb
    go_wp2_with (at_builtin; (refine wpList_append_lies _ rfl (.tmp 95) (.tmp 97) 38 rfl B 21 i1 (.int .i32 0) 1 4 Yba.underlying38 hi1 hy0 hy1 hy2 rfl (by decide) vt (dd L).length (nc .i32 (dd L)) rfl (HT.out _) ⟨wb.heap.size, 0, none⟩ 1 1 [.int .i32 (g : Int)] rfl rfl (by have := cell_one_new (wb.setCell ⟨F, g, none⟩ (.int .i32 (L.length : Int))) (.int .i32 (g : Int)) 21; rwa [World.size_setCell] at this) ?h1 (by decide) (by unfold maxLen; omega) (by omega) (by simp; omega) _ rfl ?_))
    case h1 => intro u hu; simp at hu; subst hu; rfl
    intro g2 cap2 w2 hown2 hgrow2 hat2 hlt2
    obtain ⟨s1, s2, s3, s4, s5, s6, s7⟩ := (HRc.out.alloc _).grownT hgrow2
    have q4 : w2.cell? ⟨Q, 4, none⟩ = some vt := by rw [blk_cell s1]; rfl
    have q4f := blk_free s1 4
    have q3 : w2.cell? ⟨Q, 3, none⟩ = some (.slice (some ⟨A, 0, none⟩) k k) := by rw [blk_cell s1]; rfl
    have qa := s3.cell hg
    have qaf := s3.frozen g
    have hl1 := HRc.out.f.lt
    have hl2 := HRc.out.l.lt
    rw [World.size_setCell] at hl1 hl2
    have HRd := hide ((HRc.out.alloc _).pushT (ts' := dd L ++ [(g : Int)]) hgrow2 (by simpa [nc] using hown2) (by simp) (hat2.imp id (fun h => by rw [h]; omega)))
    clear s1 s2 s3 s4 s5 s6 s7 hown2 hgrow2 hat2 hlt2 hl1 hl2 d2 d3 df fzf d4 HT hBl
    go_wp2
    go_end0
    exact ⟨rfl, _, _, _, Rw.done_new (HRd.out.setA g _) HMEM.out, HHH.out.push (g : Int) run _ _ HMEM.out⟩


set_option maxRecDepth 100000 in
set_option maxHeartbeats 4000000 in
theorem add_old (B : Nat) (w w0 : World) (N : Nat) (S : Nat → Prop) (Q F A k : Nat) (wr : World) (vh : Value) (hs : List Value) (vt : Value) (L R : List Int) (r run : Int) (g : Nat) (HW : Rw B w w0 N S Q F A k wr r vh L.length hs (fun i => nf (i : Int) L 0) (fun i => lb (i : Int) L) vt (dd L)) (HH : Held L R hs) (hk : k ≤ 8) (hg : g < k) (hn : L.length ≤ 1024) (hr0 : 0 ≤ r) (hr1 : r ≤ 2) (HMEM : Hid ((g : Int) ∈ L)) :
    Calls Yba.prog 12 #[.pointer (some ⟨Q, 0, none⟩), .int .i64 r, .int .i32 (g : Int), .agg #[.int .i32 run, .int .i32 (g : Int), .int .i32 r, .int .u8 0]] wr fun e w' => e = .returned (.tuple #[]) ∧ ∃ vh' vt' hs', Rw B w w0 N S Q F A k w' r vh' (L ++ [(g : Int)]).length hs' (fun i => nf (i : Int) (L ++ [(g : Int)]) 0) (fun i => lb (i : Int) (L ++ [(g : Int)])) vt' (dd (L ++ [(g : Int)])) ∧ Held (L ++ [(g : Int)]) (R ++ [run]) hs' := by
  obtain ⟨i0, hi0, hz0, hz1, hz2⟩ := info_parts info48
  obtain ⟨i1, hi1, hy0, hy1, hy2⟩ := info_parts Yba.info21
  have c0 := HW.c0
  have c1 := HW.c1
  have q1 : Q < wr.heap.size := lt_of_block HW.q
  obtain ⟨ah, ch, hvh⟩ := own_slice HW.h
  subst hvh
  have hgi : (g : Int) < (k : Int) := by omega
  have hki : (k : Int) ≤ 8 := by omega
  have hni : (L.length : Int) ≤ 1024 := by omega
  have hw32 : IntKind.i32.wrap (L.length : Int) = (L.length : Int) := by simp [IntKind.wrap, IntKind.bits, IntKind.signed]; omega
  have HR := hide HW
  have HHH := hide HH
  clear HW HH
  go_enter Yba.func12, Yba.ntmps12
  go_wp2
  obtain ⟨wa, hwa⟩ : ∃ wa, wa = wr.alloc (.cells #[.int .i32 run, .int .i32 (g : Int), .int .i32 r, .int .u8 0] 46) := ⟨_, rfl⟩
  rw [← hwa]
  have hRa : Rw B w w0 N S Q F A k wa r (.slice ah L.length ch) L.length hs (fun i => nf (i : Int) L 0) (fun i => lb (i : Int) L) vt (dd L) := by rw [hwa]; exact HR.out.alloc _
  have hP : wa.heap[wr.heap.size]? = some (.cells #[.int .i32 run, .int .i32 (g : Int), .int .i32 r, .int .u8 0] 46 (0, 0)) := by rw [hwa]; exact heap_alloc_new _ _
  have hPl := lt_of_block hP
  have HNEP : Hid ((Value.slice ah L.length ch).ownBlock ≠ some wr.heap.size) := own_far hRa.h hP (by decide)
  generalize wr.heap.size = Pb at hP hPl HNEP ⊢
  have hQl := lt_of_block hRa.q
  have e1 := hRa.c1
  have e2 := hRa.free 1
  have p0 := blk_cell hP 0
  have p1 := blk_cell hP 1
  have p2 := blk_cell hP 2
  have p3 := blk_cell hP 3
  simp at p0 p1 p2 p3
  have HFAR : Hid ((Value.slice ah L.length ch).ownBlock ≠ some Q) := own_far hRa.h hRa.q (by decide)
  have HR := hide hRa
  have HFZ : Hid (∀ o, (wa.alloc o).frozen? ⟨Q, 1, none⟩ = false) := fun o => (hRa.alloc o).free 1
  have HCE : Hid (∀ o, (wa.alloc o).cell? ⟨Q, 1, none⟩ = some (.slice ah L.length ch)) := fun o => (hRa.alloc o).c1
  clear hRa hwa hP c0 c1 q1
  go_region_law
    ((refine step_append_lies _ (by rfl) _ _ _ (by rfl) B 48 i0 _ 5 20 Yba.underlying37 hi0 hz0 hz1 hz2 rfl (by omega) (.slice ah L.length ch) L.length hs (by rfl) ((HR.out.h.alloc _).drew)
        ⟨wa.heap.size, 0, none⟩ 1 1 [.int .i32 run, .int .i32 (g : Int), .int .i32 r, .int .u8 0, .int .i32 (-1)] (by rfl) (by rfl) (World.news_of_block (cs := #[.int .i32 run, .int .i32 (g : Int), .int .i32 r, .int .u8 0, .int .i32 (-1)]) (t := 48) (fr := (0, 0)) (heap_alloc_new wa _)) (by simp [Value.oneCell'])
        (by omega) (by unfold maxLen; omega) (by omega) (by have := HR.out.ns; simp <;> omega) (wa.heap.size + 1) (by simp) ?_; intro gg cap w1 hown1 hgrow hat hlt; have fz1 : w1.frozen? ⟨Q, 1, none⟩ = false := (by rw [hgrow.frozen_far _ (by simp <;> omega) HFAR.out.symm]; exact HFZ.out _); have cz1 : w1.cell? ⟨Q, 1, none⟩ = some (.slice ah L.length ch) := (by rw [hgrow.cell_far _ (by simp <;> omega) HFAR.out.symm]; exact HCE.out _)))
  all_goals
    have hRb := ((HR.out.alloc _).drew).pushH hgrow hown1 (hat.imp id (fun h => by have := HR.out.ns; omega)) rfl
    clear hgrow hown1 hat hlt fz1 cz1 e1 e2 p0 p1 p2 p3 hPl HNEP HFAR HFZ HCE hQl HR
    generalize w1.setCell ⟨Q, 1, none⟩ (.slice (some ⟨gg, 0, none⟩) (L.length + 1) cap) = wb at hRb ⊢
    have d2 := hRb.c2
    have d3 := hRb.c3
    have df := hRb.cf g hg
    have hpos := nf_ge (g : Int) L 0 HMEM.out
    obtain ⟨x, hx⟩ : ∃ x, x = nf (g : Int) L 0 := ⟨_, rfl⟩
    rw [← hx] at df hpos
    have hx0 : 0 ≤ x := by omega
    obtain ⟨p, hpl, hlb, hpg, hlast⟩ := lb_at (g : Int) L HMEM.out
    have da : wb.cell? ⟨A, g, none⟩ = some (.int .i32 (p : Int)) := by rw [← hlb]; exact hRb.ca g hg
    have daf := hRb.l.frozen g
    have d1 := hRb.c1
    have hgc : wb.cell? ⟨gg, p * 5 + 4, none⟩ = (hs ++ [.int .i32 run, .int .i32 (g : Int), .int .i32 r, .int .u8 0, .int .i32 (-1)])[p * 5 + 4]? := hRb.h.cellAt _ (by omega)
    obtain ⟨y, hy⟩ : ∃ y, (hs ++ [.int .i32 run, .int .i32 (g : Int), .int .i32 r, .int .u8 0, .int .i32 (-1)])[p * 5 + 4]? = some y := ⟨_, List.getElem?_eq_getElem (by rw [List.length_append, HHH.out.len]; simp; omega)⟩
    rw [hy] at hgc
    have hgf : wb.frozen? ⟨gg, p * 5 + 4, none⟩ = false := hRb.h.frozenAt _
    have hQG : gg ≠ Q := fun e => own_far hRb.h hRb.q (by decide) (by rw [e]; rfl)
    have hQA : Q ≠ A := (row_ne hRb.l hRb.q (by decide)).symm
    have hGA : gg ≠ A := fun e => by
      obtain ⟨ca, ha, _⟩ := hRb.l
      exact own_far hRb.h ha (by decide) (by rw [e]; rfl)
    have hpi : (p : Int) < (L.length : Int) + 1 := by omega
    have HLAST := hide hlast
    have HPG := hide hpg
    have HPL := hide hpl
    have HRb := hide hRb
    clear hRb hlast hpg hpl hx hpos hlb hy
    go_wp2
    go_region_held3 (fun w' => w'.cell? ⟨Q, 1, none⟩ = some (.slice (some ⟨gg, 0, none⟩) (L.length + 1) cap) ∧ w'.cell? ⟨Q, 3, none⟩ = some (.slice (some ⟨A, 0, none⟩) k k) ∧ w'.cell? ⟨A, g, none⟩ = some (.int .i32 (p : Int))) (go_keep) (fail)
    go_wp2
    go_end0
    exact ⟨rfl, _, _, _, Rw.done_old ((HRb.out.drew.setH (p * 5 + 4) (.int .i32 (L.length : Int))).setA g (L.length : Int)) HMEM.out, HHH.out.link (g : Int) run _ _ p HPL.out HPG.out HLAST.out⟩


theorem take_at (l : List Int) (s : Nat) (h : s < l.length) : l.take (s + 1) = l.take s ++ [l.getD s 0] := by
  rw [List.take_succ_eq_append_getElem h, List.getD_eq_getElem?_getD, List.getElem?_eq_getElem h]; rfl
theorem wiped_succ (l : List Int) (s t : Nat) (h : s < l.length) (ht : l.getD s 0 = (t : Int)) (f : Nat → Int) : (fun j : Nat => if (j : Int) ∈ l.take (s + 1) then -1 else f j) = fun j => if j = t then -1 else (fun j : Nat => if (j : Int) ∈ l.take s then -1 else f j) j := by
  funext j
  rw [take_at l s h, ht]
  by_cases hj : j = t
  · subst hj
    rw [if_pos (by simp), if_pos rfl]
  · have hne : ¬ (j : Int) = (t : Int) := by omega
    rw [if_neg hj]
    simp only [List.mem_append, List.mem_singleton, hne, or_false]
theorem wiped_nf (L : List Int) : (fun j : Nat => if (j : Int) ∈ (dd L).take (dd L).length then -1 else nf (j : Int) L 0) = fun i : Nat => nf (i : Int) ([] : List Int) 0 := by
  funext j
  rw [List.take_length]
  split
  · rfl
  · rw [(nf_none _ _ _).2 (fun h => by rw [← dd_mem] at h; contradiction)]; rfl
theorem wiped_lb (L : List Int) : (fun j : Nat => if (j : Int) ∈ (dd L).take (dd L).length then -1 else lb (j : Int) L) = fun i : Nat => lb (i : Int) ([] : List Int) := by
  funext j
  rw [List.take_length]
  split
  · rfl
  · rw [lb_none _ _ (fun h => by rw [← dd_mem] at h; contradiction)]; rfl
theorem own_zero {w : World} {B : Nat} {e : TypeId} {s : Nat} {a : Option Addr} {n c : Nat} {xs : List Value} (h : w.ownsRow B e s (.slice a n c) n xs) : w.ownsRow B e s (.slice a 0 c) 0 [] := by
  refine ⟨by simp, ?_⟩
  rcases h.2 with ⟨h', h0⟩ | ⟨g, cap, cur, h', h1, h2, h3, h4, h5, _⟩
  · subst h0
    exact .inl ⟨h', rfl⟩
  · simp only [Value.slice.injEq] at h'
    obtain ⟨rfl, _, rfl⟩ := h'
    exact .inr ⟨g, _, cur, rfl, h1, h2, Nat.zero_le _, h4, h5, by simp⟩

set_option maxRecDepth 100000 in
set_option maxHeartbeats 4000000 in
theorem add_turn1 (B : Nat) (w w0 : World) (N : Nat) (S : Nat → Prop) (Q F A k : Nat) (wr : World) (hs : List Value) (gh ch gt ct : Nat) (L R : List Int) (hL : L ≠ []) (cur r run : Int) (g : Nat)
    (HW : Rw B w w0 N S Q F A k wr cur (.slice (some ⟨gh, 0, none⟩) L.length ch) L.length hs (fun i => nf (i : Int) L 0) (fun i => lb (i : Int) L) (.slice (some ⟨gt, 0, none⟩) (dd L).length ct) (dd L)) (HRNG : Hid (∀ x ∈ L, 0 ≤ x ∧ x < (k : Int))) (hk : k ≤ 8) (hg : g < k) (hn : L.length ≤ 1024) (hr0 : 0 ≤ r) (hr1 : r ≤ 2) (hcur : cur ≠ r) :
    Calls Yba.prog 12 #[.pointer (some ⟨Q, 0, none⟩), .int .i64 r, .int .i32 (g : Int), .agg #[.int .i32 run, .int .i32 (g : Int), .int .i32 r, .int .u8 0]] wr fun e w' => e = .returned (.tuple #[]) ∧ ∃ vh' vt' hs', Rw B w w0 N S Q F A k w' r vh' [(g : Int)].length hs' (fun i => nf (i : Int) [(g : Int)] 0) (fun i => lb (i : Int) [(g : Int)]) vt' (dd [(g : Int)]) ∧ Held [(g : Int)] [run] hs' := by
  obtain ⟨i0, hi0, hz0, hz1, hz2⟩ := info_parts info48
  obtain ⟨i1, hi1, hy0, hy1, hy2⟩ := info_parts Yba.info21
  have c0 := HW.c0
  have c4 := HW.c4
  have hcb : (cur != r) = true := by simpa using hcur
  have q1 : Q < wr.heap.size := lt_of_block HW.q
  have hgi : (g : Int) < (k : Int) := by omega
  have hki : (k : Int) ≤ 8 := by omega
  have hdl := dd_le L
  have hdi : ((dd L).length : Int) ≤ 1024 := by omega
  have hd0 : 0 < (dd L).length := by
    cases hd : dd L with
    | nil => 
      exfalso
      cases L with
      | nil => exact hL rfl
      | cons x r => have := (dd_mem (x :: r) x).2 (by simp); rw [hd] at this; cases this
    | cons y z => simp
  have hch : ¬ ch = 0 := by
    rcases HW.h.2 with ⟨h', _⟩ | ⟨g', cap', cur', h', _, _, h3, _⟩
    · simp at h'
    · simp only [Value.slice.injEq] at h'
      obtain ⟨_, h1, rfl⟩ := h'
      have := dd_le L
      omega
  have hct : ¬ ct = 0 := by
    rcases HW.t.2 with ⟨h', _⟩ | ⟨g', cap', cur', h', _, _, h3, _⟩
    · simp at h'
    · simp only [Value.slice.injEq] at h'
      obtain ⟨_, h1, rfl⟩ := h'
      omega
  have HR := hide HW
  clear HW
  go_enter Yba.func12, Yba.ntmps12
  go_wp2
  have hRa := HR.out.alloc (.cells #[.int .i32 run, .int .i32 (g : Int), .int .i32 r, .int .u8 0] 46)
  have hPP : (wr.alloc (.cells #[.int .i32 run, .int .i32 (g : Int), .int .i32 r, .int .u8 0] 46)).heap[wr.heap.size]? = some (.cells #[.int .i32 run, .int .i32 (g : Int), .int .i32 r, .int .u8 0] 46 (0, 0)) := heap_alloc_new _ _
  generalize wr.alloc (.cells #[.int .i32 run, .int .i32 (g : Int), .int .i32 r, .int .u8 0] 46) = wa at hRa hPP ⊢
  generalize wr.heap.size = Pb at hPP ⊢
  have HRa := hide hRa
  have HPa := hide hPP
  clear hRa hPP c0 c4 HR
  go_loopw [22] (fun i wz => ∃ s : Nat, s ≤ (dd L).length ∧ i = .int .i64 (s : Int) ∧ Hid (Rw B w w0 N S Q F A k wz cur (.slice (some ⟨gh, 0, none⟩) L.length ch) L.length hs (fun j => if (j : Int) ∈ (dd L).take s then -1 else nf (j : Int) L 0) (fun j => if (j : Int) ∈ (dd L).take s then -1 else lb (j : Int) L) (.slice (some ⟨gt, 0, none⟩) (dd L).length ct) (dd L)) ∧ Hid (wz.heap[Pb]? = some (.cells #[.int .i32 run, .int .i32 (g : Int), .int .i32 r, .int .u8 0] 46 (0, 0)))) (fun i _ => (dd L).length - (intOf i).toNat)
  case atStart => exact ⟨0, Nat.zero_le _, rfl, by simpa using HRa, HPa⟩
  case round =>
    obtain ⟨s, hsl, rfl, HRz, HPz⟩ := hrel
    by_cases hlt : s < (dd L).length
    · obtain ⟨x, hx⟩ : ∃ x, x = (dd L).getD s 0 := ⟨_, rfl⟩
      have hxr := HRNG.out x ((dd_mem L x).1 (by rw [hx]; exact getD_mem _ _ hlt))
      obtain ⟨t, htx⟩ := Int.eq_ofNat_of_zero_le hxr.1
      subst htx
      have htk : t < k := by omega
      have hti : (t : Int) < (k : Int) := by omega
      have l1 : wr.cell? ⟨gt, s, none⟩ = some (.int .i32 (t : Int)) := by
        rw [hx]
        exact own_cell HRz.out.t s hlt
      have d2 := HRz.out.c2
      have d3 := HRz.out.c3
      have df := HRz.out.cf t htk
      have da := HRz.out.ca t htk
      generalize (if (t : Int) ∈ (dd L).take s then (-1 : Int) else nf (t : Int) L 0) = x1 at df
      generalize (if (t : Int) ∈ (dd L).take s then (-1 : Int) else lb (t : Int) L) = x2 at da
      have dff := HRz.out.f.frozen t
      have daf := HRz.out.l.frozen t
      have hQF : Q ≠ F := (row_ne HRz.out.f HRz.out.q (by decide)).symm
      have hQA : Q ≠ A := (row_ne HRz.out.l HRz.out.q (by decide)).symm
      have hFA := HRz.out.far.1
      have hFQ := hQF.symm
      have hAQ := hQA.symm
      have hAF := hFA.symm
      have HNX : Hid ((dd L).getD s 0 = (t : Int)) := hx.symm
      have hsd : (s : Int) < ((dd L).length : Int) := by omega
      have HPF : Hid (Pb ≠ F) := (row_ne HRz.out.f HPz.out (by decide)).symm
      have HPA : Hid (Pb ≠ A) := (row_ne HRz.out.l HPz.out (by decide)).symm
      clear hx hxr
      go_wp2
      go_region_held3 (fun w' => w'.cell? ⟨Q, 2, none⟩ = some (.slice (some ⟨F, 0, none⟩) k k) ∧ w'.cell? ⟨Q, 3, none⟩ = some (.slice (some ⟨A, 0, none⟩) k k)) (go_keep) (fail)
      go_wp2
      go_roundw
      case measure => simp [intOf]; omega
      case rel =>
        refine ⟨s + 1, by omega, by go_num, ?_, ?_⟩
        · rw [wiped_succ (dd L) s t hlt HNX.out, wiped_succ (dd L) s t hlt HNX.out]
          exact ((HRz.out.setF t (-1)).setA t (-1)).drew
        · show ((wr.setCell ⟨F, t, none⟩ (.int .i32 (-1))).setCell ⟨A, t, none⟩ (.int .i32 (-1))).heap[Pb]? = _
          rw [Below.heap_setCell _ _ _ _ HPA.out, Below.heap_setCell _ _ _ _ HPF.out]
          exact HPz.out
    · obtain rfl : s = (dd L).length := by omega
      have hds : decide (((dd L).length : Int) < ((dd L).length : Int)) = false := by simp
      have z0 := HRz.out.c0
      have z1 := HRz.out.c1
      have z4 := HRz.out.c4
      have y0 := HRz.out.free 0
      have y1 := HRz.out.free 1
      have y4 := HRz.out.free 4
      clear hsl hlt
      go_wp2
      go_region
      have hRx := ((HRz.out.setQ 0 (.int .i64 r) (cur' := r) rfl HRz.out.h HRz.out.t HRz.out.far.2 HRz.out.sh HRz.out.st).setQ 1 (.slice (some ⟨gh, 0, none⟩) 0 ch) rfl (own_zero (ownsRow_setCell_other HRz.out.h (a := ⟨Q, 0, none⟩) (own_far HRz.out.h HRz.out.q (by decide)) _)) (ownsRow_setCell_other HRz.out.t (a := ⟨Q, 0, none⟩) (own_far HRz.out.t HRz.out.q (by decide)) _) HRz.out.far.2 HRz.out.sh HRz.out.st)
      have hRy := (hRx.setQ 4 (.slice (some ⟨gt, 0, none⟩) 0 ct) rfl hRx.h (ts' := []) (own_zero hRx.t) hRx.far.2 hRx.sh hRx.st).drew
      have hPy : (((wr.setCell ⟨Q, 0, none⟩ (.int .i64 r)).setCell ⟨Q, 1, none⟩ (.slice (some ⟨gh, 0, none⟩) 0 ch)).setCell ⟨Q, 4, none⟩ (.slice (some ⟨gt, 0, none⟩) 0 ct)).drew.heap[Pb]? = some (.cells #[.int .i32 run, .int .i32 (g : Int), .int .i32 r, .int .u8 0] 46 (0, 0)) := by
        have hPQ := blk_ne HPz.out HRz.out.q (by decide)
        show (((wr.setCell ⟨Q, 0, none⟩ (.int .i64 r)).setCell ⟨Q, 1, none⟩ (.slice (some ⟨gh, 0, none⟩) 0 ch)).setCell ⟨Q, 4, none⟩ (.slice (some ⟨gt, 0, none⟩) 0 ct)).heap[Pb]? = _
        rw [Below.heap_setCell _ _ _ _ hPQ, Below.heap_setCell _ _ _ _ hPQ, Below.heap_setCell _ _ _ _ hPQ]
        exact HPz.out
      generalize (((wr.setCell ⟨Q, 0, none⟩ (.int .i64 r)).setCell ⟨Q, 1, none⟩ (.slice (some ⟨gh, 0, none⟩) 0 ch)).setCell ⟨Q, 4, none⟩ (.slice (some ⟨gt, 0, none⟩) 0 ct)).drew = wa at hRy hPy ⊢
      rw [wiped_nf, wiped_lb] at hRy
      obtain ⟨L, hs, R, vt, ah, ch, hRa, HHH, HMEM, hn, hnn, HNIL⟩ : ∃ (L : List Int) (hs : List Value) (R : List Int) (vt : Value) (ah : Option Addr) (ch : Nat), Rw B w w0 N S Q F A k wa r (.slice ah L.length ch) L.length hs (fun i => nf (i : Int) L 0) (fun i => lb (i : Int) L) vt (dd L) ∧ Hid (Held L R hs) ∧ Hid ((g : Int) ∉ L) ∧ L.length ≤ 1024 ∧ (L.length : Int) ≤ 1024 ∧ Hid (L = [] ∧ R = []) :=
        ⟨[], [], [], _, _, _, hRy, Held.nil, (fun h => by cases h), (by decide), (by decide), rfl, rfl⟩
      have hw32 : IntKind.i32.wrap (L.length : Int) = (L.length : Int) := by simp [IntKind.wrap, IntKind.bits, IntKind.signed]; omega
      clear hRx hRy z0 z1 z4 y0 y1 y4 HRz HPz
      have hP := hPy
      clear hPy
      have hPl := lt_of_block hP
      have HNEP : Hid ((Value.slice ah L.length ch).ownBlock ≠ some Pb) := own_far hRa.h hP (by decide)
      have hQl := lt_of_block hRa.q
      have e1 := hRa.c1
      have e2 := hRa.free 1
      have p0 := blk_cell hP 0
      have p1 := blk_cell hP 1
      have p2 := blk_cell hP 2
      have p3 := blk_cell hP 3
      simp at p0 p1 p2 p3
      have HFAR : Hid ((Value.slice ah L.length ch).ownBlock ≠ some Q) := own_far hRa.h hRa.q (by decide)
      have HR := hide hRa
      have HFZ : Hid (∀ o, (wa.alloc o).frozen? ⟨Q, 1, none⟩ = false) := fun o => (hRa.alloc o).free 1
      have HCE : Hid (∀ o, (wa.alloc o).cell? ⟨Q, 1, none⟩ = some (.slice ah L.length ch)) := fun o => (hRa.alloc o).c1
      clear hRa hP
      go_wp2
      go_region_law
        ((refine step_append_lies _ (by rfl) _ _ _ (by rfl) B 48 i0 _ 5 20 Yba.underlying37 hi0 hz0 hz1 hz2 rfl (by omega) (.slice ah L.length ch) L.length hs (by rfl) ((HR.out.h.alloc _).drew)
            ⟨wa.heap.size, 0, none⟩ 1 1 [.int .i32 run, .int .i32 (g : Int), .int .i32 r, .int .u8 0, .int .i32 (-1)] (by rfl) (by rfl) (World.news_of_block (cs := #[.int .i32 run, .int .i32 (g : Int), .int .i32 r, .int .u8 0, .int .i32 (-1)]) (t := 48) (fr := (0, 0)) (heap_alloc_new wa _)) (by simp [Value.oneCell'])
            (by omega) (by unfold maxLen; omega) (by omega) (by have := HR.out.ns; simp <;> omega) (wa.heap.size + 1) (by simp) ?_; intro gg cap w1 hown1 hgrow hat hlt; have fz1 : w1.frozen? ⟨Q, 1, none⟩ = false := (by rw [hgrow.frozen_far _ (by simp <;> omega) HFAR.out.symm]; exact HFZ.out _); have cz1 : w1.cell? ⟨Q, 1, none⟩ = some (.slice ah L.length ch) := (by rw [hgrow.cell_far _ (by simp <;> omega) HFAR.out.symm]; exact HCE.out _)))
      all_goals
        have hRb := ((HR.out.alloc _).drew).pushH hgrow hown1 (hat.imp id (fun h => by have := HR.out.ns; omega)) rfl
        clear hgrow hown1 hat hlt fz1 cz1 e1 e2 p0 p1 p2 p3 hPl HNEP HFAR HFZ HCE hQl HR
        generalize w1.setCell ⟨Q, 1, none⟩ (.slice (some ⟨gg, 0, none⟩) (L.length + 1) cap) = wb at hRb ⊢
        have d2 := hRb.c2
        have d3 := hRb.c3
        have df := hRb.cf g hg
        rw [(nf_none _ _ _).2 HMEM.out] at df
        have fzf := hRb.f.frozen g
        have d4 := hRb.c4
        have hQF : Q ≠ F := (row_ne hRb.f hRb.q (by decide)).symm
        have hQA : Q ≠ A := (row_ne hRb.l hRb.q (by decide)).symm
        have hFA := hRb.far.1
        have HRc := hide (hRb.setF g (L.length : Int))
        have HT : Hid (∀ o, ((wb.setCell ⟨F, g, none⟩ (.int .i32 (L.length : Int))).alloc o).ownsRow B 21 1 vt (dd L).length (nc .i32 (dd L))) := fun o => HRc.out.t.alloc o
        have hdl := dd_le L
        have hBl := hRb.ns
        clear hRb
        go_wp2_with (at_builtin; (refine wpList_append_lies _ rfl (.tmp 95) (.tmp 97) 38 rfl B 21 i1 (.int .i32 0) 1 4 Yba.underlying38 hi1 hy0 hy1 hy2 rfl (by decide) vt (dd L).length (nc .i32 (dd L)) rfl (HT.out _) ⟨wb.heap.size, 0, none⟩ 1 1 [.int .i32 (g : Int)] rfl rfl (by have := cell_one_new (wb.setCell ⟨F, g, none⟩ (.int .i32 (L.length : Int))) (.int .i32 (g : Int)) 21; rwa [World.size_setCell] at this) ?h1 (by decide) (by unfold maxLen; omega) (by omega) (by simp; omega) _ rfl ?_))
        case h1 => intro u hu; simp at hu; subst hu; rfl
        intro g2 cap2 w2 hown2 hgrow2 hat2 hlt2
        obtain ⟨s1, s2, s3, s4, s5, s6, s7⟩ := (HRc.out.alloc _).grownT hgrow2
        have q4 : w2.cell? ⟨Q, 4, none⟩ = some vt := by rw [blk_cell s1]; rfl
        have q4f := blk_free s1 4
        have q3 : w2.cell? ⟨Q, 3, none⟩ = some (.slice (some ⟨A, 0, none⟩) k k) := by rw [blk_cell s1]; rfl
        have qa := s3.cell hg
        have qaf := s3.frozen g
        have hl1 := HRc.out.f.lt
        have hl2 := HRc.out.l.lt
        rw [World.size_setCell] at hl1 hl2
        have HRd := hide ((HRc.out.alloc _).pushT (ts' := dd L ++ [(g : Int)]) hgrow2 (by simpa [nc] using hown2) (by simp) (hat2.imp id (fun h => by rw [h]; omega)))
        clear s1 s2 s3 s4 s5 s6 s7 hown2 hgrow2 hat2 hlt2 hl1 hl2 d2 d3 df fzf d4 HT hBl
        go_wp2
        go_end0
        have hfin := Rw.done_new (HRd.out.setA g _) HMEM.out
        have hfh := HHH.out.push (g : Int) run (.int .i32 r) (.int .u8 0) HMEM.out
        obtain ⟨rfl, rfl⟩ := HNIL.out
        exact ⟨rfl, _, _, _, hfin, hfh⟩



set_option maxRecDepth 100000 in
set_option maxHeartbeats 4000000 in
theorem add_turn0 (B : Nat) (w w0 : World) (N : Nat) (S : Nat → Prop) (Q F A k : Nat) (wr : World) (hs : List Value)  (cur r run : Int) (g : Nat)
    (HW : Rw B w w0 N S Q F A k wr cur (.slice none 0 0) 0 hs (fun i => nf (i : Int) ([] : List Int) 0) (fun i => lb (i : Int) ([] : List Int)) (.slice none 0 0) (dd ([] : List Int))) (HRNG : Hid (∀ x ∈ ([] : List Int), 0 ≤ x ∧ x < (k : Int))) (hk : k ≤ 8) (hg : g < k) (hn : 0 ≤ 1024) (hr0 : 0 ≤ r) (hr1 : r ≤ 2) (hcur : cur ≠ r) :
    Calls Yba.prog 12 #[.pointer (some ⟨Q, 0, none⟩), .int .i64 r, .int .i32 (g : Int), .agg #[.int .i32 run, .int .i32 (g : Int), .int .i32 r, .int .u8 0]] wr fun e w' => e = .returned (.tuple #[]) ∧ ∃ vh' vt' hs', Rw B w w0 N S Q F A k w' r vh' [(g : Int)].length hs' (fun i => nf (i : Int) [(g : Int)] 0) (fun i => lb (i : Int) [(g : Int)]) vt' (dd [(g : Int)]) ∧ Held [(g : Int)] [run] hs' := by
  obtain ⟨i0, hi0, hz0, hz1, hz2⟩ := info_parts info48
  obtain ⟨i1, hi1, hy0, hy1, hy2⟩ := info_parts Yba.info21
  have c0 := HW.c0
  have c4 := HW.c4
  have hcb : (cur != r) = true := by simpa using hcur
  have q1 : Q < wr.heap.size := lt_of_block HW.q
  have hgi : (g : Int) < (k : Int) := by omega
  have hki : (k : Int) ≤ 8 := by omega
  have HR := hide HW
  clear HW
  go_enter Yba.func12, Yba.ntmps12
  go_wp2
  have hRa := HR.out.alloc (.cells #[.int .i32 run, .int .i32 (g : Int), .int .i32 r, .int .u8 0] 46)
  have hPP : (wr.alloc (.cells #[.int .i32 run, .int .i32 (g : Int), .int .i32 r, .int .u8 0] 46)).heap[wr.heap.size]? = some (.cells #[.int .i32 run, .int .i32 (g : Int), .int .i32 r, .int .u8 0] 46 (0, 0)) := heap_alloc_new _ _
  generalize wr.alloc (.cells #[.int .i32 run, .int .i32 (g : Int), .int .i32 r, .int .u8 0] 46) = wa at hRa hPP ⊢
  generalize wr.heap.size = Pb at hPP ⊢
  have HRa := hide hRa
  have HPa := hide hPP
  clear hRa hPP c0 c4 HR
  go_loopw [22] (fun i wz => ∃ s : Nat, s ≤ 0 ∧ i = .int .i64 (s : Int) ∧ Hid (Rw B w w0 N S Q F A k wz cur (.slice none 0 0) 0 hs (fun j => if (j : Int) ∈ (dd ([] : List Int)).take s then -1 else nf (j : Int) ([] : List Int) 0) (fun j => if (j : Int) ∈ (dd ([] : List Int)).take s then -1 else lb (j : Int) ([] : List Int)) (.slice none 0 0) (dd ([] : List Int))) ∧ Hid (wz.heap[Pb]? = some (.cells #[.int .i32 run, .int .i32 (g : Int), .int .i32 r, .int .u8 0] 46 (0, 0)))) (fun i _ => 0 - (intOf i).toNat)
  case atStart => exact ⟨0, Nat.zero_le _, rfl, by simpa using HRa, HPa⟩
  case round =>
    obtain ⟨s, hsl, rfl, HRz, HPz⟩ := hrel
    by_cases hlt : s < 0
    · omega
    · obtain rfl : s = 0 := by omega
      have z0 := HRz.out.c0
      have z1 := HRz.out.c1
      have z4 := HRz.out.c4
      have y0 := HRz.out.free 0
      have y1 := HRz.out.free 1
      have y4 := HRz.out.free 4
      clear hsl hlt
      go_wp2
      go_region
      have hRx := ((HRz.out.setQ 0 (.int .i64 r) (cur' := r) rfl HRz.out.h HRz.out.t HRz.out.far.2 HRz.out.sh HRz.out.st).setQ 1 (.slice none 0 0) rfl (own_zero (ownsRow_setCell_other HRz.out.h (a := ⟨Q, 0, none⟩) (own_far HRz.out.h HRz.out.q (by decide)) _)) (ownsRow_setCell_other HRz.out.t (a := ⟨Q, 0, none⟩) (own_far HRz.out.t HRz.out.q (by decide)) _) HRz.out.far.2 HRz.out.sh HRz.out.st)
      have hRy := (hRx.setQ 4 (.slice none 0 0) rfl hRx.h (ts' := []) (own_zero hRx.t) hRx.far.2 hRx.sh hRx.st).drew
      have hPy : (((wr.setCell ⟨Q, 0, none⟩ (.int .i64 r)).setCell ⟨Q, 1, none⟩ (.slice none 0 0)).setCell ⟨Q, 4, none⟩ (.slice none 0 0)).drew.heap[Pb]? = some (.cells #[.int .i32 run, .int .i32 (g : Int), .int .i32 r, .int .u8 0] 46 (0, 0)) := by
        have hPQ := blk_ne HPz.out HRz.out.q (by decide)
        show (((wr.setCell ⟨Q, 0, none⟩ (.int .i64 r)).setCell ⟨Q, 1, none⟩ (.slice none 0 0)).setCell ⟨Q, 4, none⟩ (.slice none 0 0)).heap[Pb]? = _
        rw [Below.heap_setCell _ _ _ _ hPQ, Below.heap_setCell _ _ _ _ hPQ, Below.heap_setCell _ _ _ _ hPQ]
        exact HPz.out
      generalize (((wr.setCell ⟨Q, 0, none⟩ (.int .i64 r)).setCell ⟨Q, 1, none⟩ (.slice none 0 0)).setCell ⟨Q, 4, none⟩ (.slice none 0 0)).drew = wa at hRy hPy ⊢
      simp only [dd, ddr, List.reverse_nil, List.take_nil, List.not_mem_nil, if_false] at hRy
      obtain ⟨L, hs, R, vt, ah, ch, hRa, HHH, HMEM, hn, hnn, HNIL⟩ : ∃ (L : List Int) (hs : List Value) (R : List Int) (vt : Value) (ah : Option Addr) (ch : Nat), Rw B w w0 N S Q F A k wa r (.slice ah L.length ch) L.length hs (fun i => nf (i : Int) L 0) (fun i => lb (i : Int) L) vt (dd L) ∧ Hid (Held L R hs) ∧ Hid ((g : Int) ∉ L) ∧ L.length ≤ 1024 ∧ (L.length : Int) ≤ 1024 ∧ Hid (L = [] ∧ R = []) :=
        ⟨[], [], [], _, _, _, hRy, Held.nil, (fun h => by cases h), (by decide), (by decide), rfl, rfl⟩
      have hw32 : IntKind.i32.wrap (L.length : Int) = (L.length : Int) := by simp [IntKind.wrap, IntKind.bits, IntKind.signed]; omega
      clear hRx hRy z0 z1 z4 y0 y1 y4 HRz HPz
      have hP := hPy
      clear hPy
      have hPl := lt_of_block hP
      have HNEP : Hid ((Value.slice ah L.length ch).ownBlock ≠ some Pb) := own_far hRa.h hP (by decide)
      have hQl := lt_of_block hRa.q
      have e1 := hRa.c1
      have e2 := hRa.free 1
      have p0 := blk_cell hP 0
      have p1 := blk_cell hP 1
      have p2 := blk_cell hP 2
      have p3 := blk_cell hP 3
      simp at p0 p1 p2 p3
      have HFAR : Hid ((Value.slice ah L.length ch).ownBlock ≠ some Q) := own_far hRa.h hRa.q (by decide)
      have HR := hide hRa
      have HFZ : Hid (∀ o, (wa.alloc o).frozen? ⟨Q, 1, none⟩ = false) := fun o => (hRa.alloc o).free 1
      have HCE : Hid (∀ o, (wa.alloc o).cell? ⟨Q, 1, none⟩ = some (.slice ah L.length ch)) := fun o => (hRa.alloc o).c1
      clear hRa hP
      go_wp2
      go_region_law
        ((refine step_append_lies _ (by rfl) _ _ _ (by rfl) B 48 i0 _ 5 20 Yba.underlying37 hi0 hz0 hz1 hz2 rfl (by omega) (.slice ah L.length ch) L.length hs (by rfl) ((HR.out.h.alloc _).drew)
            ⟨wa.heap.size, 0, none⟩ 1 1 [.int .i32 run, .int .i32 (g : Int), .int .i32 r, .int .u8 0, .int .i32 (-1)] (by rfl) (by rfl) (World.news_of_block (cs := #[.int .i32 run, .int .i32 (g : Int), .int .i32 r, .int .u8 0, .int .i32 (-1)]) (t := 48) (fr := (0, 0)) (heap_alloc_new wa _)) (by simp [Value.oneCell'])
            (by omega) (by unfold maxLen; omega) (by omega) (by have := HR.out.ns; simp <;> omega) (wa.heap.size + 1) (by simp) ?_; intro gg cap w1 hown1 hgrow hat hlt; have fz1 : w1.frozen? ⟨Q, 1, none⟩ = false := (by rw [hgrow.frozen_far _ (by simp <;> omega) HFAR.out.symm]; exact HFZ.out _); have cz1 : w1.cell? ⟨Q, 1, none⟩ = some (.slice ah L.length ch) := (by rw [hgrow.cell_far _ (by simp <;> omega) HFAR.out.symm]; exact HCE.out _)))
      all_goals
        have hRb := ((HR.out.alloc _).drew).pushH hgrow hown1 (hat.imp id (fun h => by have := HR.out.ns; omega)) rfl
        clear hgrow hown1 hat hlt fz1 cz1 e1 e2 p0 p1 p2 p3 hPl HNEP HFAR HFZ HCE hQl HR
        generalize w1.setCell ⟨Q, 1, none⟩ (.slice (some ⟨gg, 0, none⟩) (L.length + 1) cap) = wb at hRb ⊢
        have d2 := hRb.c2
        have d3 := hRb.c3
        have df := hRb.cf g hg
        rw [(nf_none _ _ _).2 HMEM.out] at df
        have fzf := hRb.f.frozen g
        have d4 := hRb.c4
        have hQF : Q ≠ F := (row_ne hRb.f hRb.q (by decide)).symm
        have hQA : Q ≠ A := (row_ne hRb.l hRb.q (by decide)).symm
        have hFA := hRb.far.1
        have HRc := hide (hRb.setF g (L.length : Int))
        have HT : Hid (∀ o, ((wb.setCell ⟨F, g, none⟩ (.int .i32 (L.length : Int))).alloc o).ownsRow B 21 1 vt (dd L).length (nc .i32 (dd L))) := fun o => HRc.out.t.alloc o
        have hdl := dd_le L
        have hBl := hRb.ns
        clear hRb
        go_wp2_with (at_builtin; (refine wpList_append_lies _ rfl (.tmp 95) (.tmp 97) 38 rfl B 21 i1 (.int .i32 0) 1 4 Yba.underlying38 hi1 hy0 hy1 hy2 rfl (by decide) vt (dd L).length (nc .i32 (dd L)) rfl (HT.out _) ⟨wb.heap.size, 0, none⟩ 1 1 [.int .i32 (g : Int)] rfl rfl (by have := cell_one_new (wb.setCell ⟨F, g, none⟩ (.int .i32 (L.length : Int))) (.int .i32 (g : Int)) 21; rwa [World.size_setCell] at this) ?h1 (by decide) (by unfold maxLen; omega) (by omega) (by simp; omega) _ rfl ?_))
        case h1 => intro u hu; simp at hu; subst hu; rfl
        intro g2 cap2 w2 hown2 hgrow2 hat2 hlt2
        obtain ⟨s1, s2, s3, s4, s5, s6, s7⟩ := (HRc.out.alloc _).grownT hgrow2
        have q4 : w2.cell? ⟨Q, 4, none⟩ = some vt := by rw [blk_cell s1]; rfl
        have q4f := blk_free s1 4
        have q3 : w2.cell? ⟨Q, 3, none⟩ = some (.slice (some ⟨A, 0, none⟩) k k) := by rw [blk_cell s1]; rfl
        have qa := s3.cell hg
        have qaf := s3.frozen g
        have hl1 := HRc.out.f.lt
        have hl2 := HRc.out.l.lt
        rw [World.size_setCell] at hl1 hl2
        have HRd := hide ((HRc.out.alloc _).pushT (ts' := dd L ++ [(g : Int)]) hgrow2 (by simpa [nc] using hown2) (by simp) (hat2.imp id (fun h => by rw [h]; omega)))
        clear s1 s2 s3 s4 s5 s6 s7 hown2 hgrow2 hat2 hlt2 hl1 hl2 d2 d3 df fzf d4 HT hBl
        go_wp2
        go_end0
        have hfin := Rw.done_new (HRd.out.setA g _) HMEM.out
        have hfh := HHH.out.push (g : Int) run (.int .i32 r) (.int .u8 0) HMEM.out
        obtain ⟨rfl, rfl⟩ := HNIL.out
        exact ⟨rfl, _, _, _, hfin, hfh⟩


end Go.Proofs.Ybulkcfgo.Cl
