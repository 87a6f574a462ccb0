/-
  THE WALK of LawS4070BStep (function 3; seat b4070a).
-/
import Derived.Test.YbulkcfgoBuild
namespace Go.Proofs.Ybulkcfgo
open Go.RowKit
set_option linter.unusedVariables false

theorem hide {p : Prop} (h : p) : Hid p := h
theorem grown_of_below {w w' : World} (h : Below w.heap.size w w') : w.grownBy w' none := ⟨h.os, h.tape, h.output, h.size, fun k hk _ => h.block k hk⟩
theorem own_below {w w' : World} {base : Nat} {e : TypeId} {size : Nat} {v : Value} {n : Nat} {xs : List Value} (h : w.ownsRow base e size v n xs) (hb : Below w.heap.size w w') : w'.ownsRow base e size v n xs :=
  h.kept (grown_of_below hb) (by cases hv : v.ownBlock <;> simp)
theorem Plan.below {B : Nat} {w w' : World} {N : Nat} {vs vc : Value} {S C : List Int} (h : Plan B w N vs vc S C) (hb : Below w.heap.size w w') : Plan B w' N vs vc S C :=
  ⟨(hb.block N (lt_of_block h.blk)).trans h.blk, h.base, own_below h.sent hb, own_below h.cho hb⟩

theorem own_block {w : World} {base : Nat} {e : TypeId} {size : Nat} {n g cap : Nat} {xs : List Value} (h : w.ownsRow base e size (.slice (some ⟨g, 0, none⟩) n cap) n xs) : ∃ cur, w.heap[g]? = some (.cells cur e (0, 0)) := by
  rcases h.2 with ⟨h', _⟩ | ⟨g', cap', cur, h', _, hh, _⟩
  · cases h'
  · simp only [Value.slice.injEq, Option.some.injEq, Addr.mk.injEq, and_true, true_and] at h'
    obtain ⟨rfl, rfl⟩ := h'
    exact ⟨cur, hh⟩
theorem own_block' {w : World} {base : Nat} {e : TypeId} {size : Nat} {n cap : Nat} {x : Addr} {xs : List Value} (h : w.ownsRow base e size (.slice (some x) n cap) n xs) : ∃ cur, w.heap[x.block]? = some (.cells cur e (0, 0)) := by
  rcases h.2 with ⟨h', _⟩ | ⟨g', cap', cur, h', _, hh, _⟩
  · cases h'
  · simp only [Value.slice.injEq, Option.some.injEq, true_and] at h'
    obtain ⟨rfl, rfl⟩ := h'
    exact ⟨cur, hh⟩
theorem Inc.at_lt {S C : List Int} (h : Inc S (C.length - 1)) : ∀ i, i < S.length → 0 ≤ S.getD i 0 ∧ S.getD i 0 < C.length := fun i hi => by
  have := h.mem i hi
  omega
theorem Inc.at_inj {S C : List Int} (h : Inc S (C.length - 1)) : ∀ i j, i < S.length → j < S.length → at_ S i = at_ S j → i = j := fun i j hi hj e => by
  unfold at_ at e
  have h1 := h.mem i hi
  have h2 := h.mem j hj
  rcases Nat.lt_trichotomy i j with hlt | heq | hlt
  · have := h.lt i j hlt hj; omega
  · exact heq
  · have := h.lt j i hlt hi; omega

set_option maxHeartbeats 2000000 in
theorem step_in (a0 : Option Addr) (len0 cap0 : Nat) (z0 : List Int) (a1 : Option Addr) (len1 cap1 : Nat) (z1 : List Int) (w : World) (w0 : IsRow .u8 w a0 len0 cap0 z0) (w1 : IsRow .u8 w a1 len1 cap1 z1) (h0 : len0 ≤ 1024) (h1 : len1 ≤ 4096) (hl : 0 < len0) :
    Calls Yba.prog 3 #[.slice a0 len0 cap0, .slice a1 len1 cap1] w fun e w' => e = .returned (.bool true) ∧ Below w.heap.size w w' := by
  have HB := fun W (hW : W = w) => build_any a0 len0 cap0 z0 a1 len1 cap1 z1 w w0 w1 h0 h1
  clear w0 w1
  go_enter Yba.func3, Yba.ntmps3
  go_wp2_with fail
  refine (HB _ rfl).mono ?_
  rintro e wa ⟨vs, vc, S, C, rfl, hP, hSl, hI, hD, hBa⟩
  clear HB
  have hS : S.length ≤ 1024 := by omega
  have hS0 : 0 < S.length := by omega
  have hC : C.length ≤ 5000 := by have := hI.hi; omega
  have hin := hI.at_lt
  have hC0 : 0 < C.length := by have := hin 0 hS0; omega
  obtain ⟨gs, cs, hvs, hgs, hgs'⟩ := hP.sent.form hS0
  obtain ⟨gc, cc, hvc, hgc, hgc'⟩ := hP.cho.form hC0
  subst hvs
  subst hvc
  have p1 : wa.cell? ⟨w.heap.size, 1, none⟩ = some (.slice (some ⟨gs, 0, none⟩) S.length cs) := by rw [blk_cell hP.blk]; rfl
  have HP := hide (hP)
  have HBa := hide (hBa)
  have HS : Hid (S.length = len0) := hSl
  have HD := hide (hD)
  have HI := hide (hI)
  have HIN := hide (hin)
  clear hP hBa hSl hD hI hin
  go_wp2_with fail
  refine (clone7 _ S.length S wa w.heap.size HP.out.sent (by omega)).mono ?_
  rintro e wb ⟨v6, rfl, hO6, hBb⟩
  have hPb := HP.out.below hBb
  have p2 : wb.cell? ⟨w.heap.size, 2, none⟩ = some (.slice (some ⟨gc, 0, none⟩) C.length cc) := by rw [blk_cell hPb.blk]; rfl
  obtain ⟨g6, c6, hv6, hg6, hg6'⟩ := hO6.form hS0
  subst hv6
  have HPb := hide (hPb)
  have HO6 := hide (hO6)
  have HBb := hide (hBb)
  clear hPb hO6 hBb p1
  go_wp2_with fail
  refine (clone8 _ C.length C wb w.heap.size HPb.out.cho (by omega)).mono ?_
  rintro e wc ⟨v7, rfl, hO7, hBc⟩
  obtain ⟨g7, c7, hv7, hg7, hg7'⟩ := hO7.form hC0
  subst hv7
  have HO7 := hide (hO7)
  have HBc := hide (hBc)
  clear hO7 hBc p2
  go_wp2
  obtain ⟨R, hR⟩ : ∃ R, R = inc (at_ S) S.length C := ⟨_, rfl⟩
  have HR : Hid (inc (at_ S) S.length C = R) := hR.symm
  clear hR
  go_loopw [8, 9] (fun c i wr => ∃ (n : Nat) (D : List Int) (cr : Bool), n ≤ S.length ∧ i = .int .i64 ((n : Int) - 1) ∧ c = .bool cr ∧ Hid (cr = true → inc (at_ S) n D = R) ∧ Hid (cr = false → R = (true, D)) ∧ D.length = C.length ∧ Hid (Dig D) ∧ Hid (Below wb.heap.size wb wr) ∧ wr.ownsRow wb.heap.size 31 1 (.slice (some ⟨g7, 0, none⟩) C.length c7) C.length (nc .u8 D))
    (fun _ i _ => (intOf i + 1).toNat)
  case atStart => exact ⟨S.length, C, true, Nat.le_refl _, rfl, rfl, fun _ => HR.out, (fun h => by cases h), rfl, HD, HBc, HO7.out⟩
  case round =>
    obtain ⟨n, D, cr, hn, rfl, rfl, HT, HF, hDl, HDd, HBr, hOr⟩ := hrel
    cases cr
    · have HRR : Hid (inc (at_ S) S.length C = (true, D)) := by rw [HR.out]; exact HF.out rfl
      clear HT HF HR
      rcases Nat.lt_or_ge 0 n with hn0 | hn0
      · have hn1 : 0 ≤ (n : Int) - 1 := by omega
        have hPr := (HPb.out).below HBr.out
        have HPr := hide (hPr)
        have p2 : wr.cell? ⟨w.heap.size, 2, none⟩ = some (.slice (some ⟨gc, 0, none⟩) C.length cc) := by rw [blk_cell hPr.blk]; rfl
        clear hPr
        go_wp2_with fail
        refine (next_any w.heap.size w.heap.size _ _ S C wr HPr.out (by omega) (by omega) HD.out HIN.out _ HRR).mono ?_
        rintro e wd ⟨rfl, hgd, hPd⟩
        have p3 : wd.cell? ⟨w.heap.size, 2, none⟩ = some (.slice (some ⟨gc, 0, none⟩) C.length cc) := by rw [blk_cell hPd.blk]; rfl
        have p4 : wd.cell? ⟨w.heap.size, 1, none⟩ = some (.slice (some ⟨gs, 0, none⟩) S.length cs) := by rw [blk_cell hPd.blk]; rfl
        have hO7d := hOr.kept hgd (Or.inr (by simp only [Value.ownBlock, ne_eq, Option.some.injEq]; omega))
        have hO6d := (own_below HO6.out HBr.out).kept hgd (Or.inr (by
          simp only [Value.ownBlock, ne_eq, Option.some.injEq]
          rintro rfl
          obtain ⟨cur, hcur⟩ := own_block HPb.out.cho
          exact own_far HO6.out hcur (by decide) rfl))
        have hcho := hPd.cho
        rw [hDl] at hcho
        have HCH := hide (hcho)
        have HSE := hide (hPd.sent)
        have HO7d := hide (hO7d)
        have HO6d := hide (hO6d)
        have HBF : Hid (Below w.heap.size w wd) := (((HBa.out.trans (HBb.out.mono HBa.out.size)).trans (HBr.out.mono (Nat.le_trans HBa.out.size HBb.out.size))).grown hgd (Nat.le_trans HBa.out.size (Nat.le_trans HBb.out.size HBr.out.size)) (fun k hk => by simp only [Value.ownBlock, Option.some.injEq] at hk; omega))
        clear hPd hgd hcho hO7d hO6d p2
        go_wp2_with (first | (go_at_call 10; refine (eq10 _ _ C.length D wd _ _ HCH.out HO7d.out (by omega)).mono ?_; rintro e we ⟨rfl, q, rfl⟩) | (go_at_call 11; refine (eq11 _ _ S.length S (wd.drewN q) _ _ HSE.out HO6d.out (by omega)).mono ?_; rintro e wf ⟨rfl, q', rfl⟩))
        go_ret
        exact ⟨rfl, below_drewN HBF.out _⟩
      · have hn1 : (n : Int) - 1 < 0 := by omega
        have hPr := (HPb.out).below HBr.out
        have HPr := hide (hPr)
        have p2 : wr.cell? ⟨w.heap.size, 2, none⟩ = some (.slice (some ⟨gc, 0, none⟩) C.length cc) := by rw [blk_cell hPr.blk]; rfl
        clear hPr
        go_wp2_with fail
        refine (next_any w.heap.size w.heap.size _ _ S C wr HPr.out (by omega) (by omega) HD.out HIN.out _ HRR).mono ?_
        rintro e wd ⟨rfl, hgd, hPd⟩
        have p3 : wd.cell? ⟨w.heap.size, 2, none⟩ = some (.slice (some ⟨gc, 0, none⟩) C.length cc) := by rw [blk_cell hPd.blk]; rfl
        have p4 : wd.cell? ⟨w.heap.size, 1, none⟩ = some (.slice (some ⟨gs, 0, none⟩) S.length cs) := by rw [blk_cell hPd.blk]; rfl
        have hO7d := hOr.kept hgd (Or.inr (by simp only [Value.ownBlock, ne_eq, Option.some.injEq]; omega))
        have hO6d := (own_below HO6.out HBr.out).kept hgd (Or.inr (by
          simp only [Value.ownBlock, ne_eq, Option.some.injEq]
          rintro rfl
          obtain ⟨cur, hcur⟩ := own_block HPb.out.cho
          exact own_far HO6.out hcur (by decide) rfl))
        have hcho := hPd.cho
        rw [hDl] at hcho
        have HCH := hide (hcho)
        have HSE := hide (hPd.sent)
        have HO7d := hide (hO7d)
        have HO6d := hide (hO6d)
        have HBF : Hid (Below w.heap.size w wd) := (((HBa.out.trans (HBb.out.mono HBa.out.size)).trans (HBr.out.mono (Nat.le_trans HBa.out.size HBb.out.size))).grown hgd (Nat.le_trans HBa.out.size (Nat.le_trans HBb.out.size HBr.out.size)) (fun k hk => by simp only [Value.ownBlock, Option.some.injEq] at hk; omega))
        clear hPd hgd hcho hO7d hO6d p2
        go_wp2_with (first | (go_at_call 10; refine (eq10 _ _ C.length D wd _ _ HCH.out HO7d.out (by omega)).mono ?_; rintro e we ⟨rfl, q, rfl⟩) | (go_at_call 11; refine (eq11 _ _ S.length S (wd.drewN q) _ _ HSE.out HO6d.out (by omega)).mono ?_; rintro e wf ⟨rfl, q', rfl⟩))
        go_ret
        exact ⟨rfl, below_drewN HBF.out _⟩
    · cases n with
      | zero =>
        have HRR : Hid (inc (at_ S) S.length C = (false, D)) := by rw [HR.out]; exact (HT.out rfl).symm
        clear HT HF HR
        have hPr := (HPb.out).below HBr.out
        have HPr := hide (hPr)
        have p2 : wr.cell? ⟨w.heap.size, 2, none⟩ = some (.slice (some ⟨gc, 0, none⟩) C.length cc) := by rw [blk_cell hPr.blk]; rfl
        clear hPr
        go_wp2_with fail
        refine (next_any w.heap.size w.heap.size _ _ S C wr HPr.out (by omega) (by omega) HD.out HIN.out _ HRR).mono ?_
        rintro e wd ⟨rfl, hgd, hPd⟩
        have p3 : wd.cell? ⟨w.heap.size, 2, none⟩ = some (.slice (some ⟨gc, 0, none⟩) C.length cc) := by rw [blk_cell hPd.blk]; rfl
        have p4 : wd.cell? ⟨w.heap.size, 1, none⟩ = some (.slice (some ⟨gs, 0, none⟩) S.length cs) := by rw [blk_cell hPd.blk]; rfl
        have hO7d := hOr.kept hgd (Or.inr (by simp only [Value.ownBlock, ne_eq, Option.some.injEq]; omega))
        have hO6d := (own_below HO6.out HBr.out).kept hgd (Or.inr (by
          simp only [Value.ownBlock, ne_eq, Option.some.injEq]
          rintro rfl
          obtain ⟨cur, hcur⟩ := own_block HPb.out.cho
          exact own_far HO6.out hcur (by decide) rfl))
        have hcho := hPd.cho
        rw [hDl] at hcho
        have HCH := hide (hcho)
        have HSE := hide (hPd.sent)
        have HO7d := hide (hO7d)
        have HO6d := hide (hO6d)
        have HBF : Hid (Below w.heap.size w wd) := (((HBa.out.trans (HBb.out.mono HBa.out.size)).trans (HBr.out.mono (Nat.le_trans HBa.out.size HBb.out.size))).grown hgd (Nat.le_trans HBa.out.size (Nat.le_trans HBb.out.size HBr.out.size)) (fun k hk => by simp only [Value.ownBlock, Option.some.injEq] at hk; omega))
        clear hPd hgd hcho hO7d hO6d p2
        go_wp2_with (first | (go_at_call 10; refine (eq10 _ _ C.length D wd _ _ HCH.out HO7d.out (by omega)).mono ?_; rintro e we ⟨rfl, q, rfl⟩) | (go_at_call 11; refine (eq11 _ _ S.length S (wd.drewN q) _ _ HSE.out HO6d.out (by omega)).mono ?_; rintro e wf ⟨rfl, q', rfl⟩))
        go_ret
        exact ⟨rfl, below_drewN HBF.out _⟩
      | succ k =>
        have ek : ((k + 1 : Nat) : Int) - 1 = (k : Int) := by omega
        rw [ek]
        clear ek
        obtain ⟨m, hm⟩ := Int.eq_ofNat_of_zero_le (HIN.out k (by omega)).1
        have hmC : m < C.length := by have := (HIN.out k (by omega)).2; omega
        have hat : at_ S k = m := by unfold at_; rw [hm]; rfl
        have hO6r := own_below HO6.out HBr.out
        have d3 : wr.cell? ⟨g6, k, none⟩ = some (.int .i64 (m : Int)) := by rw [own_cell hO6r k (by omega), hm]
        obtain ⟨x, hx⟩ : ∃ x, x = D.getD m 0 := ⟨_, rfl⟩
        have d4 : wr.cell? ⟨g7, m, none⟩ = some (.int .u8 x) := by rw [own_cell hOr m hmC, hx]
        have d5 : wr.frozen? ⟨g7, m, none⟩ = false := hOr.frozenAt m
        have hx0 : 0 ≤ x := by have := HDd.out m; omega
        have hx2 : x ≤ 2 := by have := HDd.out m; omega
        have hk1 : (k : Int) < (S.length : Int) := by omega
        have hm1 : (m : Int) < (C.length : Int) := by omega
        have HX : Hid (x = D.getD m 0) := hx
        have HAT : Hid (at_ S k = m) := hat
        have HST : Hid (∀ y : Int, (wr.setCell ⟨g7, m, none⟩ (.int .u8 y)).ownsRow wb.heap.size 31 1 (.slice (some ⟨g7, 0, none⟩) C.length c7) C.length (nc .u8 (D.set m y)) ∧ Below wb.heap.size wb (wr.setCell ⟨g7, m, none⟩ (.int .u8 y))) := fun y => ⟨(nc_set hOr m y).1, HBr.out.setCell (p := ⟨g7, m, none⟩) hg7 _⟩
        clear hx hat hm hO6r hOr
        by_cases hx' : x < 2
        · have hx3 : (x == 2) = false := by rw [beq_eq_false_iff_ne]; omega
          have HE : Hid (R = (true, D.set m (x + 1))) := by
            rw [← HT.out rfl]
            show (if D.getD (at_ S k) 0 < 2 then _ else _) = _
            rw [HAT.out, ← HX.out, if_pos hx']
          clear HT HF HR
          go_wp2
          go_roundw
          case rel =>
            obtain ⟨o1, o2⟩ := HST.out (x + 1)
            exact ⟨k, D.set m (x + 1), false, by omega, rfl, rfl, (fun h => by cases h), fun _ => HE.out, by simpa using hDl, HDd.out.set _ _ (by omega) (by omega), o2, o1⟩
          case measure => simp [intOf]
        · have hx3 : (x == 2) = true := by rw [beq_iff_eq]; omega
          have HE : Hid (inc (at_ S) k (D.set m 0) = R) := by
            rw [← HT.out rfl]
            show _ = (if D.getD (at_ S k) 0 < 2 then _ else _)
            rw [HAT.out, ← HX.out, if_neg hx']
          clear HT HF HR
          go_wp2
          go_roundw
          case rel =>
            obtain ⟨o1, o2⟩ := HST.out 0
            exact ⟨k, D.set m 0, true, by omega, rfl, rfl, fun _ => HE.out, (fun h => by cases h), by simpa using hDl, HDd.out.set _ _ (by omega) (by omega), o2, o1⟩
          case measure => simp [intOf]

set_option maxHeartbeats 2000000 in
theorem step_none (a0 : Option Addr) (cap0 : Nat) (z0 : List Int) (a1 : Option Addr) (len1 cap1 : Nat) (z1 : List Int) (w : World) (w0 : IsRow .u8 w a0 0 cap0 z0) (w1 : IsRow .u8 w a1 len1 cap1 z1) (h1 : len1 ≤ 4096) :
    Calls Yba.prog 3 #[.slice a0 0 cap0, .slice a1 len1 cap1] w fun e w' => e = .returned (.bool true) ∧ Below w.heap.size w w' := by
  have HB := fun W (hW : W = w) => build_any a0 0 cap0 z0 a1 len1 cap1 z1 w w0 w1 (by omega) h1
  clear w0 w1
  go_enter Yba.func3, Yba.ntmps3
  go_wp2_with fail
  refine (HB _ rfl).mono ?_
  rintro e wa ⟨vs, vc, S, C, rfl, hP, hSl, hI, hD, hBa⟩
  clear HB
  have hS : S = [] := List.length_eq_zero_iff.1 hSl
  subst hS
  clear hSl
  have hC : C.length ≤ 5000 := by have := hI.hi; simp only [List.length_nil] at this; omega
  obtain ⟨a5, cs, hvs⟩ := own_slice hP.sent
  obtain ⟨ac, cc, hvc⟩ := own_slice hP.cho
  subst hvs
  subst hvc
  have p1 : wa.cell? ⟨w.heap.size, 1, none⟩ = some (.slice a5 0 cs) := by rw [blk_cell hP.blk]; rfl
  have HP := hide (hP)
  have HBa := hide (hBa)
  have HD := hide (hD)
  clear hP hBa hD hI
  go_wp2_with fail
  refine (clone7 _ 0 [] wa w.heap.size HP.out.sent (by omega)).mono ?_
  rintro e wb ⟨v6, rfl, hO6, hBb⟩
  have hPb := HP.out.below hBb
  have p2 : wb.cell? ⟨w.heap.size, 2, none⟩ = some (.slice ac C.length cc) := by rw [blk_cell hPb.blk]; rfl
  obtain ⟨a6, c6, hv6⟩ := own_slice hO6
  subst hv6
  have HPb := hide (hPb)
  have HO6 := hide (hO6)
  have HBb := hide (hBb)
  clear hPb hO6 hBb p1
  go_wp2_with fail
  refine (clone8 _ C.length C wb w.heap.size HPb.out.cho (by omega)).mono ?_
  rintro e wc ⟨v7, rfl, hO7, hBc⟩
  obtain ⟨a7, c7, hv7⟩ := own_slice hO7
  subst hv7
  have hPc := HPb.out.below hBc
  have p3 : wc.cell? ⟨w.heap.size, 2, none⟩ = some (.slice ac C.length cc) := by rw [blk_cell hPc.blk]; rfl
  have p4 : wc.cell? ⟨w.heap.size, 1, none⟩ = some (.slice a5 0 cs) := by rw [blk_cell hPc.blk]; rfl
  have HO7 := hide (hO7)
  have HBc := hide (hBc)
  have HPc := hide (hPc)
  clear hO7 hBc p2 hPc
  go_wp2
  refine wp_loop_rounds 1 ?_
  rw [rounds_succ]
  have HRR : Hid (inc (at_ []) ([] : List Int).length C = (false, C)) := rfl
  go_wp2_with fail
  refine (next_any w.heap.size w.heap.size _ _ [] C wc HPc.out (by decide) (by omega) HD.out (fun i hi => absurd hi (Nat.not_lt_zero _)) _ HRR).mono ?_
  rintro e wd ⟨rfl, hgd, hPd⟩
  have p3 : wd.cell? ⟨w.heap.size, 2, none⟩ = some (.slice ac C.length cc) := by rw [blk_cell hPd.blk]; rfl
  have p4 : wd.cell? ⟨w.heap.size, 1, none⟩ = some (.slice a5 0 cs) := by rw [blk_cell hPd.blk]; rfl
  have HPd := hide (hPd)
  have HBd := HPb.out.cho.lt
  have hO7d := HO7.out.kept hgd (by
    cases ac with
    | none => cases a7 <;> simp [Value.ownBlock]
    | some x =>
      cases a7 with
      | none => left; rfl
      | some y =>
        right
        have h1 := (HPb.out.cho.lt x.block rfl).2
        have h2 := (HO7.out.lt y.block rfl).1
        simp only [Value.ownBlock, ne_eq, Option.some.injEq]
        omega)
  have hO6d := (own_below HO6.out HBc.out).kept hgd (by
    cases ac with
    | none => cases a6 <;> simp [Value.ownBlock]
    | some x =>
      cases a6 with
      | none => left; rfl
      | some y =>
        right
        simp only [Value.ownBlock, ne_eq, Option.some.injEq]
        intro hxy
        obtain ⟨cur, hcur⟩ := own_block' HPb.out.cho
        exact own_far HO6.out hcur (by decide) (by simp [Value.ownBlock, hxy]))
  have HO7d := hide (hO7d)
  have HO6d := hide (hO6d)
  have HBF : Hid (Below w.heap.size w wd) := (((HBa.out.trans (HBb.out.mono HBa.out.size)).trans (HBc.out.mono (Nat.le_trans HBa.out.size HBb.out.size))).grown hgd (Nat.le_trans HBa.out.size (Nat.le_trans HBb.out.size HBc.out.size)) (fun k hk => (HPb.out.cho.lt k hk).1))
  clear hPd hgd hO7d hO6d
  go_wp2_with (first | (go_at_call 10; refine (eq10 _ _ C.length C wd _ _ HPd.out.cho HO7d.out (by omega)).mono ?_; rintro e we ⟨rfl, q, rfl⟩) | (go_at_call 11; refine (eq11 _ _ 0 [] (wd.drewN q) _ _ HPd.out.sent HO6d.out (by omega)).mono ?_; rintro e wf ⟨rfl, q', rfl⟩))
  go_ret
  exact ⟨rfl, below_drewN HBF.out _⟩

set_option maxHeartbeats 1000000 in
theorem step_long (a0 : Option Addr) (len0 cap0 : Nat) (a1 : Option Addr) (len1 cap1 : Nat) (w : World) (h : 1024 < len0 ∨ 4096 < len1) :
    Calls Yba.prog 3 #[.slice a0 len0 cap0, .slice a1 len1 cap1] w fun e w' => e = .returned (.bool true) ∧ Below w.heap.size w w' := by
  by_cases h1 : 1024 < len0
  · go_enter Yba.func3, Yba.ntmps3
    go_wp2
    go_ret
    exact ⟨rfl, Below.refl _ _⟩
  have h2 : 4096 < len1 := by omega
  clear h
  go_enter Yba.func3, Yba.ntmps3
  go_wp2
  go_ret
  exact ⟨rfl, Below.refl _ _⟩

theorem step_walk (a0 : Option Addr) (len0 cap0 : Nat) (z0 : List Int) (a1 : Option Addr) (len1 cap1 : Nat) (z1 : List Int) (w : World) (w0 : IsRow .u8 w a0 len0 cap0 z0) (w1 : IsRow .u8 w a1 len1 cap1 z1) :
    Calls Yba.prog 3 #[.slice a0 len0 cap0, .slice a1 len1 cap1] w fun e w' => e = .returned (.bool true) ∧ Below w.heap.size w w' := by
  by_cases h : 1024 < len0 ∨ 4096 < len1
  · exact step_long a0 len0 cap0 a1 len1 cap1 w h
  by_cases h0 : len0 = 0
  · subst h0
    exact step_none a0 cap0 z0 a1 len1 cap1 z1 w w0 w1 (by omega)
  exact step_in a0 len0 cap0 z0 a1 len1 cap1 z1 w w0 w1 (by omega) (by omega) (by omega)
end Go.Proofs.Ybulkcfgo
