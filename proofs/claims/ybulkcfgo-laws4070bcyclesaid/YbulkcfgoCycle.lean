/-
  THE WALK of LawS4070BCycle (function 4; seat b4070a).
-/
import Derived.Test.YbulkcfgoStep
namespace Go.Proofs.Ybulkcfgo
open Go.RowKit
set_option linter.unusedVariables false

/-- Where the counting stands: D holds the number val, every digit in 0..2; what is not sent is as in Z. -/
structure Cnt (f : Nat → Nat) (n : Nat) (Z D : List Int) : Prop where
  len : D.length = Z.length
  dig : Dig D
  far : ∀ j, (∀ i, i < n → f i ≠ j) → D.getD j 0 = Z.getD j 0

theorem Cnt.step {f : Nat → Nat} {n : Nat} {Z D : List Int} (h : Cnt f n Z D) : Cnt f n Z (inc f n D).2 :=
  ⟨by rw [inc_len, h.len], inc_dig f n D h.dig, fun j hj => by rw [inc_other f n D j hj, h.far j hj]⟩

/-- Behind the last number all is as at the start. -/
theorem Cnt.done {f : Nat → Nat} {n : Nat} {Z D : List Int} (h : Cnt f n Z D) (hz : ∀ i, i < n → Z.getD (f i) 0 = 0) (hf : ∀ i j, i < n → j < n → f i = f j → i = j) (hl : ∀ i, i < n → f i < D.length) (hv : val f D n + 1 = 3 ^ n) :
    inc f n D = (false, Z) := by
  obtain ⟨h1, h2⟩ := inc_false f n D h.dig hf hl hv
  have h3 : (inc f n D).2 = Z := by
    refine list_ext _ _ (by rw [inc_len, h.len]) fun j => ?_
    by_cases hj : ∃ i, i < n ∧ f i = j
    · obtain ⟨i, hi, rfl⟩ := hj
      rw [h2 i hi, hz i hi]
    · have hj' : ∀ i, i < n → f i ≠ j := fun i hi e => hj ⟨i, hi, e⟩
      rw [inc_other f n D j hj', h.far j hj']
  rw [← h1, ← h3]

theorem pow3_le (k : Nat) (h : k ≤ 6) : (3 : Int) ^ k ≤ 729 := by
  have : k = 0 ∨ k = 1 ∨ k = 2 ∨ k = 3 ∨ k = 4 ∨ k = 5 ∨ k = 6 := by omega
  rcases this with rfl | rfl | rfl | rfl | rfl | rfl | rfl <;> decide

set_option maxHeartbeats 2000000 in
theorem cycle_in (a0 : Option Addr) (len0 cap0 : Nat) (z0 : List Int) (a1 : Option Addr) (len1 cap1 : Nat) (z1 : List Int) (w : World) (w0 : IsRow .u8 w a0 len0 cap0 z0) (w1 : IsRow .u8 w a1 len1 cap1 z1) (h0 : len0 ≤ 6) (h1 : len1 ≤ 4096) (hl : 0 < len0) :
    Calls Yba.prog 4 #[.slice a0 len0 cap0, .slice a1 len1 cap1] w fun e w' => e = .returned (.bool true) ∧ Below w.heap.size w w' := by
  have HB := fun W (hW : W = w) => build_any a0 len0 cap0 z0 a1 len1 cap1 z1 w w0 w1 (by omega) h1
  clear w0 w1
  go_enter Yba.func4, Yba.ntmps4
  go_wp2_with fail
  refine (HB _ rfl).mono ?_
  rintro e wa ⟨vs, vc, S, C, rfl, hP, hSl, hI, hD, hBa⟩
  clear HB
  have hS : S.length ≤ 6 := by omega
  have hS0 : 0 < S.length := by omega
  have hC : C.length ≤ 5000 := by have := hI.hi; omega
  have hin := hI.at_lt
  have hC0 : 0 < C.length := by have := hin 0 hS0; omega
  obtain ⟨gs, cs, hvs, hgs, hgs'⟩ := hP.sent.form hS0
  obtain ⟨gc, cc, hvc, hgc, hgc'⟩ := hP.cho.form hC0
  subst hvs
  subst hvc
  have p1 : wa.cell? ⟨w.heap.size, 1, none⟩ = some (.slice (some ⟨gs, 0, none⟩) S.length cs) := by rw [blk_cell hP.blk]; rfl
  have HP := hide hP
  have HBa := hide hBa
  have HS : Hid (S.length = len0) := hSl
  have HD := hide hD
  have HI := hide hI
  have HIN := hide hin
  clear hP hBa hSl hD hI hin
  go_wp2
  go_loopw [27] (fun i wr => ∃ (k : Nat) (D : List Int), k ≤ S.length ∧ i = .int .i64 (k : Int) ∧ D.length = C.length ∧ Hid (Dig D) ∧ Hid (∀ j, j < k → D.getD (at_ S j) 0 = 0) ∧ Hid (wa.grownBy wr (some gc)) ∧ wr.ownsRow w.heap.size 31 1 (.slice (some ⟨gc, 0, none⟩) C.length cc) C.length (nc .u8 D))
    (fun i _ => S.length - (intOf i).toNat)
  case atStart => exact ⟨0, C, Nat.zero_le _, rfl, rfl, HD, fun j hj => absurd hj (Nat.not_lt_zero _), ⟨rfl, rfl, rfl, Nat.le_refl _, fun _ _ _ => rfl⟩, HP.out.cho⟩
  case round =>
    obtain ⟨k, D, hk, rfl, hDl, HDd, HZ, HG, hO⟩ := hrel
    have hPr := HP.out.turned HG.out hDl hO
    by_cases hlt : k < S.length
    · obtain ⟨m, hm⟩ := Int.eq_ofNat_of_zero_le (HIN.out k (by omega)).1
      have hmC : m < C.length := by have := (HIN.out k (by omega)).2; omega
      have hat : at_ S k = m := by unfold at_; rw [hm]; rfl
      have d2 : wr.cell? ⟨w.heap.size, 2, none⟩ = some (.slice (some ⟨gc, 0, none⟩) C.length cc) := by rw [blk_cell hPr.blk]; rfl
      have d3 : wr.cell? ⟨gs, k, none⟩ = some (.int .i64 (m : Int)) := by rw [own_cell hPr.sent k (by omega), hm]
      have d4 : wr.cell? ⟨gc, m, none⟩ = some (.int .u8 (D.getD m 0)) := own_cell hO m hmC
      obtain ⟨x, hx⟩ : ∃ x, x = D.getD m 0 := ⟨_, rfl⟩
      rw [← hx] at d4
      have d5 : wr.frozen? ⟨gc, m, none⟩ = false := hO.frozenAt m
      have hk1 : (k : Int) < (S.length : Int) := by omega
      have hm1 : (m : Int) < (C.length : Int) := by omega
      have HAT : Hid (at_ S k = m) := hat
      have HST := hide (nc_set hO m 0)
      clear hx hat hm hO hPr p1
      go_wp2
      go_roundw
      case rel =>
        refine ⟨k + 1, D.set m 0, by omega, by go_num, by simpa using hDl, HDd.out.set _ _ (by omega) (by omega), ?_, grown_trans HG.out HST.out.2, HST.out.1⟩
        intro j hj
        rw [getD_set]
        by_cases e : m = at_ S j
        · rw [if_pos ⟨e, by omega⟩]
        · rw [if_neg (fun h => e h.1)]
          rcases Nat.lt_succ_iff_lt_or_eq.1 hj with h | rfl
          · exact HZ.out j h
          · exact absurd HAT.out.symm e
      case measure => simp [intOf]; omega
    · have hks : k = S.length := by omega
      have HZ' : Hid (∀ j, j < S.length → D.getD (at_ S j) 0 = 0) := by rw [← hks]; exact HZ
      have d2 : wr.cell? ⟨w.heap.size, 2, none⟩ = some (.slice (some ⟨gc, 0, none⟩) C.length cc) := by rw [blk_cell hPr.blk]; rfl
      have HPr := hide hPr
      have HO := hide hO
      clear HZ hks hPr hO p1
      go_wp2_with fail
      refine (clone8 _ C.length D wr w.heap.size HO.out (by omega)).mono ?_
      rintro e wc ⟨v8, rfl, hO8, hBc⟩
      obtain ⟨g8, c8, hv8, hg8, hg8'⟩ := hO8.form hC0
      subst hv8
      have HPc := hide (HPr.out.below hBc)
      have HO8 := hide hO8
      have HBw : Hid (Below w.heap.size w wc) := (HBa.out.grown HG.out HBa.out.size (fun j hj => by simp only [Option.some.injEq] at hj; omega)).trans (hBc.mono (Nat.le_trans HBa.out.size HG.out.size))
      clear hO8 hBc d2 hlt
      go_wp2
      obtain ⟨wo, hwo⟩ : ∃ wo : World, wo = wr := ⟨_, rfl⟩
      subst hwo
      go_loop [9, 45] (fun t i => ∃ (k : Nat) (T : Int), k ≤ len0 ∧ i = .int .i64 (k : Int) ∧ t = .int .i64 T ∧ 0 ≤ T ∧ T ≤ 729 ∧ Hid (T = 3 ^ k)) (fun _ i => len0 - (intOf i).toNat)
      case atStart => exact ⟨0, 1, Nat.zero_le _, rfl, rfl, by decide, by decide, rfl⟩
      case round =>
        obtain ⟨k2, T, hk2, rfl, rfl, hT0, hT1, HT⟩ := hrel
        by_cases hlt2 : k2 < len0
        · have hT3 : T * 3 ≤ 729 := by
            have := pow3_le (k2 + 1) (by omega)
            rw [Int.pow_succ, ← HT.out] at this
            exact this
          go_wp2
          go_round
          case rel => exact ⟨k2 + 1, T * 3, by omega, by go_num, rfl, by omega, hT3, by show T * 3 = _; rw [Int.pow_succ, ← HT.out]⟩
          case measure => simp [intOf]; omega
        · have HTT : Hid (T = 3 ^ S.length) := by
            have : k2 = S.length := by have := HS.out; omega
            rw [← this]; exact HT
          clear HT
          go_wp2
          have hTpos : 1 ≤ T := by have := (val_bd (at_ S) D HDd.out S.length); rw [← HTT.out] at this; omega
          go_loopw [10] (fun c wr => ∃ (v : Int) (E : List Int), c = .int .i64 (v + 1) ∧ 0 ≤ v ∧ v + 1 ≤ T ∧ Hid (v = val (at_ S) E S.length) ∧ Hid (Cnt (at_ S) S.length D E) ∧ Hid (Plan w.heap.size wr w.heap.size (.slice (some ⟨gs, 0, none⟩) S.length cs) (.slice (some ⟨gc, 0, none⟩) C.length cc) S E) ∧
              Hid (wr.ownsRow wo.heap.size 31 1 (.slice (some ⟨g8, 0, none⟩) C.length c8) C.length (nc .u8 D)) ∧ Hid (Below w.heap.size w wr)) (fun c _ => (T - intOf c).toNat)
          case atStart => exact ⟨0, D, rfl, by omega, by omega, (val_zero (at_ S) D S.length HZ'.out).symm, ⟨rfl, HDd.out, fun _ _ => rfl⟩, HPc, HO8, HBw⟩
          case round =>
            obtain ⟨v, E, rfl, hv0, hvT, HV, HCn, HPl, HO9, HBr⟩ := hrel
            have HLe : Hid (E.length = C.length) := by rw [HCn.out.len]; exact hDl
            have HINe : Hid (∀ i, i < S.length → 0 ≤ S.getD i 0 ∧ S.getD i 0 < E.length) := by rw [HLe.out]; exact HIN
            have HAe : Hid (∀ i, i < S.length → at_ S i < E.length) := fun i hi => by have := HINe.out i hi; unfold at_; omega
            have HInj := hide HI.out.at_inj
            by_cases hv : v + 1 < T
            · obtain ⟨i1, i2⟩ := inc_true (at_ S) S.length E HCn.out.dig HInj.out HAe.out (by rw [← HV.out, ← HTT.out]; exact hv)
              obtain ⟨G, hG⟩ : ∃ G, G = (inc (at_ S) S.length E).2 := ⟨_, rfl⟩
              have HRR : Hid (inc (at_ S) S.length E = (true, G)) := Prod.ext i1 hG.symm
              have HVG : Hid (v + 1 = val (at_ S) G S.length) := by show _ = _; rw [hG, i2, ← HV.out]
              have HCG : Hid (Cnt (at_ S) S.length D G) := by rw [hG]; exact HCn.out.step
              clear i1 i2 hG
              go_wp2_with fail
              refine (next_any w.heap.size w.heap.size _ _ S E wr HPl.out (by omega) (by rw [HLe.out]; omega) HCn.out.dig HINe.out _ HRR).mono ?_
              rintro e wd ⟨rfl, hgd, hPd⟩
              have HPd := hide hPd
              have HO9d := hide (HO9.out.kept hgd (Or.inr (by simp only [Value.ownBlock, ne_eq, Option.some.injEq]; have := HG.out.size; omega)))
              have HBd := hide (HBr.out.grown hgd HBr.out.size (fun k hk => by simp only [Value.ownBlock, Option.some.injEq] at hk; omega))
              clear hPd hgd
              go_wp2
              go_roundw
              case rel => exact ⟨v + 1, G, rfl, by omega, by omega, HVG, HCG, HPd, HO9d, HBd⟩
              case measure => simp [intOf]; omega
            · have hveq : v + 1 = T := by omega
              have HRR : Hid (inc (at_ S) S.length E = (false, D)) := HCn.out.done HZ'.out HInj.out HAe.out (by rw [← HV.out, ← HTT.out]; exact hveq)
              have hcmp : ((v + 1 : Int) == T) = true := by rw [beq_iff_eq]; exact hveq
              clear hveq
              go_wp2_with fail
              refine (next_any w.heap.size w.heap.size _ _ S E wr HPl.out (by omega) (by rw [HLe.out]; omega) HCn.out.dig HINe.out _ HRR).mono ?_
              rintro e wd ⟨rfl, hgd, hPd⟩
              have p3 : wd.cell? ⟨w.heap.size, 2, none⟩ = some (.slice (some ⟨gc, 0, none⟩) C.length cc) := by rw [blk_cell hPd.blk]; rfl
              have hcho := hPd.cho
              rw [hDl] at hcho
              have HCH := hide hcho
              have HO9d := hide (HO9.out.kept hgd (Or.inr (by simp only [Value.ownBlock, ne_eq, Option.some.injEq]; have := HG.out.size; omega)))
              have HBd := hide (HBr.out.grown hgd HBr.out.size (fun k hk => by simp only [Value.ownBlock, Option.some.injEq] at hk; omega))
              clear hPd hgd hcho
              go_wp2_with (go_at_call 10; refine (eq10 _ _ C.length D wd _ _ HCH.out HO9d.out (by omega)).mono ?_; rintro e we ⟨rfl, q, rfl⟩)
              go_ret
              exact ⟨rfl, below_drewN HBd.out _⟩

set_option maxHeartbeats 2000000 in
theorem cycle_none (a0 : Option Addr) (cap0 : Nat) (z0 : List Int) (a1 : Option Addr) (len1 cap1 : Nat) (z1 : List Int) (w : World) (w0 : IsRow .u8 w a0 0 cap0 z0) (w1 : IsRow .u8 w a1 len1 cap1 z1) (h1 : len1 ≤ 4096) :
    Calls Yba.prog 4 #[.slice a0 0 cap0, .slice a1 len1 cap1] w fun e w' => e = .returned (.bool true) ∧ Below w.heap.size w w' := by
  have HB := fun W (hW : W = w) => build_any a0 0 cap0 z0 a1 len1 cap1 z1 w w0 w1 (by omega) h1
  clear w0 w1
  go_enter Yba.func4, Yba.ntmps4
  go_wp2_with fail
  refine (HB _ rfl).mono ?_
  rintro e wa ⟨vs, vc, S, C, rfl, hP, hSl, hI, hD, hBa⟩
  clear HB
  have hS : S = [] := List.length_eq_zero_iff.1 hSl
  subst hS
  clear hSl
  have hC : C.length ≤ 5000 := by have := hI.hi; simp only [List.length_nil] at this; omega
  obtain ⟨a5, cs, hvs⟩ := own_slice hP.sent
  obtain ⟨ac, cc, hvc⟩ := own_slice hP.cho
  subst hvs
  subst hvc
  have p1 : wa.cell? ⟨w.heap.size, 1, none⟩ = some (.slice a5 0 cs) := by rw [blk_cell hP.blk]; rfl
  have p2 : wa.cell? ⟨w.heap.size, 2, none⟩ = some (.slice ac C.length cc) := by rw [blk_cell hP.blk]; rfl
  have HP := hide hP
  have HBa := hide hBa
  have HD := hide hD
  clear hP hBa hD hI
  go_wp2
  refine wp_loop_rounds 1 ?_
  rw [rounds_succ]
  go_wp2_with fail
  refine (clone8 _ C.length C wa w.heap.size HP.out.cho (by omega)).mono ?_
  rintro e wc ⟨v8, rfl, hO8, hBc⟩
  obtain ⟨a8, c8, hv8⟩ := own_slice hO8
  subst hv8
  have HPc := hide (HP.out.below hBc)
  have HO8 := hide hO8
  have HBc := hide hBc
  clear hO8 hBc p1 p2
  go_wp2
  refine wp_loop_rounds 1 ?_
  rw [rounds_succ]
  go_wp2
  refine wp_loop_rounds 1 ?_
  rw [rounds_succ]
  have HRR : Hid (inc (at_ []) ([] : List Int).length C = (false, C)) := rfl
  go_wp2_with fail
  refine (next_any w.heap.size w.heap.size _ _ [] C wc HPc.out (by decide) (by omega) HD.out (fun i hi => absurd hi (Nat.not_lt_zero _)) _ HRR).mono ?_
  rintro e wd ⟨rfl, hgd, hPd⟩
  have p3 : wd.cell? ⟨w.heap.size, 2, none⟩ = some (.slice ac C.length cc) := by rw [blk_cell hPd.blk]; rfl
  have HPd := hide hPd
  have HO8d := hide (HO8.out.kept hgd (by
    cases ac with
    | none => cases a8 <;> simp [Value.ownBlock]
    | some x =>
      cases a8 with
      | none => left; rfl
      | some y =>
        right
        have h1 := (HP.out.cho.lt x.block rfl).2
        have h2 := (HO8.out.lt y.block rfl).1
        simp only [Value.ownBlock, ne_eq, Option.some.injEq]
        omega))
  have HBF : Hid (Below w.heap.size w wd) := (HBa.out.trans (HBc.out.mono HBa.out.size)).grown hgd (Nat.le_trans HBa.out.size HBc.out.size) (fun k hk => (HP.out.cho.lt k hk).1)
  clear hPd hgd
  go_wp2_with (go_at_call 10; refine (eq10 _ _ C.length C wd _ _ HPd.out.cho HO8d.out (by omega)).mono ?_; rintro e we ⟨rfl, q, rfl⟩)
  go_ret
  exact ⟨rfl, below_drewN HBF.out _⟩

set_option maxHeartbeats 1000000 in
theorem cycle_long (a0 : Option Addr) (len0 cap0 : Nat) (a1 : Option Addr) (len1 cap1 : Nat) (w : World) (h : 6 < len0 ∨ 4096 < len1) :
    Calls Yba.prog 4 #[.slice a0 len0 cap0, .slice a1 len1 cap1] w fun e w' => e = .returned (.bool true) ∧ Below w.heap.size w w' := by
  by_cases h1 : 6 < len0
  · go_enter Yba.func4, Yba.ntmps4
    go_wp2
    go_ret
    exact ⟨rfl, Below.refl _ _⟩
  have h2 : 4096 < len1 := by omega
  clear h
  go_enter Yba.func4, Yba.ntmps4
  go_wp2
  go_ret
  exact ⟨rfl, Below.refl _ _⟩

theorem cycle_walk (a0 : Option Addr) (len0 cap0 : Nat) (z0 : List Int) (a1 : Option Addr) (len1 cap1 : Nat) (z1 : List Int) (w : World) (w0 : IsRow .u8 w a0 len0 cap0 z0) (w1 : IsRow .u8 w a1 len1 cap1 z1) :
    Calls Yba.prog 4 #[.slice a0 len0 cap0, .slice a1 len1 cap1] w fun e w' => e = .returned (.bool true) ∧ Below w.heap.size w w' := by
  by_cases h : 6 < len0 ∨ 4096 < len1
  · exact cycle_long a0 len0 cap0 a1 len1 cap1 w h
  by_cases h0 : len0 = 0
  · subst h0
    exact cycle_none a0 cap0 z0 a1 len1 cap1 z1 w w0 w1 (by omega)
  exact cycle_in a0 len0 cap0 z0 a1 len1 cap1 z1 w w0 w1 (by omega) (by omega) (by omega)
end Go.Proofs.Ybulkcfgo
