/-
  THE WALKS of zzs4067blevel, zzs4067bmodel and LawS4067BModel (seat b4067aF).
-/
import Derived.Test.YbulkcfeyFmtScan
namespace Go.Proofs.YbulkcfeyFmt
open Go.RowKit Go.Extern.Stop Go.Stop Go.Extern
set_option linter.unusedSimpArgs false

set_option maxHeartbeats 1000000 in
theorem blevel_any (n : Int) (w : World) :
    Calls Ybaf.prog 14 #[.int .u8 n] w fun e w' => e = .returned (.bool (lvlI n)) ∧ w' = w := by
  by_cases h1 : n ≤ 32
  · go_enter Ybaf.func14, Ybaf.ntmps14
    go_wp2
    go_ret
    exact ⟨ret_bool (by unfold lvlI; exact (decide_eq_false (by omega)).symm), rfl⟩
  by_cases h2 : 127 ≤ n
  · go_enter Ybaf.func14, Ybaf.ntmps14
    go_wp2
    go_ret
    exact ⟨ret_bool (by unfold lvlI; exact (decide_eq_false (by omega)).symm), rfl⟩
  by_cases h3 : n = 34 ∨ n = 92 ∨ n = 58 ∨ n = 46 ∨ n = 42 ∨ n = 123 ∨ n = 125 ∨ n = 44
  · rcases h3 with rfl | rfl | rfl | rfl | rfl | rfl | rfl | rfl
    all_goals
      clear h1 h2
      go_enter Ybaf.func14, Ybaf.ntmps14
      go_wp2
      go_ret
      exact ⟨rfl, rfl⟩
  · have e1 : (n == 34) = false := by rw [beq_eq_false_iff_ne]; omega
    have e2 : (n == 92) = false := by rw [beq_eq_false_iff_ne]; omega
    have e3 : (n == 58) = false := by rw [beq_eq_false_iff_ne]; omega
    have e4 : (n == 46) = false := by rw [beq_eq_false_iff_ne]; omega
    have e5 : (n == 42) = false := by rw [beq_eq_false_iff_ne]; omega
    have e6 : (n == 123) = false := by rw [beq_eq_false_iff_ne]; omega
    have e7 : (n == 125) = false := by rw [beq_eq_false_iff_ne]; omega
    have e8 : (n == 44) = false := by rw [beq_eq_false_iff_ne]; omega
    have HL : Hid (lvlI n = true) := by unfold lvlI; exact decide_eq_true (by omega)
    clear h3
    go_enter Ybaf.func14, Ybaf.ntmps14
    go_wp2
    go_ret
    exact ⟨ret_bool HL.out.symm, rfl⟩

/-- One byte of 'sc', over Int. -/
theorem sc_one (s : ByteArray) (i j n : Nat) (R : Nat × Nat) (HK : Hid (sc i (s.data.toList.drop j) j n = R)) (h : j < s.size) : R =
    if lvlI (s[j].toNat : Int) then sc i (s.data.toList.drop (j + 1)) (j + 1) (n + 1)
    else if (s[j].toNat : Int) = 44 ∨ (s[j].toNat : Int) = 125 then (if (n : Int) = 0 then (j, 2) else if (s[j].toNat : Int) = 125 then (j + 1, 0) else sc i (s.data.toList.drop (j + 1)) (j + 1) 0)
    else if (s[j].toNat : Int) = 58 ∨ (s[j].toNat : Int) = 46 then (j, 3) else if (s[j].toNat : Int) = 42 ∨ (s[j].toNat : Int) = 123 then (j, 4) else (j, 5) := by
  rw [← HK.out, drop_at s j h]
  simp only [sc, byte_eq]
  have : ((n : Int) = 0) = (n = 0) := by rw [eq_iff_iff]; omega
  simp only [this]
  rfl

theorem Rtwo {R : Nat × Nat} {a b : Nat} (h : R = (a, b)) : Ending.returned (.tuple #[.int .i64 (a : Int), .int .i64 (b : Int)]) = .returned (.tuple #[.int .i64 (R.1 : Int), .int .i64 (R.2 : Int)]) := by
  subst h; rfl

set_option maxHeartbeats 1000000 in
theorem model_any (s : ByteArray) (i : Nat) (hi : i < s.size) (w : World) (hs : s.size ≤ maxLen) :
    Calls Ybaf.prog 10 #[.string s, .int .i64 i] w fun e w' => e = .returned (.tuple #[.int .i64 (((sc i (s.data.toList.drop (i + 1)) (i + 1) 0).1 : Nat) : Int), .int .i64 (((sc i (s.data.toList.drop (i + 1)) (i + 1) 0).2 : Nat) : Int)]) ∧ w' = w := by
  unfold maxLen at hs
  obtain ⟨R, hR⟩ : ∃ R, R = sc i (s.data.toList.drop (i + 1)) (i + 1) 0 := ⟨_, rfl⟩
  rw [← hR]
  have H0 : Hid (sc i (s.data.toList.drop (i + 1)) (i + 1) 0 = R) := hR.symm
  clear hR
  go_enter Ybaf.func10, Ybaf.ntmps10
  go_wp2
  go_loop [6, 7] (fun u t => ∃ n j : Nat, n ≤ j ∧ j ≤ s.size ∧ u = .int .i64 n ∧ t = .int .i64 j ∧ Hid (sc i (s.data.toList.drop j) j n = R)) (fun _ t => s.size - (intOf t).toNat)
  case atStart => exact ⟨0, i + 1, by omega, by omega, rfl, by go_num, H0⟩
  case round =>
    obtain ⟨n, j, hn, hj, rfl, rfl, HK⟩ := hrel
    by_cases hlt : j < s.size
    · have HA : Hid _ := sc_one s i j n R HK hlt
      go_wp2_with (first | (go_at_call 14; refine (blevel_any _ _).mono ?_; rintro e1 w1 ⟨rfl, rfl⟩))
      · go_round
        case rel =>
          have h := HA.out
          rw [if_pos ‹_›] at h
          exact ⟨n + 1, j + 1, by omega, by omega, by go_num, by go_num, h.symm⟩
        case measure => simp [intOf]; omega
      · go_ret2
        have h := HA.out
        have hl : lvlI (s[j].toNat : Int) = false := by assumption
        rw [hl] at h
        simp only [Bool.false_eq_true, if_false] at h
        simp only [beq_iff_eq, beq_eq_false_iff_ne, ne_eq] at *
        rw [if_pos (by omega), if_pos (by omega)] at h
        exact ⟨Rtwo h, trivial⟩
      · go_round
        case rel =>
          have h := HA.out
          have hl : lvlI (s[j].toNat : Int) = false := by assumption
          rw [hl] at h
          simp only [Bool.false_eq_true, if_false] at h
          simp only [beq_iff_eq, beq_eq_false_iff_ne, ne_eq] at *
          rw [if_pos (by omega), if_neg (by omega), if_neg (by omega)] at h
          exact ⟨0, j + 1, by omega, by omega, rfl, by go_num, h.symm⟩
        case measure => simp [intOf]; omega
      · go_ret2
        have h := HA.out
        have hl : lvlI (s[j].toNat : Int) = false := by assumption
        rw [hl] at h
        simp only [Bool.false_eq_true, if_false] at h
        simp only [beq_iff_eq, beq_eq_false_iff_ne, ne_eq] at *
        rw [if_pos (by omega), if_pos (by omega)] at h
        exact ⟨Rtwo h, trivial⟩
      · go_ret2
        have h := HA.out
        have hl : lvlI (s[j].toNat : Int) = false := by assumption
        rw [hl] at h
        simp only [Bool.false_eq_true, if_false] at h
        simp only [beq_iff_eq, beq_eq_false_iff_ne, ne_eq] at *
        rw [if_pos (by omega), if_neg (by omega), if_pos (by omega)] at h
        exact ⟨Rtwo h, trivial⟩
      · exfalso
        simp only [beq_iff_eq, beq_eq_false_iff_ne, ne_eq] at *
        omega
      · go_ret2
        have h := HA.out
        have hl : lvlI (s[j].toNat : Int) = false := by assumption
        rw [hl] at h
        simp only [Bool.false_eq_true, if_false] at h
        simp only [beq_iff_eq, beq_eq_false_iff_ne, ne_eq] at *
        rw [if_neg (by omega), if_pos (by omega)] at h
        exact ⟨Rtwo h, trivial⟩
      · go_ret2
        have h := HA.out
        have hl : lvlI (s[j].toNat : Int) = false := by assumption
        rw [hl] at h
        simp only [Bool.false_eq_true, if_false] at h
        simp only [beq_iff_eq, beq_eq_false_iff_ne, ne_eq] at *
        rw [if_neg (by omega), if_pos (by omega)] at h
        exact ⟨Rtwo h, trivial⟩
      · go_ret2
        have h := HA.out
        have hl : lvlI (s[j].toNat : Int) = false := by assumption
        rw [hl] at h
        simp only [Bool.false_eq_true, if_false] at h
        simp only [beq_iff_eq, beq_eq_false_iff_ne, ne_eq] at *
        rw [if_neg (by omega), if_neg (by omega), if_pos (by omega)] at h
        exact ⟨Rtwo h, trivial⟩
      · go_ret2
        have h := HA.out
        have hl : lvlI (s[j].toNat : Int) = false := by assumption
        rw [hl] at h
        simp only [Bool.false_eq_true, if_false] at h
        simp only [beq_iff_eq, beq_eq_false_iff_ne, ne_eq] at *
        rw [if_neg (by omega), if_neg (by omega), if_pos (by omega)] at h
        exact ⟨Rtwo h, trivial⟩
      · go_ret2
        have h := HA.out
        have hl : lvlI (s[j].toNat : Int) = false := by assumption
        rw [hl] at h
        simp only [Bool.false_eq_true, if_false] at h
        simp only [beq_iff_eq, beq_eq_false_iff_ne, ne_eq] at *
        rw [if_neg (by omega), if_neg (by omega), if_neg (by omega)] at h
        exact ⟨Rtwo h, trivial⟩
    · have HA : Hid (R = (i, 1)) := by rw [← HK.out, List.drop_eq_nil_of_le (by simp; omega)]; rfl
      go_wp2
      go_ret2
      exact ⟨Rtwo HA.out, rfl⟩

theorem scan_at (F : Interp) (s : ByteArray) (i a b : Nat) (hi : i < s.size) (HR : Hid (sc i (s.data.toList.drop (i + 1)) (i + 1) 0 = (a, b))) (w : World) (hs : s.size ≤ maxLen) (hF : F.answers w.tape) :
    Calls Ybaf.prog 9 #[.string s, .int .i64 i] w fun e w' => ∃ t, e = .returned (.tuple #[.int .i64 (a : Int), .string t]) ∧ whyIs b t ∧ Below w.heap.size w w' := by
  have h := scan_any F s i hi w hs hF
  rw [HR.out] at h
  exact h
theorem model_at (s : ByteArray) (i a b : Nat) (hi : i < s.size) (HR : Hid (sc i (s.data.toList.drop (i + 1)) (i + 1) 0 = (a, b))) (w : World) (hs : s.size ≤ maxLen) :
    Calls Ybaf.prog 10 #[.string s, .int .i64 i] w fun e w' => e = .returned (.tuple #[.int .i64 (a : Int), .int .i64 (b : Int)]) ∧ w' = w := by
  have h := model_any s i hi w hs
  rw [HR.out] at h
  exact h

set_option maxHeartbeats 1000000 in
/-- The road behind the first test. -/
theorem law_model_in (F : Interp) (s : ByteArray) (k : Int) (i a b : Nat) (hi : i < s.size) (hmod : k % (s.size : Int) = (i : Int)) (HR : Hid (sc i (s.data.toList.drop (i + 1)) (i + 1) 0 = (a, b))) (hb : b ≤ 5) (hk : 0 ≤ k) (hk' : k ≤ 4294967295)
    (w : World) (h1 : s.size ≤ 1048576) (hF : F.answers w.tape) :
    Calls Ybaf.prog 5 #[.string s, .int .u32 k] w fun e w' => e = .returned (.bool true) ∧ Below w.heap.size w w' := by
  have hs' : s.size ≤ maxLen := by unfold maxLen; omega
  have hz : ((s.size : Int) == 0) = false := by rw [beq_eq_false_iff_ne]; omega
  have hbs : b = 0 ∨ b = 1 ∨ b = 2 ∨ b = 3 ∨ b = 4 ∨ b = 5 := by omega
  clear hb
  rcases hbs with rfl | rfl | rfl | rfl | rfl | rfl
  all_goals
    go_enter Ybaf.func5, Ybaf.ntmps5
    go_wp2_with fail
    refine (scan_at F s i a _ hi HR _ hs' hF).mono ?_
    rintro e1 w1 ⟨t, rfl, ht, hb⟩
    simp only [whyIs, true_implies, false_implies, and_true, true_and] at ht
    try simp at ht
    try subst ht
    go_wp2_with (go_at_call 10; refine (model_at s i a _ hi HR _ hs').mono ?_; rintro e2 w2 ⟨rfl, rfl⟩)
    go_ret
    exact ⟨rfl, hb⟩

set_option maxHeartbeats 1000000 in
theorem law_model (F : Interp) (s : ByteArray) (k : Int) (hk : 0 ≤ k) (hk' : k ≤ 4294967295) (w : World) (hF : F.answers w.tape) :
    Calls Ybaf.prog 5 #[.string s, .int .u32 k] w fun e w' => e = .returned (.bool true) ∧ Below w.heap.size w w' := by
  by_cases h0 : s.size = 0
  · have hz : ((s.size : Int) == 0) = true := by simp [h0]
    clear h0
    go_enter Ybaf.func5, Ybaf.ntmps5
    go_wp2
    go_ret
    exact ⟨rfl, Below.refl _ _⟩
  by_cases h1 : 1048576 < s.size
  · have hz : ((s.size : Int) == 0) = false := by rw [beq_eq_false_iff_ne]; omega
    clear h0
    go_enter Ybaf.func5, Ybaf.ntmps5
    go_wp2
    go_ret
    exact ⟨rfl, Below.refl _ _⟩
  have hm0 := Int.emod_nonneg k (show (s.size : Int) ≠ 0 by omega)
  have hm1 := Int.emod_lt_of_pos k (show (0 : Int) < (s.size : Int) by omega)
  obtain ⟨i, hmod⟩ := Int.eq_ofNat_of_zero_le hm0
  obtain ⟨⟨a, b⟩, hR⟩ : ∃ R, sc i (s.data.toList.drop (i + 1)) (i + 1) 0 = R := ⟨_, rfl⟩
  have hb := sc_kind i (s.data.toList.drop (i + 1)) (i + 1) 0
  rw [hR] at hb
  exact law_model_in F s k i a b (by omega) hmod hR hb hk hk' w (by omega) hF
end Go.Proofs.YbulkcfeyFmt
