/-
  THE WALK of LawS4067BWellFormed (seat b4067aF).
-/
import Derived.Test.YbulkcfeyFmtOwn
import Derived.Test.YbulkcfeyFmtAlts
namespace Go.Proofs.YbulkcfeyFmt
open Go.RowKit Go.Extern.Stop Go.Stop Go.Extern
set_option linter.unusedSimpArgs false
set_option linter.unusedVariables false

theorem tabI {d : Nat} {c : UInt8} (hd : d < 32) (h : Hid (c = tabL.getD d 97)) : ((({ data := #[97, 98, 99, 88, 89, 90, 48, 57, 45, 95, 126, 33, 35, 36, 37, 38, 39, 40, 41, 43, 47, 59, 60, 61, 62, 63, 64, 91, 93, 94, 96, 124] } : ByteArray)[d]'(by exact hd)).toNat : Int) = (c.toNat : Int) := by
  rw [h.out, tabB d hd]
theorem numS (q : Nat) : Value.int .i64 ((q : Int) + 1) = .int .i64 ((q + 1 : Nat) : Int) := by simp
theorem tmod_byte (c : UInt8) : (wrap64 (c.toNat : Int)).tmod 32 = ((c.toNat % 32 : Nat) : Int) := by
  have h := c.toNat_lt
  have e : wrap64 (c.toNat : Int) = (c.toNat : Int) := by unfold wrap64; omega
  rw [e, Int.tmod_eq_emod_of_nonneg (by omega)]
  omega
theorem scan_at' (F : Interp) (s : ByteArray) (i a b : Nat) (hi : i < s.size) (HR : Hid (sc i (s.data.toList.drop (i + 1)) (i + 1) 0 = (a, b))) (w : World) (hs : s.size ≤ maxLen) (hF : F.answers w.tape) :
    Calls Ybaf.prog 9 #[.string s, .int .i64 i] w fun e w' => ∃ t, e = .returned (.tuple #[.int .i64 (a : Int), .string t]) ∧ whyIs b t ∧ Below w.heap.size w w' := by
  have h := scan_any F s i hi w hs hF
  rw [HR.out] at h
  exact h

set_option maxHeartbeats 2000000 in
theorem wf_in (F : Interp) (p t : ByteArray) (b off len cap : Nat) (S : Nat → ByteArray) (w : World) (hp : p.size ≤ 65536) (ht : t.size ≤ 65536) (hl0 : 0 < len) (hl1 : len ≤ 1024) (hbB : b < w.heap.size)
    (hc : ∀ i, i < len → w.cell? ⟨b, off + i, none⟩ = some (.string (S i))) (hF : F.answers w.tape) :
    Calls Ybaf.prog 6 #[.string p, .slice (some ⟨b, off, none⟩) len cap, .string t] w fun e w' => e = .returned (.bool true) ∧ Below w.heap.size w w' := by
  have HC : Hid (∀ i, i < len → w.cell? ⟨b, off + i, none⟩ = some (.string (S i))) := hc
  clear hc
  go_enter Ybaf.func6, Ybaf.ntmps6
  go_wp2
  go_loop [7] (fun i => ∃ k : Nat, k ≤ len ∧ i = .int .i64 k ∧ Hid (∀ j, j < k → (S j).size ≤ 256)) (fun i => len - (intOf i).toNat)
  case atStart => exact ⟨0, Nat.zero_le _, rfl, fun j hj => absurd hj (Nat.not_lt_zero _)⟩
  case round =>
    obtain ⟨k, hk, rfl, HK⟩ := hrel
    by_cases hlt : k < len
    · have hcell := HC.out k hlt
      by_cases h256 : (S k).size ≤ 256
      · go_wp2
        go_round
        case rel =>
          refine ⟨k + 1, by omega, by go_num, ?_⟩
          intro j hj
          rcases Nat.lt_succ_iff_lt_or_eq.1 hj with h | rfl
          · exact HK.out j h
          · exact h256
        case measure => simp [intOf]; omega
      · go_wp2
        go_ret
        exact ⟨rfl, Below.refl _ _⟩
    · obtain rfl : k = len := by omega
      go_wp2_with (first | (at_make; refine wp_make rfl _ _ rfl _ (p.size + t.size + 2) rfl rfl (by omega) (by omega) ?_; intro v0 w0 hO0) | (at_builtin; refine wp_push_str rfl (.tmp 47) (.tmp 48) rfl _ [] rfl hO0 p rfl (by simp) (by omega) ?_; intro v1 w1 hO1; rw [List.nil_append] at hO1; clear hO0) | (at_builtin; refine wp_push rfl (.tmp 50) (.tmp 51) rfl _ _ rfl hO1 123 _ rfl rfl (by simp; omega) ?_; intro v2 w2 hO2; clear hO1))
      go_loopw [8, 9] (fun v i wr => ∃ m : Nat, m ≤ k ∧ i = .int .i64 m ∧ Own w.heap.size w wr v (p.data.toList ++ [123] ++ acc S m)) (fun _ i _ => k - (intOf i).toNat)
      case atStart => exact ⟨0, Nat.zero_le _, rfl, by simpa [acc] using hO2⟩
      case round =>
        obtain ⟨m, hm, rfl, hO⟩ := hrel
        have hla := acc_le S k m hm HK.out
        clear hO2
        by_cases hlt2 : m < k
        · have hcell : wr.cell? ⟨b, off + m, none⟩ = some (.string (S m)) := (hO.bel.cell (by exact hbB)).trans (HC.out m hlt2)
          have h256 := HK.out m hlt2
          have HL : Hid ((p.data.toList ++ [123] ++ acc S m).length ≤ 1000000) := by show _ ≤ _; simp; omega
          have HL2 : Hid ((p.data.toList ++ [123] ++ acc S m ++ [44]).length ≤ 1000000) := by show _ ≤ _; simp; omega
          have hsz : ((S m).size : Int) ≤ 256 := by omega
          have key : ∃ z : Bool, (((S m).size : Int) == 0) = z ∧ Hid (z = true ↔ (S m).size = 0) := by
            refine ⟨_, rfl, ?_⟩
            show _ ↔ _
            simp
          obtain ⟨z, hz, HZ⟩ := key
          rcases Nat.lt_or_ge 0 m with hm0 | hm0 <;> cases z
          case inl.false =>
            go_wp2_with (first | (at_builtin; refine wp_push rfl (.tmp 61) (.tmp 62) rfl _ _ rfl hO 44 _ rfl rfl (Nat.le_trans HL.out (by decide)) ?_; intro v3 w3 hO3; have hcell3 : w3.cell? ⟨b, off + m, none⟩ = some (.string (S m)) := (hO3.bel.cell (by exact hbB)).trans (HC.out m hlt2)))
            have hX : Own w.heap.size w w3 v3 (mid p S m) := by
              have h2 : ¬ (S m).size = 0 := fun h => by have := HZ.out.2 h; cases this
              simpa [mid, sep, pre, h2, show ¬ m = 0 by omega] using hO3
            clear hO hO3 hcell hcell3
            clear HL HL2 hz HZ hm0
            go_loopw [8, 10] (fun v i wr => ∃ q : Nat, q ≤ (S m).size ∧ i = .int .i64 q ∧ Own w.heap.size w wr v (mid p S m ++ ((S m).data.toList.take q).map tab)) (fun _ i _ => (S m).size - (intOf i).toNat)
            case atStart => exact ⟨0, Nat.zero_le _, rfl, by simpa using hX⟩
            case round =>
              obtain ⟨q, hq, rfl, hO⟩ := hrel
              clear hX
              have hcell : wr.cell? ⟨b, off + m, none⟩ = some (.string (S m)) := (hO.bel.cell (by exact hbB)).trans (HC.out m hlt2)
              by_cases hlt3 : q < (S m).size
              · obtain ⟨d, hd, HD⟩ : ∃ d : Nat, d < 32 ∧ Hid (d = (S m)[q].toNat % 32) := ⟨(S m)[q].toNat % 32, by omega, rfl⟩
                have hdlt : (d : Int) < 32 := by omega
                have hq1 : (q : Int) + 1 ≤ 257 := by omega
                have hdi : (wrap64 ((S m)[q].toNat : Int)).tmod 32 = (d : Int) := by rw [HD.out]; exact tmod_byte _
                have HL : Hid ((mid p S m ++ ((S m).data.toList.take q).map tab).length ≤ 1000000) := by show _ ≤ _; exact mid_len p S m q k hp hl1 hlt2 HK.out hla hq
                have hT : Hid (tab (S m)[q] = tabL.getD d 97) := by show _ = _; rw [HD.out]; rfl
                have HS : Hid _ := mid_step p S m q hlt3
                go_wp2_with (first | (at_builtin; refine wp_push rfl (.tmp 82) (.tmp 92) rfl _ _ rfl hO (tab (S m)[q]) _ (tabI hd hT) rfl (Nat.le_trans HL.out (by decide)) ?_; intro v4 w4 hO4; clear hdi; rw [HS.out] at hO4))
                go_roundw
                case rel => first | exact ⟨q + 1, by omega, by go_num, hO4⟩ | ((repeat apply Exists.intro); exact ⟨⟨q + 1, by omega, numS q, hO4⟩, rfl⟩)
                case measure => simp [intOf]; omega
              · have HS := mid_end p S m q (by omega)
                rw [HS] at hO
                clear HS
                go_wp2
                go_roundw
                case rel => first | exact ⟨m + 1, by omega, by go_num, hO⟩ | ((repeat apply Exists.intro); exact ⟨⟨m + 1, by omega, numS m, hO⟩, rfl⟩)
                case measure => simp [intOf]; omega
          case inl.true =>
            go_wp2_with (first | (at_builtin; refine wp_push rfl (.tmp 61) (.tmp 62) rfl _ _ rfl hO 44 _ rfl rfl (Nat.le_trans HL.out (by decide)) ?_; intro v3 w3 hO3; have hcell3 : w3.cell? ⟨b, off + m, none⟩ = some (.string (S m)) := (hO3.bel.cell (by exact hbB)).trans (HC.out m hlt2)) | (at_builtin; refine wp_push rfl (.tmp 70) (.tmp 71) rfl _ _ rfl hO3 97 _ rfl rfl (Nat.le_trans HL2.out (by decide)) ?_; intro v4 w4 hO4))
            have hX : Own w.heap.size w w4 v4 (mid p S m) := by
              have h2 : (S m).size = 0 := HZ.out.1 (by simp)
              simpa [mid, sep, pre, h2, show ¬ m = 0 by omega] using hO4
            clear hO hO3 hO4 hcell hcell3
            clear HL HL2 hz HZ hm0
            go_loopw [8, 10] (fun v i wr => ∃ q : Nat, q ≤ (S m).size ∧ i = .int .i64 q ∧ Own w.heap.size w wr v (mid p S m ++ ((S m).data.toList.take q).map tab)) (fun _ i _ => (S m).size - (intOf i).toNat)
            case atStart => exact ⟨0, Nat.zero_le _, rfl, by simpa using hX⟩
            case round =>
              obtain ⟨q, hq, rfl, hO⟩ := hrel
              clear hX
              have hcell : wr.cell? ⟨b, off + m, none⟩ = some (.string (S m)) := (hO.bel.cell (by exact hbB)).trans (HC.out m hlt2)
              by_cases hlt3 : q < (S m).size
              · obtain ⟨d, hd, HD⟩ : ∃ d : Nat, d < 32 ∧ Hid (d = (S m)[q].toNat % 32) := ⟨(S m)[q].toNat % 32, by omega, rfl⟩
                have hdlt : (d : Int) < 32 := by omega
                have hq1 : (q : Int) + 1 ≤ 257 := by omega
                have hdi : (wrap64 ((S m)[q].toNat : Int)).tmod 32 = (d : Int) := by rw [HD.out]; exact tmod_byte _
                have HL : Hid ((mid p S m ++ ((S m).data.toList.take q).map tab).length ≤ 1000000) := by show _ ≤ _; exact mid_len p S m q k hp hl1 hlt2 HK.out hla hq
                have hT : Hid (tab (S m)[q] = tabL.getD d 97) := by show _ = _; rw [HD.out]; rfl
                have HS : Hid _ := mid_step p S m q hlt3
                go_wp2_with (first | (at_builtin; refine wp_push rfl (.tmp 82) (.tmp 92) rfl _ _ rfl hO (tab (S m)[q]) _ (tabI hd hT) rfl (Nat.le_trans HL.out (by decide)) ?_; intro v4 w4 hO4; clear hdi; rw [HS.out] at hO4))
                go_roundw
                case rel => first | exact ⟨q + 1, by omega, by go_num, hO4⟩ | ((repeat apply Exists.intro); exact ⟨⟨q + 1, by omega, numS q, hO4⟩, rfl⟩)
                case measure => simp [intOf]; omega
              · have HS := mid_end p S m q (by omega)
                rw [HS] at hO
                clear HS
                go_wp2
                go_roundw
                case rel => first | exact ⟨m + 1, by omega, by go_num, hO⟩ | ((repeat apply Exists.intro); exact ⟨⟨m + 1, by omega, numS m, hO⟩, rfl⟩)
                case measure => simp [intOf]; omega
          case inr.false =>
            have hd0 : decide (0 < m) = false := decide_eq_false (by omega)
            go_wp2
            have hX : Own w.heap.size w wr u8 (mid p S m) := by
              have h2 : ¬ (S m).size = 0 := fun h => by have := HZ.out.2 h; cases this
              obtain rfl : m = 0 := by omega
              simpa [mid, sep, pre, h2] using hO
            clear hO hcell
            clear HL HL2 hz HZ hm0
            go_loopw [8, 10] (fun v i wr => ∃ q : Nat, q ≤ (S m).size ∧ i = .int .i64 q ∧ Own w.heap.size w wr v (mid p S m ++ ((S m).data.toList.take q).map tab)) (fun _ i _ => (S m).size - (intOf i).toNat)
            case atStart => exact ⟨0, Nat.zero_le _, rfl, by simpa using hX⟩
            case round =>
              obtain ⟨q, hq, rfl, hO⟩ := hrel
              clear hX
              have hcell : wr.cell? ⟨b, off + m, none⟩ = some (.string (S m)) := (hO.bel.cell (by exact hbB)).trans (HC.out m hlt2)
              by_cases hlt3 : q < (S m).size
              · obtain ⟨d, hd, HD⟩ : ∃ d : Nat, d < 32 ∧ Hid (d = (S m)[q].toNat % 32) := ⟨(S m)[q].toNat % 32, by omega, rfl⟩
                have hdlt : (d : Int) < 32 := by omega
                have hq1 : (q : Int) + 1 ≤ 257 := by omega
                have hdi : (wrap64 ((S m)[q].toNat : Int)).tmod 32 = (d : Int) := by rw [HD.out]; exact tmod_byte _
                have HL : Hid ((mid p S m ++ ((S m).data.toList.take q).map tab).length ≤ 1000000) := by show _ ≤ _; exact mid_len p S m q k hp hl1 hlt2 HK.out hla hq
                have hT : Hid (tab (S m)[q] = tabL.getD d 97) := by show _ = _; rw [HD.out]; rfl
                have HS : Hid _ := mid_step p S m q hlt3
                go_wp2_with (first | (at_builtin; refine wp_push rfl (.tmp 82) (.tmp 92) rfl _ _ rfl hO (tab (S m)[q]) _ (tabI hd hT) rfl (Nat.le_trans HL.out (by decide)) ?_; intro v4 w4 hO4; clear hdi; rw [HS.out] at hO4))
                go_roundw
                case rel => first | exact ⟨q + 1, by omega, by go_num, hO4⟩ | ((repeat apply Exists.intro); exact ⟨⟨q + 1, by omega, numS q, hO4⟩, rfl⟩)
                case measure => simp [intOf]; omega
              · have HS := mid_end p S m q (by omega)
                rw [HS] at hO
                clear HS
                go_wp2
                go_roundw
                case rel => first | exact ⟨m + 1, by omega, by go_num, hO⟩ | ((repeat apply Exists.intro); exact ⟨⟨m + 1, by omega, numS m, hO⟩, rfl⟩)
                case measure => simp [intOf]; omega
          case inr.true =>
            go_wp2_with (first | (at_builtin; refine wp_push rfl (.tmp 70) (.tmp 71) rfl _ _ rfl hO 97 _ rfl rfl (Nat.le_trans HL.out (by decide)) ?_; intro v4 w4 hO4))
            have hX : Own w.heap.size w w4 v4 (mid p S m) := by
              have h2 : (S m).size = 0 := HZ.out.1 (by simp)
              obtain rfl : m = 0 := by omega
              simpa [mid, sep, pre, h2] using hO4
            clear hO hO4 hcell
            clear HL HL2 hz HZ hm0
            go_loopw [8, 10] (fun v i wr => ∃ q : Nat, q ≤ (S m).size ∧ i = .int .i64 q ∧ Own w.heap.size w wr v (mid p S m ++ ((S m).data.toList.take q).map tab)) (fun _ i _ => (S m).size - (intOf i).toNat)
            case atStart => exact ⟨0, Nat.zero_le _, rfl, by simpa using hX⟩
            case round =>
              obtain ⟨q, hq, rfl, hO⟩ := hrel
              clear hX
              have hcell : wr.cell? ⟨b, off + m, none⟩ = some (.string (S m)) := (hO.bel.cell (by exact hbB)).trans (HC.out m hlt2)
              by_cases hlt3 : q < (S m).size
              · obtain ⟨d, hd, HD⟩ : ∃ d : Nat, d < 32 ∧ Hid (d = (S m)[q].toNat % 32) := ⟨(S m)[q].toNat % 32, by omega, rfl⟩
                have hdlt : (d : Int) < 32 := by omega
                have hq1 : (q : Int) + 1 ≤ 257 := by omega
                have hdi : (wrap64 ((S m)[q].toNat : Int)).tmod 32 = (d : Int) := by rw [HD.out]; exact tmod_byte _
                have HL : Hid ((mid p S m ++ ((S m).data.toList.take q).map tab).length ≤ 1000000) := by show _ ≤ _; exact mid_len p S m q k hp hl1 hlt2 HK.out hla hq
                have hT : Hid (tab (S m)[q] = tabL.getD d 97) := by show _ = _; rw [HD.out]; rfl
                have HS : Hid _ := mid_step p S m q hlt3
                go_wp2_with (first | (at_builtin; refine wp_push rfl (.tmp 82) (.tmp 92) rfl _ _ rfl hO (tab (S m)[q]) _ (tabI hd hT) rfl (Nat.le_trans HL.out (by decide)) ?_; intro v4 w4 hO4; clear hdi; rw [HS.out] at hO4))
                go_roundw
                case rel => first | exact ⟨q + 1, by omega, by go_num, hO4⟩ | ((repeat apply Exists.intro); exact ⟨⟨q + 1, by omega, numS q, hO4⟩, rfl⟩)
                case measure => simp [intOf]; omega
              · have HS := mid_end p S m q (by omega)
                rw [HS] at hO
                clear HS
                go_wp2
                go_roundw
                case rel => first | exact ⟨m + 1, by omega, by go_num, hO⟩ | ((repeat apply Exists.intro); exact ⟨⟨m + 1, by omega, numS m, hO⟩, rfl⟩)
                case measure => simp [intOf]; omega
        · obtain rfl : m = k := by omega
          have HL : Hid ((p.data.toList ++ [123] ++ acc S m).length ≤ 1000000) := by show _ ≤ _; simp; omega
          have HN : Hid ((p.data.toList ++ [123] ++ acc S m ++ [125]).length = p.size + 1 + (acc S m).length + 1) := built_len1 p S m
          obtain ⟨N, hN⟩ : ∃ N, N = p.size + 1 + (acc S m).length + 1 := ⟨_, rfl⟩
          rw [← hN] at HN
          obtain ⟨s, hs⟩ : ∃ s : ByteArray, s = ⟨(built p t S m).toArray⟩ := ⟨_, rfl⟩
          have hsl : s.data.toList = built p t S m := by rw [hs]
          have HSZ : Hid ((p.data.toList ++ [123] ++ acc S m ++ [125] ++ t.data.toList).length = s.size) := by
            rw [hs]
            exact built_len p t S m
          have hsz : s.size = N + t.size := by rw [hs, hN]; exact built_size p t S m
          have HR : Hid (sc p.size (s.data.toList.drop (p.size + 1)) (p.size + 1) 0 = (N, 0)) := by
            show _ = _
            rw [hsl, hN]
            exact built_sc p t S m hl0
          have HS : Hid (s = ⟨(built p t S m).toArray⟩) := hs
          have hi : p.size < s.size := by omega
          have hsm : s.size ≤ maxLen := by unfold maxLen; omega
          have hNb : N ≤ 1000000 := by omega
          have hN0 : 0 < N := by omega
          clear hs hsl hsz hN
          go_wp2_with (first | (at_builtin; refine wp_push_out rfl (.tmp 94) (.tmp 95) rfl _ _ rfl hO 125 _ rfl rfl (Nat.le_trans HL.out (by decide)) N HN.out ?_; intro g5 c5 w5 hO5) | (at_builtin; refine wp_push_str_out rfl (.tmp 99) (.tmp 100) rfl _ _ rfl hO5 t rfl (by rw [HN.out]; omega) (by omega) (by rw [HN.out]; omega) s.size HSZ.out ?_; intro g6 c6 w6 hO6; have hstr := hO6.string HSZ.out s HS.out) | (go_at_call 9; refine (scan_at' F s p.size N 0 hi HR _ hsm (by rw [hO6.bel.tape]; exact hF)).mono ?_; rintro e7 w7 ⟨u, rfl, hu, hb7⟩; obtain rfl := hu.1 rfl))
          go_ret
          exact ⟨rfl, hO6.bel.trans (hb7.mono hO6.size)⟩

set_option maxHeartbeats 2000000 in
/-- No alternative at all. -/
theorem wf_none (F : Interp) (p t : ByteArray) (a : Option Addr) (cap : Nat) (w : World) (hp : p.size ≤ 65536) (ht : t.size ≤ 65536) (hF : F.answers w.tape) :
    Calls Ybaf.prog 6 #[.string p, .slice a 0 cap, .string t] w fun e w' => e = .returned (.bool true) ∧ Below w.heap.size w w' := by
  go_enter Ybaf.func6, Ybaf.ntmps6
  go_wp2
  refine wp_loop_rounds 1 ?_
  rw [rounds_succ]
  go_wp2_with (first | (at_make; refine wp_make rfl _ _ rfl _ (p.size + t.size + 2) rfl rfl (by omega) (by omega) ?_; intro v0 w0 hO0) | (at_builtin; refine wp_push_str rfl (.tmp 47) (.tmp 48) rfl _ [] rfl hO0 p rfl (by simp) (by omega) ?_; intro v1 w1 hO1; rw [List.nil_append] at hO1; clear hO0) | (at_builtin; refine wp_push rfl (.tmp 50) (.tmp 51) rfl _ _ rfl hO1 123 _ rfl rfl (by simp; omega) ?_; intro v2 w2 hO2; clear hO1))
  have hO : Own w.heap.size w w2 v2 (p.data.toList ++ [123] ++ acc (fun _ => ByteArray.empty) 0) := by simpa [acc] using hO2
  clear hO2
  refine wp_loop_rounds 1 ?_
  rw [rounds_succ]
  obtain ⟨S, hS⟩ : ∃ S : Nat → ByteArray, S = fun _ => ByteArray.empty := ⟨_, rfl⟩
  rw [← hS] at hO
  clear hS
  have hacc : (acc S 0).length = 0 := rfl
  have HL : Hid ((p.data.toList ++ [123] ++ acc S 0).length ≤ 1000000) := by show _ ≤ _; simp [acc]; omega
  have HN : Hid ((p.data.toList ++ [123] ++ acc S 0 ++ [125]).length = p.size + 1 + (acc S 0).length + 1) := built_len1 p S 0
  obtain ⟨N, hN⟩ : ∃ N, N = p.size + 1 + (acc S 0).length + 1 := ⟨_, rfl⟩
  rw [← hN] at HN
  obtain ⟨s, hs⟩ : ∃ s : ByteArray, s = ⟨(built p t S 0).toArray⟩ := ⟨_, rfl⟩
  have hsl : s.data.toList = built p t S 0 := by rw [hs]
  have HSZ : Hid ((p.data.toList ++ [123] ++ acc S 0 ++ [125] ++ t.data.toList).length = s.size) := by
    rw [hs]
    exact built_len p t S 0
  have hsz : s.size = N + t.size := by rw [hs, hN]; exact built_size p t S 0
  have HR : Hid (sc p.size (s.data.toList.drop (p.size + 1)) (p.size + 1) 0 = (p.size + 1, 2)) := by
    show _ = _
    rw [hsl]
    exact built_sc0 p t S
  have HS : Hid (s = ⟨(built p t S 0).toArray⟩) := hs
  have hi : p.size < s.size := by omega
  have hsm : s.size ≤ maxLen := by unfold maxLen; omega
  have hNb : N ≤ 1000000 := by omega
  have hN0 : 0 < N := by omega
  clear hs hsl hsz hN hacc
  go_wp2_with (first | (at_builtin; refine wp_push_out rfl (.tmp 94) (.tmp 95) rfl _ _ rfl hO 125 _ rfl rfl (Nat.le_trans HL.out (by decide)) N HN.out ?_; intro g5 c5 w5 hO5) | (at_builtin; refine wp_push_str_out rfl (.tmp 99) (.tmp 100) rfl _ _ rfl hO5 t rfl (by rw [HN.out]; omega) (by omega) (by rw [HN.out]; omega) s.size HSZ.out ?_; intro g6 c6 w6 hO6; have hstr := hO6.string HSZ.out s HS.out) | (go_at_call 9; refine (scan_at' F s p.size (p.size + 1) 2 hi HR _ hsm (by rw [hO6.bel.tape]; exact hF)).mono ?_; rintro e7 w7 ⟨u, rfl, hu, hb7⟩; obtain rfl := hu.2.2.1 rfl))
  go_ret
  exact ⟨rfl, hO6.bel.trans (hb7.mono hO6.size)⟩

set_option maxHeartbeats 1000000 in
/-- Too long: true at once. -/
theorem wf_long (p t : ByteArray) (a : Option Addr) (len cap : Nat) (w : World) (h : 65536 < p.size ∨ 65536 < t.size ∨ 1024 < len) :
    Calls Ybaf.prog 6 #[.string p, .slice a len cap, .string t] w fun e w' => e = .returned (.bool true) ∧ Below w.heap.size w w' := by
  by_cases h1 : 65536 < p.size
  · go_enter Ybaf.func6, Ybaf.ntmps6
    go_wp2
    go_ret
    exact ⟨rfl, Below.refl _ _⟩
  by_cases h2 : 65536 < t.size
  · go_enter Ybaf.func6, Ybaf.ntmps6
    go_wp2
    go_ret
    exact ⟨rfl, Below.refl _ _⟩
  have h3 : 1024 < len := by omega
  clear h
  go_enter Ybaf.func6, Ybaf.ntmps6
  go_wp2
  go_ret
  exact ⟨rfl, Below.refl _ _⟩
end Go.Proofs.YbulkcfeyFmt
