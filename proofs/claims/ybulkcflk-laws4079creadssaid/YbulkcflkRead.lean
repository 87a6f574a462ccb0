/-
  THE WALK of (*scanner).readWhile (seat b4079a).
-/
import Derived.Test.YbulkcflkScan
import Derived.Test.YbulkcflkPlain
import Derived.Deep.LoopGhost
import Derived.Deep.DrawnRows
import Derived.Deep.RegionWith
import Derived.BigRegion
namespace Go.Proofs.Ybulkcflk
open Go.RowKit
set_option linter.unusedVariables false

theorem St.turned {B : Nat} {w wr w' : World} {Bb Bs Bc Bl n : Nat} {zs : List Int} {SB : Nat → Bool} {o L C o' L' C' : Int} {vl : Value} {lg : List Int} (h : St B w wr Bb Bs Bc Bl n zs SB o L C vl lg)
    (hc : w'.heap[Bc]? = some (.cells (five (.slice (some ⟨Bb, 0, none⟩) n n) o' L' C') 29 (0, 0))) (hg : wr.grownBy w' (some Bc)) : St B w w' Bb Bs Bc Bl n zs SB o' L' C' vl lg := by
  obtain ⟨cset, hset, hset1, hset2⟩ := h.set
  have keep : ∀ (k : Nat) (cs : Array Value) (e : TypeId), wr.heap[k]? = some (.cells cs e (0, 0)) → e ≠ (29 : TypeId) → w'.heap[k]? = some (.cells cs e (0, 0)) := fun k cs e hk he =>
    (hg.block k (lt_of_block hk) (fun e' => blk_ne hk h.scn he (by simpa using e'))).trans hk
  refine ⟨keep _ _ 5 h.buf (by decide), ⟨cset, keep _ _ 24 hset (by decide), hset1, hset2⟩, hc, keep _ _ 30 h.log (by decide), ?_, ?_, h.lo⟩
  · exact h.row.kept hg (Or.inr (own_far h.row h.scn (by decide)))
  · have := lt_of_block h.scn
    have := h.lo.2.2.1
    exact h.bel.grown hg (by omega) (fun k hk => by simp only [Option.some.injEq] at hk; omega)

theorem St.drewN {B : Nat} {w wr : World} {Bb Bs Bc Bl n : Nat} {zs : List Int} {SB : Nat → Bool} {o L C : Int} {vl : Value} {lg : List Int} (h : St B w wr Bb Bs Bc Bl n zs SB o L C vl lg) (q : Nat) : St B w (wr.drewN q) Bb Bs Bc Bl n zs SB o L C vl lg :=
  ⟨h.buf, h.set, h.scn, h.log, h.row, below_drewN h.bel q, h.lo⟩
theorem St.drew {B : Nat} {w wr : World} {Bb Bs Bc Bl n : Nat} {zs : List Int} {SB : Nat → Bool} {o L C : Int} {vl : Value} {lg : List Int} (h : St B w wr Bb Bs Bc Bl n zs SB o L C vl lg) : St B w wr.drew Bb Bs Bc Bl n zs SB o L C vl lg := h.drewN 1

/-- What the region's loads read. -/
theorem St.c0 {B : Nat} {w wr : World} {Bb Bs Bc Bl n : Nat} {zs : List Int} {SB : Nat → Bool} {o L C : Int} {vl : Value} {lg : List Int} (h : St B w wr Bb Bs Bc Bl n zs SB o L C vl lg) : wr.cell? ⟨Bc, 0, none⟩ = some (.slice (some ⟨Bb, 0, none⟩) n n) := by rw [blk_cell h.scn]; rfl
theorem St.c1 {B : Nat} {w wr : World} {Bb Bs Bc Bl n : Nat} {zs : List Int} {SB : Nat → Bool} {o L C : Int} {vl : Value} {lg : List Int} (h : St B w wr Bb Bs Bc Bl n zs SB o L C vl lg) : wr.cell? ⟨Bc, 1, none⟩ = some (.int .i64 o) := by rw [blk_cell h.scn]; rfl
theorem St.cb {B : Nat} {w wr : World} {Bb Bs Bc Bl n : Nat} {zs : List Int} {SB : Nat → Bool} {o L C : Int} {vl : Value} {lg : List Int} (h : St B w wr Bb Bs Bc Bl n zs SB o L C vl lg) (i : Nat) (hi : i < zs.length) : wr.cell? ⟨Bb, i, none⟩ = some (.int .u8 (zs.getD i 0)) := by
  rw [blk_cell h.buf]
  simp [nc, List.getD_eq_getElem?_getD, hi]

theorem advance_any (N : Nat) (src : Value) (o L C r L' C' : Int) (w : World) (h : w.heap[N]? = some (.cells (five src o L C) 29 (0, 0))) (ho0 : 0 ≤ o) (ho1 : o ≤ 100000) (hL : Hid (L' = if r = 10 then wrap64 (L + 1) else L)) (hC : Hid (C' = if r = 10 then 1 else wrap64 (C + 1))) :
    Calls Yba.prog 6 #[.pointer (some ⟨N, 0, none⟩), .int .i32 r, .int .i64 1] w fun e w' => e = .returned (.tuple #[]) ∧ w'.heap[N]? = some (.cells (five src (o + 1) L' C') 29 (0, 0)) ∧ w.grownBy w' (some N) := by
  rw [hL.out, hC.out]
  by_cases hr : r = 10
  · subst hr
    exact advance_nl N src o L C w h ho0 ho1
  · rw [if_neg hr, if_neg hr]
    exact advance_ch N src o L C r w h ho0 ho1 (by rw [beq_eq_false_iff_ne]; exact hr)

/-- Numbers as a string. -/
def strOf (l : List Int) : ByteArray := ⟨(l.map fun x => UInt8.ofNat x.toNat).toArray⟩

/-- 'string(src[off:off+m])'. -/
theorem St.conv {B : Nat} {w wr : World} {Bb Bs Bc Bl n off m e : Nat} {zs : List Int} {SB : Nat → Bool} {o L C : Int} {vl : Value} {lg : List Int} (h : St B w wr Bb Bs Bc Bl n zs SB o L C vl lg) (hzn : zs.length = n) (hz : ∀ i, 0 ≤ zs.getD i 0 ∧ zs.getD i 0 ≤ 255) (he : e = off + m) (hm : e ≤ n) :
    (∀ q, (convert 22 9 (.slice (some ⟨Bb, off, none⟩) (e - off) (n - off))).run Yba.prog (wr.drewN q) = .ok (.string (strOf (part zs off m))) (wr.drewN q)) := by
  intro q
  have hpl : (part zs off m).length = m := part_length zs off m (by omega)
  have hl : e - off = ((part zs off m).map fun x => UInt8.ofNat x.toNat).length := by rw [List.length_map, hpl]; omega
  rw [hl]
  refine run_convert_bytes_back (P := Yba.prog) (wr.drewN q) 22 9 5 ⟨Bb, off, none⟩ (n - off) _ Yba.underlying22 Yba.underlying5 Yba.underlying9 ?_
  intro j hj
  rw [List.length_map, hpl] at hj
  rw [Addr.add_lit]
  show wr.cell? ⟨Bb, off + j, none⟩ = _
  rw [h.cb (off + j) (by omega)]
  have hg : (part zs off m)[j]'(by rw [hpl]; exact hj) = zs.getD (off + j) 0 := by
    unfold part
    rw [List.getElem_take, List.getElem_drop, List.getD_eq_getElem?_getD, List.getElem?_eq_getElem (by omega)]
    rfl
  have hb := hz (off + j)
  rw [List.getElem_map, hg]
  congr 2
  have : (zs.getD (off + j) 0).toNat < 256 := by omega
  rw [UInt8.toNat_ofNat_of_lt' this]
  omega

theorem conv_zero (w : World) (Bb c : Nat) (q : Nat) : (convert 22 9 (.slice (some ⟨Bb, 0, none⟩) 0 c)).run Yba.prog (w.drewN q) = .ok (.string (strOf [])) (w.drewN q) := by
  rw [run_convert_bytes_string (w.drewN q) 22 9 5 _ 0 c Yba.underlying22 Yba.underlying5 Yba.underlying9]
  simp [Conv.bytesToString, loadCells]
  rfl

theorem wrap32_byte (c : Nat) (h : c < 256) : IntKind.i32.wrap (c : Int) = (c : Int) := by
  simp [IntKind.wrap, IntKind.bits, IntKind.signed]
  omega

set_option maxHeartbeats 1000000 in
theorem read_any (B : Nat) (w wr : World) (Bb Bs Bc Bl n : Nat) (zs : List Int) (SB : Nat → Bool) (off : Nat) (line col : Int) (vl : Value) (h : St B w wr Bb Bs Bc Bl n zs SB (off : Int) line col vl []) (hzn : zs.length = n) (hn : n ≤ 1024) (hoff : off ≤ n) (hz : ∀ i, 0 ≤ zs.getD i 0 ∧ zs.getD i 0 ≤ 255) (m : Nat) (HM : Hid (m = rl SB (zs.drop off))) :
    Calls Yba.prog 4 #[.pointer (some ⟨Bc, 0, none⟩), .func (.func 5) #[] #[.pointer (some ⟨Bl, 0, none⟩), .pointer (some ⟨Bs, 0, none⟩)]] wr fun e w' => ∃ vl', e = .returned (.string (strOf (part zs off m))) ∧ St B w w' Bb Bs Bc Bl n zs SB ((off + m : Nat) : Int) (posL line (part zs off m)) (posC col (part zs off m)) vl' (part zs off (m + 1)) := by
  have hc1 := h.c1
  have H := hide h
  have HZ := hide hz
  have HZN := hide hzn
  clear h hz hzn
  go_enter Yba.func4, Yba.ntmps4
  go_wp2
  clear hc1
  go_loopg [] (n - off) (fun g wr => ∃ (k : Nat) (vl : Value), off + k ≤ n ∧ g = n - (off + k) ∧ Hid (m = k + rl SB (zs.drop (off + k))) ∧ Hid (St B w wr Bb Bs Bc Bl n zs SB ((off + k : Nat) : Int) (posL line (part zs off k)) (posC col (part zs off k)) vl (part zs off k)))
  case atStart => exact ⟨0, vl, by omega, by omega, by rw [Nat.zero_add]; exact HM, H⟩
  case round =>
    obtain ⟨k, vl, hk, hg, HMk, HS⟩ := hrel
    by_cases hlt : off + k < n
    · obtain ⟨x, hx⟩ : ∃ x, x = zs.getD (off + k) 0 := ⟨_, rfl⟩
      have hzx := HZ.out (off + k)
      rw [← hx] at hzx
      obtain ⟨c, hcx⟩ := Int.eq_ofNat_of_zero_le hzx.1
      subst hcx
      have hc256 : c < 256 := by omega
      have d0 := HS.out.c0
      have d1 := HS.out.c1
      have d2 : wr.cell? ⟨Bb, off + k, none⟩ = some (.int .u8 (c : Int)) := by rw [HS.out.cb (off + k) (by have := HZN.out; omega), ← hx]
      have HX : Hid ((c : Int) = zs.getD (off + k) 0) := hx
      have hlt1 : ((off + k : Nat) : Int) < (n : Int) := by omega
      obtain ⟨i, hi⟩ : ∃ i : Nat, i = off + k := ⟨_, rfl⟩
      rw [← hi] at d1 d2 hlt1
      have HI : Hid (i = off + k) := hi
      have HLG : Hid ((part zs off k).length ≤ 100000) := by show _ ≤ _; rw [part_length zs off k (by have := HZN.out; omega)]; omega
      have hi0 : (0 : Int) ≤ (i : Int) := by omega
      have hib : (i : Int) ≤ 1024 := by omega
      have hwr : IntKind.i32.wrap (c : Int) = (c : Int) := wrap32_byte c hc256
      clear hx hi hzx
      by_cases hb : SB c = true
      · go_wp2
        go_region_held3 (fun w' => w'.cell? ⟨Bc, 0, none⟩ = some (.slice (some ⟨Bb, 0, none⟩) n n) ∧ w'.cell? ⟨Bc, 1, none⟩ = some (.int .i64 (i : Int)) ∧ w'.cell? ⟨Bb, i, none⟩ = some (.int .u8 (c : Int))) (go_keep)
          (first | (go_at_call 5; refine (pred_any B w _ Bb Bs Bc Bl n zs SB _ _ _ vl (part zs off k) (by exact HS.out.drew) HLG.out c hc256 true hb).mono ?_; rintro e w1 ⟨rfl, vl', hS1⟩; have k0 := hS1.c0; have k1 := hS1.c1; rw [← HI.out] at k1; have k2 : w1.cell? ⟨Bb, i, none⟩ = some (.int .u8 (c : Int)) := by rw [HI.out, hS1.cb (off + k) (by have := HZN.out; omega), ← HX.out]))
        have HS1 := hide hS1
        have HP1 : Hid (part zs off (k + 1) = part zs off k ++ [(c : Int)]) := by rw [HX.out]; exact part_succ zs off k (by have := HZN.out; omega)
        have HL' : Hid (posL line (part zs off (k + 1)) = if (c : Int) = 10 then wrap64 (posL line (part zs off k) + 1) else posL line (part zs off k)) := by rw [HP1.out]; exact posL_snoc _ _ _
        have HC' : Hid (posC col (part zs off (k + 1)) = if (c : Int) = 10 then 1 else wrap64 (posC col (part zs off k) + 1)) := by rw [HP1.out]; exact posC_snoc _ _ _
        clear hS1 d0 d1 d2
        go_wp2
        go_region_with (first | (go_at_call 6; refine (advance_any Bc _ _ _ _ (c : Int) _ _ _ (by exact HS1.out.drew.scn) (by omega) (by omega) HL' HC').mono ?_; rintro e w2 ⟨rfl, hc2, hg2⟩; have hS2 := HS1.out.drew.turned hc2 hg2; clear hc2 hg2))
        all_goals
          have HS2 : Hid (St B w w2 Bb Bs Bc Bl n zs SB ((off + (k + 1) : Nat) : Int) (posL line (part zs off (k + 1))) (posC col (part zs off (k + 1))) vl' (part zs off (k + 1))) := by
            have e : ((off + k : Nat) : Int) + 1 = ((off + (k + 1) : Nat) : Int) := by omega
            rw [HP1.out, ← e]
            rw [HP1.out] at hS2
            exact hS2
          have HMk' : Hid (m = k + 1 + rl SB (zs.drop (off + (k + 1)))) := by
            have h1 := HMk.out
            rw [rl_at SB zs (off + k) (by have := HZN.out; omega), ← HX.out, Int.toNat_natCast, if_pos hb] at h1
            show m = _
            rw [← Nat.add_assoc off k 1]
            omega
          clear hS2
          go_wp2
          go_roundg (n - (off + (k + 1)))
          case measure => omega
          case rel => exact ⟨k + 1, vl', by omega, rfl, HMk', HS2⟩
      · have hbf : SB c = false := by simpa using hb
        have HMm : Hid (m = k) := by
          have h1 := HMk.out
          rw [rl_at SB zs (off + k) (by have := HZN.out; omega), ← HX.out, Int.toNat_natCast, if_neg hb] at h1
          exact h1
        clear hb
        go_wp2
        go_region_held3 (fun w' => w'.cell? ⟨Bc, 0, none⟩ = some (.slice (some ⟨Bb, 0, none⟩) n n) ∧ w'.cell? ⟨Bc, 1, none⟩ = some (.int .i64 (i : Int)) ∧ w'.cell? ⟨Bb, i, none⟩ = some (.int .u8 (c : Int))) (go_keep)
          (first | (go_at_call 5; refine (pred_any B w _ Bb Bs Bc Bl n zs SB _ _ _ vl (part zs off k) (by exact HS.out.drew) HLG.out c hc256 false hbf).mono ?_; rintro e w1 ⟨rfl, vl', hS1⟩; have k0 := hS1.c0; have k1 := hS1.c1; rw [← HI.out] at k1; have k2 : w1.cell? ⟨Bb, i, none⟩ = some (.int .u8 (c : Int)) := by rw [HI.out, hS1.cb (off + k) (by have := HZN.out; omega), ← HX.out]))
        have HSF : Hid (St B w w1 Bb Bs Bc Bl n zs SB ((off + m : Nat) : Int) (posL line (part zs off m)) (posC col (part zs off m)) vl' (part zs off (m + 1))) := by
          rw [HMm.out, part_succ zs off k (by have := HZN.out; omega), ← HX.out]
          exact hS1
        have hne : ¬ n = off := by omega
        have hio : (off : Int) ≤ (i : Int) := by have := HI.out; omega
        have hcv := HSF.out.conv HZN.out HZ.out (e := i) (m := m) (off := off) (by rw [HI.out, HMm.out]) (by omega)
        clear hS1 d0 d1 d2
        go_wp2
        go_quiet (fail)
        go_wp2
        go_ret
        exact ⟨vl', rfl, HSF.out.drewN _⟩
    · have hkn : off + k = n := by omega
      have d0 := HS.out.c0
      have d1 := HS.out.c1
      have HMm : Hid (m = k) := by
        have h1 := HMk.out
        rw [rl_end SB zs (off + k) (by have := HZN.out; omega)] at h1
        exact h1
      have HSF : Hid (St B w wr Bb Bs Bc Bl n zs SB ((off + m : Nat) : Int) (posL line (part zs off m)) (posC col (part zs off m)) vl (part zs off (m + 1))) := by
        rw [part_past zs off m (by have := HZN.out; have := HMm.out; omega), HMm.out]
        exact HS.out
      rw [hkn] at d1
      have hd : decide ((n : Int) < (n : Int)) = false := by simp
      have HNM : Hid (n = off + m) := by have := HMm.out; show n = _; omega
      clear hkn hlt HMk
      go_wp2
      go_quiet (fail)
      go_wp2
      rcases Nat.lt_or_ge off n with hon | hon
      · have hne : ¬ n = off := by omega
        have hcv := HSF.out.conv HZN.out HZ.out (e := n) (m := m) (off := off) HNM.out (Nat.le_refl _)
        go_quiet (fail)
        go_wp2
        go_ret
        exact ⟨vl, rfl, (HSF.out.drewN _).drewN _⟩
      · obtain rfl : off = n := by omega
        have hm0 : m = 0 := by have := HNM.out; omega
        have hp0 : part zs off m = [] := by rw [hm0]; rfl
        have HP0 := hide hp0
        have hcv := conv_zero wr Bb 0
        rw [← HP0.out] at hcv
        clear hm0 hp0
        go_quiet (fail)
        go_wp2
        go_ret
        exact ⟨vl, rfl, (HSF.out.drewN _).drewN _⟩
end Go.Proofs.Ybulkcflk
