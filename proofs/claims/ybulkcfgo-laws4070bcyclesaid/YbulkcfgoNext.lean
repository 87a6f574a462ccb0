/-
  '(*plan).next' (function 9) by its contract (seat b4070a).
-/
import Derived.Test.YbulkcfgoRowsOwn
namespace Go.Proofs.Ybulkcfgo
open Go.RowKit
set_option linter.unusedVariables false

/-- The plan p = ⟨N, 0⟩ in the world w: the messages sent S, the choices C. -/
structure Plan (B : Nat) (w : World) (N : Nat) (vs vc : Value) (S : List Int) (C : List Int) : Prop where
  blk : w.heap[N]? = some (.cells #[.int .i64 1, vs, vc] 29 (0, 0))
  base : B ≤ N
  sent : w.ownsRow B 3 1 vs S.length (nc .i64 S)
  cho : w.ownsRow B 31 1 vc C.length (nc .u8 C)

theorem blk_cell {w : World} {N : Nat} {cs : Array Value} {e : TypeId} (h : w.heap[N]? = some (.cells cs e (0, 0))) (i : Nat) : w.cell? ⟨N, i, none⟩ = cs[i]? := cell_of_row w N i cs e (0, 0) h
theorem blk_free {w : World} {N : Nat} {cs : Array Value} {e : TypeId} (h : w.heap[N]? = some (.cells cs e (0, 0))) (i : Nat) : w.frozen? ⟨N, i, none⟩ = false := frozen_of_row w N i cs e h

/-- Only the choices' row has turned. -/
theorem Plan.turned {B : Nat} {w w' : World} {N : Nat} {vs : Value} {S C D : List Int} {g cap : Nat} (h : Plan B w N vs (.slice (some ⟨g, 0, none⟩) C.length cap) S C) (hg : w.grownBy w' (some g))
    (hl : D.length = C.length) (hD : w'.ownsRow B 31 1 (.slice (some ⟨g, 0, none⟩) C.length cap) C.length (nc .u8 D)) : Plan B w' N vs (.slice (some ⟨g, 0, none⟩) C.length cap) S D := by
  obtain ⟨cur, hcur⟩ : ∃ cur, w.heap[g]? = some (.cells cur 31 (0, 0)) := by
    rcases h.cho.2 with ⟨h', _⟩ | ⟨g', cap', cur, h', _, hh, _⟩
    · cases h'
    · simp only [Value.slice.injEq, Option.some.injEq, Addr.mk.injEq, and_true, true_and] at h'
      obtain ⟨rfl, rfl⟩ := h'
      exact ⟨cur, hh⟩
  have hN : N ≠ g := by
    rintro rfl
    have := h.blk.symm.trans hcur
    simp at this
  refine ⟨(hg.block N (lt_of_block h.blk) (by simpa using hN)).trans h.blk, h.base, h.sent.kept hg ?_, ?_⟩
  · rcases h.sent.2 with ⟨h', _⟩ | ⟨g', cap', cur', rfl, _, hh, _⟩
    · left; rw [h']; rfl
    · right
      simp only [Value.ownBlock, ne_eq, Option.some.injEq]
      rintro rfl
      have := hh.symm.trans hcur
      simp at this
  · rw [hl]; exact hD

theorem grown_trans {a b c : World} {row : Option Nat} (h : a.grownBy b row) (k : b.grownBy c row) : a.grownBy c row :=
  ⟨k.os.trans h.os, k.tape.trans h.tape, k.output.trans h.output, Nat.le_trans h.size k.size, fun j hj hne => (k.block j (Nat.lt_of_lt_of_le hj h.size) hne).trans (h.block j hj hne)⟩

theorem nc_set {w : World} {B g cap n : Nat} {e : TypeId} {kd : IntKind} {D : List Int} (h : w.ownsRow B e 1 (.slice (some ⟨g, 0, none⟩) n cap) n (nc kd D)) (m : Nat) (y : Int) :
    (w.setCell ⟨g, m, none⟩ (.int kd y)).ownsRow B e 1 (.slice (some ⟨g, 0, none⟩) n cap) n (nc kd (D.set m y)) ∧ w.grownBy (w.setCell ⟨g, m, none⟩ (.int kd y)) (some g) := by
  have h' := h.stored m (.int kd y)
  have e : nc kd (D.set m y) = (nc kd D).set m (.int kd y) := by simp [nc, List.map_set]
  rw [e]
  exact h'

/-- The place of digit i. -/
def at_ (S : List Int) (i : Nat) : Nat := (S.getD i 0).toNat

set_option maxHeartbeats 2000000 in
theorem next_in (B N gs cs gc cc : Nat) (S C : List Int) (w : World) (h : Plan B w N (.slice (some ⟨gs, 0, none⟩) S.length cs) (.slice (some ⟨gc, 0, none⟩) C.length cc) S C) (hS : S.length ≤ 100000) (hC : C.length ≤ 1000000)
    (hd : Dig C) (hin : ∀ i, i < S.length → 0 ≤ S.getD i 0 ∧ S.getD i 0 < C.length) (R : Bool × List Int) (HR : Hid (inc (at_ S) S.length C = R)) :
    Calls Yba.prog 9 #[.pointer (some ⟨N, 0, none⟩)] w fun e w' => e = .returned (.bool R.1) ∧ w.grownBy w' (some gc) ∧ w'.ownsRow B 31 1 (.slice (some ⟨gc, 0, none⟩) C.length cc) C.length (nc .u8 R.2) := by
  have c1 : w.cell? ⟨N, 1, none⟩ = some (.slice (some ⟨gs, 0, none⟩) S.length cs) := by rw [blk_cell h.blk]; rfl
  have HP : Hid (Plan B w N (.slice (some ⟨gs, 0, none⟩) S.length cs) (.slice (some ⟨gc, 0, none⟩) C.length cc) S C) := h
  have HI : Hid (∀ i, i < S.length → 0 ≤ S.getD i 0 ∧ S.getD i 0 < C.length) := hin
  have HD : Hid (Dig C) := hd
  clear h hin hd
  go_enter Yba.func9, Yba.ntmps9
  go_wp2
  go_loopw [3] (fun i wr => ∃ (n : Nat) (D : List Int), n ≤ S.length ∧ i = .int .i64 ((n : Int) - 1) ∧ D.length = C.length ∧ Hid (Dig D) ∧ Hid (inc (at_ S) n D = R) ∧ w.grownBy wr (some gc) ∧ wr.ownsRow B 31 1 (.slice (some ⟨gc, 0, none⟩) C.length cc) C.length (nc .u8 D))
    (fun i _ => (intOf i + 1).toNat)
  case atStart => exact ⟨S.length, C, Nat.le_refl _, rfl, rfl, HD, HR, ⟨rfl, rfl, rfl, Nat.le_refl _, fun _ _ _ => rfl⟩, HP.out.cho⟩
  case round =>
    obtain ⟨n, D, hn, rfl, hDl, HDd, HI2, hg, hO⟩ := hrel
    cases n with
    | zero =>
      have HE : Hid (R = (false, D)) := HI2.out.symm
      go_wp2
      go_ret
      rw [HE.out]
      exact ⟨rfl, hg, hO⟩
    | succ k =>
      have ek : ((k + 1 : Nat) : Int) - 1 = (k : Int) := by omega
      rw [ek]
      clear ek
      have P' := HP.out.turned hg hDl hO
      obtain ⟨m, hm⟩ := Int.eq_ofNat_of_zero_le (HI.out k (by omega)).1
      have hmC : m < C.length := by have := (HI.out k (by omega)).2; omega
      have hat : at_ S k = m := by unfold at_; rw [hm]; rfl
      have d1 : wr.cell? ⟨N, 1, none⟩ = some (.slice (some ⟨gs, 0, none⟩) S.length cs) := by rw [blk_cell P'.blk]; rfl
      have d2 : wr.cell? ⟨N, 2, none⟩ = some (.slice (some ⟨gc, 0, none⟩) C.length cc) := by rw [blk_cell P'.blk]; rfl
      have d3 : wr.cell? ⟨gs, k, none⟩ = some (.int .i64 (m : Int)) := by rw [own_cell P'.sent k (by omega), hm]
      obtain ⟨x, hx⟩ : ∃ x, x = D.getD m 0 := ⟨_, rfl⟩
      have d4 : wr.cell? ⟨gc, m, none⟩ = some (.int .u8 x) := by rw [own_cell hO m hmC, hx]
      have d5 : wr.frozen? ⟨gc, m, none⟩ = false := hO.frozenAt m
      have hx0 : 0 ≤ x := by have := HDd.out m; omega
      have hx2 : x ≤ 2 := by have := HDd.out m; omega
      have hk1 : (k : Int) < (S.length : Int) := by omega
      have hm1 : (m : Int) < (C.length : Int) := by omega
      have HX : Hid (x = D.getD m 0) := hx
      have HAT : Hid (at_ S k = m) := hat
      have hst := fun (y : Int) => nc_set hO m y
      have HST : Hid (∀ y : Int, (wr.setCell ⟨gc, m, none⟩ (.int .u8 y)).ownsRow B 31 1 (.slice (some ⟨gc, 0, none⟩) C.length cc) C.length (nc .u8 (D.set m y)) ∧ wr.grownBy (wr.setCell ⟨gc, m, none⟩ (.int .u8 y)) (some gc)) := hst
      have HG : Hid (w.grownBy wr (some gc)) := hg
      clear hx hat hm P' hO hst hg
      by_cases hx' : x < 2
      · have HE : Hid (R = (true, D.set m (x + 1))) := by
          rw [← HI2.out]
          show (if D.getD (at_ S k) 0 < 2 then _ else _) = _
          rw [HAT.out, ← HX.out, if_pos hx']
        go_wp2
        go_ret
        rw [HE.out]
        obtain ⟨o1, o2⟩ := HST.out (x + 1)
        exact ⟨rfl, grown_trans HG.out o2, o1⟩
      · have HE : Hid (inc (at_ S) k (D.set m 0) = R) := by
          rw [← HI2.out]
          show _ = (if D.getD (at_ S k) 0 < 2 then _ else _)
          rw [HAT.out, ← HX.out, if_neg hx']
        go_wp2
        go_roundw
        case rel =>
          obtain ⟨o1, o2⟩ := HST.out 0
          exact ⟨k, D.set m 0, by omega, rfl, by simpa using hDl, HDd.out.set _ _ (by omega) (by omega), HE, grown_trans HG.out o2, o1⟩
        case measure => simp [intOf]

/-- The contract, whatever the plan. -/
theorem next_any (B N : Nat) (vs vc : Value) (S C : List Int) (w : World) (h : Plan B w N vs vc S C) (hS : S.length ≤ 100000) (hC : C.length ≤ 1000000)
    (hd : Dig C) (hin : ∀ i, i < S.length → 0 ≤ S.getD i 0 ∧ S.getD i 0 < C.length) (R : Bool × List Int) (HR : Hid (inc (at_ S) S.length C = R)) :
    Calls Yba.prog 9 #[.pointer (some ⟨N, 0, none⟩)] w fun e w' => e = .returned (.bool R.1) ∧ w.grownBy w' vc.ownBlock ∧ Plan B w' N vs vc S R.2 := by
  by_cases h0 : S.length = 0
  · obtain ⟨a, c, rfl⟩ := own_slice h.sent
    have hR : R = (false, C) := by rw [← HR.out, h0]; rfl
    rw [hR]
    have c1 : w.cell? ⟨N, 1, none⟩ = some (.slice a S.length c) := by rw [blk_cell h.blk]; rfl
    rw [h0] at c1
    have HP : Hid (Plan B w N (.slice a S.length c) vc S C) := h
    clear h hR HR hin hd h0
    go_enter Yba.func9, Yba.ntmps9
    go_wp2
    refine wp_loop_rounds 1 ?_
    rw [rounds_succ]
    go_wp2
    go_ret
    exact ⟨rfl, ⟨rfl, rfl, rfl, Nat.le_refl _, fun _ _ _ => rfl⟩, HP.out⟩
  · obtain ⟨gs, cs, rfl, _, _⟩ := h.sent.form (by omega)
    obtain ⟨gc, cc, rfl, _, _⟩ := h.cho.form (by have := hin 0 (by omega); omega)
    refine (next_in B N gs cs gc cc S C w h hS hC hd hin R HR).mono ?_
    rintro e w' ⟨rfl, h1, h2⟩
    exact ⟨rfl, h1, h.turned h1 (by rw [← HR.out, inc_len]) h2⟩
end Go.Proofs.Ybulkcfgo
