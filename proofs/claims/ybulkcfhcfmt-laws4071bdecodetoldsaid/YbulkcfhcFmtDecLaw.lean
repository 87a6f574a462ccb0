/-
  THE WALKS of zzs4071bcopy and LawS4071BDecode (seat b4071aF).
-/
import Derived.Test.YbulkcfhcFmtLaw
namespace Go.Proofs.YbulkcfhcFmt
open Go.RowKit Go.Extern.Stop Go.Stop Go.Extern
set_option linter.unusedVariables false

theorem made_eq (z : Value) (n : Nat) : madeCells #[z] n = (List.replicate n z).toArray := by
  apply Array.ext'
  rw [toList_madeCells_one]

theorem splice_all (Z cs : List Value) (h : cs.length = Z.length) : splice Z 0 cs = cs := by
  simp [splice, h]

set_option maxHeartbeats 1000000 in
theorem copy_zero (a : Option Addr) (c : Nat) (w : World) :
    Calls Ybaf.prog 5 #[.slice a 0 c] w fun e w' => ∃ a' c', e = .returned (.slice a' 0 c') ∧ Below w.heap.size w w' := by
  have hnil := fun (w : World) (a : Option Addr) (n c : Nat) => Lib.run_eql_slice_nil (P := Ybaf.prog) w 22 5 a n c 0 0 Ybaf.underlying22
  cases a with
  | none =>
    go_enter Ybaf.func5, Ybaf.ntmps5
    go_wp2
    go_ret
    exact ⟨_, _, rfl, Below.refl _ _⟩
  | some x =>
    have hmk := run_make_row' (P := Ybaf.prog) 22 5 (.int .u8 0) 1 Ybaf.underlying22 Ybaf.info5 rfl .i64 .i64 0 (by decide) (by decide)
    simp only [Int.natCast_zero] at hmk
    go_enter Ybaf.func5, Ybaf.ntmps5
    go_wp2_with (refine wpList_copy_nothing rfl (.tmp 9) (.tmp 10) 22 22 rfl 5 Ybaf.underlying22 (by kernel_rfl) _ _ 0 _ 0 _ rfl rfl rfl ?_)
    go_ret
    exact ⟨_, _, rfl, (Below.refl _ _).alloc (Nat.le_refl _) _⟩

set_option maxHeartbeats 1000000 in
theorem copy_some (b o n c : Nat) (zs : List Int) (w : World) (hn : n ≤ 1024) (hl : zs.length = n) (hc : ∀ i, i < n → w.cell? ⟨b, o + i, none⟩ = some (.int .u8 (zs.getD i 0))) :
    Calls Ybaf.prog 5 #[.slice (some ⟨b, o, none⟩) n c] w fun e w' => e = .returned (.slice (some ⟨w.heap.size, 0, none⟩) n n) ∧ w'.heap[w.heap.size]? = some (.cells (zs.map (Value.int .u8)).toArray 5 (0, 0)) ∧ Below w.heap.size w w' := by
  have hnil := fun (w : World) (a : Option Addr) (n c : Nat) => Lib.run_eql_slice_nil (P := Ybaf.prog) w 22 5 a n c 0 0 Ybaf.underlying22
  have hmk := run_make_row' (P := Ybaf.prog) 22 5 (.int .u8 0) 1 Ybaf.underlying22 Ybaf.info5 rfl .i64 .i64 n (by omega) (by omega)
  have hlt : 0 < n → b < w.heap.size := fun h => by
    rcases Nat.lt_or_ge b w.heap.size with h' | h'
    · exact h'
    · have := hc 0 h
      simp [World.cell?, Array.getElem?_eq_none h'] at this
  have HSRC : Hid (0 < (zs.map (Value.int .u8)).length → (some (⟨w.heap.size, 0, none⟩ : Addr)) = some ⟨w.heap.size, 0, none⟩ ∧ ∃ ad, some (⟨b, o, none⟩ : Addr) = some ad ∧ ∀ j v, (zs.map (Value.int .u8))[j]? = some v → (w.alloc (.cells (madeCells #[.int .u8 0] n) 5)).cell? (ad.add j) = some v) := by
    intro h0
    refine ⟨rfl, _, rfl, ?_⟩
    intro j v hj
    rw [List.getElem?_map, Option.map_eq_some_iff] at hj
    obtain ⟨z, hz, rfl⟩ := hj
    have hjn : j < zs.length := (List.getElem?_eq_some_iff.1 hz).1
    rw [Addr.add_lit, ((Below.refl _ w).alloc (Nat.le_refl _) _).cell (p := ⟨b, o + j, none⟩) (hlt (by omega)), hc j (by omega), List.getD_eq_getElem?_getD, hz]
    rfl
  have HNEW : Hid ((w.alloc (.cells (madeCells #[.int .u8 0] n) 5)).heap[w.heap.size]? = some (.cells (List.replicate n (.int .u8 0)).toArray 5 (0, 0))) := by
    rw [made_eq]; exact heap_alloc_new _ _
  have HONE : Hid (∀ v ∈ zs.map (Value.int .u8), v.oneCell' = true) := by intro u hu; obtain ⟨_, _, rfl⟩ := List.mem_map.1 hu; rfl
  have HSP : Hid (splice (List.replicate n (Value.int .u8 0)) 0 (zs.map (Value.int .u8)) = zs.map (Value.int .u8)) := splice_all _ _ (by simp [hl])
  obtain ⟨X, hX⟩ : ∃ X, X = zs.map (Value.int .u8) := ⟨_, rfl⟩
  have HXL : Hid (X.length = n) := by rw [hX]; show _ = _; simpa using hl
  rw [← hX] at HSRC HONE HSP
  have HX : Hid (X = zs.map (Value.int .u8)) := hX
  clear hX hc hlt
  go_enter Ybaf.func5, Ybaf.ntmps5
  go_wp2_with ((refine wpList_copy_splice rfl (.tmp 9) (.tmp 10) 22 22 rfl 5 Ybaf.underlying22 (by kernel_rfl) _ _ n _ n _ rfl rfl w.heap.size 0 (List.replicate n (.int .u8 0)) 5 HNEW.out X (by rw [HXL.out]; exact (Nat.min_self n).symm) HSRC.out (by rw [HXL.out]; simp) HONE.out w.heap.size w ((Below.refl _ w).alloc (Nat.le_refl _) _) (Nat.le_refl _) ?_; intro w2 HG2 hB2))
  go_ret
  refine ⟨rfl, ?_, hB2⟩
  have h := HG2.out
  rw [HSP.out, HX.out] at h
  exact h

/-- What lies behind 'st := &zzs4071bmsg{}; m := &Have{Index: start}'. -/
theorem two_boxes (w : World) (s : Int) : ∃ W2, W2 = (w.alloc (.cells #[.int .i64 0] 27)).alloc (.cells #[.int .u32 s] 30) ∧ Below w.heap.size w W2 ∧ W2.heap[w.heap.size + 1]? = some (.cells #[.int .u32 s] 30 (0, 0)) ∧ W2.heap[w.heap.size]? = some (.cells #[.int .i64 0] 27 (0, 0)) ∧ W2.heap.size = w.heap.size + 2 := by
  refine ⟨_, rfl, ((Below.refl _ w).alloc (Nat.le_refl _) _).alloc (by simp) _, ?_, ?_, by rw [World.size_alloc, World.size_alloc]⟩
  · have := heap_alloc_new (w.alloc (.cells #[.int .i64 0] 27)) (.cells #[.int .u32 s] 30)
    rwa [World.size_alloc] at this
  · rw [Below.heap_alloc _ _ _ (by rw [World.size_alloc]; omega)]
    exact heap_alloc_new _ _

set_option maxHeartbeats 1000000 in
/-- No byte at all. -/
theorem dec_none (F : Interp) (a : Option Addr) (c : Nat) (s : Int) (w : World) (hF : F.answers w.tape) :
    Calls Ybaf.prog 3 #[.slice a 0 c, .int .u32 s] w fun e w' => e = .returned (.bool true) ∧ Below w.heap.size w w' := by
  go_enter Ybaf.func3, Ybaf.ntmps3
  go_wp2_with (go_at_call 5; refine (copy_zero a c _).mono ?_; rintro e w1 ⟨a', c', rfl, hb⟩)
  obtain ⟨W2, hW2, b12, hM, hN, hsz⟩ := two_boxes w1 s
  rw [← hW2]
  clear hW2
  refine (decode_bad F w1.heap.size (w1.heap.size + 1) a' 0 c' 0 W2 (by rw [b12.tape, hb.tape]; exact hF) (by decide) (by decide) (by decide) (cell_of_one hN) (free_of_one hN)).mono ?_
  rintro e w3 ⟨d, rfl, hb3⟩
  have hs3 : (W2.setCell ⟨w1.heap.size, 0, none⟩ (.int .i64 (0 + 1))).heap.size = w1.heap.size + 2 := by rw [World.size_setCell, hsz]
  have q1 : w3.cell? ⟨w1.heap.size + 1, 0, none⟩ = some (.int .u32 s) := cell_of_one ((hb3.block _ (by omega)).trans ((Below.heap_setCell _ _ _ _ (by simp)).trans hM))
  have q2 : w3.cell? ⟨w1.heap.size, 0, none⟩ = some (.int .i64 (0 + 1)) := cell_of_one ((hb3.block _ (by omega)).trans (one_setCell hN))
  have q2' : w3.cell? ⟨w1.heap.size, 0, none⟩ = some (.int .i64 1) := q2
  have HB : Hid (Below w.heap.size w w3) := ((hb.trans (b12.mono hb.size)).setCell (p := ⟨w1.heap.size, 0, none⟩) hb.size (.int .i64 (0 + 1))).trans (hb3.mono (by have := hb.size; omega))
  clear hM hN b12 hb hb3 hs3 q2 hsz
  go_wp2
  refine wp_loop_rounds 1 ?_
  rw [rounds_succ]
  go_wp2
  go_ret
  exact ⟨rfl, HB.out⟩

theorem row_cell {w : World} {g : Nat} {zs : List Int} (h : w.heap[g]? = some (.cells (zs.map (Value.int .u8)).toArray 5 (0, 0))) (j : Nat) (hj : j < zs.length) : w.cell? ⟨g, j, none⟩ = some (.int .u8 (zs.getD j 0)) := by
  rw [cell_of_row w g j _ 5 (0, 0) h]
  simp [List.getD_eq_getElem?_getD, hj]

set_option maxHeartbeats 2000000 in
/-- Another size than four. -/
theorem dec_bad_law (F : Interp) (b o n c : Nat) (zs : List Int) (s : Int) (w : World) (hn0 : 0 < n) (hn : n ≤ 1024) (hn4 : n ≠ 4) (hl : zs.length = n) (hc : ∀ i, i < n → w.cell? ⟨b, o + i, none⟩ = some (.int .u8 (zs.getD i 0))) (hF : F.answers w.tape) :
    Calls Ybaf.prog 3 #[.slice (some ⟨b, o, none⟩) n c, .int .u32 s] w fun e w' => e = .returned (.bool true) ∧ Below w.heap.size w w' := by
  have hblt : b < w.heap.size := by
    rcases Nat.lt_or_ge b w.heap.size with h' | h'
    · exact h'
    · have := hc 0 hn0
      simp [World.cell?, Array.getElem?_eq_none h'] at this
  have e4 : ((n : Int) == 4) = false := by rw [beq_eq_false_iff_ne]; omega
  have HC := hide hc
  have HL := hide hl
  clear hc hl hn4
  go_enter Ybaf.func3, Ybaf.ntmps3
  go_wp2_with (go_at_call 5; refine (copy_some b o n c zs _ hn HL.out HC.out).mono ?_; rintro e w1 ⟨rfl, hrow, hb⟩)
  obtain ⟨W2, hW2, b12, hM, hN, hsz⟩ := two_boxes w1 s
  rw [← hW2]
  clear hW2
  refine (decode_bad F w1.heap.size (w1.heap.size + 1) _ n n 0 W2 (by rw [b12.tape, hb.tape]; exact hF) e4 (by decide) (by decide) (cell_of_one hN) (free_of_one hN)).mono ?_
  rintro e w3 ⟨d, rfl, hb3⟩
  have hs3 : (W2.setCell ⟨w1.heap.size, 0, none⟩ (.int .i64 (0 + 1))).heap.size = w1.heap.size + 2 := by rw [World.size_setCell, hsz]
  have hlt1 := lt_of_block hrow
  have q1 : w3.cell? ⟨w1.heap.size + 1, 0, none⟩ = some (.int .u32 s) := cell_of_one ((hb3.block _ (by omega)).trans ((Below.heap_setCell _ _ _ _ (by simp)).trans hM))
  have q2 : w3.cell? ⟨w1.heap.size, 0, none⟩ = some (.int .i64 (0 + 1)) := cell_of_one ((hb3.block _ (by omega)).trans (one_setCell hN))
  have q2' : w3.cell? ⟨w1.heap.size, 0, none⟩ = some (.int .i64 1) := q2
  have HB : Hid (Below w.heap.size w w3) := ((hb.trans (b12.mono hb.size)).setCell (p := ⟨w1.heap.size, 0, none⟩) hb.size (.int .i64 (0 + 1))).trans (hb3.mono (by have := hb.size; omega))
  have hrow3 : w3.heap[w.heap.size]? = some (.cells (zs.map (Value.int .u8)).toArray 5 (0, 0)) := (hb3.block _ (by omega)).trans ((Below.heap_setCell _ _ _ _ (by show w.heap.size ≠ w1.heap.size; omega)).trans ((b12.block _ hlt1).trans hrow))
  have HQ : Hid (∀ i, i < n → w3.cell? ⟨w.heap.size, i, none⟩ = some (.int .u8 (zs.getD i 0))) := fun i hi => row_cell hrow3 i (by have := HL.out; omega)
  have HP : Hid (∀ i, i < n → w3.cell? ⟨b, o + i, none⟩ = some (.int .u8 (zs.getD i 0))) := fun i hi => (HB.out.cell (p := ⟨b, o + i, none⟩) hblt).trans (HC.out i hi)
  clear hM hN b12 hb hb3 hs3 q2 hsz hrow hrow3 hlt1
  go_wp2
  go_loopw [9] (fun i wr => ∃ k q : Nat, k ≤ n ∧ i = .int .i64 (k : Int) ∧ wr = w3.drewN q) (fun i _ => n - (intOf i).toNat)
  case atStart => exact ⟨0, 0, Nat.zero_le _, rfl, rfl⟩
  case round =>
    obtain ⟨k, q, hk, rfl, rfl⟩ := hrel
    by_cases hlt : k < n
    · obtain ⟨x, hx⟩ : ∃ x, x = zs.getD k 0 := ⟨_, rfl⟩
      have d1 := HQ.out k hlt
      have d2 := HP.out k hlt
      rw [← hx] at d1 d2
      clear hx
      have hlt' : (k : Int) < (n : Int) := by omega
      go_wp2
      go_quiet (fail)
      go_wp2
      go_roundw
      case rel => exact ⟨k + 1, _, by omega, by go_num, rfl⟩
      case measure => simp [intOf]; omega
    · go_wp2
      go_ret
      exact ⟨rfl, below_drewN HB.out _⟩

set_option maxHeartbeats 2000000 in
/-- Four bytes. -/
theorem dec_good_law (F : Interp) (b o c : Nat) (zs : List Int) (s : Int) (w : World) (hl : zs.length = 4) (hc : ∀ i, i < 4 → w.cell? ⟨b, o + i, none⟩ = some (.int .u8 (zs.getD i 0))) (hz : ∀ i, 0 ≤ zs.getD i 0 ∧ zs.getD i 0 ≤ 255) (hF : F.answers w.tape) :
    Calls Ybaf.prog 3 #[.slice (some ⟨b, o, none⟩) 4 c, .int .u32 s] w fun e w' => e = .returned (.bool true) ∧ Below w.heap.size w w' := by
  have hblt : b < w.heap.size := by
    rcases Nat.lt_or_ge b w.heap.size with h' | h'
    · exact h'
    · have := hc 0 (by decide)
      simp [World.cell?, Array.getElem?_eq_none h'] at this
  have HC := hide hc
  have HL := hide hl
  have HZ := hide hz
  clear hc hl hz
  go_enter Ybaf.func3, Ybaf.ntmps3
  go_wp2_with (go_at_call 5; refine (copy_some b o 4 c zs _ (by decide) HL.out HC.out).mono ?_; rintro e w1 ⟨rfl, hrow, hb⟩)
  obtain ⟨W2, hW2, b12, hM, hN, hsz⟩ := two_boxes w1 s
  rw [← hW2]
  clear hW2
  have hlt1 := lt_of_block hrow
  have hrow2 := (b12.block _ hlt1).trans hrow
  refine (decode_good (w1.heap.size + 1) _ w.heap.size 0 4 4 (zs.getD 0 0) (zs.getD 1 0) (zs.getD 2 0) (zs.getD 3 0) s W2 rfl (HZ.out 0) (HZ.out 1) (HZ.out 2) (HZ.out 3) (row_cell hrow2 0 (by rw [HL.out]; decide)) (row_cell hrow2 1 (by rw [HL.out]; decide)) (row_cell hrow2 2 (by rw [HL.out]; decide)) (row_cell hrow2 3 (by rw [HL.out]; decide)) (cell_of_one hM) (free_of_one hM)).mono ?_
  rintro e w3 ⟨rfl, w4, hb4, rfl⟩
  have hM4 : w4.heap[w1.heap.size + 1]? = some (.cells #[.int .u32 s] 30 (0, 0)) := (hb4.block _ (by omega)).trans hM
  have hN4 : w4.heap[w1.heap.size]? = some (.cells #[.int .i64 0] 27 (0, 0)) := (hb4.block _ (by omega)).trans hN
  obtain ⟨W5, hW5⟩ : ∃ W5, W5 = w4.setCell ⟨w1.heap.size + 1, 0, none⟩ (.int .u32 (be (zs.getD 0 0) (zs.getD 1 0) (zs.getD 2 0) (zs.getD 3 0))) := ⟨_, rfl⟩
  have hrow5 : W5.heap[w.heap.size]? = some (.cells (zs.map (Value.int .u8)).toArray 5 (0, 0)) := by
    rw [hW5]
    exact (Below.heap_setCell _ _ _ _ (by show w.heap.size ≠ w1.heap.size + 1; omega)).trans ((hb4.block _ (by omega)).trans hrow2)
  have q1 : W5.cell? ⟨w1.heap.size + 1, 0, none⟩ = some (.int .u32 (be (zs.getD 0 0) (zs.getD 1 0) (zs.getD 2 0) (zs.getD 3 0))) := by rw [hW5]; exact cell_of_one (one_setCell hM4)
  have q2 : W5.cell? ⟨w1.heap.size, 0, none⟩ = some (.int .i64 0) := by rw [hW5]; exact cell_of_one ((Below.heap_setCell _ _ _ _ (by simp)).trans hN4)
  have HB : Hid (Below w.heap.size w W5) := by
    rw [hW5]
    exact ((hb.trans (b12.mono hb.size)).trans (hb4.mono (by have := hb.size; omega))).setCell (p := ⟨w1.heap.size + 1, 0, none⟩) (by have := hb.size; show _ ≤ w1.heap.size + 1; omega) _
  rw [← hW5]
  have HQ : Hid (∀ i, i < 4 → W5.cell? ⟨w.heap.size, i, none⟩ = some (.int .u8 (zs.getD i 0))) := fun i hi => row_cell hrow5 i (by have := HL.out; omega)
  have HP : Hid (∀ i, i < 4 → W5.cell? ⟨b, o + i, none⟩ = some (.int .u8 (zs.getD i 0))) := fun i hi => (HB.out.cell (p := ⟨b, o + i, none⟩) hblt).trans (HC.out i hi)
  clear hW5 hM hN hM4 hN4 hrow hrow2 hrow5 b12 hb hb4 hsz hlt1
  go_wp2
  go_loopw [9] (fun i wr => ∃ k q : Nat, k ≤ 4 ∧ i = .int .i64 (k : Int) ∧ wr = W5.drewN q) (fun i _ => 4 - (intOf i).toNat)
  case atStart => exact ⟨0, 0, Nat.zero_le _, rfl, rfl⟩
  case round =>
    obtain ⟨k, q, hk, rfl, rfl⟩ := hrel
    by_cases hlt : k < 4
    · obtain ⟨x, hx⟩ : ∃ x, x = zs.getD k 0 := ⟨_, rfl⟩
      have d1 := HQ.out k hlt
      have d2 := HP.out k hlt
      rw [← hx] at d1 d2
      clear hx q1 q2
      have hlt' : (k : Int) < 4 := by omega
      go_wp2
      go_quiet (fail)
      go_wp2
      go_roundw
      case rel => exact ⟨k + 1, _, by omega, by go_num, rfl⟩
      case measure => simp [intOf]; omega
    · obtain ⟨x0, hx0⟩ : ∃ x, x = zs.getD 0 0 := ⟨_, rfl⟩
      obtain ⟨x1, hx1⟩ : ∃ x, x = zs.getD 1 0 := ⟨_, rfl⟩
      obtain ⟨x2, hx2⟩ : ∃ x, x = zs.getD 2 0 := ⟨_, rfl⟩
      obtain ⟨x3, hx3⟩ : ∃ x, x = zs.getD 3 0 := ⟨_, rfl⟩
      have p0 : W5.cell? ⟨b, o, none⟩ = some (.int .u8 (zs.getD 0 0)) := HP.out 0 (by decide)
      have p1 : W5.cell? ⟨b, o + 1, none⟩ = some (.int .u8 (zs.getD 1 0)) := HP.out 1 (by decide)
      have p2 : W5.cell? ⟨b, o + 2, none⟩ = some (.int .u8 (zs.getD 2 0)) := HP.out 2 (by decide)
      have p3 : W5.cell? ⟨b, o + 3, none⟩ = some (.int .u8 (zs.getD 3 0)) := HP.out 3 (by decide)
      have z0 := HZ.out 0
      have z1 := HZ.out 1
      have z2 := HZ.out 2
      have z3 := HZ.out 3
      rw [← hx0] at p0 z0 q1
      rw [← hx1] at p1 z1 q1
      rw [← hx2] at p2 z2 q1
      rw [← hx3] at p3 z3 q1
      have hbh := be_high x0 x1 x2 x3 z0 z1 z2 z3
      obtain ⟨a0, b0⟩ := z0; obtain ⟨a1, b1⟩ := z1; obtain ⟨a2, b2⟩ := z2; obtain ⟨a3, b3⟩ := z3
      clear hx0 hx1 hx2 hx3
      go_wp2
      go_quiet (fail)
      go_wp2
      go_ret
      exact ⟨rfl, below_drewN HB.out _⟩

set_option maxHeartbeats 1000000 in
/-- Too long: true at once. -/
theorem dec_long (a : Option Addr) (n c : Nat) (s : Int) (w : World) (hn : 1024 < n) :
    Calls Ybaf.prog 3 #[.slice a n c, .int .u32 s] w fun e w' => e = .returned (.bool true) ∧ Below w.heap.size w w' := by
  go_enter Ybaf.func3, Ybaf.ntmps3
  go_wp2
  go_ret
  exact ⟨rfl, Below.refl _ _⟩

theorem getD_take (zs : List Int) (n i : Nat) (h : i < n) : (zs.take n).getD i 0 = zs.getD i 0 := by
  rw [List.getD_eq_getElem?_getD, List.getD_eq_getElem?_getD, List.getElem?_take_of_lt h]

theorem law_dec (F : Interp) (a : Option Addr) (n c : Nat) (zs : List Int) (s : Int) (w : World)
    (ha : n = 0 ∨ ∃ x, a = some x ∧ n ≤ zs.length ∧ (∀ i, i < n → w.cell? (x.add i) = some (.int .u8 (zs.getD i 0))) ∧ ∀ m ∈ zs, (Lit.int .u8 m).wf = true) (hF : F.answers w.tape) :
    Calls Ybaf.prog 3 #[.slice a n c, .int .u32 s] w fun e w' => e = .returned (.bool true) ∧ Below w.heap.size w w' := by
  by_cases h : 1024 < n
  · exact dec_long a n c s w h
  by_cases h0 : n = 0
  · subst h0
    exact dec_none F a c s w hF
  rcases ha with ha | ⟨⟨b, o, spot⟩, rfl, hzn, hc, hwf⟩
  · exact absurd ha h0
  have hspot : spot = none := by simpa [Addr.add] using World.cell?_spot (hc 0 (by omega))
  subst hspot
  have hc' : ∀ i, i < n → w.cell? ⟨b, o + i, none⟩ = some (.int .u8 ((zs.take n).getD i 0)) := fun j hj => by rw [← Addr.add_lit, getD_take zs n j hj]; exact hc j hj
  have hlen : (zs.take n).length = n := by rw [List.length_take]; omega
  by_cases h4 : n = 4
  · subst h4
    refine dec_good_law F b o c (zs.take 4) s w hlen hc' (fun i => ?_) hF
    by_cases hi : i < (zs.take 4).length
    · have hm : (zs.take 4).getD i 0 ∈ zs := by
        rw [List.getD_eq_getElem?_getD, List.getElem?_eq_getElem hi]
        exact List.mem_of_mem_take (List.getElem_mem hi)
      have := hwf _ hm
      simp [Lit.wf, IntKind.min, IntKind.max, IntKind.signed, IntKind.bits] at this
      rw [List.getD_eq_getElem?_getD]
      omega
    · rw [List.getD_eq_getElem?_getD, List.getElem?_eq_none (by omega)]
      decide
  · exact dec_bad_law F b o n c (zs.take n) s w (by omega) (by omega) h4 hlen hc' hF
end Go.Proofs.YbulkcfhcFmt
