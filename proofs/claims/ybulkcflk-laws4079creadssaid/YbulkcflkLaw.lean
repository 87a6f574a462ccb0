/-
  THE WALK of LawS4079CReads (function 3; seat b4079a).
-/
import Derived.Test.YbulkcflkRead
namespace Go.Proofs.Ybulkcflk
open Go.RowKit
set_option linter.unusedVariables false

theorem made_eq (z : Value) (n : Nat) : madeCells #[z] n = (List.replicate n z).toArray := by
  apply Array.ext'
  rw [toList_madeCells_one]
theorem splice_all (Z cs : List Value) (h : cs.length = Z.length) : splice Z 0 cs = cs := by
  simp [splice, h]
theorem Yba.info5 : (Yba.prog.info? 5).map (fun i => (i.zero, i.size, i.bytes)) = some (some (.int .u8 0), 1, 1) := by kernel_rfl

/-- The zero array of 256 bools, behind a name. -/
def zero256 : Array Value := (List.replicate 256 (Value.bool false)).toArray
theorem alloc24 (w : World) : (Instr.alloc 24 true (.tuple #[])).run Yba.prog w = .ok (.pointer (some ⟨w.heap.size, 0, none⟩)) (w.alloc (.cells zero256 24)) := by kernel_rfl

theorem wp_alloc24 {w : World} {ops : Array Oper} {rest : List Oper} {o : Oper} {a : Act} {Q : Exit → Act → World → Prop} (hgd : o.guard = none) (ho : o.op = Op.alloc 24)
    (h : wpList Yba.prog ops Q rest (a.put o.dst (.pointer (some ⟨w.heap.size, 0, none⟩))) (w.alloc (.cells zero256 24))) : wpList Yba.prog ops Q (o :: rest) a w := by
  refine wpList_plain hgd fun K hK => ?_
  have hrun := alloc24 w
  unfold Oper.wp
  simp only [execOp, ho, Sem.run_bind, Sem.run_pure, hrun, Result.andThen]
  exact hK _ _ h

/-- The set behind the first k bytes of 'allow'. -/
def setK (al : ByteArray) (k j : Nat) : Bool := (al.data.toList.take k).any (fun c => c.toNat == j)
theorem set_zero (w : World) (al : ByteArray) : (w.alloc (.cells zero256 24)).rowIs w.heap.size 24 256 (fun j => .bool (setK al 0 j)) := by
  refine ⟨zero256, heap_alloc_new _ _, by show (List.replicate 256 (Value.bool false)).toArray.size = 256; rw [List.size_toArray, List.length_replicate], fun i hi => ?_⟩
  show (List.replicate 256 (Value.bool false)).toArray[i]? = _
  rw [List.getElem?_toArray, List.getElem?_replicate, if_pos hi]
  rfl
theorem set_succ (al : ByteArray) (k : Nat) (h : k < al.size) (j : Nat) : setK al (k + 1) j = if j = al[k].toNat then true else setK al k j := by
  unfold setK
  have e : al.data.toList.take (k + 1) = al.data.toList.take k ++ [al[k]] := by
    rw [List.take_succ_eq_append_getElem (by simpa using h)]; rfl
  rw [e, List.any_append]
  by_cases hj : j = al[k].toNat
  · simp [hj]
  · have : (al[k].toNat == j) = false := by rw [beq_eq_false_iff_ne]; exact fun e => hj e.symm
    simp [this, hj]

/-- 'src[lo:hi]', its value behind a letter. -/
theorem wp_cut {w : World} {ops : Array Oper} {rest : List Oper} {o : Oper} {a : Act} {Q : Exit → Act → World → Prop} (hgd : o.guard = none) (x l h : Operand) (ho : o.op = Op.slice 22 x (some l) (some h) none)
    (vx vl vh V : Value) (hx : a.eval x = vx) (hl : a.eval l = vl) (hh : a.eval h = vh) (hrun : ∀ W, (Instr.sliceAt 22 vx (some vl) (some vh) none).run Yba.prog W = .ok V W)
    (hk : wpList Yba.prog ops Q rest (a.put o.dst V) w) : wpList Yba.prog ops Q (o :: rest) a w := by
  refine wpList_plain hgd fun K hK => ?_
  have hr := hrun w
  unfold Oper.wp
  simp only [execOp, ho, Option.map_some, Option.map_none, hx, hl, hh, Sem.run_bind, Sem.run_pure, hr, Result.andThen]
  exact hK _ _ hk

theorem size5 (w : World) : (Go.sizeOf (Yba.prog.elem 22)).run Yba.prog w = .ok 1 w := by kernel_rfl
theorem und22 : Yba.prog.underlying 22 = some (.slice (Yba.prog.elem 22)) := by kernel_rfl

theorem St.cut {B : Nat} {w wr : World} {Bb Bs Bc Bl n off m e : Nat} {zs : List Int} {SB : Nat → Bool} {o L C : Int} {vl : Value} {lg : List Int} (h : St B w wr Bb Bs Bc Bl n zs SB o L C vl lg) (hzn : zs.length = n) (hz : ∀ i, 0 ≤ zs.getD i 0 ∧ zs.getD i 0 ≤ 255) (hoff : off ≤ n) (he : e = off + m) (hm : e ≤ n) :
    ∃ V, (∀ W, (Instr.sliceAt 22 (.slice (some ⟨Bb, 0, none⟩) n n) (some (.int .i64 (off : Int))) (some (.int .i64 (e : Int))) none).run Yba.prog W = .ok V W) ∧ (convert 22 9 V).run Yba.prog wr = .ok (.string (strOf (part zs off m))) wr := by
  have hrun : ∀ W, (Instr.sliceAt 22 (.slice (some ⟨Bb, 0, none⟩) n n) (some (.int .i64 (off : Int))) (some (.int .i64 (e : Int))) none).run Yba.prog W = .ok (sliced (some ⟨Bb, 0, none⟩) off e n 1) W := fun W => by
    rw [run_sliceAt_slice W 22 _ _ _ _ und22, run_slice_lh W 22 _ _ _ und22 .i64 .i64 _ _ (by omega) (by omega) (by omega), size5]
    simp [Result.andThen]
  refine ⟨_, hrun, ?_⟩
  unfold sliced
  by_cases hne : n = off
  · rw [if_pos hne]
    have hm0 : m = 0 := by omega
    have e1 : e - off = 0 := by omega
    have hp : part zs off m = [] := by rw [hm0]; rfl
    rw [e1, hp]
    exact conv_zero wr Bb (n - off) 0
  · rw [if_neg hne]
    have h0 := h.conv hzn hz he hm 0
    have hadd : (⟨Bb, 0, none⟩ : Addr).add (off * 1) = ⟨Bb, off, none⟩ := by rw [Addr.add_lit, Nat.zero_add, Nat.mul_one]
    rw [Option.map_some, hadd]
    exact h0

theorem St.c2 {B : Nat} {w wr : World} {Bb Bs Bc Bl n : Nat} {zs : List Int} {SB : Nat → Bool} {o L C : Int} {vl : Value} {lg : List Int} (h : St B w wr Bb Bs Bc Bl n zs SB o L C vl lg) : wr.cell? ⟨Bc, 2, none⟩ = some (.int .i64 L) := by rw [blk_cell h.scn]; rfl
theorem St.c3 {B : Nat} {w wr : World} {Bb Bs Bc Bl n : Nat} {zs : List Int} {SB : Nat → Bool} {o L C : Int} {vl : Value} {lg : List Int} (h : St B w wr Bb Bs Bc Bl n zs SB o L C vl lg) : wr.cell? ⟨Bc, 3, none⟩ = some (.int .i64 C) := by rw [blk_cell h.scn]; rfl
theorem St.c4 {B : Nat} {w wr : World} {Bb Bs Bc Bl n : Nat} {zs : List Int} {SB : Nat → Bool} {o L C : Int} {vl : Value} {lg : List Int} (h : St B w wr Bb Bs Bc Bl n zs SB o L C vl lg) : wr.cell? ⟨Bc, 4, none⟩ = some (.int .i64 7) := by rw [blk_cell h.scn]; rfl
theorem St.cs {B : Nat} {w wr : World} {Bb Bs Bc Bl n : Nat} {zs : List Int} {SB : Nat → Bool} {o L C : Int} {vl : Value} {lg : List Int} (h : St B w wr Bb Bs Bc Bl n zs SB o L C vl lg) (i : Nat) (hi : i < 256) (b : Bool) (hb : SB i = b) : wr.cell? ⟨Bs, i, none⟩ = some (.bool b) := by rw [h.set.cell hi, hb]
theorem St.cl {B : Nat} {w wr : World} {Bb Bs Bc Bl n : Nat} {zs : List Int} {SB : Nat → Bool} {o L C : Int} {lg : List Int} {g k cap : Nat} (h : St B w wr Bb Bs Bc Bl n zs SB o L C (.slice (some ⟨g, 0, none⟩) k cap) lg) (hk : lg.length = k) (i : Nat) (hi : i < k) : wr.cell? ⟨g, i, none⟩ = some (.int .i32 (lg.getD i 0)) := by
  have hr := h.row
  rw [hk] at hr
  rw [hr.cellAt i (by omega)]
  simp [nc, List.getD_eq_getElem?_getD, show i < lg.length by omega]

/-- Where the reading begins. -/
theorem St.start {B : Nat} {w w2 wr : World} {n : Nat} {zs : List Int} {SB : Nat → Bool} {o L C : Int} (hB2 : Below w.heap.size w w2) (hbuf : w2.heap[w.heap.size]? = some (.cells (nc .u8 zs).toArray 5 (0, 0))) (hset : wr.rowIs w2.heap.size 24 256 (fun j => .bool (SB j))) (hbw : Below w2.heap.size w2 wr) (hBw : B = w.heap.size) :
    St B w ((wr.alloc (.cells #[.slice (some ⟨w.heap.size, 0, none⟩) n n, .int .i64 o, .int .i64 L, .int .i64 C, .int .i64 7] 29)).alloc (.cells #[.slice none 0 0] 30)) w.heap.size w2.heap.size wr.heap.size (wr.heap.size + 1) n zs SB o L C (.slice none 0 0) [] := by
  subst hBw
  have hlt := lt_of_block hbuf
  have h1 := hbw.size
  have h2 := hB2.size
  refine ⟨?_, (hset.alloc _).alloc _, ?_, ?_, World.ownsRow_nil _ _ _ _, ?_, ⟨Nat.le_refl _, by omega, by omega, by omega⟩⟩
  · rw [Below.heap_alloc _ _ _ (by rw [World.size_alloc]; omega), Below.heap_alloc _ _ _ (by omega), hbw.block _ hlt]
    exact hbuf
  · rw [Below.heap_alloc _ _ _ (by rw [World.size_alloc]; omega)]
    exact heap_alloc_new _ _
  · have := heap_alloc_new (wr.alloc (.cells #[.slice (some ⟨w.heap.size, 0, none⟩) n n, .int .i64 o, .int .i64 L, .int .i64 C, .int .i64 7] 29)) (.cells #[.slice none 0 0] 30)
    rwa [World.size_alloc] at this
  · exact ((hB2.trans (hbw.mono h2)).alloc (by omega) _).alloc (by rw [World.size_alloc]; omega) _

theorem own_slice {w : World} {base : Nat} {e : TypeId} {size : Nat} {v : Value} {n : Nat} {xs : List Value} (h : w.ownsRow base e size v n xs) : ∃ a c, v = .slice a n c ∧ (0 < n → ∃ g, a = some ⟨g, 0, none⟩) := by
  rcases h.2 with ⟨rfl, rfl⟩ | ⟨g, cap, cur, hv, _⟩
  · exact ⟨none, 0, rfl, fun h => absurd h (Nat.lt_irrefl _)⟩
  · exact ⟨_, _, hv, fun _ => ⟨g, rfl⟩⟩

theorem rl_lt (SB : Nat → Bool) (zs : List Int) (off k m : Nat) (hm : m = k + rl SB (zs.drop (off + k))) (hk : k < m) : off + k < zs.length ∧ SB (zs.getD (off + k) 0).toNat = true ∧ m = k + 1 + rl SB (zs.drop (off + (k + 1))) := by
  rcases Nat.lt_or_ge (off + k) zs.length with h | h
  · rw [rl_at SB zs (off + k) h] at hm
    by_cases hb : SB (zs.getD (off + k) 0).toNat = true
    · rw [if_pos hb] at hm
      refine ⟨h, hb, ?_⟩
      rw [← Nat.add_assoc off k 1]
      omega
    · rw [if_neg hb] at hm
      omega
  · rw [rl_end SB zs (off + k) h] at hm
    omega

/-- What 'copy(buf, src)' is told. -/
theorem copy_src {w : World} {b o n : Nat} {zs : List Int} (hl : zs.length = n) (hc : ∀ i, i < n → w.cell? ⟨b, o + i, none⟩ = some (.int .u8 (zs.getD i 0))) :
    0 < (nc .u8 zs).length → (some (⟨w.heap.size, 0, none⟩ : Addr)) = some ⟨w.heap.size, 0, none⟩ ∧ ∃ ad, some (⟨b, o, none⟩ : Addr) = some ad ∧ ∀ j v, (nc .u8 zs)[j]? = some v → (w.alloc (.cells (madeCells #[.int .u8 0] n) 5)).cell? (ad.add j) = some v := by
  intro h0
  have hn : 0 < n := by simpa [nc, hl] using h0
  have hlt : b < w.heap.size := by
    rcases Nat.lt_or_ge b w.heap.size with h' | h'
    · exact h'
    · have := hc 0 hn
      simp [World.cell?, Array.getElem?_eq_none h'] at this
  refine ⟨rfl, _, rfl, ?_⟩
  intro j v hj
  unfold nc at hj
  rw [List.getElem?_map, Option.map_eq_some_iff] at hj
  obtain ⟨z, hz, rfl⟩ := hj
  have hjn : j < zs.length := (List.getElem?_eq_some_iff.1 hz).1
  rw [Addr.add_lit, ((Below.refl _ w).alloc (Nat.le_refl _) _).cell (p := ⟨b, o + j, none⟩) hlt, hc j (by omega), List.getD_eq_getElem?_getD, hz]
  rfl
theorem nc_one (k : IntKind) (zs : List Int) : ∀ v ∈ nc k zs, v.oneCell' = true := by intro u hu; obtain ⟨_, _, rfl⟩ := List.mem_map.1 hu; rfl

theorem part_getD (zs : List Int) (off k q : Nat) (hk : k < q) (h : off + k < zs.length) : (part zs off q).getD k 0 = zs.getD (off + k) 0 := by
  unfold part
  rw [List.getD_eq_getElem?_getD, List.getElem?_take, if_pos hk, List.getElem?_drop, ← List.getD_eq_getElem?_getD]
def lastAbs (off : Nat) (l : List Int) : Int := if nls l = 0 then -1 else (off : Int) + lastNl l
theorem nls_le (l : List Int) : nls l ≤ l.length := by unfold nls; exact List.length_filter_le _ _

/-- What the law counts: the newlines so far, the last one's place. -/
structure Cnt (zs : List Int) (off q N : Nat) (Lt : Int) : Prop where
  at_ : ∃ k, q = off + k ∧ N = nls (part zs off k) ∧ Lt = lastAbs off (part zs off k)
theorem Cnt.zero (zs : List Int) (off : Nat) : Cnt zs off off 0 (-1) := ⟨0, rfl, rfl, rfl⟩
theorem Cnt.nl {zs : List Int} {off q N : Nat} {Lt : Int} (h : Cnt zs off q N Lt) (hq : q < zs.length) (hx : zs.getD q 0 = 10) : Cnt zs off (q + 1) (N + 1) (q : Int) := by
  obtain ⟨k, rfl, rfl, rfl⟩ := h
  refine ⟨k + 1, rfl, ?_, ?_⟩
  · rw [part_succ zs off k hq, nls_snoc, hx]; rfl
  · unfold lastAbs
    rw [part_succ zs off k hq, nls_snoc, lastNl_snoc, hx, if_pos rfl, if_pos rfl, if_neg (by omega), part_length zs off k (by omega)]
    omega
theorem Cnt.ch {zs : List Int} {off q N : Nat} {Lt : Int} (h : Cnt zs off q N Lt) (hq : q < zs.length) (hx : ¬ zs.getD q 0 = 10) : Cnt zs off (q + 1) N Lt := by
  obtain ⟨k, rfl, rfl, rfl⟩ := h
  refine ⟨k + 1, rfl, ?_, ?_⟩
  · rw [part_succ zs off k hq, nls_snoc, if_neg hx]; rfl
  · unfold lastAbs
    rw [part_succ zs off k hq, nls_snoc, lastNl_snoc, if_neg hx, if_neg hx]
    rfl
theorem Cnt.done0 {zs : List Int} {off m : Nat} {N : Nat} {Lt line col : Int} (h : Cnt zs off (off + m) N Lt) (hN : N = 0) (hm : off + m ≤ zs.length) (hmb : m ≤ 1024) (hl0 : -9223372036854775808 ≤ line) (hl1 : line ≤ 9223372036854775807) (hc0 : -9223372036854775808 ≤ col) (hc1 : col ≤ 9223372036854775807) :
    posL line (part zs off m) = line ∧ posC col (part zs off m) = wrap64 (col + m) := by
  obtain ⟨k, hk, hn, hlt⟩ := h
  obtain rfl : k = m := by omega
  have hlen := part_length zs off k hm
  rw [hN] at hn
  rw [posL_eq line hl0 hl1, ((posC_eq col hc0 hc1 _ (by omega)).1 hn.symm).1, ← hn, hlen]
  refine ⟨?_, rfl⟩
  show wrap64 (line + 0) = line
  rw [Int.add_zero, wrap_id line hl0 hl1]
theorem Cnt.done1 {zs : List Int} {off m : Nat} {N : Nat} {Lt line col : Int} (h : Cnt zs off (off + m) N Lt) (hN : 0 < N) (hm : off + m ≤ zs.length) (hmb : m ≤ 1024) (hl0 : -9223372036854775808 ≤ line) (hl1 : line ≤ 9223372036854775807) (hc0 : -9223372036854775808 ≤ col) (hc1 : col ≤ 9223372036854775807) :
    posL line (part zs off m) = wrap64 (line + N) ∧ posC col (part zs off m) = 1 + (((off + m : Nat) : Int) - 1 - Lt) ∧ (off : Int) ≤ Lt ∧ Lt < ((off + m : Nat) : Int) := by
  obtain ⟨k, hk, hn, hlt⟩ := h
  obtain rfl : k = m := by omega
  have hlen := part_length zs off k hm
  rw [hn] at hN
  obtain ⟨q1, q2, q3⟩ := (posC_eq col hc0 hc1 (part zs off k) (by omega)).2 hN
  unfold lastAbs at hlt
  rw [if_neg (by omega)] at hlt
  rw [posL_eq line hl0 hl1, q1, hn, hlen]
  rw [hlen] at q3
  exact ⟨rfl, by omega, by omega, by omega⟩
theorem Cnt.le {zs : List Int} {off q N : Nat} {Lt : Int} (h : Cnt zs off q N Lt) (hq : q ≤ zs.length) : N ≤ q - off := by
  obtain ⟨k, hk, hn, hlt⟩ := h
  have := nls_le (part zs off k)
  rw [part_length zs off k (by omega)] at this
  omega

set_option maxRecDepth 100000 in
set_option maxHeartbeats 4000000 in
theorem law_A (b o n c : Nat) (zs : List Int) (al : ByteArray) (sel line col : Int) (w : World) (off m : Nat) (SB : Nat → Bool) (hn : n ≤ 1024) (hl : zs.length = n) (hc : ∀ i, i < n → w.cell? ⟨b, o + i, none⟩ = some (.int .u8 (zs.getD i 0))) (hz : ∀ i, 0 ≤ zs.getD i 0 ∧ zs.getD i 0 ≤ 255) (hal : al.size ≤ 1024) (hs0 : 0 ≤ sel)
    (hl0 : -9223372036854775808 ≤ line) (hl1 : line ≤ 9223372036854775807) (hc0 : -9223372036854775808 ≤ col) (hc1 : col ≤ 9223372036854775807)
    (hmod : sel % ((n : Int) + 1) = (off : Int)) (hoff : off ≤ n) (HSB : Hid (∀ j, SB j = setK al al.size j)) (HM : Hid (m = rl SB (zs.drop off))) (cb : Nat) (hcb : cb < 256) (hcz : zs.getD (off + m) 0 = (cb : Int)) (hcs : SB cb = false) (hend : off + m < n) :
    Calls Yba.prog 3 #[.slice (some ⟨b, o, none⟩) n c, .string al, .int .u64 sel, .int .i64 line, .int .i64 col] w fun e w' => e = .returned (.bool true) ∧ Below w.heap.size w w' := by
  have hmk := run_make_row' (P := Yba.prog) 22 5 (.int .u8 0) 1 Yba.underlying22 Yba.info5 rfl .i64 .i64 n (by omega) (by omega)
  have HC := hide hc
  have HBLT : Hid (0 < n → b < w.heap.size) := fun h0 => by
    rcases Nat.lt_or_ge b w.heap.size with h' | h'
    · exact h'
    · have := hc 0 h0
      simp [World.cell?, Array.getElem?_eq_none h'] at this
  have HSRC := hide (copy_src hl hc)
  have HZ := hide hz
  have HL := hide hl
  have HNEW : Hid ((w.alloc (.cells (madeCells #[.int .u8 0] n) 5)).heap[w.heap.size]? = some (.cells (List.replicate n (.int .u8 0)).toArray 5 (0, 0))) := by
    rw [made_eq]; exact heap_alloc_new _ _
  have HONE := hide (nc_one .u8 zs)
  have HSP : Hid (splice (List.replicate n (Value.int .u8 0)) 0 (nc .u8 zs) = nc .u8 zs) := splice_all _ _ (by simp [nc, hl])
  obtain ⟨X, hX⟩ : ∃ X, X = nc .u8 zs := ⟨_, rfl⟩
  have HXL : Hid (X.length = n) := by rw [hX]; show _ = _; simpa [nc] using hl
  rw [← hX] at HSRC HONE HSP
  have HX : Hid (X = nc .u8 zs) := hX
  obtain ⟨jj, hjj⟩ : ∃ jj, jj = off + m := ⟨_, rfl⟩
  have HJ : Hid (jj = off + m) := hjj
  have hjn : jj ≤ n := by omega
  have hjlt : (jj : Int) < (n : Int) := by omega
  have HCZ : Hid (zs.getD jj 0 = (cb : Int)) := by rw [hjj]; exact hcz
  have hcbi : (cb : Int) < 256 := by omega
  clear hcz
  have hsub : (jj : Int) - (off : Int) = (m : Int) := by omega
  have hjo : (off : Int) ≤ (jj : Int) := by omega
  have hmb : (m : Int) ≤ 1024 := by omega
  have hm0 : (0 : Int) ≤ (m : Int) := by omega
  have hoffb : (off : Int) ≤ 1024 := by omega
  have HEND := hide hend
  clear hX hc hl hz hjj hend
  go_enter Yba.func3, Yba.ntmps3
  go_wp2_with (first | (refine wp_alloc24 rfl rfl ?_) | (refine wpList_copy_splice rfl (.tmp 38) (.tmp 39) 22 22 rfl 5 Yba.underlying22 (by kernel_rfl) _ _ n _ n _ rfl rfl w.heap.size 0 (List.replicate n (.int .u8 0)) 5 HNEW.out X (by rw [HXL.out]; exact (Nat.min_self n).symm) HSRC.out (by rw [HXL.out]; simp) HONE.out w.heap.size w ((Below.refl _ w).alloc (Nat.le_refl _) _) (Nat.le_refl _) ?_; intro w2 HG2 hB2))
  have HB2 := hide hB2
  have HBUF : Hid (w2.heap[w.heap.size]? = some (.cells (nc .u8 zs).toArray 5 (0, 0))) := by
    have h := HG2.out
    rw [HSP.out, HX.out] at h
    exact h
  clear HG2 HSP HX HXL HSRC HONE HNEW hmk hB2
  go_loopw [13] (fun i wr => ∃ k : Nat, k ≤ al.size ∧ i = .int .i64 (k : Int) ∧ wr.rowIs w2.heap.size 24 256 (fun j => .bool (setK al k j)) ∧ Below w2.heap.size w2 wr) (fun i _ => al.size - (intOf i).toNat)
  case atStart => exact ⟨0, Nat.zero_le _, rfl, set_zero w2 al, (Below.refl _ _).alloc (Nat.le_refl _) _⟩
  case round =>
    obtain ⟨k, hk, rfl, hset, hbw⟩ := hrel
    by_cases hlt : k < al.size
    · obtain ⟨ch, hch⟩ : ∃ ch : Nat, ch = al[k].toNat := ⟨_, rfl⟩
      have hch256 : ch < 256 := by rw [hch]; exact al[k].toNat_lt
      have hce : (al[k].toNat : Int) = (ch : Int) := by rw [hch]
      have d1 : wr.cell? ⟨w2.heap.size, ch, none⟩ = some (.bool (setK al k ch)) := hset.cell hch256
      obtain ⟨bo, hbo⟩ : ∃ bo, bo = setK al k ch := ⟨_, rfl⟩
      rw [← hbo] at d1
      have d2 : wr.frozen? ⟨w2.heap.size, ch, none⟩ = false := hset.frozen ch
      have HST := hide (hset.set ch (.bool true))
      have HBW := hide (hbw.setCell (p := ⟨w2.heap.size, ch, none⟩) (Nat.le_refl _) (.bool true))
      have HCH : Hid (ch = al[k].toNat) := hch
      have hchi : (ch : Int) < 256 := by omega
      clear hch hbo hset hbw
      go_wp2
      go_roundw
      case rel =>
        refine ⟨k + 1, by omega, by go_num, HST.out.congr fun j hj => ?_, HBW.out⟩
        rw [set_succ al k hlt j, ← HCH.out]
        by_cases hjc : j = ch
        · rw [if_pos hjc, if_pos hjc]
        · rw [if_neg hjc, if_neg hjc]
      case measure => simp [intOf]; omega
    · obtain rfl : k = al.size := by omega
      have HST := hide (hset.congr (g := fun j => .bool (SB j)) (fun j hj => by rw [HSB.out j]))
      have HBW := hide hbw
      clear hset hbw
      go_wp2_with fail
      refine (read_any w.heap.size w _ w.heap.size w2.heap.size wr.heap.size (wr.heap.size + 1) n zs SB off line col (.slice none 0 0) (St.start HB2.out HBUF.out HST.out HBW.out rfl) HL.out hn hoff HZ.out m HM).mono ?_
      rintro e w3 ⟨vl, rfl, hS⟩
      clear HST HBW HB2 HBUF
      generalize wr.heap.size = Bc at hS ⊢
      generalize w2.heap.size = Bs at hS ⊢
      rw [← HJ.out] at hS
      obtain ⟨V, hV, hcv⟩ := hS.cut HL.out HZ.out hoff HJ.out hjn
      obtain ⟨S, hS0⟩ : ∃ S, S = strOf (part zs off m) := ⟨_, rfl⟩
      rw [← hS0] at hcv ⊢
      obtain ⟨PL, hPL⟩ : ∃ x, x = posL line (part zs off m) := ⟨_, rfl⟩
      obtain ⟨PC, hPC⟩ : ∃ x, x = posC col (part zs off m) := ⟨_, rfl⟩
      rw [← hPL, ← hPC] at hS
      have HPL : Hid (PL = posL line (part zs off m)) := hPL
      have HPC : Hid (PC = posC col (part zs off m)) := hPC
      have HLG : Hid ((part zs off (m + 1)).length = m + 1) := by
        show _ = _
        exact part_length zs off (m + 1) (by have := HL.out; have := HEND.out; omega)
      have hrow := hS.row
      rw [HLG.out] at hrow
      obtain ⟨a', c', hvl, hag⟩ := own_slice hrow
      have HS := hide hS
      have HVL : Hid (vl = .slice a' (m + 1) c') := hvl
      have HAG : Hid (0 < m + 1 → ∃ g, a' = some ⟨g, 0, none⟩) := hag
      clear hS0 hPL hPC hrow hvl hag hS
      go_wp2_with fail
      go_loop [18] (fun t => ∃ p : Nat, p ≤ jj ∧ off ≤ p ∧ t = .int .i64 (p : Int) ∧ Hid (∃ k, p = off + k ∧ m = k + rl SB (zs.drop (off + k)))) (fun t => jj - (intOf t).toNat)
      case atStart => exact ⟨off, by omega, Nat.le_refl _, rfl, 0, rfl, by rw [Nat.zero_add]; exact HM.out⟩
      case round =>
        obtain ⟨p, hp, hpo, rfl, HK⟩ := hrel
        by_cases hlt2 : p < jj
        · obtain ⟨x, hx⟩ : ∃ x, x = zs.getD p 0 := ⟨_, rfl⟩
          have hzx := HZ.out p
          rw [← hx] at hzx
          obtain ⟨cx, hcx⟩ := Int.eq_ofNat_of_zero_le hzx.1
          subst hcx
          have hcx256 : cx < 256 := by omega
          have hcxi : (cx : Int) < 256 := by omega
          have hK2 : SB cx = true ∧ Hid (∃ k, p + 1 = off + k ∧ m = k + rl SB (zs.drop (off + k))) := by
            obtain ⟨k, hpk, hmk⟩ := HK.out
            obtain ⟨q1, q2, q3⟩ := rl_lt SB zs off k m hmk (by have := HJ.out; omega)
            rw [← hpk, ← hx, Int.toNat_natCast] at q2
            exact ⟨q2, k + 1, by omega, q3⟩
          obtain ⟨hb2, HK2⟩ := hK2
          have d1 : w3.cell? ⟨w.heap.size, p, none⟩ = some (.int .u8 (cx : Int)) := by rw [HS.out.cb p (by have := HL.out; omega), ← hx]
          have d2 := HS.out.cs cx hcx256 true hb2
          have hpn : (p : Int) < (n : Int) := by omega
          have hpb : (p : Int) ≤ 1024 := by omega
          clear hx hzx hb2
          go_wp2
          go_round
          case rel => exact ⟨p + 1, by omega, by omega, by go_num, HK2⟩
          case measure => simp [intOf]; omega
        · obtain rfl : p = jj := by omega
          clear HK hp hpo hlt2
          have d1 : w3.cell? ⟨w.heap.size, p, none⟩ = some (.int .u8 (cb : Int)) := by rw [HS.out.cb p (by have := HL.out; omega), HCZ.out]
          have d2 := HS.out.cs cb hcb false hcs
          have k0 := HS.out.c0
          have k1 := HS.out.c1
          have k4 := HS.out.c4
          have kl : w3.cell? ⟨Bc + 1, 0, none⟩ = some (.slice a' (m + 1) c') := by rw [← HVL.out]; exact cell_of_one HS.out.log
          go_wp2_with (refine wp_cut rfl (.tmp 84) (.tmp 85) (.tmp 86) rfl _ _ _ V rfl rfl rfl hV ?_)
          clear d1 d2 k0 k1 k4 kl hV hcv
          have HJN : Hid (p ≤ zs.length) := by have := HL.out; show _ ≤ _; omega
          go_loopw [20] (fun i wz => ∃ k : Nat, k ≤ m + 1 ∧ i = .int .i64 (k : Int) ∧ Hid (St w.heap.size w wz w.heap.size Bs Bc (Bc + 1) n zs SB (p : Int) PL PC vl (part zs off (m + 1)))) (fun i _ => m + 1 - (intOf i).toNat)
          case atStart => exact ⟨0, Nat.zero_le _, rfl, HS⟩
          case round =>
            clear HS
            obtain ⟨k, hk3, rfl, HS⟩ := hrel
            by_cases hlt3 : k < m + 1
            · obtain ⟨g, hg⟩ := HAG.out (by omega)
              have hokn : off + k < n := by have := HJ.out; have := HEND.out; omega
              obtain ⟨x, hx⟩ : ∃ x, x = zs.getD (off + k) 0 := ⟨_, rfl⟩
              have hzx := HZ.out (off + k)
              rw [← hx] at hzx
              obtain ⟨cx, hcx⟩ := Int.eq_ofNat_of_zero_le hzx.1
              subst hcx
              have hcx256 : cx < 256 := by omega
              have hwr : IntKind.i32.wrap (cx : Int) = (cx : Int) := wrap32_byte cx hcx256
              have e1 : wr.cell? ⟨Bc + 1, 0, none⟩ = some (.slice (some ⟨g, 0, none⟩) (m + 1) c') := by rw [← hg, ← HVL.out]; exact cell_of_one HS.out.log
              have e2 : wr.cell? ⟨g, k, none⟩ = some (.int .i32 (cx : Int)) := by
                have h' := HS.out
                rw [HVL.out, hg] at h'
                rw [h'.cl HLG.out k hlt3, part_getD zs off k (m + 1) (by omega) (by have := HL.out; omega), ← hx]
              have e3 : wr.cell? ⟨w.heap.size, off + k, none⟩ = some (.int .u8 (cx : Int)) := by rw [HS.out.cb (off + k) (by have := HL.out; omega), ← hx]
              have hi1 : (off : Int) + (k : Int) < (n : Int) := by omega
              have hi2 : (k : Int) < (m : Int) + 1 := by omega
              clear hx hzx hg
              go_wp2
              go_quiet (fail)
              go_wp2
              go_roundw
              case rel => exact ⟨k + 1, by omega, by go_num, HS.out.drewN _⟩
              case measure => simp [intOf]; omega
            · obtain rfl : k = m + 1 := by omega
              clear hk3 hlt3 HAG HVL HLG
              have hd3 : decide (((m : Int) + 1) < ((m : Int) + 1)) = false := by simp
              go_wp2
              go_loop [21, 22, 23] (fun a l t => ∃ (q N : Nat) (Lt : Int), q ≤ p ∧ off ≤ q ∧ a = .int .i64 (N : Int) ∧ l = .int .i64 Lt ∧ t = .int .i64 (q : Int) ∧ Hid (Cnt zs off q N Lt)) (fun _ _ t => p - (intOf t).toNat)
              case atStart => exact ⟨off, 0, -1, by omega, Nat.le_refl _, rfl, rfl, rfl, Cnt.zero zs off⟩
              case round =>
                obtain ⟨q, N, Lt, hq, hqo, rfl, rfl, rfl, HN⟩ := hrel
                have hNq := HN.out.le (by have := HJN.out; omega)
                have hNb : (N : Int) ≤ 1024 := by omega
                by_cases hlt4 : q < p
                · have hqp : (q : Int) < (p : Int) := by omega
                  have hqn : (q : Int) < (n : Int) := by omega
                  have hqb : (q : Int) ≤ 1024 := by omega
                  have e1 := HS.out.cb q (by have := HJN.out; omega)
                  by_cases h10 : zs.getD q 0 = 10
                  · have HN2 := hide (HN.out.nl (by have := HJN.out; omega) h10)
                    rw [h10] at e1
                    clear h10 HN hNq
                    go_wp2
                    go_round
                    case rel => exact ⟨q + 1, N + 1, q, by omega, by omega, by go_num, rfl, by go_num, HN2⟩
                    case measure => simp [intOf]; omega
                  · have HN2 := hide (HN.out.ch (by have := HJN.out; omega) h10)
                    obtain ⟨x, hx⟩ : ∃ x, x = zs.getD q 0 := ⟨_, rfl⟩
                    rw [← hx] at e1 h10
                    have h10b : (x == 10) = false := by rw [beq_eq_false_iff_ne]; exact h10
                    clear h10 HN hNq hx
                    go_wp2
                    go_round
                    case rel => exact ⟨q + 1, N, Lt, by omega, by omega, rfl, rfl, by go_num, HN2⟩
                    case measure => simp [intOf]; omega
                · obtain rfl : q = p := by omega
                  clear hq hqo hlt4 hNq
                  have hd4 : decide ((q : Int) < (q : Int)) = false := by simp
                  have HN' := HN.out
                  rw [HJ.out] at HN'
                  rcases Nat.eq_zero_or_pos N with h0 | h0
                  · obtain ⟨g1, g2⟩ := HN'.done0 (line := line) (col := col) h0 (by have := HL.out; have := HJ.out; omega) (by omega) hl0 hl1 hc0 hc1
                    have c2 := HS.out.c2
                    have c3 := HS.out.c3
                    rw [HPL.out, g1] at c2
                    rw [HPC.out, g2] at c3
                    subst h0
                    clear HN HN' g1 g2
                    go_wp2
                    clear c2 c3
                    go_loopw [26] (fun i wz => ∃ k : Nat, k ≤ n ∧ i = .int .i64 (k : Int) ∧ Hid (St w.heap.size w wz w.heap.size Bs Bc (Bc + 1) n zs SB (q : Int) PL PC vl (part zs off (m + 1)))) (fun i _ => n - (intOf i).toNat)
                    case atStart => exact ⟨0, Nat.zero_le _, rfl, HS⟩
                    case round =>
                      clear HS
                      obtain ⟨k, hk5, rfl, HS⟩ := hrel
                      by_cases hlt5 : k < n
                      · have e1 := HS.out.cb k (by have := HL.out; omega)
                        have e2 : wr.cell? ⟨b, o + k, none⟩ = some (.int .u8 (zs.getD k 0)) := by
                          rw [HS.out.bel.cell (p := ⟨b, o + k, none⟩) (HBLT.out (by omega))]
                          exact HC.out k hlt5
                        generalize zs.getD k 0 = x at e1 e2
                        have hki : (k : Int) < (n : Int) := by omega
                        go_wp2
                        go_quiet (fail)
                        go_wp2
                        go_roundw
                        case rel => exact ⟨k + 1, by omega, by go_num, HS.out.drewN _⟩
                        case measure => simp [intOf]; omega
                      · obtain rfl : k = n := by omega
                        have hd5 : decide ((k : Int) < (k : Int)) = false := by simp
                        clear hk5 hlt5
                        go_wp2
                        go_ret
                        exact ⟨rfl, HS.out.bel⟩
                  · obtain ⟨g1, g2, g3, g4⟩ := HN'.done1 (line := line) (col := col) h0 (by have := HL.out; have := HJ.out; omega) (by omega) hl0 hl1 hc0 hc1
                    rw [← HJ.out] at g2 g4
                    have c2 := HS.out.c2
                    have c3 := HS.out.c3
                    rw [HPL.out, g1] at c2
                    rw [HPC.out, g2] at c3
                    have h0i : (0 : Int) < (N : Int) := by omega
                    clear HN HN' g1 g2 h0
                    go_wp2
                    clear c2 c3
                    go_loopw [26] (fun i wz => ∃ k : Nat, k ≤ n ∧ i = .int .i64 (k : Int) ∧ Hid (St w.heap.size w wz w.heap.size Bs Bc (Bc + 1) n zs SB (q : Int) PL PC vl (part zs off (m + 1)))) (fun i _ => n - (intOf i).toNat)
                    case atStart => exact ⟨0, Nat.zero_le _, rfl, HS⟩
                    case round =>
                      clear HS
                      obtain ⟨k, hk5, rfl, HS⟩ := hrel
                      by_cases hlt5 : k < n
                      · have e1 := HS.out.cb k (by have := HL.out; omega)
                        have e2 : wr.cell? ⟨b, o + k, none⟩ = some (.int .u8 (zs.getD k 0)) := by
                          rw [HS.out.bel.cell (p := ⟨b, o + k, none⟩) (HBLT.out (by omega))]
                          exact HC.out k hlt5
                        generalize zs.getD k 0 = x at e1 e2
                        have hki : (k : Int) < (n : Int) := by omega
                        go_wp2
                        go_quiet (fail)
                        go_wp2
                        go_roundw
                        case rel => exact ⟨k + 1, by omega, by go_num, HS.out.drewN _⟩
                        case measure => simp [intOf]; omega
                      · obtain rfl : k = n := by omega
                        have hd5 : decide ((k : Int) < (k : Int)) = false := by simp
                        clear hk5 hlt5
                        go_wp2
                        go_ret
                        exact ⟨rfl, HS.out.bel⟩

set_option maxRecDepth 100000 in
set_option maxHeartbeats 4000000 in
theorem law_B (b o n c : Nat) (zs : List Int) (al : ByteArray) (sel line col : Int) (w : World) (off m : Nat) (SB : Nat → Bool) (hn : n ≤ 1024) (hl : zs.length = n) (hc : ∀ i, i < n → w.cell? ⟨b, o + i, none⟩ = some (.int .u8 (zs.getD i 0))) (hz : ∀ i, 0 ≤ zs.getD i 0 ∧ zs.getD i 0 ≤ 255) (hal : al.size ≤ 1024) (hs0 : 0 ≤ sel)
    (hl0 : -9223372036854775808 ≤ line) (hl1 : line ≤ 9223372036854775807) (hc0 : -9223372036854775808 ≤ col) (hc1 : col ≤ 9223372036854775807)
    (hmod : sel % ((n : Int) + 1) = (off : Int)) (hoff : off ≤ n) (HSB : Hid (∀ j, SB j = setK al al.size j)) (HM : Hid (m = rl SB (zs.drop off))) (hend : off + m = n) :
    Calls Yba.prog 3 #[.slice (some ⟨b, o, none⟩) n c, .string al, .int .u64 sel, .int .i64 line, .int .i64 col] w fun e w' => e = .returned (.bool true) ∧ Below w.heap.size w w' := by
  have hmk := run_make_row' (P := Yba.prog) 22 5 (.int .u8 0) 1 Yba.underlying22 Yba.info5 rfl .i64 .i64 n (by omega) (by omega)
  have HC := hide hc
  have HBLT : Hid (0 < n → b < w.heap.size) := fun h0 => by
    rcases Nat.lt_or_ge b w.heap.size with h' | h'
    · exact h'
    · have := hc 0 h0
      simp [World.cell?, Array.getElem?_eq_none h'] at this
  have HSRC := hide (copy_src hl hc)
  have HZ := hide hz
  have HL := hide hl
  have HNEW : Hid ((w.alloc (.cells (madeCells #[.int .u8 0] n) 5)).heap[w.heap.size]? = some (.cells (List.replicate n (.int .u8 0)).toArray 5 (0, 0))) := by
    rw [made_eq]; exact heap_alloc_new _ _
  have HONE := hide (nc_one .u8 zs)
  have HSP : Hid (splice (List.replicate n (Value.int .u8 0)) 0 (nc .u8 zs) = nc .u8 zs) := splice_all _ _ (by simp [nc, hl])
  obtain ⟨X, hX⟩ : ∃ X, X = nc .u8 zs := ⟨_, rfl⟩
  have HXL : Hid (X.length = n) := by rw [hX]; show _ = _; simpa [nc] using hl
  rw [← hX] at HSRC HONE HSP
  have HX : Hid (X = nc .u8 zs) := hX
  obtain ⟨jj, hjj⟩ : ∃ jj, jj = off + m := ⟨_, rfl⟩
  have HJ : Hid (jj = off + m) := hjj
  have hjn : jj ≤ n := by omega
  have hjge : (n : Int) ≤ (jj : Int) := by omega
  have hsub : (jj : Int) - (off : Int) = (m : Int) := by omega
  have hjo : (off : Int) ≤ (jj : Int) := by omega
  have hmb : (m : Int) ≤ 1024 := by omega
  have hm0 : (0 : Int) ≤ (m : Int) := by omega
  have hoffb : (off : Int) ≤ 1024 := by omega
  have HEND := hide hend
  clear hX hc hl hz hjj hend
  go_enter Yba.func3, Yba.ntmps3
  go_wp2_with (first | (refine wp_alloc24 rfl rfl ?_) | (refine wpList_copy_splice rfl (.tmp 38) (.tmp 39) 22 22 rfl 5 Yba.underlying22 (by kernel_rfl) _ _ n _ n _ rfl rfl w.heap.size 0 (List.replicate n (.int .u8 0)) 5 HNEW.out X (by rw [HXL.out]; exact (Nat.min_self n).symm) HSRC.out (by rw [HXL.out]; simp) HONE.out w.heap.size w ((Below.refl _ w).alloc (Nat.le_refl _) _) (Nat.le_refl _) ?_; intro w2 HG2 hB2))
  have HB2 := hide hB2
  have HBUF : Hid (w2.heap[w.heap.size]? = some (.cells (nc .u8 zs).toArray 5 (0, 0))) := by
    have h := HG2.out
    rw [HSP.out, HX.out] at h
    exact h
  clear HG2 HSP HX HXL HSRC HONE HNEW hmk hB2
  go_loopw [13] (fun i wr => ∃ k : Nat, k ≤ al.size ∧ i = .int .i64 (k : Int) ∧ wr.rowIs w2.heap.size 24 256 (fun j => .bool (setK al k j)) ∧ Below w2.heap.size w2 wr) (fun i _ => al.size - (intOf i).toNat)
  case atStart => exact ⟨0, Nat.zero_le _, rfl, set_zero w2 al, (Below.refl _ _).alloc (Nat.le_refl _) _⟩
  case round =>
    obtain ⟨k, hk, rfl, hset, hbw⟩ := hrel
    by_cases hlt : k < al.size
    · obtain ⟨ch, hch⟩ : ∃ ch : Nat, ch = al[k].toNat := ⟨_, rfl⟩
      have hch256 : ch < 256 := by rw [hch]; exact al[k].toNat_lt
      have hce : (al[k].toNat : Int) = (ch : Int) := by rw [hch]
      have d1 : wr.cell? ⟨w2.heap.size, ch, none⟩ = some (.bool (setK al k ch)) := hset.cell hch256
      obtain ⟨bo, hbo⟩ : ∃ bo, bo = setK al k ch := ⟨_, rfl⟩
      rw [← hbo] at d1
      have d2 : wr.frozen? ⟨w2.heap.size, ch, none⟩ = false := hset.frozen ch
      have HST := hide (hset.set ch (.bool true))
      have HBW := hide (hbw.setCell (p := ⟨w2.heap.size, ch, none⟩) (Nat.le_refl _) (.bool true))
      have HCH : Hid (ch = al[k].toNat) := hch
      have hchi : (ch : Int) < 256 := by omega
      clear hch hbo hset hbw
      go_wp2
      go_roundw
      case rel =>
        refine ⟨k + 1, by omega, by go_num, HST.out.congr fun j hj => ?_, HBW.out⟩
        rw [set_succ al k hlt j, ← HCH.out]
        by_cases hjc : j = ch
        · rw [if_pos hjc, if_pos hjc]
        · rw [if_neg hjc, if_neg hjc]
      case measure => simp [intOf]; omega
    · obtain rfl : k = al.size := by omega
      have HST := hide (hset.congr (g := fun j => .bool (SB j)) (fun j hj => by rw [HSB.out j]))
      have HBW := hide hbw
      clear hset hbw
      go_wp2_with fail
      refine (read_any w.heap.size w _ w.heap.size w2.heap.size wr.heap.size (wr.heap.size + 1) n zs SB off line col (.slice none 0 0) (St.start HB2.out HBUF.out HST.out HBW.out rfl) HL.out hn hoff HZ.out m HM).mono ?_
      rintro e w3 ⟨vl, rfl, hS⟩
      clear HST HBW HB2 HBUF
      generalize wr.heap.size = Bc at hS ⊢
      generalize w2.heap.size = Bs at hS ⊢
      rw [← HJ.out] at hS
      obtain ⟨V, hV, hcv⟩ := hS.cut HL.out HZ.out hoff HJ.out hjn
      obtain ⟨S, hS0⟩ : ∃ S, S = strOf (part zs off m) := ⟨_, rfl⟩
      rw [← hS0] at hcv ⊢
      obtain ⟨PL, hPL⟩ : ∃ x, x = posL line (part zs off m) := ⟨_, rfl⟩
      obtain ⟨PC, hPC⟩ : ∃ x, x = posC col (part zs off m) := ⟨_, rfl⟩
      rw [← hPL, ← hPC] at hS
      have HPL : Hid (PL = posL line (part zs off m)) := hPL
      have HPC : Hid (PC = posC col (part zs off m)) := hPC
      have HLG : Hid ((part zs off (m + 1)).length = m) := by
        show _ = _
        rw [part_past zs off m (by have := HL.out; have := HEND.out; omega)]; exact part_length zs off m (by have := HL.out; have := HEND.out; omega)
      have hrow := hS.row
      rw [HLG.out] at hrow
      obtain ⟨a', c', hvl, hag⟩ := own_slice hrow
      have HS := hide hS
      have HVL : Hid (vl = .slice a' m c') := hvl
      have HAG : Hid (0 < m → ∃ g, a' = some ⟨g, 0, none⟩) := hag
      clear hS0 hPL hPC hrow hvl hag hS
      go_wp2_with fail
      go_loop [18] (fun t => ∃ p : Nat, p ≤ jj ∧ off ≤ p ∧ t = .int .i64 (p : Int) ∧ Hid (∃ k, p = off + k ∧ m = k + rl SB (zs.drop (off + k)))) (fun t => jj - (intOf t).toNat)
      case atStart => exact ⟨off, by omega, Nat.le_refl _, rfl, 0, rfl, by rw [Nat.zero_add]; exact HM.out⟩
      case round =>
        obtain ⟨p, hp, hpo, rfl, HK⟩ := hrel
        by_cases hlt2 : p < jj
        · obtain ⟨x, hx⟩ : ∃ x, x = zs.getD p 0 := ⟨_, rfl⟩
          have hzx := HZ.out p
          rw [← hx] at hzx
          obtain ⟨cx, hcx⟩ := Int.eq_ofNat_of_zero_le hzx.1
          subst hcx
          have hcx256 : cx < 256 := by omega
          have hcxi : (cx : Int) < 256 := by omega
          have hK2 : SB cx = true ∧ Hid (∃ k, p + 1 = off + k ∧ m = k + rl SB (zs.drop (off + k))) := by
            obtain ⟨k, hpk, hmk⟩ := HK.out
            obtain ⟨q1, q2, q3⟩ := rl_lt SB zs off k m hmk (by have := HJ.out; omega)
            rw [← hpk, ← hx, Int.toNat_natCast] at q2
            exact ⟨q2, k + 1, by omega, q3⟩
          obtain ⟨hb2, HK2⟩ := hK2
          have d1 : w3.cell? ⟨w.heap.size, p, none⟩ = some (.int .u8 (cx : Int)) := by rw [HS.out.cb p (by have := HL.out; omega), ← hx]
          have d2 := HS.out.cs cx hcx256 true hb2
          have hpn : (p : Int) < (n : Int) := by omega
          have hpb : (p : Int) ≤ 1024 := by omega
          clear hx hzx hb2
          go_wp2
          go_round
          case rel => exact ⟨p + 1, by omega, by omega, by go_num, HK2⟩
          case measure => simp [intOf]; omega
        · obtain rfl : p = jj := by omega
          clear HK hp hpo hlt2
          have hd : decide ((p : Int) < (n : Int)) = false := by simpa using hjge
          have k0 := HS.out.c0
          have k1 := HS.out.c1
          have k4 := HS.out.c4
          have kl : w3.cell? ⟨Bc + 1, 0, none⟩ = some (.slice a' m c') := by rw [← HVL.out]; exact cell_of_one HS.out.log
          go_wp2_with (refine wp_cut rfl (.tmp 84) (.tmp 85) (.tmp 86) rfl _ _ _ V rfl rfl rfl hV ?_)
          clear k0 k1 k4 kl hV hcv
          have HJN : Hid (p ≤ zs.length) := by have := HL.out; show _ ≤ _; omega
          go_loopw [20] (fun i wz => ∃ k : Nat, k ≤ m ∧ i = .int .i64 (k : Int) ∧ Hid (St w.heap.size w wz w.heap.size Bs Bc (Bc + 1) n zs SB (p : Int) PL PC vl (part zs off (m + 1)))) (fun i _ => m - (intOf i).toNat)
          case atStart => exact ⟨0, Nat.zero_le _, rfl, HS⟩
          case round =>
            clear HS
            obtain ⟨k, hk3, rfl, HS⟩ := hrel
            by_cases hlt3 : k < m
            · obtain ⟨g, hg⟩ := HAG.out (by omega)
              have hokn : off + k < n := by have := HJ.out; have := HEND.out; omega
              obtain ⟨x, hx⟩ : ∃ x, x = zs.getD (off + k) 0 := ⟨_, rfl⟩
              have hzx := HZ.out (off + k)
              rw [← hx] at hzx
              obtain ⟨cx, hcx⟩ := Int.eq_ofNat_of_zero_le hzx.1
              subst hcx
              have hcx256 : cx < 256 := by omega
              have hwr : IntKind.i32.wrap (cx : Int) = (cx : Int) := wrap32_byte cx hcx256
              have e1 : wr.cell? ⟨Bc + 1, 0, none⟩ = some (.slice (some ⟨g, 0, none⟩) m c') := by rw [← hg, ← HVL.out]; exact cell_of_one HS.out.log
              have e2 : wr.cell? ⟨g, k, none⟩ = some (.int .i32 (cx : Int)) := by
                have h' := HS.out
                rw [HVL.out, hg] at h'
                rw [h'.cl HLG.out k hlt3, part_getD zs off k (m + 1) (by omega) (by have := HL.out; omega), ← hx]
              have e3 : wr.cell? ⟨w.heap.size, off + k, none⟩ = some (.int .u8 (cx : Int)) := by rw [HS.out.cb (off + k) (by have := HL.out; omega), ← hx]
              have hi1 : (off : Int) + (k : Int) < (n : Int) := by omega
              have hi2 : (k : Int) < (m : Int) := by omega
              clear hx hzx hg
              go_wp2
              go_quiet (fail)
              go_wp2
              go_roundw
              case rel => exact ⟨k + 1, by omega, by go_num, HS.out.drewN _⟩
              case measure => simp [intOf]; omega
            · obtain rfl : m = k := by omega
              clear hk3 hlt3 HAG HVL HLG
              have hd3 : decide (((m : Int)) < ((m : Int))) = false := by simp
              go_wp2
              go_loop [21, 22, 23] (fun a l t => ∃ (q N : Nat) (Lt : Int), q ≤ p ∧ off ≤ q ∧ a = .int .i64 (N : Int) ∧ l = .int .i64 Lt ∧ t = .int .i64 (q : Int) ∧ Hid (Cnt zs off q N Lt)) (fun _ _ t => p - (intOf t).toNat)
              case atStart => exact ⟨off, 0, -1, by omega, Nat.le_refl _, rfl, rfl, rfl, Cnt.zero zs off⟩
              case round =>
                obtain ⟨q, N, Lt, hq, hqo, rfl, rfl, rfl, HN⟩ := hrel
                have hNq := HN.out.le (by have := HJN.out; omega)
                have hNb : (N : Int) ≤ 1024 := by omega
                by_cases hlt4 : q < p
                · have hqp : (q : Int) < (p : Int) := by omega
                  have hqn : (q : Int) < (n : Int) := by omega
                  have hqb : (q : Int) ≤ 1024 := by omega
                  have e1 := HS.out.cb q (by have := HJN.out; omega)
                  by_cases h10 : zs.getD q 0 = 10
                  · have HN2 := hide (HN.out.nl (by have := HJN.out; omega) h10)
                    rw [h10] at e1
                    clear h10 HN hNq
                    go_wp2
                    go_round
                    case rel => exact ⟨q + 1, N + 1, q, by omega, by omega, by go_num, rfl, by go_num, HN2⟩
                    case measure => simp [intOf]; omega
                  · have HN2 := hide (HN.out.ch (by have := HJN.out; omega) h10)
                    obtain ⟨x, hx⟩ : ∃ x, x = zs.getD q 0 := ⟨_, rfl⟩
                    rw [← hx] at e1 h10
                    have h10b : (x == 10) = false := by rw [beq_eq_false_iff_ne]; exact h10
                    clear h10 HN hNq hx
                    go_wp2
                    go_round
                    case rel => exact ⟨q + 1, N, Lt, by omega, by omega, rfl, rfl, by go_num, HN2⟩
                    case measure => simp [intOf]; omega
                · obtain rfl : q = p := by omega
                  clear hq hqo hlt4 hNq
                  have hd4 : decide ((q : Int) < (q : Int)) = false := by simp
                  have HN' := HN.out
                  rw [HJ.out] at HN'
                  rcases Nat.eq_zero_or_pos N with h0 | h0
                  · obtain ⟨g1, g2⟩ := HN'.done0 (line := line) (col := col) h0 (by have := HL.out; have := HJ.out; omega) (by omega) hl0 hl1 hc0 hc1
                    have c2 := HS.out.c2
                    have c3 := HS.out.c3
                    rw [HPL.out, g1] at c2
                    rw [HPC.out, g2] at c3
                    subst h0
                    clear HN HN' g1 g2
                    go_wp2
                    clear c2 c3
                    go_loopw [26] (fun i wz => ∃ k : Nat, k ≤ n ∧ i = .int .i64 (k : Int) ∧ Hid (St w.heap.size w wz w.heap.size Bs Bc (Bc + 1) n zs SB (q : Int) PL PC vl (part zs off (m + 1)))) (fun i _ => n - (intOf i).toNat)
                    case atStart => exact ⟨0, Nat.zero_le _, rfl, HS⟩
                    case round =>
                      clear HS
                      obtain ⟨k, hk5, rfl, HS⟩ := hrel
                      by_cases hlt5 : k < n
                      · have e1 := HS.out.cb k (by have := HL.out; omega)
                        have e2 : wr.cell? ⟨b, o + k, none⟩ = some (.int .u8 (zs.getD k 0)) := by
                          rw [HS.out.bel.cell (p := ⟨b, o + k, none⟩) (HBLT.out (by omega))]
                          exact HC.out k hlt5
                        generalize zs.getD k 0 = x at e1 e2
                        have hki : (k : Int) < (n : Int) := by omega
                        go_wp2
                        go_quiet (fail)
                        go_wp2
                        go_roundw
                        case rel => exact ⟨k + 1, by omega, by go_num, HS.out.drewN _⟩
                        case measure => simp [intOf]; omega
                      · obtain rfl : k = n := by omega
                        have hd5 : decide ((k : Int) < (k : Int)) = false := by simp
                        clear hk5 hlt5
                        go_wp2
                        go_ret
                        exact ⟨rfl, HS.out.bel⟩
                  · obtain ⟨g1, g2, g3, g4⟩ := HN'.done1 (line := line) (col := col) h0 (by have := HL.out; have := HJ.out; omega) (by omega) hl0 hl1 hc0 hc1
                    rw [← HJ.out] at g2 g4
                    have c2 := HS.out.c2
                    have c3 := HS.out.c3
                    rw [HPL.out, g1] at c2
                    rw [HPC.out, g2] at c3
                    have h0i : (0 : Int) < (N : Int) := by omega
                    clear HN HN' g1 g2 h0
                    go_wp2
                    clear c2 c3
                    go_loopw [26] (fun i wz => ∃ k : Nat, k ≤ n ∧ i = .int .i64 (k : Int) ∧ Hid (St w.heap.size w wz w.heap.size Bs Bc (Bc + 1) n zs SB (q : Int) PL PC vl (part zs off (m + 1)))) (fun i _ => n - (intOf i).toNat)
                    case atStart => exact ⟨0, Nat.zero_le _, rfl, HS⟩
                    case round =>
                      clear HS
                      obtain ⟨k, hk5, rfl, HS⟩ := hrel
                      by_cases hlt5 : k < n
                      · have e1 := HS.out.cb k (by have := HL.out; omega)
                        have e2 : wr.cell? ⟨b, o + k, none⟩ = some (.int .u8 (zs.getD k 0)) := by
                          rw [HS.out.bel.cell (p := ⟨b, o + k, none⟩) (HBLT.out (by omega))]
                          exact HC.out k hlt5
                        generalize zs.getD k 0 = x at e1 e2
                        have hki : (k : Int) < (n : Int) := by omega
                        go_wp2
                        go_quiet (fail)
                        go_wp2
                        go_roundw
                        case rel => exact ⟨k + 1, by omega, by go_num, HS.out.drewN _⟩
                        case measure => simp [intOf]; omega
                      · obtain rfl : k = n := by omega
                        have hd5 : decide ((k : Int) < (k : Int)) = false := by simp
                        clear hk5 hlt5
                        go_wp2
                        go_ret
                        exact ⟨rfl, HS.out.bel⟩

set_option maxRecDepth 100000 in
set_option maxHeartbeats 4000000 in
theorem law_Z (a : Option Addr) (n c : Nat) (zs : List Int) (al : ByteArray) (sel line col : Int) (w : World) (off m : Nat) (SB : Nat → Bool) (hn : n ≤ 1024) (hl : zs.length = n) (hn0 : n ≤ 0) (hz : ∀ i, 0 ≤ zs.getD i 0 ∧ zs.getD i 0 ≤ 255) (hal : al.size ≤ 1024) (hs0 : 0 ≤ sel)
    (hl0 : -9223372036854775808 ≤ line) (hl1 : line ≤ 9223372036854775807) (hc0 : -9223372036854775808 ≤ col) (hc1 : col ≤ 9223372036854775807)
    (hmod : sel % ((n : Int) + 1) = (off : Int)) (hoff : off ≤ n) (HSB : Hid (∀ j, SB j = setK al al.size j)) (HM : Hid (m = rl SB (zs.drop off))) (hend : off + m = n) :
    Calls Yba.prog 3 #[.slice a n c, .string al, .int .u64 sel, .int .i64 line, .int .i64 col] w fun e w' => e = .returned (.bool true) ∧ Below w.heap.size w w' := by
  have hmk := run_make_row' (P := Yba.prog) 22 5 (.int .u8 0) 1 Yba.underlying22 Yba.info5 rfl .i64 .i64 n (by omega) (by omega)
  have HSRC : Hid (0 < (nc .u8 zs).length → (some (⟨w.heap.size, 0, none⟩ : Addr)) = some ⟨w.heap.size, 0, none⟩ ∧ ∃ ad, a = some ad ∧ ∀ j v, (nc .u8 zs)[j]? = some v → (w.alloc (.cells (madeCells #[.int .u8 0] n) 5)).cell? (ad.add j) = some v) := fun h => by simp only [nc, List.length_map] at h; omega
  have HN0 := hide hn0
  have HZ := hide hz
  have HL := hide hl
  have HNEW : Hid ((w.alloc (.cells (madeCells #[.int .u8 0] n) 5)).heap[w.heap.size]? = some (.cells (List.replicate n (.int .u8 0)).toArray 5 (0, 0))) := by
    rw [made_eq]; exact heap_alloc_new _ _
  have HONE := hide (nc_one .u8 zs)
  have HSP : Hid (splice (List.replicate n (Value.int .u8 0)) 0 (nc .u8 zs) = nc .u8 zs) := splice_all _ _ (by simp [nc, hl])
  obtain ⟨X, hX⟩ : ∃ X, X = nc .u8 zs := ⟨_, rfl⟩
  have HXL : Hid (X.length = n) := by rw [hX]; show _ = _; simpa [nc] using hl
  rw [← hX] at HSRC HONE HSP
  have HX : Hid (X = nc .u8 zs) := hX
  obtain ⟨jj, hjj⟩ : ∃ jj, jj = off + m := ⟨_, rfl⟩
  have HJ : Hid (jj = off + m) := hjj
  have hjn : jj ≤ n := by omega
  have hjge : (n : Int) ≤ (jj : Int) := by omega
  have hsub : (jj : Int) - (off : Int) = (m : Int) := by omega
  have hjo : (off : Int) ≤ (jj : Int) := by omega
  have hmb : (m : Int) ≤ 1024 := by omega
  have hm0 : (0 : Int) ≤ (m : Int) := by omega
  have hoffb : (off : Int) ≤ 1024 := by omega
  have HEND := hide hend
  clear hX hn0 hl hz hjj hend
  go_enter Yba.func3, Yba.ntmps3
  go_wp2_with (first | (refine wp_alloc24 rfl rfl ?_) | (refine wpList_copy_splice rfl (.tmp 38) (.tmp 39) 22 22 rfl 5 Yba.underlying22 (by kernel_rfl) _ _ n _ n _ rfl rfl w.heap.size 0 (List.replicate n (.int .u8 0)) 5 HNEW.out X (by rw [HXL.out]; exact (Nat.min_self n).symm) HSRC.out (by rw [HXL.out]; simp) HONE.out w.heap.size w ((Below.refl _ w).alloc (Nat.le_refl _) _) (Nat.le_refl _) ?_; intro w2 HG2 hB2))
  have HB2 := hide hB2
  have HBUF : Hid (w2.heap[w.heap.size]? = some (.cells (nc .u8 zs).toArray 5 (0, 0))) := by
    have h := HG2.out
    rw [HSP.out, HX.out] at h
    exact h
  clear HG2 HSP HX HXL HSRC HONE HNEW hmk hB2
  go_loopw [13] (fun i wr => ∃ k : Nat, k ≤ al.size ∧ i = .int .i64 (k : Int) ∧ wr.rowIs w2.heap.size 24 256 (fun j => .bool (setK al k j)) ∧ Below w2.heap.size w2 wr) (fun i _ => al.size - (intOf i).toNat)
  case atStart => exact ⟨0, Nat.zero_le _, rfl, set_zero w2 al, (Below.refl _ _).alloc (Nat.le_refl _) _⟩
  case round =>
    obtain ⟨k, hk, rfl, hset, hbw⟩ := hrel
    by_cases hlt : k < al.size
    · obtain ⟨ch, hch⟩ : ∃ ch : Nat, ch = al[k].toNat := ⟨_, rfl⟩
      have hch256 : ch < 256 := by rw [hch]; exact al[k].toNat_lt
      have hce : (al[k].toNat : Int) = (ch : Int) := by rw [hch]
      have d1 : wr.cell? ⟨w2.heap.size, ch, none⟩ = some (.bool (setK al k ch)) := hset.cell hch256
      obtain ⟨bo, hbo⟩ : ∃ bo, bo = setK al k ch := ⟨_, rfl⟩
      rw [← hbo] at d1
      have d2 : wr.frozen? ⟨w2.heap.size, ch, none⟩ = false := hset.frozen ch
      have HST := hide (hset.set ch (.bool true))
      have HBW := hide (hbw.setCell (p := ⟨w2.heap.size, ch, none⟩) (Nat.le_refl _) (.bool true))
      have HCH : Hid (ch = al[k].toNat) := hch
      have hchi : (ch : Int) < 256 := by omega
      clear hch hbo hset hbw
      go_wp2
      go_roundw
      case rel =>
        refine ⟨k + 1, by omega, by go_num, HST.out.congr fun j hj => ?_, HBW.out⟩
        rw [set_succ al k hlt j, ← HCH.out]
        by_cases hjc : j = ch
        · rw [if_pos hjc, if_pos hjc]
        · rw [if_neg hjc, if_neg hjc]
      case measure => simp [intOf]; omega
    · obtain rfl : k = al.size := by omega
      have HST := hide (hset.congr (g := fun j => .bool (SB j)) (fun j hj => by rw [HSB.out j]))
      have HBW := hide hbw
      clear hset hbw
      go_wp2_with fail
      refine (read_any w.heap.size w _ w.heap.size w2.heap.size wr.heap.size (wr.heap.size + 1) n zs SB off line col (.slice none 0 0) (St.start HB2.out HBUF.out HST.out HBW.out rfl) HL.out hn hoff HZ.out m HM).mono ?_
      rintro e w3 ⟨vl, rfl, hS⟩
      clear HST HBW HB2 HBUF
      generalize wr.heap.size = Bc at hS ⊢
      generalize w2.heap.size = Bs at hS ⊢
      rw [← HJ.out] at hS
      obtain ⟨V, hV, hcv⟩ := hS.cut HL.out HZ.out hoff HJ.out hjn
      obtain ⟨S, hS0⟩ : ∃ S, S = strOf (part zs off m) := ⟨_, rfl⟩
      rw [← hS0] at hcv ⊢
      obtain ⟨PL, hPL⟩ : ∃ x, x = posL line (part zs off m) := ⟨_, rfl⟩
      obtain ⟨PC, hPC⟩ : ∃ x, x = posC col (part zs off m) := ⟨_, rfl⟩
      rw [← hPL, ← hPC] at hS
      have HPL : Hid (PL = posL line (part zs off m)) := hPL
      have HPC : Hid (PC = posC col (part zs off m)) := hPC
      have HLG : Hid ((part zs off (m + 1)).length = m) := by
        show _ = _
        rw [part_past zs off m (by have := HL.out; have := HEND.out; omega)]; exact part_length zs off m (by have := HL.out; have := HEND.out; omega)
      have hrow := hS.row
      rw [HLG.out] at hrow
      obtain ⟨a', c', hvl, hag⟩ := own_slice hrow
      have HS := hide hS
      have HVL : Hid (vl = .slice a' m c') := hvl
      have HAG : Hid (0 < m → ∃ g, a' = some ⟨g, 0, none⟩) := hag
      clear hS0 hPL hPC hrow hvl hag hS
      go_wp2_with fail
      go_loop [18] (fun t => ∃ p : Nat, p ≤ jj ∧ off ≤ p ∧ t = .int .i64 (p : Int) ∧ Hid (∃ k, p = off + k ∧ m = k + rl SB (zs.drop (off + k)))) (fun t => jj - (intOf t).toNat)
      case atStart => exact ⟨off, by omega, Nat.le_refl _, rfl, 0, rfl, by rw [Nat.zero_add]; exact HM.out⟩
      case round =>
        obtain ⟨p, hp, hpo, rfl, HK⟩ := hrel
        by_cases hlt2 : p < jj
        · obtain ⟨x, hx⟩ : ∃ x, x = zs.getD p 0 := ⟨_, rfl⟩
          have hzx := HZ.out p
          rw [← hx] at hzx
          obtain ⟨cx, hcx⟩ := Int.eq_ofNat_of_zero_le hzx.1
          subst hcx
          have hcx256 : cx < 256 := by omega
          have hcxi : (cx : Int) < 256 := by omega
          have hK2 : SB cx = true ∧ Hid (∃ k, p + 1 = off + k ∧ m = k + rl SB (zs.drop (off + k))) := by
            obtain ⟨k, hpk, hmk⟩ := HK.out
            obtain ⟨q1, q2, q3⟩ := rl_lt SB zs off k m hmk (by have := HJ.out; omega)
            rw [← hpk, ← hx, Int.toNat_natCast] at q2
            exact ⟨q2, k + 1, by omega, q3⟩
          obtain ⟨hb2, HK2⟩ := hK2
          have d1 : w3.cell? ⟨w.heap.size, p, none⟩ = some (.int .u8 (cx : Int)) := by rw [HS.out.cb p (by have := HL.out; omega), ← hx]
          have d2 := HS.out.cs cx hcx256 true hb2
          have hpn : (p : Int) < (n : Int) := by omega
          have hpb : (p : Int) ≤ 1024 := by omega
          clear hx hzx hb2
          go_wp2
          go_round
          case rel => exact ⟨p + 1, by omega, by omega, by go_num, HK2⟩
          case measure => simp [intOf]; omega
        · obtain rfl : p = jj := by omega
          clear HK hp hpo hlt2
          have hd : decide ((p : Int) < (n : Int)) = false := by simpa using hjge
          have k0 := HS.out.c0
          have k1 := HS.out.c1
          have k4 := HS.out.c4
          have kl : w3.cell? ⟨Bc + 1, 0, none⟩ = some (.slice a' m c') := by rw [← HVL.out]; exact cell_of_one HS.out.log
          go_wp2_with (refine wp_cut rfl (.tmp 84) (.tmp 85) (.tmp 86) rfl _ _ _ V rfl rfl rfl hV ?_)
          clear k0 k1 k4 kl hV hcv
          have HJN : Hid (p ≤ zs.length) := by have := HL.out; show _ ≤ _; omega
          go_loopw [20] (fun i wz => ∃ k : Nat, k ≤ m ∧ i = .int .i64 (k : Int) ∧ Hid (St w.heap.size w wz w.heap.size Bs Bc (Bc + 1) n zs SB (p : Int) PL PC vl (part zs off (m + 1)))) (fun i _ => m - (intOf i).toNat)
          case atStart => exact ⟨0, Nat.zero_le _, rfl, HS⟩
          case round =>
            clear HS
            obtain ⟨k, hk3, rfl, HS⟩ := hrel
            by_cases hlt3 : k < m
            · obtain ⟨g, hg⟩ := HAG.out (by omega)
              have hokn : off + k < n := by have := HJ.out; have := HEND.out; omega
              obtain ⟨x, hx⟩ : ∃ x, x = zs.getD (off + k) 0 := ⟨_, rfl⟩
              have hzx := HZ.out (off + k)
              rw [← hx] at hzx
              obtain ⟨cx, hcx⟩ := Int.eq_ofNat_of_zero_le hzx.1
              subst hcx
              have hcx256 : cx < 256 := by omega
              have hwr : IntKind.i32.wrap (cx : Int) = (cx : Int) := wrap32_byte cx hcx256
              have e1 : wr.cell? ⟨Bc + 1, 0, none⟩ = some (.slice (some ⟨g, 0, none⟩) m c') := by rw [← hg, ← HVL.out]; exact cell_of_one HS.out.log
              have e2 : wr.cell? ⟨g, k, none⟩ = some (.int .i32 (cx : Int)) := by
                have h' := HS.out
                rw [HVL.out, hg] at h'
                rw [h'.cl HLG.out k hlt3, part_getD zs off k (m + 1) (by omega) (by have := HL.out; omega), ← hx]
              have e3 : wr.cell? ⟨w.heap.size, off + k, none⟩ = some (.int .u8 (cx : Int)) := by rw [HS.out.cb (off + k) (by have := HL.out; omega), ← hx]
              have hi1 : (off : Int) + (k : Int) < (n : Int) := by omega
              have hi2 : (k : Int) < (m : Int) := by omega
              clear hx hzx hg
              go_wp2
              go_quiet (fail)
              go_wp2
              go_roundw
              case rel => exact ⟨k + 1, by omega, by go_num, HS.out.drewN _⟩
              case measure => simp [intOf]; omega
            · obtain rfl : m = k := by omega
              clear hk3 hlt3 HAG HVL HLG
              have hd3 : decide (((m : Int)) < ((m : Int))) = false := by simp
              go_wp2
              go_loop [21, 22, 23] (fun a l t => ∃ (q N : Nat) (Lt : Int), q ≤ p ∧ off ≤ q ∧ a = .int .i64 (N : Int) ∧ l = .int .i64 Lt ∧ t = .int .i64 (q : Int) ∧ Hid (Cnt zs off q N Lt)) (fun _ _ t => p - (intOf t).toNat)
              case atStart => exact ⟨off, 0, -1, by omega, Nat.le_refl _, rfl, rfl, rfl, Cnt.zero zs off⟩
              case round =>
                obtain ⟨q, N, Lt, hq, hqo, rfl, rfl, rfl, HN⟩ := hrel
                have hNq := HN.out.le (by have := HJN.out; omega)
                have hNb : (N : Int) ≤ 1024 := by omega
                by_cases hlt4 : q < p
                · have hqp : (q : Int) < (p : Int) := by omega
                  have hqn : (q : Int) < (n : Int) := by omega
                  have hqb : (q : Int) ≤ 1024 := by omega
                  have e1 := HS.out.cb q (by have := HJN.out; omega)
                  by_cases h10 : zs.getD q 0 = 10
                  · have HN2 := hide (HN.out.nl (by have := HJN.out; omega) h10)
                    rw [h10] at e1
                    clear h10 HN hNq
                    go_wp2
                    go_round
                    case rel => exact ⟨q + 1, N + 1, q, by omega, by omega, by go_num, rfl, by go_num, HN2⟩
                    case measure => simp [intOf]; omega
                  · have HN2 := hide (HN.out.ch (by have := HJN.out; omega) h10)
                    obtain ⟨x, hx⟩ : ∃ x, x = zs.getD q 0 := ⟨_, rfl⟩
                    rw [← hx] at e1 h10
                    have h10b : (x == 10) = false := by rw [beq_eq_false_iff_ne]; exact h10
                    clear h10 HN hNq hx
                    go_wp2
                    go_round
                    case rel => exact ⟨q + 1, N, Lt, by omega, by omega, rfl, rfl, by go_num, HN2⟩
                    case measure => simp [intOf]; omega
                · obtain rfl : q = p := by omega
                  clear hq hqo hlt4 hNq
                  have hd4 : decide ((q : Int) < (q : Int)) = false := by simp
                  have HN' := HN.out
                  rw [HJ.out] at HN'
                  rcases Nat.eq_zero_or_pos N with h0 | h0
                  · obtain ⟨g1, g2⟩ := HN'.done0 (line := line) (col := col) h0 (by have := HL.out; have := HJ.out; omega) (by omega) hl0 hl1 hc0 hc1
                    have c2 := HS.out.c2
                    have c3 := HS.out.c3
                    rw [HPL.out, g1] at c2
                    rw [HPC.out, g2] at c3
                    subst h0
                    clear HN HN' g1 g2
                    go_wp2
                    clear c2 c3
                    go_loopw [26] (fun i wz => ∃ k : Nat, k ≤ n ∧ i = .int .i64 (k : Int) ∧ Hid (St w.heap.size w wz w.heap.size Bs Bc (Bc + 1) n zs SB (q : Int) PL PC vl (part zs off (m + 1)))) (fun i _ => n - (intOf i).toNat)
                    case atStart => exact ⟨0, Nat.zero_le _, rfl, HS⟩
                    case round =>
                      clear HS
                      obtain ⟨k, hk5, rfl, HS⟩ := hrel
                      by_cases hlt5 : k < n
                      · have := HN0.out; omega
                      · obtain rfl : k = n := by omega
                        have hd5 : decide ((k : Int) < (k : Int)) = false := by simp
                        clear hk5 hlt5
                        go_wp2
                        go_ret
                        exact ⟨rfl, HS.out.bel⟩
                  · obtain ⟨g1, g2, g3, g4⟩ := HN'.done1 (line := line) (col := col) h0 (by have := HL.out; have := HJ.out; omega) (by omega) hl0 hl1 hc0 hc1
                    rw [← HJ.out] at g2 g4
                    have c2 := HS.out.c2
                    have c3 := HS.out.c3
                    rw [HPL.out, g1] at c2
                    rw [HPC.out, g2] at c3
                    have h0i : (0 : Int) < (N : Int) := by omega
                    clear HN HN' g1 g2 h0
                    go_wp2
                    clear c2 c3
                    go_loopw [26] (fun i wz => ∃ k : Nat, k ≤ n ∧ i = .int .i64 (k : Int) ∧ Hid (St w.heap.size w wz w.heap.size Bs Bc (Bc + 1) n zs SB (q : Int) PL PC vl (part zs off (m + 1)))) (fun i _ => n - (intOf i).toNat)
                    case atStart => exact ⟨0, Nat.zero_le _, rfl, HS⟩
                    case round =>
                      clear HS
                      obtain ⟨k, hk5, rfl, HS⟩ := hrel
                      by_cases hlt5 : k < n
                      · have := HN0.out; omega
                      · obtain rfl : k = n := by omega
                        have hd5 : decide ((k : Int) < (k : Int)) = false := by simp
                        clear hk5 hlt5
                        go_wp2
                        go_ret
                        exact ⟨rfl, HS.out.bel⟩

set_option maxRecDepth 100000 in
set_option maxHeartbeats 1000000 in
theorem law_long (a0 : Option Addr) (n c : Nat) (al : ByteArray) (sel line col : Int) (w : World) (h : 1024 < n ∨ 1024 < al.size) :
    Calls Yba.prog 3 #[.slice a0 n c, .string al, .int .u64 sel, .int .i64 line, .int .i64 col] w fun e w' => e = .returned (.bool true) ∧ Below w.heap.size w w' := by
  by_cases h1 : 1024 < n
  · go_enter Yba.func3, Yba.ntmps3
    go_wp2
    go_ret
    exact ⟨rfl, Below.refl _ _⟩
  have h2 : 1024 < al.size := by omega
  clear h
  go_enter Yba.func3, Yba.ntmps3
  go_wp2
  go_ret
  exact ⟨rfl, Below.refl _ _⟩

/-- A slice of integers that came in: nil; or a row of 'cap' cells, the numbers 'zs', each fitting its kind. -/
def IsRow (k : IntKind) (w : World) (a : Option Addr) (len cap : Nat) (zs : List Int) : Prop :=
  (a = none ∧ len = 0 ∧ cap = 0 ∧ zs = []) ∨
  ∃ x, a = some x ∧ len ≤ cap ∧ cap ≤ maxLen ∧ zs.length = cap ∧ (∀ i, i < zs.length → w.cell? (x.add i) = some (.int k (zs.getD i 0))) ∧ ∀ n ∈ zs, (Lit.int k n).wf = true

theorem IsRow.at {w : World} {a : Option Addr} {len cap : Nat} {zs : List Int} (h : IsRow .u8 w a len cap zs) (hl : 0 < len) :
    ∃ b o, a = some ⟨b, o, none⟩ ∧ (∀ i, i < len → w.cell? ⟨b, o + i, none⟩ = some (.int .u8 (zs.getD i 0))) ∧ (∀ i, 0 ≤ zs.getD i 0 ∧ zs.getD i 0 ≤ 255) ∧ len ≤ zs.length := by
  rcases h with ⟨_, h0, _⟩ | ⟨⟨b, o, spot⟩, rfl, hlc, _, hz, hc, hwf⟩
  · omega
  have hspot : spot = none := by simpa [Addr.add] using World.cell?_spot (hc 0 (by omega))
  subst hspot
  refine ⟨b, o, rfl, fun j hj => by rw [← Addr.add_lit]; exact hc j (by omega), fun i => ?_, by omega⟩
  by_cases hi : i < zs.length
  · have := hwf (zs.getD i 0) (by rw [List.getD_eq_getElem?_getD, List.getElem?_eq_getElem hi]; exact List.getElem_mem hi)
    simp [Lit.wf, IntKind.min, IntKind.max, IntKind.signed, IntKind.bits] at this
    rw [List.getD_eq_getElem?_getD]
    omega
  · rw [List.getD_eq_getElem?_getD, List.getElem?_eq_none (by omega)]
    decide

theorem take_getD (l : List Int) (n i : Nat) : (l.take n).getD i 0 = if i < n then l.getD i 0 else 0 := by
  rw [List.getD_eq_getElem?_getD, List.getElem?_take, List.getD_eq_getElem?_getD]
  split <;> rfl

theorem rl_stop (SB : Nat → Bool) (l : List Int) (h : rl SB l < l.length) : SB (l.getD (rl SB l) 0).toNat = false := by
  induction l with
  | nil => cases h
  | cons x r ih =>
    by_cases hx : SB x.toNat = true
    · have e : rl SB (x :: r) = rl SB r + 1 := by simp only [rl, hx, if_true]
      rw [e] at h ⊢
      rw [List.getD_cons_succ]
      exact ih (by simpa using h)
    · have e : rl SB (x :: r) = 0 := by simp only [rl, hx]; rfl
      rw [e, List.getD_cons_zero]
      simpa using hx

theorem law_walk (a0 : Option Addr) (n c : Nat) (z0 : List Int) (al : ByteArray) (sel line col : Int) (w : World) (w0 : IsRow .u8 w a0 n c z0) (w2 : (Lit.int .u64 sel).wf = true) (w3 : (Lit.int .i64 line).wf = true) (w4 : (Lit.int .i64 col).wf = true) :
    Calls Yba.prog 3 #[.slice a0 n c, .string al, .int .u64 sel, .int .i64 line, .int .i64 col] w fun e w' => e = .returned (.bool true) ∧ Below w.heap.size w w' := by
  simp [Lit.wf, IntKind.min, IntKind.max, IntKind.signed, IntKind.bits] at w2 w3 w4
  obtain ⟨hs0, _⟩ := w2
  obtain ⟨hl0, hl1⟩ := w3
  obtain ⟨hc0, hc1⟩ := w4
  by_cases hlong : 1024 < n ∨ 1024 < al.size
  · exact law_long a0 n c al sel line col w hlong
  have hn : n ≤ 1024 := by omega
  have hal : al.size ≤ 1024 := by omega
  by_cases h0 : n = 0
  · subst h0
    exact law_Z a0 0 c [] al sel line col w 0 0 (setK al al.size) hn rfl (Nat.le_refl _) (fun i => by simp) hal hs0 hl0 hl1 hc0 hc1 (by simp [Int.emod_one]) (Nat.le_refl _) (hide fun j => rfl) (hide rfl) rfl
  obtain ⟨b, o, rfl, hc, hz, hlen⟩ := w0.at (by omega)
  have hpos : (0 : Int) < (n : Int) + 1 := by omega
  have hm1 := Int.emod_nonneg sel (b := (n : Int) + 1) (by omega)
  have hm2 := Int.emod_lt_of_pos sel hpos
  obtain ⟨off, hoff⟩ := Int.eq_ofNat_of_zero_le hm1
  have hL : (z0.take n).length = n := by rw [List.length_take]; omega
  have hC : ∀ i, i < n → w.cell? ⟨b, o + i, none⟩ = some (.int .u8 ((z0.take n).getD i 0)) := fun i hi => by rw [take_getD, if_pos hi]; exact hc i hi
  have hZ : ∀ i, 0 ≤ (z0.take n).getD i 0 ∧ (z0.take n).getD i 0 ≤ 255 := fun i => by
    rw [take_getD]
    split
    · exact hz i
    · decide
  obtain ⟨SB, hSB⟩ : ∃ SB, SB = setK al al.size := ⟨_, rfl⟩
  have HSB : Hid (∀ j, SB j = setK al al.size j) := fun j => by rw [hSB]
  obtain ⟨m, hm⟩ : ∃ m, m = rl SB ((z0.take n).drop off) := ⟨_, rfl⟩
  have hle := rl_le SB ((z0.take n).drop off)
  rw [← hm, List.length_drop, hL] at hle
  by_cases hend : off + m < n
  · have hst := rl_stop SB ((z0.take n).drop off) (by rw [← hm, List.length_drop, hL]; omega)
    rw [← hm] at hst
    have hd : ((z0.take n).drop off).getD m 0 = (z0.take n).getD (off + m) 0 := by
      rw [List.getD_eq_getElem?_getD, List.getElem?_drop, ← List.getD_eq_getElem?_getD]
    rw [hd] at hst
    have hb := hZ (off + m)
    exact law_A b o n c (z0.take n) al sel line col w off m SB hn hL hC hZ hal hs0 hl0 hl1 hc0 hc1 hoff (by omega) HSB (hide hm) ((z0.take n).getD (off + m) 0).toNat (by omega) (by omega) hst hend
  · exact law_B b o n c (z0.take n) al sel line col w off m SB hn hL hC hZ hal hs0 hl0 hl1 hc0 hc1 hoff (by omega) HSB (hide hm) (by omega)
end Go.Proofs.Ybulkcflk
