/-
  THE WALK of LawS4070CLists (function 5; seat b4070a).
-/
import Derived.Test.YbulkcfgoListsLw
namespace Go.Proofs.Ybulkcfgo.Cl
open Go.RowKit
set_option linter.unusedVariables false

theorem made_size (w : World) (k : Nat) : (w.alloc (.cells (madeCells #[.int .i32 0] k) 21)).heap.size = w.heap.size + 1 := World.size_alloc _ _

/-- Where the relays begin. -/
theorem Rw.start (w : World) (k : Nat) (wr : World)
    (hw : wr = ((w.alloc (.cells #[.int .i64 0, .slice none 0 0, .slice (some ⟨w.heap.size + 1, 0, none⟩) k k, .slice (some ⟨w.heap.size + 1 + 1, 0, none⟩) k k, .slice none 0 0] 40)).alloc (.cells (madeCells #[.int .i32 0] k) 21)).alloc (.cells (madeCells #[.int .i32 0] k) 21)) :
    Rw w.heap.size w wr wr.heap.size (Sx w.heap.size (w.heap.size + 1) (w.heap.size + 1 + 1) (.slice none 0 0) (.slice none 0 0)) w.heap.size (w.heap.size + 1) (w.heap.size + 1 + 1) k wr 0 (.slice none 0 0) 0 [] (fun _ => 0) (fun _ => 0) (.slice none 0 0) [] := by
  obtain ⟨cs, hcs⟩ : ∃ cs : Array Value, cs = #[.int .i64 0, .slice none 0 0, .slice (some ⟨w.heap.size + 1, 0, none⟩) k k, .slice (some ⟨w.heap.size + 1 + 1, 0, none⟩) k k, .slice none 0 0] := ⟨_, rfl⟩
  rw [← hcs] at hw
  have h1 : (w.alloc (.cells cs 40)).heap[w.heap.size]? = some (.cells cs 40 (0, 0)) := heap_alloc_new _ _
  have b1 : Below w.heap.size w (w.alloc (.cells cs 40)) := (Below.refl _ _).alloc (Nat.le_refl _) _
  have s1 : (w.alloc (.cells cs 40)).heap.size = w.heap.size + 1 := World.size_alloc _ _
  generalize w.alloc (.cells cs 40) = w1 at h1 b1 s1 hw
  have r2 := World.rowIs_made w1 (.int .i32 0) k 21
  have h2 : (w1.alloc (.cells (madeCells #[.int .i32 0] k) 21)).heap[w.heap.size]? = _ := (Below.heap_alloc _ _ _ (by omega)).trans h1
  have b2 := b1.alloc (by omega) (.cells (madeCells #[.int .i32 0] k) 21)
  have s2 : (w1.alloc (.cells (madeCells #[.int .i32 0] k) 21)).heap.size = w.heap.size + 1 + 1 := by rw [World.size_alloc, s1]
  rw [s1] at r2
  generalize w1.alloc (.cells (madeCells #[.int .i32 0] k) 21) = w3 at r2 h2 b2 s2 hw
  have r4' := World.rowIs_made w3 (.int .i32 0) k 21
  rw [s2] at r4'
  have h4 := (Below.heap_alloc w3 (.cells (madeCells #[.int .i32 0] k) 21) w.heap.size (by omega)).trans h2
  have r4 := r2.alloc (.cells (madeCells #[.int .i32 0] k) 21)
  have b4 := b2.alloc (by omega) (.cells (madeCells #[.int .i32 0] k) 21)
  have s4 : (w3.alloc (.cells (madeCells #[.int .i32 0] k) 21)).heap.size = w.heap.size + 3 := by rw [World.size_alloc, s2]
  rw [← hw] at r4' h4 r4 b4 s4
  exact ⟨by rw [h4, hcs]; rfl, r4, r4', World.ownsRow_nil _ _ _ _, World.ownsRow_nil _ _ _ _, b4, ⟨Nat.le_refl _, by omega, by omega⟩, ⟨by simp, by simp [Value.ownBlock], by simp [Value.ownBlock]⟩, ⟨Nat.le_refl _, by omega⟩, fun _ _ _ => rfl, ⟨.inl rfl, .inr (.inl rfl), .inr (.inr (.inl rfl))⟩, fun j hj => (by simp [Value.ownBlock] at hj), fun j hj => (by simp [Value.ownBlock] at hj)⟩

theorem Rw.congr {B : Nat} {w w0 : World} {N : Nat} {S : Nat → Prop} {Q F A k : Nat} {wr : World} {cur : Int} {vh : Value} {n : Nat} {hs : List Value} {ff ll ff' ll' : Nat → Int} {vt : Value} {ts : List Int}
    (R : Rw B w w0 N S Q F A k wr cur vh n hs ff ll vt ts) (h1 : ∀ i, i < k → ff i = ff' i) (h2 : ∀ i, i < k → ll i = ll' i) : Rw B w w0 N S Q F A k wr cur vh n hs ff' ll' vt ts :=
  ⟨R.q, R.f.congr (fun i hi => by rw [h1 i hi]), R.l.congr (fun i hi => by rw [h2 i hi]), R.h, R.t, R.bel, R.lo, R.far, R.ns, R.kp, R.sq, R.sh, R.st⟩

theorem size21 (w : World) : (Go.sizeOf (Yba.prog.elem 38)).run Yba.prog w = .ok 1 w := by kernel_rfl
theorem und38 : Yba.prog.underlying 38 = some (.slice (Yba.prog.elem 38)) := by kernel_rfl
/-- 'x[:0]', its value behind a letter. -/
theorem wp_zero {w : World} {ops : Array Oper} {rest : List Oper} {o : Oper} {a : Act} {Q : Exit → Act → World → Prop} (hgd : o.guard = none) (x : Operand) (ho : o.op = Op.slice 38 x none (some (.const (.int .i64 0))) none)
    (ad : Option Addr) (n c : Nat) (hx : a.eval x = .slice ad n c)
    (hk : wpList Yba.prog ops Q rest (a.put o.dst (.slice ad 0 c)) w) : wpList Yba.prog ops Q (o :: rest) a w := by
  refine wpList_plain hgd fun K hK => ?_
  have hr : (Instr.sliceAt 38 (.slice ad n c) none (some (.int .i64 0)) none).run Yba.prog w = .ok (.slice ad 0 c) w := by
    rw [run_sliceAt_slice w 38 _ _ _ _ und38, run_slice_h w 38 _ _ _ und38 .i64 _ (by omega) (by omega), size21]
    simp [Result.andThen, sliced]
    cases ad <;> simp [Addr.add]
  have hcst : a.eval (.const (.int .i64 0)) = .int .i64 0 := rfl
  unfold Oper.wp
  simp only [execOp, ho, Option.map_some, Option.map_none, hx, hcst, Sem.run_bind, Sem.run_pure, hr, Result.andThen]
  exact hK _ _ hk

theorem Below.cell_alloc' (w : World) (o : Obj) {j i : Nat} (h : j < w.heap.size) : (w.alloc o).cell? ⟨j, i, none⟩ = w.cell? ⟨j, i, none⟩ := World.cell?_of_block (w := w) (Below.heap_alloc _ _ _ h)

theorem own_some {w : World} {B : Nat} {e : TypeId} {s : Nat} {a : Option Addr} {n c : Nat} {xs : List Value} (h : w.ownsRow B e s (.slice a n c) n xs) (hn : 0 < n) : ∃ g, a = some ⟨g, 0, none⟩ := by
  rcases h.2 with ⟨_, h0⟩ | ⟨g, cap, cur, h', _⟩
  · omega
  · simp only [Value.slice.injEq] at h'
    exact ⟨g, h'.1⟩
theorem wrap32_small (q : Nat) (h : q ≤ 1024) : IntKind.i32.wrap (q : Int) = (q : Int) := by simp [IntKind.wrap, IntKind.bits, IntKind.signed]; omega
theorem Lw.heldAt {B : Nat} {w : World} {Q F A k : Nat} {wr : World} {cur : Int} {L R : List Int} {gh ch : Nat} {vt : Value} {hs : List Value} {vm : Value} {M : List Int} {vr : Value} {P : List Int}
    (h : Lw B w Q F A k wr cur L R (.slice (some ⟨gh, 0, none⟩) L.length ch) vt hs vm M vr P) (t : Nat) (ht : t < L.length) :
    wr.cell? ⟨gh, t * 5, none⟩ = some (.int .i32 (R.getD t 0)) ∧ wr.cell? ⟨gh, t * 5 + 1, none⟩ = some (.int .i32 (L.getD t 0)) ∧ wr.cell? ⟨gh, t * 5 + 4, none⟩ = some (.int .i32 (nx L t)) := by
  obtain ⟨h1, h2, h3⟩ := h.hd.at_ t ht
  exact ⟨(h.rw.h.cellAt _ (by omega)).trans h1, (h.rw.h.cellAt _ (by omega)).trans h2, (h.rw.h.cellAt _ (by omega)).trans h3⟩

set_option maxRecDepth 100000 in
set_option maxHeartbeats 8000000 in
theorem law_some (b o len c : Nat) (n8 : Int) (rs gs us : Nat → Int) (w : World) (k k0 : Nat) (hlen : len ≤ 1024) (hn0 : 0 ≤ n8) (hn1 : n8 ≤ 255) (hm : n8 % 8 = (k0 : Int)) (h1k : 1 + (k0 : Int) = (k : Int)) (hk8 : k ≤ 8) (hk1 : 1 ≤ k)
    (hc : ∀ i, i < len → w.cell? ⟨b, o + i * 3, none⟩ = some (.int .u8 (rs i)) ∧ w.cell? ⟨b, o + i * 3 + 1, none⟩ = some (.int .u8 (gs i)) ∧ w.cell? ⟨b, o + i * 3 + 2, none⟩ = some (.int .i32 (us i))) (hbd : ∀ i, 0 ≤ rs i ∧ rs i ≤ 255 ∧ 0 ≤ gs i ∧ gs i ≤ 255) :
    Calls Yba.prog 5 #[.int .u8 n8, .slice (some ⟨b, o, none⟩) len c] w fun e w' => e = .returned (.bool true) ∧ Below w.heap.size w w' := by
  obtain ⟨i1, hi1, hy0, hy1, hy2⟩ := info_parts Yba.info21
  have hki : (k : Int) ≤ 8 := by omega
  have hmk := run_make_row' (P := Yba.prog) 38 21 (.int .i32 0) 4 Yba.underlying38 Yba.info21 rfl .i64 .i64 k (by omega) (by omega)
  have HBLT : Hid (0 < len → b < w.heap.size) := fun h0 => by
    rcases Nat.lt_or_ge b w.heap.size with h' | h'
    · exact h'
    · have := (hc 0 h0).1
      simp [World.cell?, Array.getElem?_eq_none h'] at this
  have HC := hide hc
  clear hc
  have HBD := hide hbd
  clear hbd
  go_enter Yba.func5, Yba.ntmps5
  go_wp2
  obtain ⟨wa, hwa⟩ : ∃ wa, wa = ((w.alloc (.cells #[.int .i64 0, .slice none 0 0, .slice (some ⟨w.heap.size + 1, 0, none⟩) k k, .slice (some ⟨w.heap.size + 1 + 1, 0, none⟩) k k, .slice none 0 0] 40)).alloc (.cells (madeCells #[.int .i32 0] k) 21)).alloc (.cells (madeCells #[.int .i32 0] k) 21) := ⟨_, rfl⟩
  have hRa := Rw.start w k wa hwa
  rw [← hwa]
  have HRa := hide hRa
  clear hRa hwa hmk hm h1k
  go_loopw [7] (fun i wz => ∃ s : Nat, s ≤ k ∧ i = .int .i64 (s : Int) ∧ Hid (Rw w.heap.size w wa wa.heap.size (Sx w.heap.size (w.heap.size + 1) (w.heap.size + 1 + 1) (.slice none 0 0) (.slice none 0 0)) w.heap.size (w.heap.size + 1) (w.heap.size + 1 + 1) k wz 0 (.slice none 0 0) 0 [] (fun j => if j < s then -1 else 0) (fun j => if j < s then -1 else 0) (.slice none 0 0) [])) (fun i _ => k - (intOf i).toNat)
  case atStart => exact ⟨0, Nat.zero_le _, rfl, HRa.out.congr (fun i _ => by simp) (fun i _ => by simp)⟩
  case round =>
    obtain ⟨s, hsl, rfl, HRz⟩ := hrel
    by_cases hlt : s < k
    · have hsk : (s : Int) < (k : Int) := by omega
      have d2 := HRz.out.c2
      have d3 := HRz.out.c3
      have df := HRz.out.cf s hlt
      have da := HRz.out.ca s hlt
      simp at df da
      have dff := HRz.out.f.frozen s
      have daf := HRz.out.l.frozen s
      go_wp2
      go_roundw
      case measure => simp [intOf]; omega
      case rel =>
        refine ⟨s + 1, by omega, by go_num, ?_⟩
        refine ((HRz.out.setF s (-1)).setA s (-1)).congr (fun i _ => ?_) (fun i _ => ?_)
        all_goals
          by_cases h : i = s
          · rw [if_pos h, if_pos (by omega)]
          · rw [if_neg h]
            by_cases h' : i < s
            · rw [if_pos h', if_pos (by omega)]
            · rw [if_neg h', if_neg (by omega)]
    · obtain rfl : k = s := by omega
      have hkk : decide ((k : Int) < (k : Int)) = false := by simp
      have hLw : Lw w.heap.size w w.heap.size (w.heap.size + 1) (w.heap.size + 1 + 1) k wr 0 [] [] (.slice none 0 0) (.slice none 0 0) [] (.slice none 0 0) [] (.slice none 0 0) [] :=
        ⟨(HRz.out.congr (fun i hi => by rw [if_pos hi]; rfl) (fun i hi => by rw [if_pos hi]; rfl)).rebase, Held.nil, World.ownsRow_nil _ _ _ _, World.ownsRow_nil _ _ _ _, ⟨by simp [Value.ownBlock], by simp [Value.ownBlock], .inl rfl⟩, ⟨by simp [Value.ownBlock], by simp [Value.ownBlock], .inl rfl⟩, .inl rfl⟩
      have HLw := hide hLw
      clear hLw HRz HRa hsl hlt
      generalize w.heap.size + 1 + 1 = A at HLw ⊢
      generalize w.heap.size + 1 = F at HLw ⊢
      go_wp2
      go_loopw [8, 9, 10, 52] (fun c8 vm vr i wz => ∃ (s : Nat) (cur : Int) (L R : List Int) (vh vt : Value) (hs : List Value), s ≤ len ∧ c8 = .int .i64 cur ∧ i = .int .i64 (s : Int) ∧ 0 ≤ cur ∧ cur ≤ 2 ∧ L.length ≤ s ∧ Hid (Emp L vh vt) ∧ Hid (∀ x ∈ L, 0 ≤ x ∧ x < (k : Int)) ∧ Hid (Lw w.heap.size w w.heap.size F A k wz cur L R vh vt hs vm L vr R)) (fun _ _ _ i _ => len - (intOf i).toNat)
      case atStart => exact ⟨0, 0, [], [], _, _, _, Nat.zero_le _, rfl, rfl, by omega, by omega, Nat.le_refl _, fun _ => ⟨rfl, rfl⟩, (fun x hx => by cases hx), HLw⟩
      case round =>
        clear HLw
        obtain ⟨s, cur, L, R, vh, vt, hs, hsl, rfl, rfl, hc0, hc1, hLs, HEMP, HRNG, HLw⟩ := hrel
        by_cases hlt : s < len
        · have hsi : (s : Int) < (len : Int) := by omega
          obtain ⟨xr, hxr⟩ : ∃ x, x = rs s := ⟨_, rfl⟩
          obtain ⟨xg, hxg⟩ : ∃ x, x = gs s := ⟨_, rfl⟩
          obtain ⟨xu, hxu⟩ : ∃ x, x = us s := ⟨_, rfl⟩
          have hbs := HBD.out s
          have hcs := HC.out s hlt
          rw [← hxr, ← hxg] at hbs
          rw [← hxr, ← hxg, ← hxu] at hcs
          have hbl := HBLT.out (by omega)
          have o0 : wr.cell? ⟨b, o + s * 3, none⟩ = some (.int .u8 xr) := by rw [HLw.out.rw.bel.cell (p := ⟨b, o + s * 3, none⟩) hbl]; exact hcs.1
          have o1 : wr.cell? ⟨b, o + s * 3 + 1, none⟩ = some (.int .u8 xg) := by rw [HLw.out.rw.bel.cell (p := ⟨b, o + s * 3 + 1, none⟩) hbl]; exact hcs.2.1
          have o2 : wr.cell? ⟨b, o + s * 3 + 2, none⟩ = some (.int .i32 xu) := by rw [HLw.out.rw.bel.cell (p := ⟨b, o + s * 3 + 2, none⟩) hbl]; exact hcs.2.2
          obtain ⟨r, hr⟩ : ∃ r, xr % 3 = r := ⟨_, rfl⟩
          have hr0 : 0 ≤ r := by omega
          have hr1 : r ≤ 2 := by omega
          have hg0 := Int.emod_nonneg xg (b := (k : Int)) (by omega)
          have hg1 := Int.emod_lt_of_pos xg (b := (k : Int)) (by omega)
          obtain ⟨g, hg⟩ := Int.eq_ofNat_of_zero_le hg0
          have hgk : g < k := by omega
          have hgi : (g : Int) < (k : Int) := by omega
          have hx0 := hbs.2.2.1
          have hx1 := hbs.2.2.2
          have hxr0 := hbs.1
          have hxr1 := hbs.2.1
          have HO0 := hide o0
          have HO1 := hide o1
          have HO2 := hide o2
          clear hxr hxg hxu hcs hbl hg0 hg1 hbs
          by_cases hrc : r = cur
          · subst hrc
            have hneq : (r != r) = false := by simp
            have HRL := hide HLw.out.hd.rl
            have HM1 : Hid (∀ o, ((wr.alloc (.cells #[.int .u8 xr, .int .u8 xg, .int .i32 xu] 42)).alloc o).ownsRow w.heap.size 21 1 u9 L.length (nc .i32 L)) := fun o => ((HLw.out.m.alloc _).alloc o)
            have HB1 : Hid (w.heap.size ≤ wr.heap.size) := HLw.out.rw.ns.2
            have hRi : R.length ≤ 1024 := by rw [HRL.out]; omega
            go_wp2_with ((at_builtin; (refine wpList_append_lies _ rfl (.tmp 74) (.tmp 76) 38 rfl w.heap.size 21 i1 (.int .i32 0) 1 4 Yba.underlying38 hi1 hy0 hy1 hy2 rfl (by decide) u9 L.length (nc .i32 L) rfl (HM1.out _) ⟨wr.heap.size + 1, 0, none⟩ 1 1 [.int .i32 (g : Int)] rfl rfl (by have := cell_one_new (wr.alloc (.cells #[.int .u8 xr, .int .u8 xg, .int .i32 xu] 42)) (.int .i32 (g : Int)) 21; rwa [World.size_alloc] at this) ?h1 (by decide) (by unfold maxLen; omega) (by omega) (by have := HB1.out; simp; omega) _ rfl ?_)))
            case h1 => intro u hu; simp at hu; subst hu; rfl
            intro g1 cap1 w1 hown1 hgrow1 hat1 hlt1
            have HL1 := hide (((HLw.out.alloc _).alloc _).pushM (M' := (L ++ [(g : Int)])) hgrow1 (by simpa [nc] using hown1) (by simp) (hat1.imp id (fun h => by rw [h]; simp)))
            have p2 : w1.cell? ⟨wr.heap.size, 2, none⟩ = some (.int .i32 xu) := by
              rw [hgrow1.cell_far _ (by simp; omega) (fun e => Nat.lt_irrefl _ (HLw.out.m.lt _ e.symm).2)]
              simp
            have HM2 : Hid (∀ o, (w1.alloc o).ownsRow w.heap.size 21 1 u10 R.length (nc .i32 R)) := fun o => (HL1.out.alloc o).p
            have HB2 : Hid (w.heap.size ≤ w1.heap.size) := HL1.out.rw.ns.2
            have HSZ : Hid (wr.heap.size < w1.heap.size) := by have := hgrow1.size; simp at this; show _ < _; omega
            clear hown1 hgrow1 hat1 hlt1 HM1 HB1 o0 o1 o2
            go_wp2_with (at_builtin; (refine wpList_append_lies _ rfl (.tmp 78) (.tmp 81) 38 rfl w.heap.size 21 i1 (.int .i32 0) 1 4 Yba.underlying38 hi1 hy0 hy1 hy2 rfl (by decide) u10 R.length (nc .i32 R) rfl (HM2.out _) ⟨w1.heap.size, 0, none⟩ 1 1 [.int .i32 xu] rfl rfl (cell_one_new _ _ _) ?h2 (by decide) (by unfold maxLen; omega) (by omega) (by have := HB2.out; simp; omega) _ rfl ?_))
            case h2 => intro u hu; simp at hu; subst hu; rfl
            intro g2 cap2 w2 hown2 hgrow2 hat2 hlt2
            have HL2 := hide ((HL1.out.alloc _).pushP (P' := (R ++ [xu])) hgrow2 (by simpa [nc] using hown2) (by simp) (hat2.imp id (fun h => by rw [h]; simp)))
            have p3 : w2.cell? ⟨wr.heap.size, 2, none⟩ = some (.int .i32 xu) := by
              rw [hgrow2.cell_far _ (by have := HSZ.out; simp; omega) (fun e => Nat.lt_irrefl _ (HLw.out.p.lt _ e.symm).2), Below.cell_alloc' _ _ HSZ.out]
              exact p2
            have hwr32 : IntKind.i32.wrap r = r := by simp [IntKind.wrap, IntKind.bits, IntKind.signed]; omega
            clear hown2 hgrow2 hat2 hlt2 HM2 HB2 p2
            go_wp2_with fail
            refine (add_any w.heap.size w w.heap.size F A k w2 r L R vh vt hs _ _ _ _ r xu g HL2.out HEMP.out HRNG hk8 hgk (by omega) hr0 hr1 (L ++ [(g : Int)]) (R ++ [xu]) (by rw [if_pos rfl]) (by rw [if_pos rfl])).mono ?_
            rintro e w4 ⟨rfl, vh', vt', hs', hL4⟩
            have HL4 := hide hL4
            clear hL4 HL1 HL2 p3
            go_wp2
            go_roundw
            case measure => simp [intOf]; omega
            case rel =>
              refine ⟨s + 1, r, (L ++ [(g : Int)]), (R ++ [xu]), vh', vt', hs', by omega, rfl, by go_num, hr0, hr1, by simp; try omega, (fun h => by simp at h), (fun x hx => ?_), HL4⟩
              simp at hx
              rcases hx with h | h; · exact HRNG.out x h
              subst h; exact ⟨by omega, by omega⟩
          · have hneq : (r != cur) = true := by simpa using hrc
            obtain ⟨am, cm, hvm⟩ := own_slice HLw.out.m
            subst hvm
            obtain ⟨ar, cr, hvr⟩ := own_slice HLw.out.p
            subst hvr
            have HLz := hide ((HLw.out.zeroM rfl).zeroP rfl)
            have HRL := hide HLw.out.hd.rl
            have HM1 : Hid (∀ o, ((wr.alloc (.cells #[.int .u8 xr, .int .u8 xg, .int .i32 xu] 42)).alloc o).ownsRow w.heap.size 21 1 (.slice am 0 cm) 0 (nc .i32 [])) := fun o => ((HLz.out.m.alloc _).alloc o)
            have HB1 : Hid (w.heap.size ≤ wr.heap.size) := HLz.out.rw.ns.2
            have hRi : R.length ≤ 1024 := by rw [HRL.out]; omega
            go_wp2_with (first | (refine wp_zero rfl (.tmp 70) rfl am L.length cm rfl ?_) | (refine wp_zero rfl (.tmp 72) rfl ar R.length cr rfl ?_) | (at_builtin; (refine wpList_append_lies _ rfl (.tmp 74) (.tmp 76) 38 rfl w.heap.size 21 i1 (.int .i32 0) 1 4 Yba.underlying38 hi1 hy0 hy1 hy2 rfl (by decide) (.slice am 0 cm) 0 (nc .i32 []) rfl (HM1.out _) ⟨wr.heap.size + 1, 0, none⟩ 1 1 [.int .i32 (g : Int)] rfl rfl (by have := cell_one_new (wr.alloc (.cells #[.int .u8 xr, .int .u8 xg, .int .i32 xu] 42)) (.int .i32 (g : Int)) 21; rwa [World.size_alloc] at this) ?h1 (by decide) (by unfold maxLen; omega) (by omega) (by have := HB1.out; simp; omega) _ rfl ?_)))
            case h1 => intro u hu; simp at hu; subst hu; rfl
            intro g1 cap1 w1 hown1 hgrow1 hat1 hlt1
            have HL1 := hide (((HLz.out.alloc _).alloc _).pushM (M' := [(g : Int)]) hgrow1 (by simpa [nc] using hown1) (by simp) (hat1.imp id (fun h => by rw [h]; simp)))
            have p2 : w1.cell? ⟨wr.heap.size, 2, none⟩ = some (.int .i32 xu) := by
              rw [hgrow1.cell_far _ (by simp; omega) (fun e => Nat.lt_irrefl _ (HLz.out.m.lt _ e.symm).2)]
              simp
            have HM2 : Hid (∀ o, (w1.alloc o).ownsRow w.heap.size 21 1 (.slice ar 0 cr) 0 (nc .i32 [])) := fun o => (HL1.out.alloc o).p
            have HB2 : Hid (w.heap.size ≤ w1.heap.size) := HL1.out.rw.ns.2
            have HSZ : Hid (wr.heap.size < w1.heap.size) := by have := hgrow1.size; simp at this; show _ < _; omega
            clear hown1 hgrow1 hat1 hlt1 HM1 HB1 o0 o1 o2
            go_wp2_with (at_builtin; (refine wpList_append_lies _ rfl (.tmp 78) (.tmp 81) 38 rfl w.heap.size 21 i1 (.int .i32 0) 1 4 Yba.underlying38 hi1 hy0 hy1 hy2 rfl (by decide) (.slice ar 0 cr) 0 (nc .i32 []) rfl (HM2.out _) ⟨w1.heap.size, 0, none⟩ 1 1 [.int .i32 xu] rfl rfl (cell_one_new _ _ _) ?h2 (by decide) (by unfold maxLen; omega) (by omega) (by have := HB2.out; simp; omega) _ rfl ?_))
            case h2 => intro u hu; simp at hu; subst hu; rfl
            intro g2 cap2 w2 hown2 hgrow2 hat2 hlt2
            have HL2 := hide ((HL1.out.alloc _).pushP (P' := [xu]) hgrow2 (by simpa [nc] using hown2) (by simp) (hat2.imp id (fun h => by rw [h]; simp)))
            have p3 : w2.cell? ⟨wr.heap.size, 2, none⟩ = some (.int .i32 xu) := by
              rw [hgrow2.cell_far _ (by have := HSZ.out; simp; omega) (fun e => Nat.lt_irrefl _ (HLz.out.p.lt _ e.symm).2), Below.cell_alloc' _ _ HSZ.out]
              exact p2
            have hwr32 : IntKind.i32.wrap r = r := by simp [IntKind.wrap, IntKind.bits, IntKind.signed]; omega
            clear hown2 hgrow2 hat2 hlt2 HM2 HB2 p2
            go_wp2_with fail
            refine (add_any w.heap.size w w.heap.size F A k w2 cur L R vh vt hs _ _ _ _ r xu g HL2.out HEMP.out HRNG hk8 hgk (by omega) hr0 hr1 [(g : Int)] [xu] (by rw [if_neg (fun e => hrc e.symm)]; rfl) (by rw [if_neg (fun e => hrc e.symm)]; rfl)).mono ?_
            rintro e w4 ⟨rfl, vh', vt', hs', hL4⟩
            have HL4 := hide hL4
            clear hL4 HL1 HL2 p3
            go_wp2
            go_roundw
            case measure => simp [intOf]; omega
            case rel =>
              refine ⟨s + 1, r, [(g : Int)], [xu], vh', vt', hs', by omega, rfl, by go_num, hr0, hr1, by simp; try omega, (fun h => by simp at h), (fun x hx => ?_), HL4⟩
              simp at hx
              subst hx; exact ⟨by omega, by omega⟩


        · obtain rfl : len = s := by omega
          have hd2 : decide ((len : Int) < (len : Int)) = false := by simp
          have hLn : L.length ≤ 1024 := by omega
          have hLi : (L.length : Int) ≤ 1024 := by omega
          obtain ⟨am, cm, hvm⟩ := own_slice HLw.out.m
          subst hvm
          obtain ⟨ar, cr, hvr⟩ := own_slice HLw.out.p
          have hRL := HLw.out.hd.rl
          rw [hRL] at hvr
          subst hvr
          have HRL := hide hRL
          obtain ⟨ah, ch, hvh⟩ := own_slice HLw.out.rw.h
          subst hvh
          have z0 := HLw.out.rw.c0
          have z1 := HLw.out.rw.c1
          clear HEMP hsl hlt hRL hLs
          go_wp2
          clear z0 z1
          go_loopw [15] (fun i wz => ∃ t : Nat, t ≤ L.length ∧ i = .int .i64 (t : Int) ∧ Hid (Lw w.heap.size w w.heap.size F A k wz cur L R (.slice ah L.length ch) vt hs (.slice am L.length cm) L (.slice ar L.length cr) R)) (fun i _ => L.length - (intOf i).toNat)
          case atStart => exact ⟨0, Nat.zero_le _, rfl, HLw⟩
          case round =>
            clear HLw
            obtain ⟨t, htl, rfl, HLw⟩ := hrel
            by_cases hlt : t < L.length
            · obtain ⟨gm, rfl⟩ := own_some HLw.out.m (by omega)
              have hp' := HLw.out.p
              rw [HRL.out] at hp'
              obtain ⟨gr, rfl⟩ := own_some hp' (by omega)
              obtain ⟨gh, rfl⟩ := own_some HLw.out.rw.h (by omega)
              have e1 := HLw.out.rw.c1
              obtain ⟨e2, e3, _⟩ := HLw.out.heldAt t hlt
              have e4 := own_cell hp' t hlt
              have e5 := own_cell HLw.out.m t hlt
              generalize R.getD t 0 = x at e2 e4
              generalize L.getD t 0 = y at e3 e5
              have hxx : (x != x) = false := by simp
              have hti : (t : Int) < (L.length : Int) := by omega
              clear hp'
              go_wp2
              go_quiet (fail)
              go_wp2
              go_roundw
              case measure => simp [intOf]; omega
              case rel => exact ⟨t + 1, by omega, by go_num, HLw.out.drewN _⟩
            · obtain rfl : t = L.length := by omega
              have hd3 : decide ((L.length : Int) < (L.length : Int)) = false := by simp
              clear htl hlt
              obtain ⟨wy, hwy⟩ : ∃ wy, wy = wr := ⟨_, rfl⟩
              subst hwy
              go_wp2
              have HLy := HLw
              clear HLw
              go_loopw [16, 17] (fun tv i wz => ∃ t : Nat, t ≤ L.length ∧ i = .int .i64 (t : Int) ∧ Hid (Below wy.heap.size wy wz) ∧ Hid (wz.ownsRow wy.heap.size 21 1 tv (dd (L.take t)).length (nc .i32 (dd (L.take t))))) (fun _ i _ => L.length - (intOf i).toNat)
              case atStart => exact ⟨0, Nat.zero_le _, rfl, Below.refl _ _, World.ownsRow_nil _ _ _ _⟩
              case round =>
                obtain ⟨t, htl, rfl, HBz, HTz⟩ := hrel
                by_cases hlt : t < L.length
                · obtain ⟨gm, rfl⟩ := own_some HLy.out.m (by omega)
                  have hti : (t : Int) < (L.length : Int) := by omega
                  have htb : (t : Int) ≤ 1024 := by omega
                  obtain ⟨wv, hwv⟩ : ∃ wv, wv = wr := ⟨_, rfl⟩
                  subst hwv
                  go_wp2
                  go_loopw [18, 19] (fun sn j wz => ∃ q : Nat, q ≤ t ∧ sn = .bool false ∧ j = .int .i64 (q : Int) ∧ Hid (∀ p, p < q → L.getD p 0 ≠ L.getD t 0) ∧ Hid (Below wy.heap.size wy wz) ∧ Hid (wz.ownsRow wy.heap.size 21 1 u16 (dd (L.take t)).length (nc .i32 (dd (L.take t))))) (fun _ j _ => t - (intOf j).toNat)
                  case atStart => exact ⟨0, Nat.zero_le _, rfl, rfl, (fun p hp => absurd hp (Nat.not_lt_zero _)), HBz, HTz⟩
                  case round =>
                    clear HBz HTz
                    obtain ⟨q, hql, rfl, rfl, HNE, HBz, HTz⟩ := hrel
                    have e5 := own_cell (HLy.out.above HBz.out).m t hlt
                    obtain ⟨y, hy⟩ : ∃ y, y = L.getD t 0 := ⟨_, rfl⟩
                    rw [← hy] at e5
                    by_cases hqt : q < t
                    · have hqi : (q : Int) < (t : Int) := by omega
                      have hqL : (q : Int) < (L.length : Int) := by omega
                      have e6 := own_cell (HLy.out.above HBz.out).m q (by omega)
                      obtain ⟨x, hx⟩ : ∃ x, x = L.getD q 0 := ⟨_, rfl⟩
                      rw [← hx] at e6
                      by_cases hxy : x = y
                      · have HSN : Hid (dd (L.take (t + 1)) = dd (L.take t)) := by
                          show _ = _
                          rw [dd_take L t hlt, if_pos ((take_mem L t _ (by omega)).2 ⟨q, hqt, by rw [← hx, hxy, hy]⟩)]
                        have hbb : (y == y) = true := by simp
                        subst hxy
                        clear hx hy HNE
                        go_wp2
                        go_quiet (fail)
                        go_wp2
                        go_roundw
                        case measure => simp [intOf]; omega
                        case rel => exact ⟨t + 1, by omega, by go_num, below_drewN HBz.out _, by rw [HSN.out]; exact HTz.out⟩
                      · have hbb : (x == y) = false := by rw [beq_eq_false_iff_ne]; exact hxy
                        have HNE2 : Hid (∀ p, p < q + 1 → L.getD p 0 ≠ L.getD t 0) := fun p hp => by
                          by_cases hpq : p < q
                          · exact HNE.out p hpq
                          · obtain rfl : p = q := by omega
                            rw [← hx, ← hy]; exact hxy
                        clear hx hy HNE hxy
                        go_wp2
                        go_quiet (fail)
                        go_wp2
                        go_roundw
                        case measure => simp [intOf]; omega
                        case rel => exact ⟨q + 1, by omega, rfl, by go_num, HNE2, below_drewN HBz.out _, HTz.out⟩
                    · obtain rfl : t = q := by omega
                      have HSN : Hid (dd (L.take (t + 1)) = dd (L.take t) ++ [y]) := by
                        show _ = _
                        rw [dd_take L t hlt, if_neg (fun hm => ?_), hy]
                        obtain ⟨p, hp, hpe⟩ := (take_mem L t _ (by omega)).1 hm
                        exact HNE.out p hp hpe
                      have hdt : decide ((t : Int) < (t : Int)) = false := by simp
                      have hdl : (dd (L.take t)).length ≤ 1024 := by
                        have := dd_le (L.take t)
                        rw [List.length_take] at this
                        omega
                      have HTo : Hid (∀ o, (wr.alloc o).ownsRow wy.heap.size 21 1 u16 (dd (L.take t)).length (nc .i32 (dd (L.take t)))) := fun o => HTz.out.alloc o
                      have HBs : Hid (wy.heap.size ≤ wr.heap.size) := HBz.out.size
                      clear hql hqt hy HNE
                      go_wp2_with (at_builtin; (refine wpList_append_lies _ rfl (.tmp 159) (.tmp 164) 38 rfl wy.heap.size 21 i1 (.int .i32 0) 1 4 Yba.underlying38 hi1 hy0 hy1 hy2 rfl (by decide) u16 (dd (L.take t)).length (nc .i32 (dd (L.take t))) rfl (HTo.out _) ⟨wr.heap.size, 0, none⟩ 1 1 [.int .i32 y] rfl rfl (cell_one_new _ _ _) ?h3 (by decide) (by unfold maxLen; omega) (by omega) (by have := HBs.out; simp; omega) _ rfl ?_))
                      case h3 => intro u hu; simp at hu; subst hu; rfl
                      intro g3 cap3 w3 hown3 hgrow3 hat3 hlt3
                      have HO3 : Hid (w3.ownsRow wy.heap.size 21 1 (.slice (some ⟨g3, 0, none⟩) ((dd (L.take t)).length + 1) cap3) (dd (L.take (t + 1))).length (nc .i32 (dd (L.take (t + 1))))) := by
                        refine hide ?_
                        rw [HSN.out]
                        simpa [nc] using hown3
                      have HB3 : Hid (Below wy.heap.size wy w3) := (HBz.out.alloc HBs.out _).grown hgrow3 (by have := HBs.out; simp; omega) (fun j hj => (HTz.out.lt j hj).1)
                      clear hown3 hgrow3 hat3 hlt3 e5
                      go_wp2
                      go_roundw
                      case measure => simp [intOf]; omega
                      case rel => exact ⟨t + 1, by omega, by go_num, HB3, HO3⟩
                · obtain rfl : t = L.length := by omega
                  have hd4 : decide ((L.length : Int) < (L.length : Int)) = false := by simp
                  have hT := HTz.out
                  rw [(chain_end L 0).2] at hT
                  have HLz := hide (HLy.out.above HBz.out)
                  have c4 := HLz.out.rw.c4
                  have hdl : (dd L).length ≤ 1000000 := by have := dd_le L; omega
                  have HT := hide hT
                  have HDL := hide hdl
                  clear hT htl hlt HTz HBz hdl
                  go_wp2_with fail
                  refine (eq13 vt u16 (dd L).length (dd L) _ w.heap.size wy.heap.size HLz.out.rw.t HT.out HDL.out).mono ?_
                  rintro e w5 ⟨rfl, q5, hw5⟩
                  have HL5 : Hid (Lw w.heap.size w w.heap.size F A k w5 cur L R (.slice ah L.length ch) vt hs (.slice am L.length cm) L (.slice ar L.length cr) R) := by rw [hw5]; exact HLz.out.drewN q5
                  clear hw5 HLz HT HDL c4 HLy
                  have f2 := HL5.out.rw.c2
                  have f3 := HL5.out.rw.c3
                  have f1 := HL5.out.rw.c1
                  go_wp2
                  go_loop [20] (fun i => ∃ g : Nat, g ≤ k ∧ i = .int .i64 (g : Int)) (fun i => k - (intOf i).toNat)
                  case atStart => exact ⟨0, Nat.zero_le _, rfl⟩
                  case round =>
                    obtain ⟨g, hgl, rfl⟩ := hrel
                    by_cases hgk : g < k
                    · have hgi : (g : Int) < (k : Int) := by omega
                      have d1 := HL5.out.rw.cf g hgk
                      have d2 := HL5.out.rw.ca g hgk
                      obtain ⟨X0, hX0⟩ : ∃ X, X = nf (g : Int) L 0 := ⟨_, rfl⟩
                      rw [← hX0] at d1
                      obtain ⟨Y0, hY0⟩ : ∃ Y, Y = lb (g : Int) L := ⟨_, rfl⟩
                      rw [← hY0] at d2
                      have HX0 : Hid (X0 = nf (g : Int) L 0) := hX0
                      have HY0 : Hid (Y0 = lb (g : Int) L) := hY0
                      have hwg : IntKind.i32.wrap (g : Int) = (g : Int) := wrap32_small g (by omega)
                      clear hX0 hY0
                      go_wp2
                      go_loop [21, 22, 23] (fun x l j => ∃ (q : Nat) (X Y : Int), q ≤ L.length ∧ j = .int .i64 (q : Int) ∧ x = .int .i32 X ∧ l = .int .i32 Y ∧ Hid (X = nf (g : Int) (L.drop q) q ∧ Y = lb (g : Int) (L.take q))) (fun _ _ j => L.length - (intOf j).toNat)
                      case atStart => exact ⟨0, X0, -1, Nat.zero_le _, rfl, rfl, rfl, HX0.out, rfl⟩
                      case round =>
                        obtain ⟨q, X, Y, hql, rfl, rfl, rfl, HXY⟩ := hrel
                        by_cases hqL : q < L.length
                        · obtain ⟨gm, rfl⟩ := own_some HL5.out.m (by omega)
                          obtain ⟨gh, rfl⟩ := own_some HL5.out.rw.h (by omega)
                          have hqi : (q : Int) < (L.length : Int) := by omega
                          have hqb : (q : Int) ≤ 1024 := by omega
                          have hwq : IntKind.i32.wrap (q : Int) = (q : Int) := wrap32_small q (by omega)
                          have e5 := own_cell HL5.out.m q hqL
                          have e6 := (HL5.out.heldAt q hqL).2.2
                          by_cases hhit : L.getD q 0 = (g : Int)
                          · obtain ⟨t1, t2, t3⟩ := chain_hit L (g : Int) q hqL hhit
                            rw [hhit] at e5
                            have hXq : X = (q : Int) := by rw [HXY.out.1]; exact t1
                            subst hXq
                            obtain ⟨Z, hZ⟩ : ∃ Z, Z = nx L q := ⟨_, rfl⟩
                            rw [← hZ] at e6 t2
                            have HN : Hid (Z = nf (g : Int) (L.drop (q + 1)) (q + 1) ∧ (q : Int) = lb (g : Int) (L.take (q + 1))) := ⟨t2, t3.symm⟩
                            clear t1 t2 t3 hhit hZ HXY
                            go_wp2
                            go_round
                            case measure => simp [intOf]; omega
                            case rel => exact ⟨q + 1, Z, (q : Int), by omega, by go_num, rfl, rfl, HN⟩
                          · obtain ⟨t1, t2⟩ := chain_miss L (g : Int) q hqL hhit
                            obtain ⟨y, hy⟩ : ∃ y, y = L.getD q 0 := ⟨_, rfl⟩
                            rw [← hy] at e5 hhit
                            have hbb : (y != (g : Int)) = true := by simpa using hhit
                            have HN : Hid (X = nf (g : Int) (L.drop (q + 1)) (q + 1) ∧ Y = lb (g : Int) (L.take (q + 1))) := ⟨by rw [HXY.out.1, t1], by rw [HXY.out.2, t2]⟩
                            clear t1 t2 hhit hy HXY e6
                            go_wp2
                            go_round
                            case measure => simp [intOf]; omega
                            case rel => exact ⟨q + 1, X, Y, by omega, by go_num, rfl, rfl, HN⟩
                        · obtain rfl : q = L.length := by omega
                          have hX := HXY.out.1
                          have hY := HXY.out.2
                          rw [(chain_end L (g : Int)).1] at hX
                          rw [(chain_end L (g : Int)).2, ← HY0.out] at hY
                          subst hX hY
                          have hd7 : decide ((L.length : Int) < (L.length : Int)) = false := by simp
                          have hyy : (Y != Y) = false := by simp
                          clear HXY hql hqL
                          go_wp2
                          go_round
                          case measure => simp [intOf]; omega
                          case rel => exact ⟨g + 1, by omega, by go_num⟩
                    · obtain rfl : k = g := by omega
                      have hd6 : decide ((k : Int) < (k : Int)) = false := by simp
                      clear hgl hgk
                      go_wp2
                      go_ret
                      exact ⟨rfl, HL5.out.rw.bel⟩


set_option maxRecDepth 100000 in
set_option maxHeartbeats 8000000 in
theorem law_none (a : Option Addr) (len c : Nat) (n8 : Int) (rs gs us : Nat → Int) (w : World) (k k0 : Nat) (hlen : len ≤ 1024) (HN0 : Hid (len ≤ 0)) (hn0 : 0 ≤ n8) (hn1 : n8 ≤ 255) (hm : n8 % 8 = (k0 : Int)) (h1k : 1 + (k0 : Int) = (k : Int)) (hk8 : k ≤ 8) (hk1 : 1 ≤ k)
    (hbd : ∀ i, 0 ≤ rs i ∧ rs i ≤ 255 ∧ 0 ≤ gs i ∧ gs i ≤ 255) :
    Calls Yba.prog 5 #[.int .u8 n8, .slice a len c] w fun e w' => e = .returned (.bool true) ∧ Below w.heap.size w w' := by
  obtain ⟨i1, hi1, hy0, hy1, hy2⟩ := info_parts Yba.info21
  have hki : (k : Int) ≤ 8 := by omega
  have hmk := run_make_row' (P := Yba.prog) 38 21 (.int .i32 0) 4 Yba.underlying38 Yba.info21 rfl .i64 .i64 k (by omega) (by omega)
  have HBD := hide hbd
  clear hbd
  go_enter Yba.func5, Yba.ntmps5
  go_wp2
  obtain ⟨wa, hwa⟩ : ∃ wa, wa = ((w.alloc (.cells #[.int .i64 0, .slice none 0 0, .slice (some ⟨w.heap.size + 1, 0, none⟩) k k, .slice (some ⟨w.heap.size + 1 + 1, 0, none⟩) k k, .slice none 0 0] 40)).alloc (.cells (madeCells #[.int .i32 0] k) 21)).alloc (.cells (madeCells #[.int .i32 0] k) 21) := ⟨_, rfl⟩
  have hRa := Rw.start w k wa hwa
  rw [← hwa]
  have HRa := hide hRa
  clear hRa hwa hmk hm h1k
  go_loopw [7] (fun i wz => ∃ s : Nat, s ≤ k ∧ i = .int .i64 (s : Int) ∧ Hid (Rw w.heap.size w wa wa.heap.size (Sx w.heap.size (w.heap.size + 1) (w.heap.size + 1 + 1) (.slice none 0 0) (.slice none 0 0)) w.heap.size (w.heap.size + 1) (w.heap.size + 1 + 1) k wz 0 (.slice none 0 0) 0 [] (fun j => if j < s then -1 else 0) (fun j => if j < s then -1 else 0) (.slice none 0 0) [])) (fun i _ => k - (intOf i).toNat)
  case atStart => exact ⟨0, Nat.zero_le _, rfl, HRa.out.congr (fun i _ => by simp) (fun i _ => by simp)⟩
  case round =>
    obtain ⟨s, hsl, rfl, HRz⟩ := hrel
    by_cases hlt : s < k
    · have hsk : (s : Int) < (k : Int) := by omega
      have d2 := HRz.out.c2
      have d3 := HRz.out.c3
      have df := HRz.out.cf s hlt
      have da := HRz.out.ca s hlt
      simp at df da
      have dff := HRz.out.f.frozen s
      have daf := HRz.out.l.frozen s
      go_wp2
      go_roundw
      case measure => simp [intOf]; omega
      case rel =>
        refine ⟨s + 1, by omega, by go_num, ?_⟩
        refine ((HRz.out.setF s (-1)).setA s (-1)).congr (fun i _ => ?_) (fun i _ => ?_)
        all_goals
          by_cases h : i = s
          · rw [if_pos h, if_pos (by omega)]
          · rw [if_neg h]
            by_cases h' : i < s
            · rw [if_pos h', if_pos (by omega)]
            · rw [if_neg h', if_neg (by omega)]
    · obtain rfl : k = s := by omega
      have hkk : decide ((k : Int) < (k : Int)) = false := by simp
      have hLw : Lw w.heap.size w w.heap.size (w.heap.size + 1) (w.heap.size + 1 + 1) k wr 0 [] [] (.slice none 0 0) (.slice none 0 0) [] (.slice none 0 0) [] (.slice none 0 0) [] :=
        ⟨(HRz.out.congr (fun i hi => by rw [if_pos hi]; rfl) (fun i hi => by rw [if_pos hi]; rfl)).rebase, Held.nil, World.ownsRow_nil _ _ _ _, World.ownsRow_nil _ _ _ _, ⟨by simp [Value.ownBlock], by simp [Value.ownBlock], .inl rfl⟩, ⟨by simp [Value.ownBlock], by simp [Value.ownBlock], .inl rfl⟩, .inl rfl⟩
      have HLw := hide hLw
      clear hLw HRz HRa hsl hlt
      generalize w.heap.size + 1 + 1 = A at HLw ⊢
      generalize w.heap.size + 1 = F at HLw ⊢
      go_wp2
      go_loopw [8, 9, 10, 52] (fun c8 vm vr i wz => ∃ (s : Nat) (cur : Int) (L R : List Int) (vh vt : Value) (hs : List Value), s ≤ len ∧ c8 = .int .i64 cur ∧ i = .int .i64 (s : Int) ∧ 0 ≤ cur ∧ cur ≤ 2 ∧ L.length ≤ s ∧ Hid (Emp L vh vt) ∧ Hid (∀ x ∈ L, 0 ≤ x ∧ x < (k : Int)) ∧ Hid (Lw w.heap.size w w.heap.size F A k wz cur L R vh vt hs vm L vr R)) (fun _ _ _ i _ => len - (intOf i).toNat)
      case atStart => exact ⟨0, 0, [], [], _, _, _, Nat.zero_le _, rfl, rfl, by omega, by omega, Nat.le_refl _, fun _ => ⟨rfl, rfl⟩, (fun x hx => by cases hx), HLw⟩
      case round =>
        clear HLw
        obtain ⟨s, cur, L, R, vh, vt, hs, hsl, rfl, rfl, hc0, hc1, hLs, HEMP, HRNG, HLw⟩ := hrel
        by_cases hlt : s < len
        · have := HN0.out
          omega
        · obtain rfl : len = s := by omega
          have hd2 : decide ((len : Int) < (len : Int)) = false := by simp
          have hLn : L.length ≤ 1024 := by omega
          have hLi : (L.length : Int) ≤ 1024 := by omega
          obtain ⟨am, cm, hvm⟩ := own_slice HLw.out.m
          subst hvm
          obtain ⟨ar, cr, hvr⟩ := own_slice HLw.out.p
          have hRL := HLw.out.hd.rl
          rw [hRL] at hvr
          subst hvr
          have HRL := hide hRL
          obtain ⟨ah, ch, hvh⟩ := own_slice HLw.out.rw.h
          subst hvh
          have z0 := HLw.out.rw.c0
          have z1 := HLw.out.rw.c1
          clear HEMP hsl hlt hRL hLs
          go_wp2
          clear z0 z1
          go_loopw [15] (fun i wz => ∃ t : Nat, t ≤ L.length ∧ i = .int .i64 (t : Int) ∧ Hid (Lw w.heap.size w w.heap.size F A k wz cur L R (.slice ah L.length ch) vt hs (.slice am L.length cm) L (.slice ar L.length cr) R)) (fun i _ => L.length - (intOf i).toNat)
          case atStart => exact ⟨0, Nat.zero_le _, rfl, HLw⟩
          case round =>
            clear HLw
            obtain ⟨t, htl, rfl, HLw⟩ := hrel
            by_cases hlt : t < L.length
            · obtain ⟨gm, rfl⟩ := own_some HLw.out.m (by omega)
              have hp' := HLw.out.p
              rw [HRL.out] at hp'
              obtain ⟨gr, rfl⟩ := own_some hp' (by omega)
              obtain ⟨gh, rfl⟩ := own_some HLw.out.rw.h (by omega)
              have e1 := HLw.out.rw.c1
              obtain ⟨e2, e3, _⟩ := HLw.out.heldAt t hlt
              have e4 := own_cell hp' t hlt
              have e5 := own_cell HLw.out.m t hlt
              generalize R.getD t 0 = x at e2 e4
              generalize L.getD t 0 = y at e3 e5
              have hxx : (x != x) = false := by simp
              have hti : (t : Int) < (L.length : Int) := by omega
              clear hp'
              go_wp2
              go_quiet (fail)
              go_wp2
              go_roundw
              case measure => simp [intOf]; omega
              case rel => exact ⟨t + 1, by omega, by go_num, HLw.out.drewN _⟩
            · obtain rfl : t = L.length := by omega
              have hd3 : decide ((L.length : Int) < (L.length : Int)) = false := by simp
              clear htl hlt
              obtain ⟨wy, hwy⟩ : ∃ wy, wy = wr := ⟨_, rfl⟩
              subst hwy
              go_wp2
              have HLy := HLw
              clear HLw
              go_loopw [16, 17] (fun tv i wz => ∃ t : Nat, t ≤ L.length ∧ i = .int .i64 (t : Int) ∧ Hid (Below wy.heap.size wy wz) ∧ Hid (wz.ownsRow wy.heap.size 21 1 tv (dd (L.take t)).length (nc .i32 (dd (L.take t))))) (fun _ i _ => L.length - (intOf i).toNat)
              case atStart => exact ⟨0, Nat.zero_le _, rfl, Below.refl _ _, World.ownsRow_nil _ _ _ _⟩
              case round =>
                obtain ⟨t, htl, rfl, HBz, HTz⟩ := hrel
                by_cases hlt : t < L.length
                · obtain ⟨gm, rfl⟩ := own_some HLy.out.m (by omega)
                  have hti : (t : Int) < (L.length : Int) := by omega
                  have htb : (t : Int) ≤ 1024 := by omega
                  obtain ⟨wv, hwv⟩ : ∃ wv, wv = wr := ⟨_, rfl⟩
                  subst hwv
                  go_wp2
                  go_loopw [18, 19] (fun sn j wz => ∃ q : Nat, q ≤ t ∧ sn = .bool false ∧ j = .int .i64 (q : Int) ∧ Hid (∀ p, p < q → L.getD p 0 ≠ L.getD t 0) ∧ Hid (Below wy.heap.size wy wz) ∧ Hid (wz.ownsRow wy.heap.size 21 1 u16 (dd (L.take t)).length (nc .i32 (dd (L.take t))))) (fun _ j _ => t - (intOf j).toNat)
                  case atStart => exact ⟨0, Nat.zero_le _, rfl, rfl, (fun p hp => absurd hp (Nat.not_lt_zero _)), HBz, HTz⟩
                  case round =>
                    clear HBz HTz
                    obtain ⟨q, hql, rfl, rfl, HNE, HBz, HTz⟩ := hrel
                    have e5 := own_cell (HLy.out.above HBz.out).m t hlt
                    obtain ⟨y, hy⟩ : ∃ y, y = L.getD t 0 := ⟨_, rfl⟩
                    rw [← hy] at e5
                    by_cases hqt : q < t
                    · have hqi : (q : Int) < (t : Int) := by omega
                      have hqL : (q : Int) < (L.length : Int) := by omega
                      have e6 := own_cell (HLy.out.above HBz.out).m q (by omega)
                      obtain ⟨x, hx⟩ : ∃ x, x = L.getD q 0 := ⟨_, rfl⟩
                      rw [← hx] at e6
                      by_cases hxy : x = y
                      · have HSN : Hid (dd (L.take (t + 1)) = dd (L.take t)) := by
                          show _ = _
                          rw [dd_take L t hlt, if_pos ((take_mem L t _ (by omega)).2 ⟨q, hqt, by rw [← hx, hxy, hy]⟩)]
                        have hbb : (y == y) = true := by simp
                        subst hxy
                        clear hx hy HNE
                        go_wp2
                        go_quiet (fail)
                        go_wp2
                        go_roundw
                        case measure => simp [intOf]; omega
                        case rel => exact ⟨t + 1, by omega, by go_num, below_drewN HBz.out _, by rw [HSN.out]; exact HTz.out⟩
                      · have hbb : (x == y) = false := by rw [beq_eq_false_iff_ne]; exact hxy
                        have HNE2 : Hid (∀ p, p < q + 1 → L.getD p 0 ≠ L.getD t 0) := fun p hp => by
                          by_cases hpq : p < q
                          · exact HNE.out p hpq
                          · obtain rfl : p = q := by omega
                            rw [← hx, ← hy]; exact hxy
                        clear hx hy HNE hxy
                        go_wp2
                        go_quiet (fail)
                        go_wp2
                        go_roundw
                        case measure => simp [intOf]; omega
                        case rel => exact ⟨q + 1, by omega, rfl, by go_num, HNE2, below_drewN HBz.out _, HTz.out⟩
                    · obtain rfl : t = q := by omega
                      have HSN : Hid (dd (L.take (t + 1)) = dd (L.take t) ++ [y]) := by
                        show _ = _
                        rw [dd_take L t hlt, if_neg (fun hm => ?_), hy]
                        obtain ⟨p, hp, hpe⟩ := (take_mem L t _ (by omega)).1 hm
                        exact HNE.out p hp hpe
                      have hdt : decide ((t : Int) < (t : Int)) = false := by simp
                      have hdl : (dd (L.take t)).length ≤ 1024 := by
                        have := dd_le (L.take t)
                        rw [List.length_take] at this
                        omega
                      have HTo : Hid (∀ o, (wr.alloc o).ownsRow wy.heap.size 21 1 u16 (dd (L.take t)).length (nc .i32 (dd (L.take t)))) := fun o => HTz.out.alloc o
                      have HBs : Hid (wy.heap.size ≤ wr.heap.size) := HBz.out.size
                      clear hql hqt hy HNE
                      go_wp2_with (at_builtin; (refine wpList_append_lies _ rfl (.tmp 159) (.tmp 164) 38 rfl wy.heap.size 21 i1 (.int .i32 0) 1 4 Yba.underlying38 hi1 hy0 hy1 hy2 rfl (by decide) u16 (dd (L.take t)).length (nc .i32 (dd (L.take t))) rfl (HTo.out _) ⟨wr.heap.size, 0, none⟩ 1 1 [.int .i32 y] rfl rfl (cell_one_new _ _ _) ?h3 (by decide) (by unfold maxLen; omega) (by omega) (by have := HBs.out; simp; omega) _ rfl ?_))
                      case h3 => intro u hu; simp at hu; subst hu; rfl
                      intro g3 cap3 w3 hown3 hgrow3 hat3 hlt3
                      have HO3 : Hid (w3.ownsRow wy.heap.size 21 1 (.slice (some ⟨g3, 0, none⟩) ((dd (L.take t)).length + 1) cap3) (dd (L.take (t + 1))).length (nc .i32 (dd (L.take (t + 1))))) := by
                        refine hide ?_
                        rw [HSN.out]
                        simpa [nc] using hown3
                      have HB3 : Hid (Below wy.heap.size wy w3) := (HBz.out.alloc HBs.out _).grown hgrow3 (by have := HBs.out; simp; omega) (fun j hj => (HTz.out.lt j hj).1)
                      clear hown3 hgrow3 hat3 hlt3 e5
                      go_wp2
                      go_roundw
                      case measure => simp [intOf]; omega
                      case rel => exact ⟨t + 1, by omega, by go_num, HB3, HO3⟩
                · obtain rfl : t = L.length := by omega
                  have hd4 : decide ((L.length : Int) < (L.length : Int)) = false := by simp
                  have hT := HTz.out
                  rw [(chain_end L 0).2] at hT
                  have HLz := hide (HLy.out.above HBz.out)
                  have c4 := HLz.out.rw.c4
                  have hdl : (dd L).length ≤ 1000000 := by have := dd_le L; omega
                  have HT := hide hT
                  have HDL := hide hdl
                  clear hT htl hlt HTz HBz hdl
                  go_wp2_with fail
                  refine (eq13 vt u16 (dd L).length (dd L) _ w.heap.size wy.heap.size HLz.out.rw.t HT.out HDL.out).mono ?_
                  rintro e w5 ⟨rfl, q5, hw5⟩
                  have HL5 : Hid (Lw w.heap.size w w.heap.size F A k w5 cur L R (.slice ah L.length ch) vt hs (.slice am L.length cm) L (.slice ar L.length cr) R) := by rw [hw5]; exact HLz.out.drewN q5
                  clear hw5 HLz HT HDL c4 HLy
                  have f2 := HL5.out.rw.c2
                  have f3 := HL5.out.rw.c3
                  have f1 := HL5.out.rw.c1
                  go_wp2
                  go_loop [20] (fun i => ∃ g : Nat, g ≤ k ∧ i = .int .i64 (g : Int)) (fun i => k - (intOf i).toNat)
                  case atStart => exact ⟨0, Nat.zero_le _, rfl⟩
                  case round =>
                    obtain ⟨g, hgl, rfl⟩ := hrel
                    by_cases hgk : g < k
                    · have hgi : (g : Int) < (k : Int) := by omega
                      have d1 := HL5.out.rw.cf g hgk
                      have d2 := HL5.out.rw.ca g hgk
                      obtain ⟨X0, hX0⟩ : ∃ X, X = nf (g : Int) L 0 := ⟨_, rfl⟩
                      rw [← hX0] at d1
                      obtain ⟨Y0, hY0⟩ : ∃ Y, Y = lb (g : Int) L := ⟨_, rfl⟩
                      rw [← hY0] at d2
                      have HX0 : Hid (X0 = nf (g : Int) L 0) := hX0
                      have HY0 : Hid (Y0 = lb (g : Int) L) := hY0
                      have hwg : IntKind.i32.wrap (g : Int) = (g : Int) := wrap32_small g (by omega)
                      clear hX0 hY0
                      go_wp2
                      go_loop [21, 22, 23] (fun x l j => ∃ (q : Nat) (X Y : Int), q ≤ L.length ∧ j = .int .i64 (q : Int) ∧ x = .int .i32 X ∧ l = .int .i32 Y ∧ Hid (X = nf (g : Int) (L.drop q) q ∧ Y = lb (g : Int) (L.take q))) (fun _ _ j => L.length - (intOf j).toNat)
                      case atStart => exact ⟨0, X0, -1, Nat.zero_le _, rfl, rfl, rfl, HX0.out, rfl⟩
                      case round =>
                        obtain ⟨q, X, Y, hql, rfl, rfl, rfl, HXY⟩ := hrel
                        by_cases hqL : q < L.length
                        · obtain ⟨gm, rfl⟩ := own_some HL5.out.m (by omega)
                          obtain ⟨gh, rfl⟩ := own_some HL5.out.rw.h (by omega)
                          have hqi : (q : Int) < (L.length : Int) := by omega
                          have hqb : (q : Int) ≤ 1024 := by omega
                          have hwq : IntKind.i32.wrap (q : Int) = (q : Int) := wrap32_small q (by omega)
                          have e5 := own_cell HL5.out.m q hqL
                          have e6 := (HL5.out.heldAt q hqL).2.2
                          by_cases hhit : L.getD q 0 = (g : Int)
                          · obtain ⟨t1, t2, t3⟩ := chain_hit L (g : Int) q hqL hhit
                            rw [hhit] at e5
                            have hXq : X = (q : Int) := by rw [HXY.out.1]; exact t1
                            subst hXq
                            obtain ⟨Z, hZ⟩ : ∃ Z, Z = nx L q := ⟨_, rfl⟩
                            rw [← hZ] at e6 t2
                            have HN : Hid (Z = nf (g : Int) (L.drop (q + 1)) (q + 1) ∧ (q : Int) = lb (g : Int) (L.take (q + 1))) := ⟨t2, t3.symm⟩
                            clear t1 t2 t3 hhit hZ HXY
                            go_wp2
                            go_round
                            case measure => simp [intOf]; omega
                            case rel => exact ⟨q + 1, Z, (q : Int), by omega, by go_num, rfl, rfl, HN⟩
                          · obtain ⟨t1, t2⟩ := chain_miss L (g : Int) q hqL hhit
                            obtain ⟨y, hy⟩ : ∃ y, y = L.getD q 0 := ⟨_, rfl⟩
                            rw [← hy] at e5 hhit
                            have hbb : (y != (g : Int)) = true := by simpa using hhit
                            have HN : Hid (X = nf (g : Int) (L.drop (q + 1)) (q + 1) ∧ Y = lb (g : Int) (L.take (q + 1))) := ⟨by rw [HXY.out.1, t1], by rw [HXY.out.2, t2]⟩
                            clear t1 t2 hhit hy HXY e6
                            go_wp2
                            go_round
                            case measure => simp [intOf]; omega
                            case rel => exact ⟨q + 1, X, Y, by omega, by go_num, rfl, rfl, HN⟩
                        · obtain rfl : q = L.length := by omega
                          have hX := HXY.out.1
                          have hY := HXY.out.2
                          rw [(chain_end L (g : Int)).1] at hX
                          rw [(chain_end L (g : Int)).2, ← HY0.out] at hY
                          subst hX hY
                          have hd7 : decide ((L.length : Int) < (L.length : Int)) = false := by simp
                          have hyy : (Y != Y) = false := by simp
                          clear HXY hql hqL
                          go_wp2
                          go_round
                          case measure => simp [intOf]; omega
                          case rel => exact ⟨g + 1, by omega, by go_num⟩
                    · obtain rfl : k = g := by omega
                      have hd6 : decide ((k : Int) < (k : Int)) = false := by simp
                      clear hgl hgk
                      go_wp2
                      go_ret
                      exact ⟨rfl, HL5.out.rw.bel⟩


set_option maxRecDepth 100000 in
set_option maxHeartbeats 1000000 in
theorem law_long (n8 : Int) (a : Option Addr) (len c : Nat) (w : World) (h : 1024 < len) :
    Calls Yba.prog 5 #[.int .u8 n8, .slice a len c] w fun e w' => e = .returned (.bool true) ∧ Below w.heap.size w w' := by
  have hi : (1024 : Int) < (len : Int) := by omega
  go_enter Yba.func5, Yba.ntmps5
  go_wp2
  go_ret
  exact ⟨rfl, Below.refl _ _⟩

/-- What the walk is told of the operations that came in. -/
def IsOps (w : World) (a : Option Addr) (len : Nat) (I : Nat → Int × Int × Int) : Prop :=
  len = 0 ∨ ∃ x, a = some x ∧ ∀ i, i < len → w.cell? (x.add (i * 3)) = some (.int .u8 (I i).1) ∧ w.cell? (x.add (i * 3 + 1)) = some (.int .u8 (I i).2.1) ∧ w.cell? (x.add (i * 3 + 2)) = some (.int .i32 (I i).2.2) ∧
    (Lit.int .u8 (I i).1).wf = true ∧ (Lit.int .u8 (I i).2.1).wf = true

theorem lists_walk (n8 : Int) (a : Option Addr) (len c : Nat) (I : Nat → Int × Int × Int) (w : World) (w0 : (Lit.int .u8 n8).wf = true) (w1 : IsOps w a len I) :
    Calls Yba.prog 5 #[.int .u8 n8, .slice a len c] w fun e w' => e = .returned (.bool true) ∧ Below w.heap.size w w' := by
  simp [Lit.wf, IntKind.min, IntKind.max, IntKind.signed, IntKind.bits] at w0
  obtain ⟨hn0, hn1⟩ := w0
  by_cases hlong : 1024 < len
  · exact law_long n8 a len c w hlong
  have hm0 : 0 ≤ n8 % 8 := by omega
  have hm1 : n8 % 8 < 8 := by omega
  obtain ⟨k0, hk0⟩ := Int.eq_ofNat_of_zero_le hm0
  by_cases h0 : len = 0
  · exact law_none a len c n8 (fun _ => 0) (fun _ => 0) (fun _ => 0) w (k0 + 1) k0 (by omega) (hide (by omega)) hn0 (by omega) hk0 (by omega) (by omega) (by omega) (fun i => by simp)
  rcases w1 with h | ⟨⟨b, o, spot⟩, rfl, hI⟩
  · exact absurd h h0
  have hspot : spot = none := by simpa [Addr.add] using World.cell?_spot (hI 0 (by omega)).1
  subst hspot
  refine law_some b o len c n8 (fun i => if i < len then (I i).1 else 0) (fun i => if i < len then (I i).2.1 else 0) (fun i => if i < len then (I i).2.2 else 0) w (k0 + 1) k0 (by omega) hn0 (by omega) hk0 (by omega) (by omega) (by omega) (fun i hi => ?_) (fun i => ?_)
  · obtain ⟨h1, h2, h3, _⟩ := hI i hi
    rw [Addr.add_lit] at h1 h2 h3
    rw [if_pos hi, if_pos hi, if_pos hi, Nat.add_assoc, Nat.add_assoc]
    exact ⟨h1, h2, h3⟩
  · show 0 ≤ (if i < len then (I i).1 else 0) ∧ (if i < len then (I i).1 else 0) ≤ 255 ∧ 0 ≤ (if i < len then (I i).2.1 else 0) ∧ (if i < len then (I i).2.1 else 0) ≤ 255
    by_cases hi : i < len
    · obtain ⟨_, _, _, h4, h5⟩ := hI i hi
      simp [Lit.wf, IntKind.min, IntKind.max, IntKind.signed, IntKind.bits] at h4 h5
      rw [if_pos hi, if_pos hi]
      omega
    · rw [if_neg hi, if_neg hi]
      decide
end Go.Proofs.Ybulkcfgo.Cl
