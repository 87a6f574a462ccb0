/-
  WHAT THE WALK OF LawS4067BWellFormed IS TOLD OF ITS OWN BYTES (seat b4067aF): the slice value v owns the bytes l; below block B the world is as it was. The appends as laws of this one state.
-/
import Derived.Test.YbulkcfeyFmtScan
import Derived.Lib.AppendStr
import Derived.Laws.IdiomStrings
import Derived.OwnWalk
namespace Go.Proofs.YbulkcfeyFmt
open Go.RowKit Go.Extern.Stop Go.Stop Go.Extern

/-- Bytes as cells. -/
def bc (l : List UInt8) : List Value := l.map fun b => Value.int .u8 b.toNat

/-- v owns the bytes l (blocks from B on); below B the world wr is as w was. -/
structure Own (B : Nat) (w wr : World) (v : Value) (l : List UInt8) : Prop where
  own : wr.ownsRow B 5 1 v l.length (bc l)
  bel : Below B w wr
  size : B ≤ wr.heap.size

theorem Ybaf.info5 : (Ybaf.prog.info? 5).map (fun i => (i.zero, i.size, i.bytes)) = some (some (.int .u8 0), 1, 1) := by kernel_rfl

theorem Own.grown {B : Nat} {w wr w1 : World} {v v' : Value} {l k : List UInt8} (h : Own B w wr v l) (hg : wr.grownBy w1 v.ownBlock) (ho : w1.ownsRow B 5 1 v' k.length (bc k)) : Own B w w1 v' k :=
  ⟨ho, h.bel.grown hg h.size (fun j hj => (h.own.lt j hj).1), Nat.le_trans h.size hg.size⟩

theorem Own.alloc {B : Nat} {w wr : World} {v : Value} {l : List UInt8} (h : Own B w wr v l) (o : Obj) : Own B w (wr.alloc o) v l :=
  ⟨h.own.alloc o, h.bel.alloc h.size o, by rw [World.size_alloc]; have := h.size; omega⟩

/-- 'b = append(b, c)'. -/
theorem wp_push {ops : Array Oper} {rest : List Oper} {o : Oper} {a : Act} {Q : Exit → Act → World → Prop} {B : Nat} {w wr : World} (hgd : o.guard = none) (s x : Operand)
    (ho : o.op = .call { callee := .builtin .append, args := #[s, x], argTypes := #[36, 36] }) (v : Value) (l : List UInt8) (hs : a.eval s = v) (hO : Own B w wr v l) (c : UInt8) (n : Int) (hn : n = (c.toNat : Int))
    (hx : a.eval x = .slice (some ⟨wr.heap.size, 0, none⟩) 1 1) (hb : l.length ≤ 1000000000)
    (h : ∀ v' w', Own B w w' v' (l ++ [c]) → wpList Ybaf.prog ops Q rest (a.put o.dst v') w') : wpList Ybaf.prog ops Q (o :: rest) a (wr.alloc (.cells #[.int .u8 n] 5)) := by
  obtain ⟨i0, hi, hz0, hz1, hz2⟩ := info_parts Ybaf.info5
  subst hn
  have hO' := hO.alloc (.cells #[.int .u8 (c.toNat : Int)] 5)
  refine wpList_append_own _ hgd s x 36 ho B 5 i0 (.int .u8 0) 1 1 Ybaf.underlying36 hi hz0 hz1 hz2 rfl (by decide) v l.length (bc l) hs hO'.own ⟨wr.heap.size, 0, none⟩ 1 1 [.int .u8 (c.toNat : Int)] hx rfl (cell_one_new _ _ _)
    (by intro u hu; simp at hu; subst hu; rfl) (by unfold maxLen; omega) (by omega) hO'.size ?_
  intro v' w' h1 h2 _
  refine h v' w' (hO'.grown h2 ?_)
  simpa [bc] using h1

/-- 'b = append(b, s...)', s a string. -/
theorem wp_push_str {ops : Array Oper} {rest : List Oper} {o : Oper} {a : Act} {Q : Exit → Act → World → Prop} {B : Nat} {w wr : World} (hgd : o.guard = none) (s x : Operand)
    (ho : o.op = .call { callee := .builtin .append, args := #[s, x], argTypes := #[36, 9] }) (v : Value) (l : List UInt8) (hs : a.eval s = v) (hO : Own B w wr v l) (t : ByteArray)
    (hx : a.eval x = .string t) (hb : l.length ≤ 1000000000) (ht : t.size ≤ 1000000000)
    (h : ∀ v' w', Own B w w' v' (l ++ t.data.toList) → wpList Ybaf.prog ops Q rest (a.put o.dst v') w') : wpList Ybaf.prog ops Q (o :: rest) a wr := by
  obtain ⟨i0, hi, hz0, hz1, hz2⟩ := info_parts Ybaf.info5
  refine Lib.wpList_append_own_string _ hgd s x 36 9 ho B 5 i0 Ybaf.underlying36 Ybaf.underlying9 hi hz0 hz1 hz2 v l.length (bc l) hs hO.own t hx (by unfold maxLen; omega) (by omega) hO.size ?_
  intro v' w' h1 h2 _
  refine h v' w' (hO.grown h2 ?_)
  have e : (l ++ t.data.toList).length = l.length + t.size := by simp
  have e2 : bc (l ++ t.data.toList) = bc l ++ Lib.strCells t := by simp [bc, Lib.strCells]
  rw [e, e2]
  exact h1

/-- 'make([]byte, 0, n)'. -/
theorem wp_make {ops : Array Oper} {rest : List Oper} {o : Oper} {a : Act} {Q : Exit → Act → World → Prop} {w : World} (hg : o.guard = none) (x y : Operand) (hop : o.op = Op.makeSlice 36 x y)
    (C : Int) (n : Nat) (hl : a.eval x = .int .i64 0) (hc : a.eval y = .int .i64 C) (hC : C = (n : Int)) (hn : n ≤ 1000000000)
    (h : ∀ v w', Own w.heap.size w w' v [] → wpList Ybaf.prog ops Q rest (a.put o.dst v) w') : wpList Ybaf.prog ops Q (o :: rest) a w := by
  obtain ⟨i0, hi, hz0, hz1, hz2⟩ := info_parts Ybaf.info5
  refine wpList_make_own _ hg x y 36 hop w.heap.size 5 i0 (.int .u8 0) 1 Ybaf.underlying36 hi hz0 hz1 .i64 .i64 C n hl hc hC (by rw [hz2]; omega) (by unfold maxLen; omega) (Nat.le_refl _) ?_
  intro w' h1 h2
  exact h _ w' ⟨h1, (Below.refl _ _).grown h2 (Nat.le_refl _) (fun k hk => by cases hk), h2.size⟩

/-- Where something is owned the value is written out. -/
theorem Own.form {B : Nat} {w wr : World} {v : Value} {l : List UInt8} (h : Own B w wr v l) (hl : 0 < l.length) : ∃ g cap, v = .slice (some ⟨g, 0, none⟩) l.length cap := by
  rcases h.own.2 with ⟨_, h0⟩ | ⟨g, cap, cur, hv, _⟩
  · omega
  · exact ⟨g, cap, hv⟩

/-- 'b = append(b, c)', the new value written out. -/
theorem wp_push_out {ops : Array Oper} {rest : List Oper} {o : Oper} {a : Act} {Q : Exit → Act → World → Prop} {B : Nat} {w wr : World} (hgd : o.guard = none) (s x : Operand)
    (ho : o.op = .call { callee := .builtin .append, args := #[s, x], argTypes := #[36, 36] }) (v : Value) (l : List UInt8) (hs : a.eval s = v) (hO : Own B w wr v l) (c : UInt8) (n : Int) (hn : n = (c.toNat : Int))
    (hx : a.eval x = .slice (some ⟨wr.heap.size, 0, none⟩) 1 1) (hb : l.length ≤ 1000000000) (N : Nat) (hN : (l ++ [c]).length = N)
    (h : ∀ g cap w', Own B w w' (.slice (some ⟨g, 0, none⟩) N cap) (l ++ [c]) → wpList Ybaf.prog ops Q rest (a.put o.dst (.slice (some ⟨g, 0, none⟩) N cap)) w') : wpList Ybaf.prog ops Q (o :: rest) a (wr.alloc (.cells #[.int .u8 n] 5)) := by
  refine wp_push hgd s x ho v l hs hO c n hn hx hb fun v' w' h1 => ?_
  obtain ⟨g, cap, hv⟩ := h1.form (by simp)
  rw [hN] at hv
  subst hv
  exact h g cap w' h1

/-- 'b = append(b, s...)', something owned already, the new value written out. -/
theorem wp_push_str_out {ops : Array Oper} {rest : List Oper} {o : Oper} {a : Act} {Q : Exit → Act → World → Prop} {B : Nat} {w wr : World} (hgd : o.guard = none) (s x : Operand)
    (ho : o.op = .call { callee := .builtin .append, args := #[s, x], argTypes := #[36, 9] }) (v : Value) (l : List UInt8) (hs : a.eval s = v) (hO : Own B w wr v l) (t : ByteArray)
    (hx : a.eval x = .string t) (hb : l.length ≤ 1000000000) (ht : t.size ≤ 1000000000) (h0 : 0 < l.length) (N : Nat) (hN : (l ++ t.data.toList).length = N)
    (h : ∀ g cap w', Own B w w' (.slice (some ⟨g, 0, none⟩) N cap) (l ++ t.data.toList) → wpList Ybaf.prog ops Q rest (a.put o.dst (.slice (some ⟨g, 0, none⟩) N cap)) w') : wpList Ybaf.prog ops Q (o :: rest) a wr := by
  refine wp_push_str hgd s x ho v l hs hO t hx hb ht fun v' w' h1 => ?_
  obtain ⟨g, cap, hv⟩ := h1.form (by rw [List.length_append]; omega)
  rw [hN] at hv
  subst hv
  exact h g cap w' h1

/-- 'string(b)'. -/
theorem Own.string {B : Nat} {w wr : World} {g cap N : Nat} {l : List UInt8} (h : Own B w wr (.slice (some ⟨g, 0, none⟩) N cap) l) (hN : l.length = N) (s : ByteArray) (hs : s = ⟨l.toArray⟩) :
    (convert 36 9 (.slice (some ⟨g, 0, none⟩) N cap)).run Ybaf.prog wr = .ok (.string s) wr := by
  subst hN
  subst hs
  refine run_convert_bytes_back (P := Ybaf.prog) wr 36 9 5 ⟨g, 0, none⟩ cap l Ybaf.underlying36 Ybaf.underlying5 Ybaf.underlying9 ?_
  intro j hj
  refine h.own.cells (g := g) rfl j _ ?_
  simp [bc, hj]
end Go.Proofs.YbulkcfeyFmt
