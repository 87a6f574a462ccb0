/-
  THE PLAIN LAW of LawS4079CReads (seat b4079a): the longest run, the position behind it. No Go in sight.
-/
import Derived.RowKit
namespace Go.Proofs.Ybulkcflk
open Go.RowKit

/-- How many bytes of the list are allowed, from its head on. -/
def rl (SB : Nat → Bool) : List Int → Nat
  | [] => 0
  | x :: r => if SB x.toNat then rl SB r + 1 else 0

theorem rl_le (SB : Nat → Bool) (l : List Int) : rl SB l ≤ l.length := by
  induction l with
  | nil => simp [rl]
  | cons x r ih => simp only [rl]; split <;> simp <;> omega

theorem drop_at (zs : List Int) (i : Nat) (h : i < zs.length) : zs.drop i = zs.getD i 0 :: zs.drop (i + 1) := by
  rw [List.drop_eq_getElem_cons h, List.getD_eq_getElem?_getD, List.getElem?_eq_getElem h]
  rfl

theorem rl_at (SB : Nat → Bool) (zs : List Int) (i : Nat) (h : i < zs.length) : rl SB (zs.drop i) = if SB (zs.getD i 0).toNat then rl SB (zs.drop (i + 1)) + 1 else 0 := by
  rw [drop_at zs i h]; rfl
theorem rl_end (SB : Nat → Bool) (zs : List Int) (i : Nat) (h : zs.length ≤ i) : rl SB (zs.drop i) = 0 := by
  rw [List.drop_eq_nil_of_le h]; rfl

/-- The line and the column behind a text. -/
def posL (L : Int) (l : List Int) : Int := l.foldl (fun a x => if x = 10 then wrap64 (a + 1) else a) L
def posC (C : Int) (l : List Int) : Int := l.foldl (fun a x => if x = 10 then 1 else wrap64 (a + 1)) C

/-- The part of zs from 'off' on, k bytes. -/
def part (zs : List Int) (off k : Nat) : List Int := (zs.drop off).take k

theorem part_succ (zs : List Int) (off k : Nat) (h : off + k < zs.length) : part zs off (k + 1) = part zs off k ++ [zs.getD (off + k) 0] := by
  unfold part
  have h' : k < (zs.drop off).length := by rw [List.length_drop]; omega
  rw [List.take_succ_eq_append_getElem h', List.getElem_drop, List.getD_eq_getElem?_getD, List.getElem?_eq_getElem h]
  rfl
theorem part_length (zs : List Int) (off k : Nat) (h : off + k ≤ zs.length) : (part zs off k).length = k := by
  unfold part; rw [List.length_take, List.length_drop]; omega
theorem part_past (zs : List Int) (off k : Nat) (h : zs.length ≤ off + k) : part zs off (k + 1) = part zs off k := by
  unfold part
  rw [List.take_of_length_le (by rw [List.length_drop]; omega), List.take_of_length_le (by rw [List.length_drop]; omega)]

theorem posL_snoc (L : Int) (l : List Int) (x : Int) : posL L (l ++ [x]) = if x = 10 then wrap64 (posL L l + 1) else posL L l := by
  simp [posL]
theorem posC_snoc (C : Int) (l : List Int) (x : Int) : posC C (l ++ [x]) = if x = 10 then 1 else wrap64 (posC C l + 1) := by
  simp [posC]

/-- The newlines of a text, and where the last one lies (-1: none). -/
def nls (l : List Int) : Nat := (l.filter (fun x => x == 10)).length
def lastNl (l : List Int) : Int := (l.foldl (fun (p : Int × Int) x => (p.1 + 1, if x = 10 then p.1 else p.2)) ((0 : Int), (-1 : Int))).2

theorem foldl_fst (l : List Int) (a b : Int) : (l.foldl (fun (p : Int × Int) x => (p.1 + 1, if x = 10 then p.1 else p.2)) (a, b)).1 = a + l.length := by
  induction l generalizing a b with
  | nil => simp
  | cons x r ih => simp only [List.foldl_cons]; rw [ih]; simp; omega

theorem nls_snoc (l : List Int) (x : Int) : nls (l ++ [x]) = nls l + if x = 10 then 1 else 0 := by
  unfold nls
  rw [List.filter_append]
  by_cases h : x = 10
  · simp [h]
  · simp [h]
theorem lastNl_snoc (l : List Int) (x : Int) : lastNl (l ++ [x]) = if x = 10 then (l.length : Int) else lastNl l := by
  unfold lastNl
  rw [List.foldl_append]
  simp only [List.foldl_cons, List.foldl_nil]
  split
  · rw [foldl_fst]; omega
  · rfl

theorem wrap_id (x : Int) (h0 : -9223372036854775808 ≤ x) (h1 : x ≤ 9223372036854775807) : wrap64 x = x := by unfold wrap64; omega
theorem wrap_wrap (x y : Int) : wrap64 (wrap64 x + y) = wrap64 (x + y) := by unfold wrap64; omega

theorem snoc_ind (p : List Int → Prop) (h0 : p []) (h1 : ∀ l x, p l → p (l ++ [x])) (l : List Int) : p l := by
  have : ∀ r : List Int, p r.reverse := fun r => by
    induction r with
    | nil => exact h0
    | cons x r ih => rw [List.reverse_cons]; exact h1 _ _ ih
  have := this l.reverse
  rwa [List.reverse_reverse] at this

theorem posL_eq (L : Int) (h0 : -9223372036854775808 ≤ L) (h1 : L ≤ 9223372036854775807) (l : List Int) : posL L l = wrap64 (L + nls l) := by
  refine snoc_ind (fun l => posL L l = wrap64 (L + nls l)) ?_ ?_ l
  · show L = wrap64 (L + 0); rw [Int.add_zero, wrap_id L h0 h1]
  · intro l x ih
    rw [posL_snoc, nls_snoc, ih]
    split
    · rw [wrap_wrap]; congr 1; omega
    · simp

/-- No newline: the column goes on; else it is counted from the last one. -/
theorem posC_eq (C : Int) (h0 : -9223372036854775808 ≤ C) (h1 : C ≤ 9223372036854775807) (l : List Int) (hl : l.length ≤ 1000000) :
    (nls l = 0 → posC C l = wrap64 (C + l.length) ∧ lastNl l = -1) ∧ (0 < nls l → posC C l = 1 + (l.length - 1 - lastNl l) ∧ 0 ≤ lastNl l ∧ lastNl l < l.length) := by
  revert hl
  refine snoc_ind (fun l => l.length ≤ 1000000 → (nls l = 0 → posC C l = wrap64 (C + l.length) ∧ lastNl l = -1) ∧ (0 < nls l → posC C l = 1 + (l.length - 1 - lastNl l) ∧ 0 ≤ lastNl l ∧ lastNl l < l.length)) ?_ ?_ l
  · intro _
    refine ⟨fun _ => ⟨?_, rfl⟩, fun h => by cases h⟩
    show C = wrap64 (C + 0)
    rw [Int.add_zero, wrap_id C h0 h1]
  · intro l x ih hl
    simp only [List.length_append, List.length_singleton] at hl
    obtain ⟨ia, ib⟩ := ih (by omega)
    rw [nls_snoc, posC_snoc, lastNl_snoc]
    simp only [List.length_append, List.length_singleton]
    by_cases hx : x = 10
    · simp only [hx, if_true]
      refine ⟨fun h => by omega, fun _ => ⟨by omega, by omega, by omega⟩⟩
    · simp only [hx, if_false, Nat.add_zero]
      refine ⟨fun h => ?_, fun h => ?_⟩
      · obtain ⟨e1, e2⟩ := ia h
        refine ⟨?_, e2⟩
        rw [e1, wrap_wrap]
        congr 1
        omega
      · obtain ⟨e1, e2, e3⟩ := ib h
        refine ⟨?_, e2, by omega⟩
        rw [e1, wrap_id _ (by omega) (by omega)]
        omega
end Go.Proofs.Ybulkcflk
