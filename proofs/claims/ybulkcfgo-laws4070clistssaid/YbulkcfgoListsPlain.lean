/-
  THE PLAIN LAW of LawS4070CLists (seat b4070a): first, next, last, touched, as functions of the list of addressees. No Go in sight.
-/
import Derived.RowKit
namespace Go.Proofs.Ybulkcfgo.Cl
open Go.RowKit

/-- The first place of g in the list, counted from j; -1: none. -/
def nf (g : Int) : List Int → Nat → Int
  | [], _ => -1
  | x :: r, j => if x = g then (j : Int) else nf g r (j + 1)

theorem nf_none (g : Int) (l : List Int) (j : Nat) : nf g l j = -1 ↔ g ∉ l := by
  induction l generalizing j with
  | nil => simp [nf]
  | cons x r ih =>
    simp only [nf]
    by_cases h : x = g
    · rw [if_pos h]
      constructor
      · intro h'; omega
      · intro h'; exact absurd (by rw [h]; exact List.mem_cons_self) h'
    · rw [if_neg h, ih]
      simp only [List.mem_cons, not_or]
      exact ⟨fun h' => ⟨fun e => h e.symm, h'⟩, fun h' => h'.2⟩

theorem nf_snoc (g : Int) (l : List Int) (x : Int) (j : Nat) : nf g (l ++ [x]) j = if g ∈ l then nf g l j else if x = g then ((j + l.length : Nat) : Int) else -1 := by
  induction l generalizing j with
  | nil => simp [nf]
  | cons y r ih =>
    simp only [List.cons_append, nf]
    by_cases h : y = g
    · rw [if_pos h, if_pos (by rw [h]; exact List.mem_cons_self), if_pos h]
    · rw [if_neg h, if_neg h, ih]
      by_cases hm : g ∈ r
      · rw [if_pos hm, if_pos (List.mem_cons_of_mem _ hm)]
      · have hm' : ¬ g ∈ y :: r := by simp only [List.mem_cons, not_or]; exact ⟨fun e => h e.symm, hm⟩
        rw [if_neg hm, if_neg hm']
        split
        · simp only [List.length_cons]; omega
        · rfl

theorem nf_ge (g : Int) (l : List Int) (j : Nat) (h : g ∈ l) : (j : Int) ≤ nf g l j ∧ nf g l j < ((j + l.length : Nat) : Int) := by
  induction l generalizing j with
  | nil => cases h
  | cons x r ih =>
    simp only [nf, List.length_cons]
    by_cases hx : x = g
    · rw [if_pos hx]; omega
    · rw [if_neg hx]
      have hm : g ∈ r := by
        rcases List.mem_cons.1 h with e | e
        · exact absurd e.symm hx
        · exact e
      have := ih (j + 1) hm
      omega

/-- The last place of g; -1: none. -/
def lb (g : Int) (l : List Int) : Int := (l.foldl (fun (p : Int × Int) x => (p.1 + 1, if x = g then p.1 else p.2)) ((0 : Int), (-1 : Int))).2

theorem foldl_fst (g : Int) (l : List Int) (a b : Int) : (l.foldl (fun (p : Int × Int) x => (p.1 + 1, if x = g then p.1 else p.2)) (a, b)).1 = a + l.length := by
  induction l generalizing a b with
  | nil => simp
  | cons x r ih => simp only [List.foldl_cons]; rw [ih]; simp; omega
theorem lb_snoc (g : Int) (l : List Int) (x : Int) : lb g (l ++ [x]) = if x = g then (l.length : Int) else lb g l := by
  unfold lb
  rw [List.foldl_append]
  simp only [List.foldl_cons, List.foldl_nil]
  split
  · rw [foldl_fst]; omega
  · rfl

theorem snoc_ind (p : List Int → Prop) (h0 : p []) (h1 : ∀ l x, p l → p (l ++ [x])) (l : List Int) : p l := by
  have : ∀ r : List Int, p r.reverse := fun r => by
    induction r with
    | nil => exact h0
    | cons x r ih => rw [List.reverse_cons]; exact h1 _ _ ih
  have := this l.reverse
  rwa [List.reverse_reverse] at this

theorem getD_snoc (l : List Int) (x : Int) (j : Nat) (h : j < l.length) : (l ++ [x]).getD j 0 = l.getD j 0 := by
  rw [List.getD_eq_getElem?_getD, List.getD_eq_getElem?_getD, List.getElem?_append_left h]
theorem getD_end (l : List Int) (x : Int) : (l ++ [x]).getD l.length 0 = x := by
  rw [List.getD_eq_getElem?_getD, List.getElem?_append_right (Nat.le_refl _)]
  simp
theorem getD_mem (l : List Int) (j : Nat) (h : j < l.length) : l.getD j 0 ∈ l := by
  rw [List.getD_eq_getElem?_getD, List.getElem?_eq_getElem h]
  exact List.getElem_mem h

theorem lb_none (g : Int) (l : List Int) (h : g ∉ l) : lb g l = -1 := by
  revert h
  refine snoc_ind (fun l => g ∉ l → lb g l = -1) (fun _ => rfl) (fun l x ih h => ?_) l
  simp only [List.mem_append, List.mem_singleton, not_or] at h
  rw [lb_snoc, if_neg (fun e => h.2 e.symm)]
  exact ih h.1

/-- The last place, where there is one. -/
theorem lb_at (g : Int) (l : List Int) (h : g ∈ l) : ∃ p : Nat, p < l.length ∧ lb g l = (p : Int) ∧ l.getD p 0 = g ∧ ∀ j, p < j → j < l.length → l.getD j 0 ≠ g := by
  revert h
  refine snoc_ind (fun l => g ∈ l → ∃ p : Nat, p < l.length ∧ lb g l = (p : Int) ∧ l.getD p 0 = g ∧ ∀ j, p < j → j < l.length → l.getD j 0 ≠ g) (fun h => by cases h) (fun l x ih h => ?_) l
  rw [lb_snoc]
  by_cases hx : x = g
  · rw [if_pos hx]
    refine ⟨l.length, by simp, rfl, by rw [getD_end]; exact hx, fun j h1 h2 => ?_⟩
    simp only [List.length_append, List.length_singleton] at h2
    omega
  · rw [if_neg hx]
    have hm : g ∈ l := by
      simp only [List.mem_append, List.mem_singleton] at h
      rcases h with h | h
      · exact h
      · exact absurd h.symm hx
    obtain ⟨p, hp, h1, h2, h3⟩ := ih hm
    refine ⟨p, by simp; omega, h1, by rw [getD_snoc l x p hp]; exact h2, fun j hj hl => ?_⟩
    simp only [List.length_append, List.length_singleton] at hl
    by_cases hj' : j < l.length
    · rw [getD_snoc l x j hj']; exact h3 j hj hj'
    · obtain rfl : j = l.length := by omega
      rw [getD_end]; exact hx

/-- The next place of what stands at i. -/
def nx (l : List Int) (i : Nat) : Int := nf (l.getD i 0) (l.drop (i + 1)) (i + 1)

theorem nx_end (l : List Int) (x : Int) : nx (l ++ [x]) l.length = -1 := by
  unfold nx
  rw [List.drop_eq_nil_of_le (by simp)]
  rfl
theorem drop_snoc (l : List Int) (x : Int) (i : Nat) (h : i ≤ l.length) : (l ++ [x]).drop i = l.drop i ++ [x] := by
  rw [List.drop_append_of_le_length h]

theorem nx_new (l : List Int) (g : Int) (j : Nat) (hj : j < l.length) (hg : g ∉ l) : nx (l ++ [g]) j = nx l j := by
  unfold nx
  have hne : ¬ g = l.getD j 0 := fun e => hg (by rw [e]; exact getD_mem l j hj)
  rw [getD_snoc l g j hj, drop_snoc l g (j + 1) (by omega), nf_snoc, if_neg hne]
  split
  · rfl
  · exact ((nf_none _ _ _).2 (by assumption)).symm

theorem drop_mem (l : List Int) (i j : Nat) (h : i ≤ j) (hj : j < l.length) : l.getD j 0 ∈ l.drop i := by
  have e : l.getD j 0 = (l.drop i).getD (j - i) 0 := by
    rw [List.getD_eq_getElem?_getD, List.getD_eq_getElem?_getD, List.getElem?_drop]
    congr 2
    omega
  rw [e]
  exact getD_mem _ _ (by rw [List.length_drop]; omega)
theorem mem_drop (l : List Int) (i : Nat) (g : Int) (h : g ∈ l.drop i) : ∃ j, i ≤ j ∧ j < l.length ∧ l.getD j 0 = g := by
  obtain ⟨q, hq, e⟩ := List.getElem_of_mem h
  rw [List.length_drop] at hq
  refine ⟨i + q, by omega, by omega, ?_⟩
  rw [List.getElem_drop] at e
  rw [List.getD_eq_getElem?_getD, List.getElem?_eq_getElem (by omega), ← e]
  rfl

theorem nx_old (l : List Int) (g : Int) (p j : Nat) (hj : j < l.length) (hp : p < l.length) (hlb : l.getD p 0 = g) (hlast : ∀ j, p < j → j < l.length → l.getD j 0 ≠ g) :
    nx (l ++ [g]) j = if j = p then (l.length : Int) else nx l j := by
  unfold nx
  rw [getD_snoc l g j hj, drop_snoc l g (j + 1) (by omega), nf_snoc]
  by_cases hjp : j = p
  · subst hjp
    rw [if_pos rfl, hlb, if_neg (fun hm => ?_), if_pos rfl]
    · rw [List.length_drop]; congr 1; omega
    · obtain ⟨q, h1, h2, h3⟩ := mem_drop l (j + 1) g hm
      exact hlast q (by omega) h2 h3
  · rw [if_neg hjp]
    by_cases hm : l.getD j 0 ∈ l.drop (j + 1)
    · rw [if_pos hm]
    · rw [if_neg hm, (nf_none _ _ _).2 hm]
      by_cases he : g = l.getD j 0
      · exfalso
        apply hm
        rw [← he, ← hlb]
        rcases Nat.lt_or_ge p j with h | h
        · exact absurd he.symm (hlast j h hj)
        · exact drop_mem l (j + 1) p (by omega) hp
      · rw [if_neg he]

/-- The generals with some message, in order of the first. -/
def ddr : List Int → List Int
  | [] => []
  | x :: r => if x ∈ r then ddr r else ddr r ++ [x]
def dd (l : List Int) : List Int := ddr l.reverse
theorem dd_snoc (l : List Int) (x : Int) : dd (l ++ [x]) = if x ∈ l then dd l else dd l ++ [x] := by
  unfold dd
  rw [List.reverse_append]
  simp only [List.reverse_cons, List.reverse_nil, List.nil_append, List.cons_append, ddr, List.mem_reverse]
theorem dd_mem (l : List Int) (x : Int) : x ∈ dd l ↔ x ∈ l := by
  refine snoc_ind (fun l => x ∈ dd l ↔ x ∈ l) (by simp [dd, ddr]) (fun l y ih => ?_) l
  rw [dd_snoc]
  by_cases h : y ∈ l
  · rw [if_pos h, ih]
    simp only [List.mem_append, List.mem_singleton]
    exact ⟨.inl, fun h' => h'.elim id fun e => by rw [e]; exact h⟩
  · rw [if_neg h]
    simp only [List.mem_append, List.mem_singleton, ih]
theorem dd_le (l : List Int) : (dd l).length ≤ l.length := by
  refine snoc_ind (fun l => (dd l).length ≤ l.length) (by simp [dd, ddr]) (fun l y ih => ?_) l
  rw [dd_snoc]
  split <;> simp <;> omega

/-- How the law runs through one general's chain. -/
theorem chain_zero (l : List Int) (g : Int) : nf g l 0 = nf g (l.drop 0) 0 := rfl
theorem chain_hit (l : List Int) (g : Int) (j : Nat) (hj : j < l.length) (h : l.getD j 0 = g) : nf g (l.drop j) j = (j : Int) ∧ nx l j = nf g (l.drop (j + 1)) (j + 1) ∧ lb g (l.take (j + 1)) = (j : Int) := by
  have hd : l.drop j = l.getD j 0 :: l.drop (j + 1) := by
    rw [List.drop_eq_getElem_cons hj, List.getD_eq_getElem?_getD, List.getElem?_eq_getElem hj]; rfl
  have ht : l.take (j + 1) = l.take j ++ [l.getD j 0] := by
    rw [List.take_succ_eq_append_getElem hj, List.getD_eq_getElem?_getD, List.getElem?_eq_getElem hj]; rfl
  refine ⟨?_, ?_, ?_⟩
  · rw [hd]; simp only [nf]; rw [if_pos h]
  · unfold nx; rw [h]
  · rw [ht, lb_snoc, if_pos h, List.length_take]; congr 1; omega
theorem chain_miss (l : List Int) (g : Int) (j : Nat) (hj : j < l.length) (h : ¬ l.getD j 0 = g) : nf g (l.drop j) j = nf g (l.drop (j + 1)) (j + 1) ∧ lb g (l.take (j + 1)) = lb g (l.take j) := by
  have hd : l.drop j = l.getD j 0 :: l.drop (j + 1) := by
    rw [List.drop_eq_getElem_cons hj, List.getD_eq_getElem?_getD, List.getElem?_eq_getElem hj]; rfl
  have ht : l.take (j + 1) = l.take j ++ [l.getD j 0] := by
    rw [List.take_succ_eq_append_getElem hj, List.getD_eq_getElem?_getD, List.getElem?_eq_getElem hj]; rfl
  refine ⟨?_, ?_⟩
  · rw [hd]; simp only [nf]; rw [if_neg h]
  · rw [ht, lb_snoc, if_neg h]
theorem chain_end (l : List Int) (g : Int) : nf g (l.drop l.length) l.length = -1 ∧ l.take l.length = l := by
  rw [List.drop_length, List.take_length]; exact ⟨rfl, rfl⟩

/-- What the law knows of 'seen' and of 'tw'. -/
theorem dd_take (l : List Int) (i : Nat) (h : i < l.length) : dd (l.take (i + 1)) = if l.getD i 0 ∈ l.take i then dd (l.take i) else dd (l.take i) ++ [l.getD i 0] := by
  have ht : l.take (i + 1) = l.take i ++ [l.getD i 0] := by
    rw [List.take_succ_eq_append_getElem h, List.getD_eq_getElem?_getD, List.getElem?_eq_getElem h]; rfl
  rw [ht, dd_snoc]
theorem take_mem (l : List Int) (i : Nat) (x : Int) (h : i ≤ l.length) : x ∈ l.take i ↔ ∃ j, j < i ∧ l.getD j 0 = x := by
  constructor
  · intro hm
    obtain ⟨q, hq, e⟩ := List.getElem_of_mem hm
    rw [List.length_take] at hq
    refine ⟨q, by omega, ?_⟩
    rw [List.getElem_take] at e
    rw [List.getD_eq_getElem?_getD, List.getElem?_eq_getElem (by omega), ← e]
    rfl
  · rintro ⟨j, hj, rfl⟩
    have e : l.getD j 0 = (l.take i).getD j 0 := by
      rw [List.getD_eq_getElem?_getD, List.getD_eq_getElem?_getD, List.getElem?_take, if_pos hj]
    rw [e]
    exact getD_mem _ _ (by rw [List.length_take]; omega)
end Go.Proofs.Ybulkcfgo.Cl
