/-
  THE PLAIN LAW of the two statements over '(*plan).next' (seat b4070a): a number in base 3 whose digits lie at chosen places of a list. No Go in sight.
-/
namespace Go.Proofs.Ybulkcfgo

/-- What 'next' does to the choices C: the digits are C at f (n-1), .. f 0, the first named the least. -/
def inc (f : Nat → Nat) : Nat → List Int → Bool × List Int
  | 0, C => (false, C)
  | n + 1, C => if C.getD (f n) 0 < 2 then (true, C.set (f n) (C.getD (f n) 0 + 1)) else inc f n (C.set (f n) 0)

/-- The number. -/
def val (f : Nat → Nat) (C : List Int) : Nat → Int
  | 0 => 0
  | n + 1 => 3 * val f C n + C.getD (f n) 0

def Dig (C : List Int) : Prop := ∀ j, 0 ≤ C.getD j 0 ∧ C.getD j 0 ≤ 2

theorem getD_set (C : List Int) (m j : Nat) (x : Int) : (C.set m x).getD j 0 = if m = j ∧ m < C.length then x else C.getD j 0 := by
  simp only [List.getD_eq_getElem?_getD, List.getElem?_set]
  by_cases h : m = j
  · subst h
    by_cases hm : m < C.length
    · simp [hm]
    · simp [hm]
  · simp [h]

theorem Dig.set {C : List Int} (h : Dig C) (m : Nat) (x : Int) (h0 : 0 ≤ x) (h2 : x ≤ 2) : Dig (C.set m x) := by
  intro j
  rw [getD_set]
  split
  · exact ⟨h0, h2⟩
  · exact h j

theorem inc_len (f : Nat → Nat) (n : Nat) (C : List Int) : (inc f n C).2.length = C.length := by
  induction n generalizing C with
  | zero => rfl
  | succ n ih =>
    simp only [inc]
    split
    · simp
    · rw [ih]; simp

theorem inc_dig (f : Nat → Nat) (n : Nat) (C : List Int) (h : Dig C) : Dig (inc f n C).2 := by
  induction n generalizing C with
  | zero => exact h
  | succ n ih =>
    simp only [inc]
    split
    · exact h.set _ _ (by have := h (f n); omega) (by omega)
    · exact ih _ (h.set _ _ (by omega) (by omega))

theorem inc_other (f : Nat → Nat) (n : Nat) (C : List Int) (j : Nat) (hj : ∀ i, i < n → f i ≠ j) : (inc f n C).2.getD j 0 = C.getD j 0 := by
  induction n generalizing C with
  | zero => rfl
  | succ n ih =>
    have hn := hj n (by omega)
    simp only [inc]
    split
    · rw [getD_set, if_neg (by simp [hn])]
    · rw [ih _ (fun i hi => hj i (by omega)), getD_set, if_neg (by simp [hn])]

theorem val_set (f : Nat → Nat) (C : List Int) (m : Nat) (x : Int) (n : Nat) (h : ∀ i, i < n → f i ≠ m) : val f (C.set m x) n = val f C n := by
  induction n with
  | zero => rfl
  | succ n ih =>
    have hn := h n (by omega)
    simp only [val]
    rw [ih (fun i hi => h i (by omega)), getD_set, if_neg (fun hh => hn hh.1.symm)]

theorem val_bd (f : Nat → Nat) (C : List Int) (h : Dig C) (n : Nat) : 0 ≤ val f C n ∧ val f C n + 1 ≤ 3 ^ n := by
  induction n with
  | zero => simp [val]
  | succ n ih =>
    have := h (f n)
    simp only [val, Int.pow_succ]
    omega

/-- Not the last number: one is added. -/
theorem inc_true (f : Nat → Nat) (n : Nat) (C : List Int) (h : Dig C) (hf : ∀ i j, i < n → j < n → f i = f j → i = j) (hl : ∀ i, i < n → f i < C.length) (hv : val f C n + 1 < 3 ^ n) :
    (inc f n C).1 = true ∧ val f (inc f n C).2 n = val f C n + 1 := by
  induction n generalizing C with
  | zero => simp [val] at hv
  | succ n ih =>
    have hd := h (f n)
    have hb := val_bd f C h n
    have hne : ∀ i, i < n → f i ≠ f n := fun i hi e => by have := hf i n (by omega) (by omega) e; omega
    simp only [val, Int.pow_succ] at hv
    by_cases hc : C.getD (f n) 0 < 2
    · have e : inc f (n + 1) C = (true, C.set (f n) (C.getD (f n) 0 + 1)) := by simp only [inc]; rw [if_pos hc]
      rw [e]
      refine ⟨rfl, ?_⟩
      simp only [val]
      rw [val_set f C (f n) _ n hne, getD_set, if_pos ⟨rfl, hl n (by omega)⟩]
      omega
    · have e : inc f (n + 1) C = inc f n (C.set (f n) 0) := by simp only [inc]; rw [if_neg hc]
      rw [e]
      have h0 : Dig (C.set (f n) 0) := h.set _ _ (by omega) (by omega)
      have hv' : val f (C.set (f n) 0) n + 1 < 3 ^ n := by rw [val_set f C (f n) _ n hne]; omega
      obtain ⟨h1, h2⟩ := ih (C.set (f n) 0) h0 (fun i j hi hj => hf i j (by omega) (by omega)) (fun i hi => by simpa using hl i (by omega)) hv'
      refine ⟨h1, ?_⟩
      simp only [val]
      rw [h2, val_set f C (f n) _ n hne, inc_other f n _ (f n) hne, getD_set, if_pos ⟨rfl, hl n (by omega)⟩]
      omega

/-- The last number: all digits are nought again. -/
theorem inc_false (f : Nat → Nat) (n : Nat) (C : List Int) (h : Dig C) (hf : ∀ i j, i < n → j < n → f i = f j → i = j) (hl : ∀ i, i < n → f i < C.length) (hv : val f C n + 1 = 3 ^ n) :
    (inc f n C).1 = false ∧ ∀ i, i < n → (inc f n C).2.getD (f i) 0 = 0 := by
  induction n generalizing C with
  | zero => exact ⟨rfl, fun i hi => absurd hi (Nat.not_lt_zero _)⟩
  | succ n ih =>
    have hd := h (f n)
    have hb := val_bd f C h n
    have hne : ∀ i, i < n → f i ≠ f n := fun i hi e => by have := hf i n (by omega) (by omega) e; omega
    simp only [val, Int.pow_succ] at hv
    have hc : ¬ C.getD (f n) 0 < 2 := by omega
    have e : inc f (n + 1) C = inc f n (C.set (f n) 0) := by simp only [inc]; rw [if_neg hc]
    rw [e]
    have h0 : Dig (C.set (f n) 0) := h.set _ _ (by omega) (by omega)
    have hv' : val f (C.set (f n) 0) n + 1 = 3 ^ n := by rw [val_set f C (f n) _ n hne]; omega
    obtain ⟨h1, h2⟩ := ih (C.set (f n) 0) h0 (fun i j hi hj => hf i j (by omega) (by omega)) (fun i hi => by simpa using hl i (by omega)) hv'
    refine ⟨h1, fun i hi => ?_⟩
    by_cases hin : i = n
    · subst hin
      rw [inc_other f i _ (f i) hne, getD_set, if_pos ⟨rfl, hl i (by omega)⟩]
    · exact h2 i (by omega)

/-- All digits nought: the number is nought. -/
theorem val_zero (f : Nat → Nat) (C : List Int) (n : Nat) (h : ∀ i, i < n → C.getD (f i) 0 = 0) : val f C n = 0 := by
  induction n with
  | zero => rfl
  | succ n ih =>
    simp only [val]
    rw [ih (fun i hi => h i (by omega)), h n (by omega)]
    omega

/-- Two lists of one length that agree everywhere. -/
theorem list_ext (C D : List Int) (hl : C.length = D.length) (h : ∀ j, C.getD j 0 = D.getD j 0) : C = D := by
  apply List.ext_getElem hl
  intro i h1 h2
  have := h i
  rwa [List.getD_eq_getElem?_getD, List.getD_eq_getElem?_getD, List.getElem?_eq_getElem h1, List.getElem?_eq_getElem h2] at this
end Go.Proofs.Ybulkcfgo
