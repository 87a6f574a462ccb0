/-
  THE PLAIN LAW of the two statements over 'scanChoice' (seat b4067aF): lists of bytes alone, no Go in sight.
-/
namespace Go.Proofs.YbulkcfeyFmt

/-- A byte that may stand in a plain level, as 'isLevelByte' and 'zzs4067blevel' both test it; over Int, as the walk holds a byte. -/
def lvlI (n : Int) : Bool := decide (33 ≤ n ∧ n ≤ 126 ∧ n ≠ 34 ∧ n ≠ 92 ∧ n ≠ 58 ∧ n ≠ 46 ∧ n ≠ 42 ∧ n ≠ 123 ∧ n ≠ 125 ∧ n ≠ 44)

/-- The same of a byte. -/
def lvl (c : UInt8) : Bool := lvlI (c.toNat : Int)

/-- How many level bytes open the list. -/
def run : List UInt8 → Nat
  | [] => 0
  | c :: r => if lvl c then run r + 1 else 0

theorem run_le (l : List UInt8) : run l ≤ l.length := by
  induction l with
  | nil => simp [run]
  | cons c r ih => simp only [run]; split <;> simp <;> omega

/-- The scan: 'l' is what is left from index j on, n bytes of the alternative are read: (index, kind). -/
def sc (i : Nat) : List UInt8 → Nat → Nat → Nat × Nat
  | [], _, _ => (i, 1)
  | c :: r, j, n =>
    if lvl c then sc i r (j + 1) (n + 1)
    else if c = 44 ∨ c = 125 then
      if n = 0 then (j, 2)
      else if c = 125 then (j + 1, 0)
      else sc i r (j + 1) 0
    else if c = 58 ∨ c = 46 then (j, 3)
    else if c = 42 ∨ c = 123 then (j, 4)
    else (j, 5)

theorem sc_run (i : Nat) (l : List UInt8) (j n : Nat) : sc i l j n = sc i (l.drop (run l)) (j + run l) (n + run l) := by
  induction l generalizing j n with
  | nil => simp [run]
  | cons c r ih =>
    by_cases h : lvl c
    · simp only [run, sc, h, if_true]
      rw [ih (j + 1) (n + 1)]
      simp only [List.drop_succ_cons]
      congr 1 <;> omega
    · simp [run, h]

/-- Every index that the scan gives is an index, or just past the text. -/
theorem sc_le (i : Nat) (l : List UInt8) (j n : Nat) (m : Nat) (hi : i ≤ m) (hj : j + l.length ≤ m) : (sc i l j n).1 ≤ m := by
  induction l generalizing j n with
  | nil => simpa [sc] using hi
  | cons c r ih =>
    simp only [List.length_cons] at hj
    simp only [sc]
    repeat' split
    all_goals first | (apply ih; omega) | (simp; omega)

theorem sc_kind (i : Nat) (l : List UInt8) (j n : Nat) : (sc i l j n).2 ≤ 5 := by
  induction l generalizing j n with
  | nil => simp [sc]
  | cons c r ih =>
    simp only [sc]
    repeat' split
    all_goals first | apply ih | simp

/-- A run of level bytes is read on. -/
theorem sc_level (i : Nat) (a r : List UInt8) (j n : Nat) (h : ∀ c ∈ a, lvl c = true) : sc i (a ++ r) j n = sc i r (j + a.length) (n + a.length) := by
  induction a generalizing j n with
  | nil => simp
  | cons c a ih =>
    have hc := h c (by simp)
    simp only [List.cons_append, sc, hc, if_true]
    rw [ih (j + 1) (n + 1) (fun c hc => h c (by simp [hc]))]
    simp only [List.length_cons]
    congr 1 <;> omega

theorem lvl_comma : lvl 44 = false := by decide
theorem lvl_close : lvl 125 = false := by decide

/-- The alternatives, a comma between them. -/
def joined : List (List UInt8) → List UInt8
  | [] => []
  | [a] => a
  | a :: b :: r => a ++ 44 :: joined (b :: r)

/-- A choice of non-empty level alternatives is read whole. -/
theorem sc_choice (i : Nat) (as : List (List UInt8)) (t : List UInt8) (j : Nat) (hne : as ≠ []) (h : ∀ a ∈ as, a ≠ [] ∧ ∀ c ∈ a, lvl c = true) :
    sc i (joined as ++ 125 :: t) j 0 = (j + (joined as).length + 1, 0) := by
  induction as generalizing j with
  | nil => exact absurd rfl hne
  | cons a r ih =>
    obtain ⟨ha, hl⟩ := h a (by simp)
    have hlen : 0 < a.length := List.length_pos_iff.2 ha
    cases r with
    | nil =>
      simp only [joined]
      rw [sc_level _ _ _ _ _ hl]
      have : ¬ a.length = 0 := by omega
      simp [sc, lvl_close, this]
    | cons b r =>
      simp only [joined, List.append_assoc, List.cons_append]
      rw [sc_level _ _ _ _ _ hl]
      have : ¬ a.length = 0 := by omega
      simp only [sc, lvl_comma, Nat.zero_add, this, if_false]
      have := ih (j + a.length + 1) (by simp) (fun x hx => h x (by simp [hx]))
      simp
      rw [this]
      simp
      omega

theorem sc_empty (i : Nat) (t : List UInt8) (j : Nat) : sc i (125 :: t) j 0 = (j, 2) := by
  simp [sc, lvl_close]
end Go.Proofs.YbulkcfeyFmt
