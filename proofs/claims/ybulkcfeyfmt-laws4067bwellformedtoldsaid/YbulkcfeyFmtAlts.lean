/-
  THE PLAIN LAW of LawS4067BWellFormed (seat b4067aF): what the law builds, and that the scan reads it whole. No Go in sight.
-/
import Derived.Test.YbulkcfeyFmtPlain
namespace Go.Proofs.YbulkcfeyFmt

def tabL : List UInt8 := [97, 98, 99, 88, 89, 90, 48, 57, 45, 95, 126, 33, 35, 36, 37, 38, 39, 40, 41, 43, 47, 59, 60, 61, 62, 63, 64, 91, 93, 94, 96, 124]
def tab (c : UInt8) : UInt8 := tabL.getD (c.toNat % 32) 97
def pre (s : ByteArray) : List UInt8 := if s.size = 0 then [97] else []
def sep (k : Nat) : List UInt8 := if k = 0 then [] else [44]
def alt (s : ByteArray) : List UInt8 := pre s ++ s.data.toList.map tab
def acc (S : Nat → ByteArray) : Nat → List UInt8
  | 0 => []
  | k + 1 => acc S k ++ (sep k ++ alt (S k))
def mid (p : ByteArray) (S : Nat → ByteArray) (m : Nat) : List UInt8 := p.data.toList ++ [123] ++ acc S m ++ (sep m ++ pre (S m))

theorem tabB (d : Nat) (hd : d < 32) : (({ data := #[97, 98, 99, 88, 89, 90, 48, 57, 45, 95, 126, 33, 35, 36, 37, 38, 39, 40, 41, 43, 47, 59, 60, 61, 62, 63, 64, 91, 93, 94, 96, 124] } : ByteArray)[d]'(by exact hd)).toNat = (tabL.getD d 97).toNat := by
  have : ∀ d : Fin 32, (({ data := #[97, 98, 99, 88, 89, 90, 48, 57, 45, 95, 126, 33, 35, 36, 37, 38, 39, 40, 41, 43, 47, 59, 60, 61, 62, 63, 64, 91, 93, 94, 96, 124] } : ByteArray)[d.1]'(by exact d.2)).toNat = (tabL.getD d.1 97).toNat := by decide
  exact this ⟨d, hd⟩

theorem tab_lvl (c : UInt8) : lvl (tab c) = true := by
  have : ∀ d : Fin 32, lvl (tabL.getD d.1 97) = true := by decide
  exact this ⟨c.toNat % 32, by omega⟩

theorem alt_le (s : ByteArray) : (alt s).length ≤ s.size + 1 := by
  unfold alt pre; split <;> simp
theorem acc_le (S : Nat → ByteArray) (n k : Nat) (hk : k ≤ n) (h : ∀ j, j < n → (S j).size ≤ 256) : (acc S k).length ≤ k * 258 := by
  induction k with
  | zero => simp [acc]
  | succ k ih =>
    have h1 := ih (by omega)
    have h2 := alt_le (S k)
    have h3 := h k (by omega)
    have h4 : (sep k).length ≤ 1 := by unfold sep; split <;> simp
    simp only [acc, List.length_append]
    omega
theorem mid_len (p : ByteArray) (S : Nat → ByteArray) (m q k : Nat) (hp : p.size ≤ 65536) (hk : k ≤ 1024) (hm : m < k) (h : ∀ j, j < k → (S j).size ≤ 256) (hla : (acc S m).length ≤ m * 258) (hq : q ≤ (S m).size) :
    (mid p S m ++ ((S m).data.toList.take q).map tab).length ≤ 1000000 := by
  have h1 : (sep m).length ≤ 1 := by unfold sep; split <;> simp
  have h2 : (pre (S m)).length ≤ 1 := by unfold pre; split <;> simp
  have h3 := h m hm
  simp [mid]
  omega
theorem mid_end (p : ByteArray) (S : Nat → ByteArray) (m q : Nat) (hq : (S m).size ≤ q) : mid p S m ++ ((S m).data.toList.take q).map tab = p.data.toList ++ [123] ++ acc S (m + 1) := by
  rw [List.take_of_length_le (by simpa using hq)]
  simp [mid, acc, alt]
theorem mid_step (p : ByteArray) (S : Nat → ByteArray) (m q : Nat) (hq : q < (S m).size) : mid p S m ++ ((S m).data.toList.take q).map tab ++ [tab (S m)[q]] = mid p S m ++ ((S m).data.toList.take (q + 1)).map tab := by
  rw [List.take_succ_eq_append_getElem (by simpa using hq), List.map_append, List.append_assoc]
  rfl

theorem alt_ok (s : ByteArray) : alt s ≠ [] ∧ ∀ c ∈ alt s, lvl c = true := by
  constructor
  · intro h
    have hl := congrArg List.length h
    unfold alt pre at hl
    split at hl <;> simp at hl
    subst hl
    contradiction
  · intro c hc
    simp only [alt, List.mem_append, List.mem_map] at hc
    rcases hc with hc | ⟨x, _, rfl⟩
    · unfold pre at hc
      split at hc
      · simp at hc; subst hc; decide
      · simp at hc
    · exact tab_lvl x

theorem joined_snoc (as : List (List UInt8)) (a : List UInt8) (h : as ≠ []) : joined (as ++ [a]) = joined as ++ 44 :: a := by
  induction as with
  | nil => exact absurd rfl h
  | cons b r ih =>
    cases r with
    | nil => rfl
    | cons c r =>
      have := ih (by simp)
      simp only [List.cons_append] at this ⊢
      simp only [joined, this, List.append_assoc, List.cons_append]

theorem acc_joined (S : Nat → ByteArray) (k : Nat) : acc S k = joined ((List.range k).map fun j => alt (S j)) := by
  induction k with
  | zero => rfl
  | succ k ih =>
    rw [List.range_succ, List.map_append]
    cases k with
    | zero => simp [acc, sep, joined]
    | succ k =>
      simp only [List.map_cons, List.map_nil]
      rw [joined_snoc _ _ (by simp), ← ih]
      rw [acc]
      simp [sep]

/-- What the law builds. -/
def built (p t : ByteArray) (S : Nat → ByteArray) (k : Nat) : List UInt8 := p.data.toList ++ [123] ++ acc S k ++ [125] ++ t.data.toList

theorem built_len1 (p : ByteArray) (S : Nat → ByteArray) (k : Nat) : (p.data.toList ++ [123] ++ acc S k ++ [125]).length = p.size + 1 + (acc S k).length + 1 := by
  have h : p.data.toList.length = p.size := Array.length_toList
  rw [List.length_append, List.length_append, List.length_append, List.length_singleton, List.length_singleton, h]
theorem built_len (p t : ByteArray) (S : Nat → ByteArray) (k : Nat) : (p.data.toList ++ [123] ++ acc S k ++ [125] ++ t.data.toList).length = (⟨(built p t S k).toArray⟩ : ByteArray).size := by
  show _ = (built p t S k).toArray.size
  rw [List.size_toArray]
  rfl
theorem built_size (p t : ByteArray) (S : Nat → ByteArray) (k : Nat) : (⟨(built p t S k).toArray⟩ : ByteArray).size = p.size + 1 + (acc S k).length + 1 + t.size := by
  have this : t.data.toList.length = t.size := Array.length_toList
  rw [← built_len, List.length_append, built_len1, this]
theorem built_drop (p t : ByteArray) (S : Nat → ByteArray) (k : Nat) : (built p t S k).drop (p.size + 1) = acc S k ++ 125 :: t.data.toList := by
  have e : built p t S k = (p.data.toList ++ [123]) ++ (acc S k ++ 125 :: t.data.toList) := by simp [built]
  have h : p.size + 1 = (p.data.toList ++ [123]).length := by simp
  rw [e, h, List.drop_left]

theorem built_sc (p t : ByteArray) (S : Nat → ByteArray) (k : Nat) (hk : 0 < k) : sc p.size ((built p t S k).drop (p.size + 1)) (p.size + 1) 0 = (p.size + 1 + (acc S k).length + 1, 0) := by
  rw [built_drop, acc_joined]
  refine sc_choice _ _ _ _ ?_ ?_
  · intro h
    have := congrArg List.length h
    simp at this
    omega
  · intro a ha
    obtain ⟨j, _, rfl⟩ := List.mem_map.1 ha
    exact alt_ok (S j)

theorem built_sc0 (p t : ByteArray) (S : Nat → ByteArray) : sc p.size ((built p t S 0).drop (p.size + 1)) (p.size + 1) 0 = (p.size + 1, 2) := by
  rw [built_drop]
  exact sc_empty _ _ _
end Go.Proofs.YbulkcfeyFmt
