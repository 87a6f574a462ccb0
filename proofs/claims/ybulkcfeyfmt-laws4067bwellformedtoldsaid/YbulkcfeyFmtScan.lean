/-
  THE WALKS of isLevelByte, plainEnd, misplaced, scanChoice (seat b4067aF).
-/
import Derived.Test.YbulkcfeyFmtRows
import Derived.Test.YbulkcfeyFmtPlain
import Derived.WalkKit
import Derived.WalkSpells
import Derived.WalkLawsBesides
import Derived.Stop.CallBack
import Derived.Stop.IfaceNil
import GoSem.ClaimData
/-! ### THE CLOSED FACTS for the walk over fmt's stopped front at this dump (after the guide's LabelFmt.lean): the call, the two literal formats, the two operands. -/
namespace Go.Proofs
open Go.Extern.Stop Go.Stop Go.Extern
@[go_sem] theorem Ybaf.call15 (args : Array Value) (w : World) : (callFunc 15 args).run Ybaf.prog w = ((FmtStop.sprintf #[9, 81] #[9] args).run Ybaf.prog w).andThen fun v w' => .ok (.value v) w' :=
  run_callFunc_extern Ybaf.func15 (by kernel_rfl) (by kernel_rfl) (by kernel_rfl) (by kernel_rfl) args w
@[go_sem] theorem Ybaf.guard (name : String) (w : World) : (FmtStop.guard name).run Ybaf.prog w = .ok () w := by kernel_rfl
-- "non-ASCII byte %#x is not allowed", 1 operand
@[go_sem] theorem Ybaf.fmt0 : FmtStop.printed? ⟨#[110, 111, 110, 45, 65, 83, 67, 73, 73, 32, 98, 121, 116, 101, 32, 37, 35, 120, 32, 105, 115, 32, 110, 111, 116, 32, 97, 108, 108, 111, 119, 101, 100]⟩ 1 = some [(0, 120, true)] := by kernel_rfl
@[go_sem] theorem Ybaf.fmt0r (w : World) : (FmtDoors.printed ⟨#[110, 111, 110, 45, 65, 83, 67, 73, 73, 32, 98, 121, 116, 101, 32, 37, 35, 120, 32, 105, 115, 32, 110, 111, 116, 32, 97, 108, 108, 111, 119, 101, 100]⟩ 1).run Ybaf.prog w = .ok [(0, 120, true)] w := by kernel_rfl
-- "%q is not allowed", 1 operand
@[go_sem] theorem Ybaf.fmt1 : FmtStop.printed? ⟨#[37, 113, 32, 105, 115, 32, 110, 111, 116, 32, 97, 108, 108, 111, 119, 101, 100]⟩ 1 = some [(0, 113, false)] := by kernel_rfl
@[go_sem] theorem Ybaf.fmt1r (w : World) : (FmtDoors.printed ⟨#[37, 113, 32, 105, 115, 32, 110, 111, 116, 32, 97, 108, 108, 111, 119, 101, 100]⟩ 1).run Ybaf.prog w = .ok [(0, 113, false)] w := by kernel_rfl
def Ybaf.shape5 : List UInt8 := [6, 5, 0, 0, 0, 0, 0, 0, 0, 117, 105, 110, 116, 56]
@[go_sem] theorem Ybaf.op5_120 (name : String) (x : Int) (w : World) : (FmtStop.operand name false 120 true (.iface 5 (.int .u8 x))).run Ybaf.prog w = .ok (Ybaf.shape5, Go.Extern.Stop.digits 8 (x % 2 ^ 64).toNat) w := by kernel_rfl
def Ybaf.shape21 : List UInt8 := [4, 5, 0, 0, 0, 0, 0, 0, 0, 105, 110, 116, 51, 50]
@[go_sem] theorem Ybaf.op21_113 (name : String) (x : Int) (w : World) : (FmtStop.operand name false 113 false (.iface 21 (.int .i32 x))).run Ybaf.prog w = .ok (Ybaf.shape21, Go.Extern.Stop.digits 8 (x % 2 ^ 64).toNat) w := by kernel_rfl
end Go.Proofs
namespace Go.Proofs.YbulkcfeyFmt
open Go.RowKit Go.Extern.Stop Go.Stop Go.Extern
set_option linter.unusedSimpArgs false

theorem ret_bool {a b : Bool} (h : a = b) : Ending.returned (.bool a) = .returned (.bool b) := by rw [h]
theorem ret_int {k : IntKind} {a b : Int} (h : a = b) : Ending.returned (.int k a) = .returned (.int k b) := by rw [h]

set_option maxHeartbeats 400000 in
theorem level_any (n : Int) (w : World) :
    Calls Ybaf.prog 21 #[.int .u8 n] w fun e w' => e = .returned (.bool (lvlI n)) ∧ w' = w := by
  go_enter Ybaf.func21, Ybaf.ntmps21
  go_wp2
  all_goals
    go_ret
    refine ⟨ret_bool ?_, rfl⟩
    try simp only [beq_iff_eq, beq_eq_false_iff_ne, ne_eq] at *
    unfold lvlI
    first | exact (decide_eq_true (by omega)).symm | exact (decide_eq_false (by omega)).symm

theorem run_at (s : ByteArray) (k : Nat) (h : k < s.size) : run (s.data.toList.drop k) = if lvlI (s[k].toNat : Int) then run (s.data.toList.drop (k + 1)) + 1 else 0 := by
  have e : s.data.toList.drop k = s[k] :: s.data.toList.drop (k + 1) := by
    rw [List.drop_eq_getElem_cons (by simpa using h)]; rfl
  rw [e]; rfl
theorem run_end (s : ByteArray) (k : Nat) (h : s.size ≤ k) : run (s.data.toList.drop k) = 0 := by
  rw [List.drop_eq_nil_of_le (by simpa using h)]; rfl

set_option maxHeartbeats 400000 in
theorem plainEnd_any (s : ByteArray) (i : Nat) (hi : i ≤ s.size) (w : World) (hs : s.size ≤ maxLen) :
    Calls Ybaf.prog 12 #[.string s, .int .i64 i] w fun e w' => e = .returned (.int .i64 ((i + run (s.data.toList.drop i) : Nat) : Int)) ∧ w' = w := by
  unfold maxLen at hs
  obtain ⟨r, hr⟩ : ∃ r, r = i + run (s.data.toList.drop i) := ⟨_, rfl⟩
  rw [← hr]
  have H0 : Hid (i + run (s.data.toList.drop i) = r) := hr.symm
  clear hr
  go_enter Ybaf.func12, Ybaf.ntmps12
  go_wp2
  go_loop [1] (fun t => ∃ k : Nat, k ≤ s.size ∧ t = .int .i64 k ∧ Hid (k + run (s.data.toList.drop k) = r)) (fun t => s.size - (intOf t).toNat)
  case atStart => exact ⟨i, hi, rfl, H0⟩
  case round =>
    obtain ⟨k, hk, rfl, HK⟩ := hrel
    by_cases hlt : k < s.size
    · have HA : Hid (run (s.data.toList.drop k) = if lvlI (s[k].toNat : Int) then run (s.data.toList.drop (k + 1)) + 1 else 0) := run_at s k hlt
      go_wp2_with (go_at_call 21; refine (level_any _ _).mono ?_; rintro e w' ⟨rfl, rfl⟩)
      · go_round
        case rel =>
          refine ⟨k + 1, by omega, by go_num, ?_⟩
          have h1 := HA.out
          have h2 := HK.out
          rw [if_pos ‹_›] at h1
          exact (show k + 1 + run (s.data.toList.drop (k + 1)) = r by omega)
        case measure => simp [intOf]; omega
      · go_ret
        have h1 := HA.out
        have h2 := HK.out
        rw [if_neg (by simp_all)] at h1
        exact ⟨ret_int (by omega), rfl⟩
    · have HE : Hid (run (s.data.toList.drop k) = 0) := run_end s k (by omega)
      go_wp2
      go_ret
      have h1 := HE.out
      have h2 := HK.out
      exact ⟨ret_int (by omega), rfl⟩

theorem plainEnd_at (s : ByteArray) (k e : Nat) (hk : k ≤ s.size) (he : Hid (e = k + run (s.data.toList.drop k))) (w : World) (hs : s.size ≤ maxLen) :
    Calls Ybaf.prog 12 #[.string s, .int .i64 k] w fun x w' => x = .returned (.int .i64 (e : Int)) ∧ w' = w := by
  rw [he.out]; exact plainEnd_any s k hk w hs

set_option maxHeartbeats 400000 in
/-- misplaced: some text or other (fmt's own is not looked into). -/
theorem misplaced_any (F : Interp) (n : Int) (h0 : 0 ≤ n) (h1 : n ≤ 255) (w : World) (hF : F.answers w.tape) :
    Calls Ybaf.prog 13 #[.int .u8 n] w fun e w' => (∃ t, e = .returned (.string t)) ∧ Below w.heap.size w w' := by
  have hF' := answers_open hF
  go_enter Ybaf.func13, Ybaf.ntmps13
  go_wp2
  all_goals
    go_ret
    refine ⟨⟨_, rfl⟩, ?_⟩
    first | exact Below.refl _ _ | exact ((Below.refl _ _).alloc (Nat.le_refl _) _).drew

/-- What 'why' must be for each kind; of kind 5 (fmt's text) nothing is said. -/
def whyIs (kind : Nat) (t : ByteArray) : Prop :=
  (kind = 0 → t = ⟨#[]⟩) ∧
  (kind = 1 → t = ⟨#[99, 104, 111, 105, 99, 101, 32, 105, 115, 32, 110, 111, 116, 32, 99, 108, 111, 115, 101, 100]⟩) ∧
  (kind = 2 → t = ⟨#[101, 109, 112, 116, 121, 32, 97, 108, 116, 101, 114, 110, 97, 116, 105, 118, 101, 32, 105, 110, 32, 97, 32, 99, 104, 111, 105, 99, 101]⟩) ∧
  (kind = 3 → t = ⟨#[97, 110, 32, 97, 108, 116, 101, 114, 110, 97, 116, 105, 118, 101, 32, 105, 110, 32, 97, 32, 99, 104, 111, 105, 99, 101, 32, 109, 117, 115, 116, 32, 98, 101, 32, 97, 32, 115, 105, 110, 103, 108, 101, 32, 108, 101, 118, 101, 108]⟩) ∧
  (kind = 4 → t = ⟨#[97, 110, 32, 97, 108, 116, 101, 114, 110, 97, 116, 105, 118, 101, 32, 105, 110, 32, 97, 32, 99, 104, 111, 105, 99, 101, 32, 109, 117, 115, 116, 32, 98, 101, 32, 97, 32, 112, 108, 97, 105, 110, 32, 108, 101, 118, 101, 108]⟩)

theorem drop_at (s : ByteArray) (k : Nat) (h : k < s.size) : s.data.toList.drop k = s[k] :: s.data.toList.drop (k + 1) := by
  rw [List.drop_eq_getElem_cons (by simpa using h)]; rfl

theorem byte_eq (c d : UInt8) : c = d ↔ (c.toNat : Int) = (d.toNat : Int) := by
  rw [← UInt8.toNat_inj]; omega

theorem run_stops (l : List UInt8) (c : UInt8) (r : List UInt8) (h : l.drop (run l) = c :: r) : lvl c = false := by
  induction l with
  | nil => simp [run] at h
  | cons d l ih =>
    by_cases hd : lvl d = true
    · simp only [run, hd, if_true, List.drop_succ_cons] at h
      exact ih h
    · simp only [run, hd] at h
      simp at h
      rw [← h.1]; simpa using hd

theorem sc_past (s : ByteArray) (i k e : Nat) (he : e = k + run (s.data.toList.drop k)) (h : s.size ≤ e) : sc i (s.data.toList.drop k) k 0 = (i, 1) := by
  rw [sc_run, List.drop_drop, ← he, List.drop_eq_nil_of_le (by simpa using h)]; rfl

theorem sc_at (s : ByteArray) (i k e : Nat) (he : e = k + run (s.data.toList.drop k)) (h : e < s.size) : sc i (s.data.toList.drop k) k 0 =
    if s[e] = 44 ∨ s[e] = 125 then (if e = k then (e, 2) else if s[e] = 125 then (e + 1, 0) else sc i (s.data.toList.drop (e + 1)) (e + 1) 0)
    else if s[e] = 58 ∨ s[e] = 46 then (e, 3) else if s[e] = 42 ∨ s[e] = 123 then (e, 4) else (e, 5) := by
  have hd := drop_at s e h
  have hl : lvl s[e] = false := by
    refine run_stops (s.data.toList.drop k) s[e] (s.data.toList.drop (e + 1)) ?_
    rw [List.drop_drop, ← he, hd]
  rw [sc_run, List.drop_drop, ← he, hd]
  have e0 : (0 + run (s.data.toList.drop k) = 0) = (e = k) := by rw [eq_iff_iff]; omega
  simp only [sc, hl, e0]
  simp

theorem byte_le (c : UInt8) : (c.toNat : Int) ≤ 255 := by have := c.toNat_lt; omega

/-- 'sc_at' over Int, as the walk holds its numbers. -/
theorem sc_atI (s : ByteArray) (i k e : Nat) (R : Nat × Nat) (he : Hid (e = k + run (s.data.toList.drop k))) (HK : Hid (sc i (s.data.toList.drop k) k 0 = R)) (h : e < s.size) : R =
    if (s[e].toNat : Int) = 44 ∨ (s[e].toNat : Int) = 125 then (if (e : Int) = (k : Int) then (e, 2) else if (s[e].toNat : Int) = 125 then (e + 1, 0) else sc i (s.data.toList.drop (e + 1)) (e + 1) 0)
    else if (s[e].toNat : Int) = 58 ∨ (s[e].toNat : Int) = 46 then (e, 3) else if (s[e].toNat : Int) = 42 ∨ (s[e].toNat : Int) = 123 then (e, 4) else (e, 5) := by
  rw [← HK.out, sc_at s i k e he.out h]
  simp only [byte_eq]
  have : ((e : Int) = (k : Int)) = (e = k) := by rw [eq_iff_iff]; omega
  simp only [this]
  rfl

theorem Rpair {R : Nat × Nat} {a b : Nat} (h : R = (a, b)) {w w' : World} {t : ByteArray} (ht : whyIs b t) (hb : Below w.heap.size w w') :
    ∃ u, Ending.returned (.tuple #[.int .i64 (a : Int), .string t]) = .returned (.tuple #[.int .i64 (R.1 : Int), .string u]) ∧ whyIs R.2 u ∧ Below w.heap.size w w' := by
  subst h; exact ⟨t, rfl, ht, hb⟩

set_option maxHeartbeats 1000000 in
theorem scan_any (F : Interp) (s : ByteArray) (i : Nat) (hi : i < s.size) (w : World) (hs : s.size ≤ maxLen) (hF : F.answers w.tape) :
    Calls Ybaf.prog 9 #[.string s, .int .i64 i] w fun e w' => ∃ t, e = .returned (.tuple #[.int .i64 (((sc i (s.data.toList.drop (i + 1)) (i + 1) 0).1 : Nat) : Int), .string t]) ∧
      whyIs (sc i (s.data.toList.drop (i + 1)) (i + 1) 0).2 t ∧ Below w.heap.size w w' := by
  have hs' := hs
  unfold maxLen at hs
  obtain ⟨R, hR⟩ : ∃ R, R = sc i (s.data.toList.drop (i + 1)) (i + 1) 0 := ⟨_, rfl⟩
  rw [← hR]
  have H0 : Hid (sc i (s.data.toList.drop (i + 1)) (i + 1) 0 = R) := hR.symm
  clear hR
  go_enter Ybaf.func9, Ybaf.ntmps9
  go_wp2
  go_loop [6] (fun t => ∃ k : Nat, k ≤ s.size ∧ t = .int .i64 k ∧ Hid (sc i (s.data.toList.drop k) k 0 = R)) (fun t => s.size - (intOf t).toNat)
  case atStart => exact ⟨i + 1, by omega, by go_num, H0⟩
  case round =>
    obtain ⟨k, hk, rfl, HK⟩ := hrel
    obtain ⟨e, he⟩ : ∃ e, e = k + run (s.data.toList.drop k) := ⟨_, rfl⟩
    have hke : k ≤ e := by omega
    have hes : e ≤ s.size := by have := run_le (s.data.toList.drop k); simp at this; omega
    have HE : Hid (e = k + run (s.data.toList.drop k)) := he
    clear he
    by_cases hlt : e < s.size
    · have HA : Hid _ := sc_atI s i k e R HE HK hlt
      go_wp2_with (first | (go_at_call 12; refine (plainEnd_at s k e hk HE _ hs').mono ?_; rintro e1 w1 ⟨rfl, rfl⟩) | (go_at_call 13; refine (misplaced_any F _ (Int.natCast_nonneg _) (byte_le _) _ hF).mono ?_; rintro e2 w2 ⟨⟨t, rfl⟩, hb⟩))
      · go_ret2
        have h := HA.out
        simp only [beq_iff_eq, beq_eq_false_iff_ne, ne_eq] at *
        rw [if_pos (by omega), if_pos (by omega)] at h
        exact Rpair h (by simp [whyIs]) (Below.refl _ _)
      · go_round
        case rel =>
          have h := HA.out
          simp only [beq_iff_eq, beq_eq_false_iff_ne, ne_eq] at *
          rw [if_pos (by omega), if_neg (by omega), if_neg (by omega)] at h
          exact ⟨e + 1, by omega, by go_num, h.symm⟩
        case measure => simp [intOf]; omega
      · go_ret2
        have h := HA.out
        simp only [beq_iff_eq, beq_eq_false_iff_ne, ne_eq] at *
        rw [if_pos (by omega), if_pos (by omega)] at h
        exact Rpair h (by simp [whyIs]) (Below.refl _ _)
      · go_ret2
        have h := HA.out
        simp only [beq_iff_eq, beq_eq_false_iff_ne, ne_eq] at *
        rw [if_pos (by omega), if_neg (by omega), if_pos (by omega)] at h
        exact Rpair h (by simp [whyIs]) (Below.refl _ _)
      iterate 2
        · go_ret2
          have h := HA.out
          simp only [beq_iff_eq, beq_eq_false_iff_ne, ne_eq] at *
          rw [if_neg (by omega), if_pos (by omega)] at h
          exact Rpair h (by simp [whyIs]) (Below.refl _ _)
      iterate 2
        · go_ret2
          have h := HA.out
          simp only [beq_iff_eq, beq_eq_false_iff_ne, ne_eq] at *
          rw [if_neg (by omega), if_neg (by omega), if_pos (by omega)] at h
          exact Rpair h (by simp [whyIs]) (Below.refl _ _)
      · go_ret2
        have h := HA.out
        simp only [beq_iff_eq, beq_eq_false_iff_ne, ne_eq] at *
        rw [if_neg (by omega), if_neg (by omega), if_neg (by omega)] at h
        exact Rpair h (by simp [whyIs]) hb
    · have HA : Hid (R = (i, 1)) := by rw [← HK.out]; exact sc_past s i k e HE.out (by omega)
      go_wp2_with (first | (go_at_call 12; refine (plainEnd_at s k e hk HE _ hs').mono ?_; rintro e1 w1 ⟨rfl, rfl⟩))
      go_ret2
      exact Rpair HA.out (by simp [whyIs]) (Below.refl _ _)
end Go.Proofs.YbulkcfeyFmt
