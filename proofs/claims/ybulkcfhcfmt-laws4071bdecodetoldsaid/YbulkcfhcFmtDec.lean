/-
  THE WALKS of sizeIs and (*Have).decode (seat b4071aF).
-/
import Derived.Test.YbulkcfhcFmtBin
import Derived.Stop.CallBack
import Derived.Stop.IfaceNil
import GoSem.ClaimData
/-! ### THE CLOSED FACTS for the walk over fmt's stopped front at this dump (after the guide's CheckFmt.lean). -/
namespace Go.Proofs
open Go.Extern.Stop Go.Stop Go.Extern
@[go_sem] theorem Ybaf.call12 (args : Array Value) (w : World) : (callFunc 12 args).run Ybaf.prog w = ((FmtStop.errorf #[9, 46] #[32] args).run Ybaf.prog w).andThen fun v w' => .ok (.value v) w' :=
  run_callFunc_extern Ybaf.func12 (by kernel_rfl) (by kernel_rfl) (by kernel_rfl) (by kernel_rfl) args w
@[go_sem] theorem Ybaf.guard (name : String) (w : World) : (FmtStop.guard name).run Ybaf.prog w = .ok () w := by kernel_rfl
-- the format of sizeIs, three operands
@[go_sem] theorem Ybaf.fmt0 : FmtStop.printed? ⟨#[37, 115, 32, 112, 97, 121, 108, 111, 97, 100, 32, 111, 102, 32, 37, 100, 32, 98, 121, 116, 101, 115, 44, 32, 110, 111, 116, 32, 37, 100]⟩ 3 = some [(0, 115, false), (1, 100, false), (2, 100, false)] := by kernel_rfl
@[go_sem] theorem Ybaf.fmt0r (w : World) : (FmtDoors.printed ⟨#[37, 115, 32, 112, 97, 121, 108, 111, 97, 100, 32, 111, 102, 32, 37, 100, 32, 98, 121, 116, 101, 115, 44, 32, 110, 111, 116, 32, 37, 100]⟩ 3).run Ybaf.prog w = .ok [(0, 115, false), (1, 100, false), (2, 100, false)] w := by kernel_rfl
def Ybaf.shape9 : List UInt8 := [12, 6, 0, 0, 0, 0, 0, 0, 0, 115, 116, 114, 105, 110, 103]
@[go_sem] theorem Ybaf.op9_115w (name : String) (x : ByteArray) (w : World) : (FmtStop.operand name true 115 false (.iface 9 (.string x))).run Ybaf.prog w = .ok (Ybaf.shape9, FmtStop.pack x.data.toList) w := by kernel_rfl
def Ybaf.shape3 : List UInt8 := [5, 3, 0, 0, 0, 0, 0, 0, 0, 105, 110, 116]
@[go_sem] theorem Ybaf.op3_100w (name : String) (x : Int) (w : World) : (FmtStop.operand name true 100 false (.iface 3 (.int .i64 x))).run Ybaf.prog w = .ok (Ybaf.shape3, Go.Extern.Stop.digits 8 (x % 2 ^ 64).toNat) w := by kernel_rfl
@[go_sem] theorem Ybaf.ptr49 (w : World) : (FmtStop.ptrTo "errors.errorString").run Ybaf.prog w = .ok 49 w := by kernel_rfl
@[go_sem] theorem Ybaf.elem49 (w : World) : (elemOf 49).run Ybaf.prog w = .ok 51 w := by kernel_rfl
end Go.Proofs
namespace Go.Proofs.YbulkcfhcFmt
open Go.RowKit Go.Extern.Stop Go.Stop Go.Extern
set_option linter.unusedVariables false

theorem method_id (a : Addr) (w : World) : (method 170 25 (.pointer (some a)) "ID").run Ybaf.prog w = .ok (29, .pointer (some a)) w := by kernel_rfl

set_option maxHeartbeats 1000000 in
theorem size_bad (F : Interp) (N : Nat) (a : Option Addr) (n c : Nat) (x : Int) (w : World) (hF : F.answers w.tape) (hn : ((n : Int) == 4) = false) (hx0 : 0 ≤ x) (hx1 : x ≤ 1000) (c0 : w.cell? ⟨N, 0, none⟩ = some (.int .i64 x)) (f0 : w.frozen? ⟨N, 0, none⟩ = false) :
    Calls Ybaf.prog 8 #[.iface 25 (.pointer (some ⟨N, 0, none⟩)), .slice a n c, .int .i64 4] w fun e w' => ∃ b, e = .returned (.iface 49 (.pointer (some b))) ∧ Below (w.setCell ⟨N, 0, none⟩ (.int .i64 (x + 1))).heap.size (w.setCell ⟨N, 0, none⟩ (.int .i64 (x + 1))) w' := by
  have hF' := answers_open hF
  have hm := method_id
  have hlt : N < w.heap.size := by
    rcases Nat.lt_or_ge N w.heap.size with h | h
    · exact h
    · simp [World.cell?, Array.getElem?_eq_none h] at c0
  go_enter Ybaf.func8, Ybaf.ntmps8
  go_wp2
  go_ret
  refine ⟨_, rfl, ?_⟩
  repeat (first | exact Below.refl _ _ | apply Below.drew | refine Below.alloc ?_ (by simp) _)

set_option maxHeartbeats 1000000 in
theorem size_good (v : Value) (a : Option Addr) (n c : Nat) (w : World) (hn : ((n : Int) == 4) = true) :
    Calls Ybaf.prog 8 #[v, .slice a n c, .int .i64 4] w fun e w' => e = .returned .nilIface ∧ w' = w := by
  go_enter Ybaf.func8, Ybaf.ntmps8
  go_wp2
  go_ret
  exact ⟨rfl, rfl⟩

set_option maxHeartbeats 1000000 in
/-- decode, a payload of another size than 4. -/
theorem decode_bad (F : Interp) (N M : Nat) (a : Option Addr) (n c : Nat) (x : Int) (w : World) (hF : F.answers w.tape) (hn : ((n : Int) == 4) = false) (hx0 : 0 ≤ x) (hx1 : x ≤ 1000) (c0 : w.cell? ⟨N, 0, none⟩ = some (.int .i64 x)) (f0 : w.frozen? ⟨N, 0, none⟩ = false) :
    Calls Ybaf.prog 6 #[.pointer (some ⟨M, 0, none⟩), .iface 25 (.pointer (some ⟨N, 0, none⟩)), .slice a n c] w fun e w' => ∃ b, e = .returned (.iface 49 (.pointer (some b))) ∧ Below (w.setCell ⟨N, 0, none⟩ (.int .i64 (x + 1))).heap.size (w.setCell ⟨N, 0, none⟩ (.int .i64 (x + 1))) w' := by
  go_enter Ybaf.func6, Ybaf.ntmps6
  go_wp2_with (go_at_call 8; refine (size_bad F N a n c x _ hF hn hx0 hx1 c0 f0).mono ?_; rintro e w1 ⟨b, rfl, hb⟩)
  go_ret
  exact ⟨b, rfl, hb⟩

set_option maxHeartbeats 1000000 in
/-- decode, a payload of four bytes. -/
theorem decode_good (M : Nat) (v : Value) (g o n c : Nat) (x0 x1 x2 x3 i : Int) (w : World) (hn : n = 4) (h0 : 0 ≤ x0 ∧ x0 ≤ 255) (h1 : 0 ≤ x1 ∧ x1 ≤ 255) (h2 : 0 ≤ x2 ∧ x2 ≤ 255) (h3 : 0 ≤ x3 ∧ x3 ≤ 255)
    (c0 : w.cell? ⟨g, o, none⟩ = some (.int .u8 x0)) (c1 : w.cell? ⟨g, o + 1, none⟩ = some (.int .u8 x1)) (c2 : w.cell? ⟨g, o + 2, none⟩ = some (.int .u8 x2)) (c3 : w.cell? ⟨g, o + 3, none⟩ = some (.int .u8 x3))
    (m0 : w.cell? ⟨M, 0, none⟩ = some (.int .u32 i)) (f0 : w.frozen? ⟨M, 0, none⟩ = false) :
    Calls Ybaf.prog 6 #[.pointer (some ⟨M, 0, none⟩), v, .slice (some ⟨g, o, none⟩) n c] w fun e w' => e = .returned .nilIface ∧ ∃ w1, Below w.heap.size w w1 ∧ w' = w1.setCell ⟨M, 0, none⟩ (.int .u32 (be x0 x1 x2 x3)) := by
  have hlt : M < w.heap.size := by
    rcases Nat.lt_or_ge M w.heap.size with h | h
    · exact h
    · simp [World.cell?, Array.getElem?_eq_none h] at m0
  have hn4 : ((n : Int) == 4) = true := by rw [hn]; rfl
  have H4 : Hid (4 ≤ n) := by rw [hn]; exact Nat.le_refl _
  clear hn
  have HU := fun W (hW : W = w) => uint32_any g o n c x0 x1 x2 x3 w H4.out h0 h1 h2 h3 c0 c1 c2 c3
  clear h0 h1 h2 h3 c0 c1 c2 c3
  go_enter Ybaf.func6, Ybaf.ntmps6
  go_wp2_with (first | (go_at_call 8; refine (size_good v _ n c _ hn4).mono ?_; rintro e w1 ⟨rfl, rfl⟩) | (go_at_call 9; refine (HU _ rfl).mono ?_; rintro e w2 ⟨rfl, hb⟩; have m1 := (hb.cell (p := ⟨M, 0, none⟩) hlt).trans m0; have f1 := (hb.frozen (p := ⟨M, 0, none⟩) hlt).trans f0))
  go_ret
  exact ⟨rfl, _, hb, rfl⟩
end Go.Proofs.YbulkcfhcFmt
