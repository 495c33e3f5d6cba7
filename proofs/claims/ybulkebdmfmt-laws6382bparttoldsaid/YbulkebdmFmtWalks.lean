/-
  THE WALKS of seat b6382aF: fmt's facts at this dump (function 7, format "Operator(%d)", operand type 3), and what LawS6382BPart does: for an operator outside 0..5 over fmt's stop, for each of the six by the table's cells.
-/
import Derived.Test.YbulkebdmFmtRows
import Derived.Stop.CallBack
import Derived.Stop.IfaceNil
import Derived.WalkKit
import Derived.WalkSpells
import Derived.Below
namespace Go.Proofs.YbulkebdmFmt
open Go.RowKit Go.Extern.Stop Go.Stop Go.Extern

theorem call7 (args : Array Value) (w : World) : (callFunc 7 args).run Ybaf.prog w = ((FmtStop.sprintf #[9, 45] #[9] args).run Ybaf.prog w).andThen fun v w' => .ok (.value v) w' :=
  run_callFunc_extern Ybaf.func7 (by kernel_rfl) (by kernel_rfl) (by kernel_rfl) (by kernel_rfl) args w
theorem guardOk (name : String) (w : World) : (FmtStop.guard name).run Ybaf.prog w = .ok () w := by kernel_rfl
theorem fmt0 : FmtStop.printed? ⟨#[79, 112, 101, 114, 97, 116, 111, 114, 40, 37, 100, 41]⟩ 1 = some [(0, 100, false)] := by kernel_rfl
theorem fmt0r (w : World) : (FmtDoors.printed ⟨#[79, 112, 101, 114, 97, 116, 111, 114, 40, 37, 100, 41]⟩ 1).run Ybaf.prog w = .ok [(0, 100, false)] w := by kernel_rfl
def shape3 : List UInt8 := [5, 3, 0, 0, 0, 0, 0, 0, 0, 105, 110, 116]
theorem op3_100 (name : String) (x : Int) (w : World) : (FmtStop.operand name false 100 false (.iface 3 (.int .i64 x))).run Ybaf.prog w = .ok (shape3, Go.Extern.Stop.digits 8 (x % 2 ^ 64).toNat) w := by kernel_rfl
attribute [local go_sem] call7 guardOk fmt0 fmt0r op3_100

set_option maxHeartbeats 400000 in
theorem walk_out (F : Interp) (x : Int) (w : World) (hF : F.answers w.tape) (hx : x < 0 ∨ 6 ≤ x) :
    Calls Ybaf.prog 3 #[.int .i64 x] w fun e w' => e = .returned (.bool true) ∧ Below w.heap.size w w' := by
  have hF' := answers_open hF
  have e0 : (x == 0) = false := beq_eq_false_iff_ne.2 (by omega)
  have e1 : (x == 1) = false := beq_eq_false_iff_ne.2 (by omega)
  have e2 : (x == 2) = false := beq_eq_false_iff_ne.2 (by omega)
  have e3 : (x == 3) = false := beq_eq_false_iff_ne.2 (by omega)
  have e4 : (x == 4) = false := beq_eq_false_iff_ne.2 (by omega)
  have e5 : (x == 5) = false := beq_eq_false_iff_ne.2 (by omega)
  rcases hx with h | h
  · have hn : ¬ (0 ≤ x) := by omega
    have hd : decide (0 ≤ x) = false := by simpa using hn
    go_enter Ybaf.func3, Ybaf.ntmps3
    go_wp2
    go_ret
    exact ⟨rfl, ((Below.refl _ _).alloc (Nat.le_refl _) _).drew⟩
  · have h0 : 0 ≤ x := by omega
    have hn : ¬ (x < 6) := by omega
    go_enter Ybaf.func3, Ybaf.ntmps3
    go_wp2
    go_ret
    exact ⟨rfl, ((Below.refl _ _).alloc (Nat.le_refl _) _).drew⟩

set_option maxHeartbeats 400000 in
theorem walk0 (w : World) (c0 : w.cell? ⟨0, 0, none⟩ = some (.string ⟨#[61]⟩)) :
    Calls Ybaf.prog 3 #[.int .i64 0] w fun e w' => e = .returned (.bool true) ∧ Below w.heap.size w w' := by
  go_enter Ybaf.func3, Ybaf.ntmps3
  go_wp2
  go_ret
  exact ⟨rfl, Below.refl _ _⟩

set_option maxHeartbeats 400000 in
theorem walk1 (w : World) (c1 : w.cell? ⟨0, 1, none⟩ = some (.string ⟨#[60, 62]⟩)) :
    Calls Ybaf.prog 3 #[.int .i64 1] w fun e w' => e = .returned (.bool true) ∧ Below w.heap.size w w' := by
  go_enter Ybaf.func3, Ybaf.ntmps3
  go_wp2
  go_ret
  exact ⟨rfl, Below.refl _ _⟩

set_option maxHeartbeats 400000 in
theorem walk2 (w : World) (c2 : w.cell? ⟨0, 2, none⟩ = some (.string ⟨#[60]⟩)) :
    Calls Ybaf.prog 3 #[.int .i64 2] w fun e w' => e = .returned (.bool true) ∧ Below w.heap.size w w' := by
  go_enter Ybaf.func3, Ybaf.ntmps3
  go_wp2
  go_ret
  exact ⟨rfl, Below.refl _ _⟩

set_option maxHeartbeats 400000 in
theorem walk3 (w : World) (c3 : w.cell? ⟨0, 3, none⟩ = some (.string ⟨#[60, 61]⟩)) :
    Calls Ybaf.prog 3 #[.int .i64 3] w fun e w' => e = .returned (.bool true) ∧ Below w.heap.size w w' := by
  go_enter Ybaf.func3, Ybaf.ntmps3
  go_wp2
  go_ret
  exact ⟨rfl, Below.refl _ _⟩

set_option maxHeartbeats 400000 in
theorem walk4 (w : World) (c4 : w.cell? ⟨0, 4, none⟩ = some (.string ⟨#[62]⟩)) :
    Calls Ybaf.prog 3 #[.int .i64 4] w fun e w' => e = .returned (.bool true) ∧ Below w.heap.size w w' := by
  go_enter Ybaf.func3, Ybaf.ntmps3
  go_wp2
  go_ret
  exact ⟨rfl, Below.refl _ _⟩

set_option maxHeartbeats 400000 in
theorem walk5 (w : World) (c5 : w.cell? ⟨0, 5, none⟩ = some (.string ⟨#[62, 61]⟩)) :
    Calls Ybaf.prog 3 #[.int .i64 5] w fun e w' => e = .returned (.bool true) ∧ Below w.heap.size w w' := by
  go_enter Ybaf.func3, Ybaf.ntmps3
  go_wp2
  go_ret
  exact ⟨rfl, Below.refl _ _⟩

end Go.Proofs.YbulkebdmFmt
