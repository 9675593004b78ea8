import Derived.Test.YbulkdmuwFmtRows
import Derived.Stop.CallBack
import Derived.Stop.IfaceNil
import GoSem.ClaimData
import Derived.WalkKit
import Derived.WalkSpells
namespace Go.Proofs.YbulkdmuwFmt
open Go.Extern.Stop Go.Stop Go.Extern Go.RowKit

/-! ### Closed facts of this program on fmt's stopped front (after the kit's worked facts texts) -/
theorem call5 (args : Array Value) (w : World) : (callFunc 5 args).run Ybaf.prog w = (FmtCalls.sprintf #[9, 42] #[9] args).run Ybaf.prog w :=
  run_callFunc_next Ybaf.func5 (by kernel_rfl) (by kernel_rfl) (by kernel_rfl) args w
theorem guardIs (name : String) (w : World) : (FmtStop.guard name).run Ybaf.prog w = .ok () w := by kernel_rfl
theorem nextTurns : Extern.next FmtCalls.turnsRow = some (FmtCalls.begun #[] #[]) := by kernel_rfl
theorem fmt0 : FmtStop.printed? ⟨#[98, 117, 105, 108, 116, 32, 102, 114, 111, 109, 32, 101, 110, 116, 114, 121, 32, 37, 100]⟩ 1 = some [(0, 100, false)] := by kernel_rfl
def shape23 : List UInt8 := FmtStop.intCode .u64 :: FmtStop.pack "kindred.planCode".toUTF8.data.toList
theorem act23 (name : String) (x : Value) (w : World) : (FmtCalls.act name false 100 false (.iface 23 x)).run Ybaf.prog w = .ok (.closed false) w := by kernel_rfl
theorem op23 (name : String) (x : Int) (w : World) : (FmtStop.operand name false 100 false (.iface 23 (.int .u64 x))).run Ybaf.prog w = .ok (shape23, Go.Extern.Stop.digits 8 (x % 2 ^ 64).toNat) w := by kernel_rfl
attribute [local go_sem] call5 guardIs fmt0 act23 op23

set_option maxHeartbeats 800000 in
theorem str_else (F : Interp) (x : Int) (w : World) (hF : F.answers w.tape) (h : (x == 0) = false) (h1 : (x == 1) = false) :
    Calls Ybaf.prog 4 #[.int .u64 x] w fun e w' => ∃ s, e = .returned (.string s) ∧ Grown w w' := by
  have hF' := answers_open hF
  go_enter Ybaf.func4, Ybaf.ntmps4
  go_wp2
  apply rows_value nextTurns
  case hr => go_simp; exact ⟨rfl, rfl⟩
  case h =>
    go_wp2
    go_ret
    exact ⟨_, rfl, by repeat (first | exact Grown.refl _ | apply Grown.drew | apply Grown.alloc)⟩

/-! ### The law's three ways -/
theorem law0 (w : World) : Calls Ybaf.prog 3 #[.int .u64 0] w fun e w' => e = .returned (.bool true) ∧ Grown w w' := by
  go_enter Ybaf.func3, Ybaf.ntmps3
  go_wp2
  go_ret
  exact ⟨rfl, Grown.refl _⟩
theorem law1 (w : World) : Calls Ybaf.prog 3 #[.int .u64 1] w fun e w' => e = .returned (.bool true) ∧ Grown w w' := by
  go_enter Ybaf.func3, Ybaf.ntmps3
  go_wp2
  go_ret
  exact ⟨rfl, Grown.refl _⟩
theorem law2 (F : Interp) (x : Int) (w : World) (hF : F.answers w.tape) (h : (x == 0) = false) (h1 : (x == 1) = false) :
    Calls Ybaf.prog 3 #[.int .u64 x] w fun e w' => e = .returned (.bool true) ∧ Grown w w' := by
  have C : Hid (Calls Ybaf.prog 4 #[.int .u64 x] w fun e w' => ∃ s, e = .returned (.string s) ∧ Grown w w') := str_else F x w hF h h1
  go_enter Ybaf.func3, Ybaf.ntmps3
  go_wp2_with fail
  refine C.out.mono ?_
  rintro e w1 ⟨s, rfl, g1⟩
  go_wp2_with fail
  go_ret
  exact ⟨rfl, g1⟩
theorem law (F : Interp) (x : Int) (w : World) (hF : F.answers w.tape) :
    Calls Ybaf.prog 3 #[.int .u64 x] w fun e w' => e = .returned (.bool true) ∧ Grown w w' := by
  by_cases h0 : x = 0
  · subst h0; exact law0 w
  by_cases h1 : x = 1
  · subst h1; exact law1 w
  exact law2 F x w hF (beq_eq_false_iff_ne.2 h0) (beq_eq_false_iff_ne.2 h1)
end Go.Proofs.YbulkdmuwFmt
